import PyProof.Rows.All
import Wide.All
import OpenK.AllK
import Wide.FinOn
import PySem.Challenge.RW_dp0034_01
open PySem PySem.W PyProof.Rows
set_option Elab.async false
set_option linter.unusedVariables false

namespace Mine
section
set_option maxRecDepth 100000
set_option maxHeartbeats 8000000
open_top hd for PySem.Challenge.rw_dp0034_01
end
end Mine

section
open PySem PySem.W PyProof.Rows PySem.Calls
set_option maxRecDepth 100000
namespace Mine
open PySem.SeqAt PySem.MeetsSeq PySem.MeetsSeq2 PySem.MeetsSeq3 PySem.SeqRoads2
open PySem.AutoSeq1 (wpAny_loadPart')

/-- the loop behind `list <` at its first place, two lists of one int each -/
theorem lt_loop1 (a b : Addr) (items items2 : Array Value) (x y : Int) (t u : Tok) (n n2 : Nat) (ei : items = #[.int x t]) (ei2 : items2 = #[.int y u]) :
    Meets (Builtin.«list.__eq__.loop» ⟨[.ref a, .ref b, rawInt 0, rawInt 0], []⟩)
      (fun _ R s => s.heap.get? a = some (W.listOf items n) ∧ s.heap.get? b = some (W.listOf items2 n2) ∧ R (.ok (.ret (.bool (decide (x < y))))) s) := by
  intro prog w A R s h
  obtain ⟨hp, g, d, tk, os⟩ := s; obtain ⟨hl, hb, h⟩ := h
  have hi1 : items[(0 : Int).toNat]? = some (.int x t) := by subst ei; rfl
  have hi2 : items2[(0 : Int).toNat]? = some (.int y u) := by subst ei2; rfl
  have hj1 : items[((0 : Int) + 1).toNat]? = none := by subst ei; rfl
  have hj2 : items2[((0 : Int) + 1).toNat]? = none := by subst ei2; rfl
  have hs1 : items.size = 1 := by subst ei; rfl
  have hs2 : items2.size = 1 := by subst ei2; rfl
  wp_walk using wpAny_loadPart' hl, wpAny_loadPart' hb
  rw [hi1, hi2]
  refine wpAny_bind ((EqGives.int x y t u).at _ _ prog w _ _ ?_)
  by_cases hxy : x = y
  · subst hxy
    simp only [beq_self_eq_true]
    wp_walk
    refine ⟨plainId_quiet plain_eq_loop _, codeAny_builtin entry_eq_loop ?_⟩
    rw [Around.under_plainId plain_eq_loop _]
    wp_walk using wpAny_loadPart' hl, wpAny_loadPart' hb
    rw [hj1, hj2]
    wp_walk using wpAny_loadPart' hl, wpAny_loadPart' hb
    have hf : decide (x < x) = false := by simp
    rw [hf] at h
    show R (.ok (.ret (.bool (decide (items.size < items2.size))))) _
    rw [hs1, hs2]
    exact h
  · have hne : (x == y) = false := by simp [hxy]
    rw [hne]
    wp_walk using wpAny_loadPart' hl, wpAny_loadPart' hb
    rw [hi1, hi2]
    refine wpAny_bind (wpAny_lt_int (t := t) (u := u) ?_)
    wp_walk
    exact h

theorem list_lt1 (a b : Addr) (x y : Int) (t u : Tok) (n n2 : Nat) :
    Meets (Builtin.«list.__lt__» ⟨[.ref a, .ref b], []⟩)
      (fun _ R s => s.heap.get? a = some (W.listOf #[.int x t] n) ∧ s.heap.get? b = some (W.listOf #[.int y u] n2) ∧ R (.ok (.ret (.bool (decide (x < y))))) s) := by
  intro prog w A R s h
  obtain ⟨hp, g, d, tk, os⟩ := s; obtain ⟨hl, hb, h⟩ := h
  have f3 := AutoSeq1.sub_list_list
  wp_walk using wpAny_loadPart' hl, wpAny_loadPart' hb
  refine ⟨plainId_quiet plain_eq_loop _, codeAny_builtin entry_eq_loop ?_⟩
  rw [Around.under_plainId plain_eq_loop _]
  exact lt_loop1 a b _ _ x y t u n n2 rfl rfl prog w A R _ ⟨hl, hb, h⟩

theorem cmp_lt1 {prog : Program} {w : World} {A : Around} {E : Value → Shared → Prop} {s : Shared} {a b : Addr} {x y : Int} {t u : Tok} {n n2 : Nat} {Q : Value → Shared → Prop}
    (hu : A.units < cLine) (ha : s.heap.get? a = some (W.listOf #[.int x t] n)) (hb : s.heap.get? b = some (W.listOf #[.int y u] n2)) (h : Q (.bool (decide (x < y))) s) :
    wpAny (model prog w) A (compareOp .Lt (.ref a) (.ref b)) Q E s := by
  show wpAny _ _ (richCompare .Lt (.ref a) (.ref b)) Q E s
  exact richCompare_meets_room (op := .Lt) ⟨_, ha, rfl⟩ ⟨_, hb, rfl⟩ F.slot_list_lt F.entry_list_lt (F.args_list_lt_2 _ _) (list_lt1 a b x y t u n n2)
    ⟨ha, hb, show Value.bool (decide (x < y)) ≠ Value.notImplemented ∧ Q (.bool (decide (x < y))) s from ⟨(fun q => nomatch q), h⟩⟩ hu

section
variable {prog : Program} {w : World} {A : Around} {E : Value → Shared → Prop} {s : Shared} {h₀ : Heap} {L D : Addr} {m : Str → Option Value} {news news' : List (Addr × Obj)} {vs : List Value} {n : Nat} {k : Int} {t u : Tok} {v : Value}
theorem lst_set {Q : Unit → Shared → Prop} (F : Fr h₀ L s.heap m) (N : News h₀ L s.heap news) (U : Upd D (W.listOf vs.toArray n) (W.listOf (vs.set k.toNat v).toArray n) news news') (h0 : 0 ≤ k) (h1 : k < vs.length) (hfit : k < 2 ^ 63)
    (h : ∀ h', Fr h₀ L h' m → News h₀ L h' news' → Q () { s with heap := h' }) :
    wpAny (model prog w) A (setItem (.ref D) (.int k t) v) Q E s := by
  obtain ⟨pre, post, rfl, rfl, a, b⟩ := U.split
  have z := N (D, W.listOf vs.toArray n) (List.mem_append.mpr (.inr (.head _)))
  refine ki_setAt z.1 h0 hfit (by rw [List.size_toArray]; exact h1) (h _ (F.change (Heap.SameBut.update ..) z.2.1 z.2.2) (ki_turn _ N a b ?_ ?_))
  · show vs.toArray.setIfInBounds k.toNat v = (vs.set k.toNat v).toArray
    apply Array.toList_inj.mp
    simp
  · simp
theorem lst_get {Q : Value → Shared → Prop} (N : News h₀ L s.heap news) (hm : (D, W.listOf vs.toArray n) ∈ news) (h0 : 0 ≤ k) (hfit : k < 2 ^ 63) (hx : vs[k.toNat]? = some v) (h : Q v s) :
    wpAny (model prog w) A (getItem (.ref D) (.int k u)) Q E s :=
  wpAny_getItem_list (PySem.IsL.isList (n := n) (N _ hm).1) h0 hfit (by simpa using hx) h
theorem lst_sub {value slice : PySem.Expr} {Q : Value → Shared → Prop} (N : News h₀ L s.heap news) (hm : (D, W.listOf vs.toArray n) ∈ news) (h0 : 0 ≤ k) (hfit : k < 2 ^ 63) (hx : vs[k.toNat]? = some v) (h : Q v s)
    (hs : subscripted slice false (.ref D) (.int k u) = operate [.ref D, .int k u] (getItem (.ref D) (.int k u)) := by with_unfolding_all rfl) :
    wpAny (model prog w) A (subscriptTail value slice (.ref D) (.int k u)) Q E s :=
  tail_any (PySem.IsL.isList (n := n) (N _ hm).1).typeIs slot_list_getitem.lookup (lst_get N hm h0 hfit hx h) hs
theorem lst_len {l : Nat} {Q : Value → Shared → Prop} (N : News h₀ L s.heap news) (hm : (D, W.listOf vs.toArray n) ∈ news) (hl : vs.length = l) (hfit : l < 2 ^ 62)
    (h : Q (.int (l : Int) (s.toks + 1)) { s with toks := s.toks + 1 + 1 }) : wpAny (model prog w) A (call (.builtin "len") [.ref D]) Q E s := by
  refine len_list (PySem.IsL.isList (n := n) (N _ hm).1) ?_ ?_
  · rw [List.size_toArray, hl]; omega
  · rw [List.size_toArray, hl]; exact h
end
end Mine

end

section
open PySem PySem.W PyProof.Rows PySem.Calls
set_option maxRecDepth 100000
namespace Mine
/-- what a turn of a range's loop must leave -/
def ForPost (h₀ : Heap) (L I : Addr) (oI : Obj) (J : (Str → Option Value) → List (Addr × Obj) → Prop) (s : Shared) (Q : Flow → Shared → Prop) (f : Flow) (s₃ : Shared) : Prop :=
  match f with
  | .next | .cont => ∃ h' tk m' news', s₃ = { s with heap := h', toks := tk } ∧ Fr h₀ L h' m' ∧ News h₀ L h' ((I, oI) :: news') ∧ (∀ p ∈ news', p.1 ≠ I) ∧ J m' news'
  | .brk => Q .next s₃
  | .ret v => Q (.ret v) s₃
section
variable {prog : Program} {w : World} {A : Around} {E : Value → Shared → Prop} {s : Shared} {env : Env} {h₀ : Heap} {L : Addr}

theorem range_loop {x : Str} {px : Pos} {body : List Stmt} {r : Addr} {t u v : Tok} {n : Nat} {m : Str → Option Value} {news : List (Addr × Obj)} {Q : Flow → Shared → Prop}
    (J : Nat → (Str → Option Value) → List (Addr × Obj) → Prop)
    (hh : A.handled = none) (hr : IsRange s.heap r 0 (n : Int) 1 t u v) (hn : n < 2 ^ 62) (F : Fr h₀ L s.heap m) (N : News h₀ L s.heap news) (hJ : J 0 m news)
    (turn : ∀ (i : Nat) t m₁ news₁ I oI h tk, i < n → J i m₁ news₁ → (∀ p ∈ news₁, p.1 ≠ I) → I ≠ L → Fr h₀ L h m₁ → News h₀ L h ((I, oI) :: news₁) →
      wpAny (model prog w) A (storeName env x (.int (i : Int) t)) (fun _ s₂ => wpAny (model prog w) A (execs body env) (ForPost h₀ L I oI (J (i + 1)) s Q) E s₂) E { s with heap := h, toks := tk })
    (done : ∀ m₁ news₁ h tk, J n m₁ news₁ → Fr h₀ L h m₁ → News h₀ L h news₁ → Q .next { s with heap := h, toks := tk })
    (hE : PassesOwn (model prog w) A env E) :
    wpAny (model prog w) A (pyIter (.ref r)) (fun it s₂ =>
      codeAny (model prog w) A (.forLoop (.Name x px) it body [] env) (fun r s' => match r with | .ok f => Q f s' | .error e => cameBackBy (model prog w) A env E e s') s₂) E s := by
  refine wpAny_pyIter_range hr (small_one (by omega) (by omega) (by omega) (by omega)) ?_
  have W := LCg.range_walks (prog := prog) (w := w) (I := s.heap.objs.size) hh 0 n
  have hI₀ : h₀.get? s.heap.objs.size = none := next_is_new F
  have hLI : L ≠ s.heap.objs.size := Nat.ne_of_lt F.ns.lt
  have hst : IsRangeIter (s.heap.push { cls := .type "range_iterator", data := .fields #[rawInt 0, rawInt (Builtin.Range.rangeSize 0 (n : Int) 1), rawInt 1] }) s.heap.objs.size (0 + ((0 : Nat) : Int) * 1) ((n : Int) - ((0 : Nat) : Int)) 1 := by
    show Heap.get? _ _ = some _
    rw [rangeSize_nat]
    have e : (((n : Int) - 0).toNat : Int) = (n : Int) - ((0 : Nat) : Int) := by omega
    rw [e]
    exact Heap.get?_push_size _ rfl
  have F₀ := F.push { cls := .type "range_iterator", data := .fields #[rawInt 0, rawInt (Builtin.Range.rangeSize 0 (n : Int) 1), rawInt 1] }
  have N₀ : News h₀ L (s.heap.push { cls := .type "range_iterator", data := .fields #[rawInt 0, rawInt (Builtin.Range.rangeSize 0 (n : Int) 1), rawInt 1] }) news := fun p hp => ⟨Heap.get?_push_of_some _ (N p hp).1, (N p hp).2⟩
  have off₀ : ∀ p ∈ news, p.1 ≠ s.heap.objs.size := fun p hp => Nat.ne_of_lt (Heap.lt_size (N p hp).1)
  generalize s.heap.push { cls := .type "range_iterator", data := .fields #[rawInt 0, rawInt (Builtin.Range.rangeSize 0 (n : Int) 1), rawInt 1] } = H at hst F₀ N₀ ⊢
  generalize s.heap.objs.size = I at W hI₀ hLI hst off₀ ⊢
  refine codeAny_forLoop (fun k s' => ∃ h' tk m' news' i, s' = { s with heap := h', toks := tk } ∧ IsRangeIter h' I (0 + ((i : Nat) : Int) * 1) ((n : Int) - ((i : Nat) : Int)) 1 ∧ Fr h₀ L h' m' ∧ News h₀ L h' news' ∧ (∀ p ∈ news', p.1 ≠ I) ∧ J i m' news' ∧ i ≤ n ∧ k = n + 1 - i) ?_ (n + 1)
    ⟨H, s.toks, m, news, 0, rfl, hst, F₀, N₀, off₀, hJ, Nat.zero_le _, rfl⟩
  rintro k s' ⟨h', tk, m', news', i, rfl, hst', F', N', off', hJ', hi, rfl⟩
  by_cases hlt : i < n
  · refine W.item i _ _ _ hlt hst' fun v h₁ tk₁ hP hst₁ hk₁ => ?_
    obtain ⟨ti, hv⟩ := hP
    rw [Int.zero_add] at hv
    subst hv
    have F₁ := LCg.fr_but F' hk₁ hLI hI₀
    have N₁ := LCg.news_but N' hk₁ off'
    obtain ⟨oI, hst₂, hback⟩ : ∃ oI, h₁.get? I = some oI ∧ ∀ h₂ : Heap, h₂.get? I = some oI → IsRangeIter h₂ I (0 + ((i + 1 : Nat) : Int) * 1) ((n : Int) - ((i + 1 : Nat) : Int)) 1 := ⟨_, hst₁, fun _ e => e⟩
    have N₂ : News h₀ L h₁ ((I, oI) :: news') := fun p hp => by
      rcases List.mem_cons.mp hp with rfl | hp
      · exact ⟨hst₂, Ne.symm hLI, hI₀⟩
      · exact N₁ p hp
    refine wpAny_assign_Name (wpAny_mono (turn i ti m' news' I oI h₁ tk₁ hlt hJ' off' (Ne.symm hLI) F₁ N₂) (fun _ s₂ h₂ => wpAny_mono h₂ (fun f s₃ h₃ => ?_) hE) hE)
    have fin : (∃ h' tk m' news', s₃ = { s with heap := h', toks := tk } ∧ Fr h₀ L h' m' ∧ News h₀ L h' ((I, oI) :: news') ∧ (∀ p ∈ news', p.1 ≠ I) ∧ J (i + 1) m' news') →
        ∃ m, m < n + 1 - i ∧ ∃ h' tk m' news' j, s₃ = { s with heap := h', toks := tk } ∧ IsRangeIter h' I (0 + ((j : Nat) : Int) * 1) ((n : Int) - ((j : Nat) : Int)) 1 ∧ Fr h₀ L h' m' ∧ News h₀ L h' news' ∧ (∀ p ∈ news', p.1 ≠ I) ∧ J j m' news' ∧ j ≤ n ∧ m = n + 1 - j := by
      rintro ⟨h₄, tk₄, m₄, news₄, rfl, F₄, N₄, off₄, hJ₄⟩
      exact ⟨n + 1 - (i + 1), by omega, h₄, tk₄, m₄, news₄, i + 1, rfl, hback _ (N₄ _ List.mem_cons_self).1, F₄, fun p hp => N₄ p (List.mem_cons_of_mem _ hp), off₄, hJ₄, hlt, rfl⟩
    cases f with
    | next => exact fin h₃
    | cont => exact fin h₃
    | brk => exact h₃
    | ret v => exact h₃
  · obtain rfl : i = n := by omega
    refine W.done _ _ _ hst' fun h₁ tk₁ hk₁ => wpAny_execs_nil ?_
    exact done m' news' h₁ tk₁ hJ' (LCg.fr_but F' hk₁ hLI hI₀) (LCg.news_but N' hk₁ off')

theorem For_range {x : Str} {px pos : Pos} {iter : Expr} {body : List Stmt} {Q : Flow → Shared → Prop}
    (h : wpAny (model prog w) A (eval iter env) (fun xv s₁ => wpAny (model prog w) A (pyIter xv) (fun it s₂ =>
      codeAny (model prog w) A (.forLoop (.Name x px) it body [] env) (fun r s' => match r with | .ok f => Q f s' | .error e => cameBackBy (model prog w) A env E e s') s₂) E s₁) E s)
    (hs : ∀ x, foldedSetIterable iter env x = pure x := by intro _; rfl) :
    wpAny (model prog w) A (exec (.For (.Name x px) iter body [] pos) env) Q E s := wpAny_For h hs
end
end Mine

end

section
open PySem PySem.W PyProof.Rows
set_option maxRecDepth 100000
set_option maxHeartbeats 8000000
namespace Mine
abbrev PROG := PySem.Challenge.rw_dp0034_01.row.prog
def OneInt (rest : List (Addr × Obj)) (v : Value) (x : Int) : Prop := ∃ b t n, v = .ref b ∧ (b, W.listOf #[.int x t] n) ∈ rest
inductive Sift (G : Value → Int → Prop) (c : Int → Int → Bool) (x : Int) (new : Value) (start : Int) : List Value → Nat → List Value → Prop
  | top {vs : List Value} {pos : Nat} : (pos : Int) ≤ start → Sift G c x new start vs pos (vs.set pos new)
  | stop {vs : List Value} {pos : Nat} {v : Value} {y : Int} : start < pos → vs[(pos-1)/2]? = some v → G v y → c x y = false → Sift G c x new start vs pos (vs.set pos new)
  | up {vs vs' : List Value} {pos : Nat} {v : Value} {y : Int} : start < pos → vs[(pos-1)/2]? = some v → G v y → c x y = true → Sift G c x new start (vs.set pos v) ((pos-1)/2) vs' → Sift G c x new start vs pos vs'

structure SiftJ (rest : List (Addr × Obj)) (c : Int → Int → Bool) (x : Int) (new : Value) (start : Int) (tk1 : Tok) (t : Addr) (n : Nat) (len : Nat) (vs' : List Value) (k : Nat) (m : Str → Option Value) (news : List (Addr × Obj)) : Prop where
  out : ∃ vs tkp, news = (t, W.listOf vs.toArray n) :: rest ∧ Sift (OneInt rest) c x new start vs k vs' ∧ k < vs.length ∧ vs.length = len ∧
    m (Str.ofString "heap") = some (.ref t) ∧ m (Str.ofString "startpos") = some (.int start tk1) ∧ m (Str.ofString "newitem") = some new ∧ m (Str.ofString "pos") = some (.int (k : Int) tkp)

def Stop (P : Prop) : Prop := P
theorem stop_at {P : Prop} (h : Stop P) : P := h
local macro_rules | `(tactic| walk_at "exec While Compare cons nil") => `(tactic| refine stop_at ?_)
local macro_rules | `(tactic| k_all) => `(tactic| assumption)
local macro_rules | `(tactic| walk_at "eval Name") => `(tactic| (k_here; k_dflt (refine' nameX_L ?F ?v ?_ ?a ?b; (case F => k_asm); (case a => rfl); (case b => rfl); (case v => assumption); k_whole)))
local macro_rules | `(tactic| walk_at "subscriptTail") => `(tactic| (k_here; (with_reducible show wpAny _ _ (subscriptTail _ _ (Value.ref _) (Value.int _ _)) _ _ _); k_dflt (refine' lst_sub ?k1 ?k2 ?k4 ?k5 ?k6 ?_ ?k7; (case k1 => k_asm); (case k2 => k_mem); (case k6 => assumption); (case k4 => first | omega | with_reducible assumption); (case k5 => first | omega | with_reducible assumption); (case k7 => with_unfolding_all rfl); k_whole)))
local macro_rules | `(tactic| walk_at "setItem ref int") => `(tactic| (k_here; k_dflt (refine' lst_set ?k1 ?k2 ?k3 ?k4 ?k5 ?k6 ?_; (case k1 => k_asm); (case k2 => k_asm); (case k3 => k_upd); (case k4 => first | omega | with_reducible assumption); (case k5 => first | omega | with_reducible assumption); (case k6 => first | omega | with_reducible assumption); k_whole); intro h' F' N'; (try k_sweep)))
local macro_rules | `(tactic| walk_at "compareOp Lt ref") => `(tactic| (k_here; k_dflt (refine' cmp_lt1 ?u ?a ?b ?_; (case u => ktr_units); (case a => exact News.get (by k_asm) (List.Mem.tail _ (by assumption))); (case b => exact News.get (by k_asm) (List.Mem.tail _ (by assumption))); k_whole)))
local macro_rules | `(tactic| walk_at "WhileStep2") => `(tactic| ((with_reducible show WhileStep2 _ _ _ _ _ _ Flow.brk _); dsimp only [WhileStep2]))
theorem prime : PySem.Challenge.rw_dp0034_01 = PySem.Challenge.rw_dp0034_01 → hd.heap_39 = hd.heap_39 → True := by
  w_on
  k_fill
  intros; trivial
theorem Sift.inv {G : Value → Int → Prop} {c : Int → Int → Bool} {x : Int} {new : Value} {start : Int} {vs vs' : List Value} {pos : Nat} (S : Sift G c x new start vs pos vs') :
    ((pos : Int) ≤ start ∧ vs' = vs.set pos new) ∨ (start < pos ∧ ∃ v y, vs[(pos-1)/2]? = some v ∧ G v y ∧ (c x y = false → vs' = vs.set pos new) ∧ (c x y = true → Sift G c x new start (vs.set pos v) ((pos-1)/2) vs')) := by
  cases S with
  | top h => exact .inl ⟨h, rfl⟩
  | stop h hv hg hc => exact .inr ⟨h, _, _, hv, hg, fun _ => rfl, fun e => by rw [hc] at e; cases e⟩
  | up h hv hg hc S' => exact .inr ⟨h, _, _, hv, hg, (fun e => by rw [hc] at e; cases e), fun _ => S'⟩
theorem half_eq {k : Nat} (h : 0 < k) : ((k : Int) - 1).fdiv (2 ^ Int.toNat 1) = (((k - 1) / 2 : Nat) : Int) := by
  have : ((k : Int) - 1) = ((k - 1 : Nat) : Int) := by omega
  rw [this, show ((2 : Int) ^ Int.toNat 1) = 2 from rfl, Int.fdiv_eq_ediv_of_nonneg _ (by omega)]
  omega
theorem sift_ok {w : World} {p : Program} {loose : List Str} {mean : ExcName → Option Value} {mg mb : Str → Option Value}
  (dp un : Nat) (gd : Option (List Code)) (cn : Str) (cs : Scope) (a : Addr) (ccd : Value) (cl : List (Str × Addr)) (outer : List Env) (A₀ : Around) (base h₀ : Heap) (L : Addr) (m : Str → Option Value) (s : Shared) (Q E : Value → Shared → Prop)
  (t : Addr) (vs : List Value) (n : Nat) (rest : List (Addr × Obj)) (start : Int) (tk1 : Tok) (pos : Nat) (tk2 : Tok) (vs' : List Value) (x : Int) (new : Value)
  (B : Below A₀ base outer h₀) (F : Fr h₀ L s.heap m) (X : (hd.heap_39 w.params).In h₀) (N : News h₀ L s.heap ((t, W.listOf vs.toArray n) :: rest)) (T : Top p loose mean mg mb h₀) (hk : cs.kind = .function)
  (hoff : ∀ p ∈ rest, p.1 ≠ t) (hlen : vs.length < 2 ^ 62) (hpos : pos < vs.length) (hst : 0 ≤ start)
  (hnew : vs[pos]? = some new) (hx : OneInt rest new x) (S : Sift (OneInt rest) (fun a b => decide (a < b)) x new start vs pos vs')
  (hdp : dp + 1 < recursionLimit) (hun : un + 8 < cLine)
  (ret : ∀ h' tk', Fr h₀ L h' m → News h₀ L h' ((t, W.listOf vs'.toArray n) :: rest) → Q .none { s with heap := h', toks := tk' }) :
  wpAny (model PROG w) (ktrTop dp un gd cn cs L a ccd cl outer) (call (.ref 21) [.ref t, .int start tk1, .int (pos : Int) tk2]) Q E s := by
  have hnew' : vs[(pos : Int).toNat]? = some new := hnew
  obtain ⟨len, elen⟩ : ∃ len, vs.length = len := ⟨_, rfl⟩
  rw [elen] at hlen
  refine wpAny_call ?_
  k_dflt cell_enter
  k_steps
  rename_i F' N'
  unfold Stop
  refine While_inv2 (SiftJ rest (fun a b => decide (a < b)) x new start tk1 t n len vs') (n₀ := pos) F' N' ⟨vs, tk2, rfl, S, hpos, elen, rfl, rfl, rfl, rfl⟩ ?_
  clear F' N'
  rintro k m₁ news₁ h₁ tk₁ F₁ N₁ ⟨vs₁, tkp, rfl, S₁, hk₁, el₁, e1, e2, e3, e4⟩
  rcases S₁.inv with ⟨hle, ev⟩ | ⟨hlt, v, y, hv, hg, hno, hyes⟩
  · have hc : ¬ start < (k : Int) := by omega
    k_steps
    subst ev
    exact ret _ _ (by assumption) (by assumption)
  · obtain ⟨b, tb, nb, rfl, hb⟩ := id hx
    obtain ⟨b2, tb2, nb2, rfl, hb2⟩ := id hg
    have hq := half_eq (k := k) (by omega)
    have hq0 : 0 ≤ ((k : Int) - 1).fdiv (2 ^ Int.toNat 1) := by rw [hq]; omega
    have hq1 : ((k : Int) - 1).fdiv (2 ^ Int.toNat 1) < 2 ^ 63 := by rw [hq]; omega
    have hq2 : vs₁[(((k : Int) - 1).fdiv (2 ^ Int.toNat 1)).toNat]? = some (.ref b2) := by rw [hq]; exact hv
    k_steps
    · rename_i F₂ N₂
      exact ⟨_, _, _, _, (k - 1) / 2, rfl, F₂, N₂, by omega, ⟨_, _, rfl, hyes (decide_eq_true (by assumption)), by rw [List.length_set]; omega, by rw [List.length_set]; exact el₁, e1, e2, e3, by rw [← hq]; rfl⟩⟩
    · have ev := hno (by first | assumption | exact decide_eq_false (by omega) | simp_all)
      subst ev
      exact ret _ _ (by assumption) (by assumption)
theorem siftmax_ok {w : World} {p : Program} {loose : List Str} {mean : ExcName → Option Value} {mg mb : Str → Option Value}
  (dp un : Nat) (gd : Option (List Code)) (cn : Str) (cs : Scope) (a : Addr) (ccd : Value) (cl : List (Str × Addr)) (outer : List Env) (A₀ : Around) (base h₀ : Heap) (L : Addr) (m : Str → Option Value) (s : Shared) (Q E : Value → Shared → Prop)
  (t : Addr) (vs : List Value) (n : Nat) (rest : List (Addr × Obj)) (start : Int) (tk1 : Tok) (pos : Nat) (tk2 : Tok) (vs' : List Value) (x : Int) (new : Value)
  (B : Below A₀ base outer h₀) (F : Fr h₀ L s.heap m) (X : (hd.heap_39 w.params).In h₀) (N : News h₀ L s.heap ((t, W.listOf vs.toArray n) :: rest)) (T : Top p loose mean mg mb h₀) (hk : cs.kind = .function)
  (hoff : ∀ p ∈ rest, p.1 ≠ t) (hlen : vs.length < 2 ^ 62) (hpos : pos < vs.length) (hst : 0 ≤ start)
  (hnew : vs[pos]? = some new) (hx : OneInt rest new x) (S : Sift (OneInt rest) (fun a b => decide (b < a)) x new start vs pos vs')
  (hdp : dp + 1 < recursionLimit) (hun : un + 8 < cLine)
  (ret : ∀ h' tk', Fr h₀ L h' m → News h₀ L h' ((t, W.listOf vs'.toArray n) :: rest) → Q .none { s with heap := h', toks := tk' }) :
  wpAny (model PROG w) (ktrTop dp un gd cn cs L a ccd cl outer) (call (.ref 28) [.ref t, .int start tk1, .int (pos : Int) tk2]) Q E s := by
  have hnew' : vs[(pos : Int).toNat]? = some new := hnew
  obtain ⟨len, elen⟩ : ∃ len, vs.length = len := ⟨_, rfl⟩
  rw [elen] at hlen
  refine wpAny_call ?_
  k_dflt cell_enter
  k_steps
  rename_i F' N'
  unfold Stop
  refine While_inv2 (SiftJ rest (fun a b => decide (b < a)) x new start tk1 t n len vs') (n₀ := pos) F' N' ⟨vs, tk2, rfl, S, hpos, elen, rfl, rfl, rfl, rfl⟩ ?_
  clear F' N'
  rintro k m₁ news₁ h₁ tk₁ F₁ N₁ ⟨vs₁, tkp, rfl, S₁, hk₁, el₁, e1, e2, e3, e4⟩
  rcases S₁.inv with ⟨hle, ev⟩ | ⟨hlt, v, y, hv, hg, hno, hyes⟩
  · have hc : ¬ start < (k : Int) := by omega
    k_steps
    subst ev
    exact ret _ _ (by assumption) (by assumption)
  · obtain ⟨b, tb, nb, rfl, hb⟩ := id hx
    obtain ⟨b2, tb2, nb2, rfl, hb2⟩ := id hg
    have hq := half_eq (k := k) (by omega)
    have hq0 : 0 ≤ ((k : Int) - 1).fdiv (2 ^ Int.toNat 1) := by rw [hq]; omega
    have hq1 : ((k : Int) - 1).fdiv (2 ^ Int.toNat 1) < 2 ^ 63 := by rw [hq]; omega
    have hq2 : vs₁[(((k : Int) - 1).fdiv (2 ^ Int.toNat 1)).toNat]? = some (.ref b2) := by rw [hq]; exact hv
    k_steps
    · rename_i F₂ N₂
      exact ⟨_, _, _, _, (k - 1) / 2, rfl, F₂, N₂, by omega, ⟨_, _, rfl, hyes (decide_eq_true (by assumption)), by rw [List.length_set]; omega, by rw [List.length_set]; exact el₁, e1, e2, e3, by rw [← hq]; rfl⟩⟩
    · have ev := hno (by first | assumption | exact decide_eq_false (by omega) | simp_all)
      subst ev
      exact ret _ _ (by assumption) (by assumption)
end Mine

end

section
open PySem PySem.W PyProof.Rows
set_option maxRecDepth 100000
set_option maxHeartbeats 8000000
namespace Mine
local macro_rules | `(tactic| cell_enter) => `(tactic| (refine' code_defC ?k1 ?k2 ?k3 ?k4 ?k5 ?kA ?kF ?kK ?k6 ?k7 ?k8 ?k9 ?kB ?kD ?_ ?c2 ?c3 ?c4; (case kA => exact rfl); (case kF => exact rfl); (case kK => assumption); (case k1 => k_asm); (case k2 => k_asm); (case k3 => k_asm); (case k4 => k_asm); (case k5 => k_asm); (case k6 => k_is); (case k7 => k_is); (case k8 => ktr_room); (case k9 => exact BindsTo.of_eq rfl); (case kB => exact rfl); (case kD => decide +kernel); (case c2 => exact rfl); (case c3 => exact rfl); (case c4 => exact rfl); k_whole; intro g' L' h' tk' cells' FG' F' N' Y' B' X' T' l1; k_cells Y'; (try simp only [List.cons_append, List.nil_append] at N'); (try dsimp only); (try k_fold)))
theorem ne_below {rest : List (Addr × Obj)} {d d' : Nat} (h : ∀ p ∈ rest, p.1 < d) (hd : d ≤ d') : ∀ p ∈ rest, p.1 ≠ d' := fun p hp => Nat.ne_of_lt (Nat.lt_of_lt_of_le (h p hp) hd)
local macro_rules | `(tactic| k_all) => `(tactic| first | assumption | exact ne_below (by assumption) (by omega))
local macro_rules | `(tactic| walk_at "eval ListComp Subscript") => `(tactic| refine stop_at ?_)
local macro_rules | `(tactic| walk_at "CompSrcT") => `(tactic| refine stop_at ?_)
local macro_rules | `(tactic| walk_at "call builtin:len") => `(tactic| (k_here; (with_reducible show wpAny _ _ (call (Value.builtin "len") [Value.ref _]) _ _ _); k_dflt (refine' lst_len ?k1 ?k2 ?k3 ?k4 ?_; (case k1 => k_asm); (case k2 => k_mem); (case k3 => with_reducible assumption); (case k4 => omega); k_whole)))
local macro_rules | `(tactic| walk_at "subscriptTail") => `(tactic| (k_here; (with_reducible show wpAny _ _ (subscriptTail _ _ (Value.ref _) (Value.int _ _)) _ _ _); k_dflt (refine' lst_sub ?k1 ?k2 ?k4 ?k5 ?k6 ?_ ?k7; (case k1 => k_asm); (case k2 => k_mem); (case k6 => assumption); (case k4 => first | omega | with_reducible assumption); (case k5 => first | omega | with_reducible assumption); (case k7 => with_unfolding_all rfl); k_whole)))
theorem ints_at {ys : List Value} {W : List Int} (h : IntsAre ys W) {i : Nat} (hi : i < W.length) : ∃ t, ys[i]? = some (.int (W.getD i 0) t) := by
  obtain ⟨t, ht⟩ := h.get i (W.getD i 0) (by simp [List.getD_eq_getElem?_getD, hi])
  exact ⟨t, ht⟩
theorem prime2 : PySem.Challenge.rw_dp0034_01 = PySem.Challenge.rw_dp0034_01 → hd.heap_39 = hd.heap_39 → True := by
  w_on
  k_fill
  intros; trivial
theorem bits_le {place : Nat} (h : place < 70) : Builtin.Int.intBits ((place : Int) + 1) ≤ 7 := by
  have : ∀ n : Nat, n < 70 → Builtin.Int.intBits ((n : Int) + 1) ≤ 7 := by decide +kernel
  exact this place h
def wayL (place : Nat) : List Int := List.map (fun k' => ((place : Int) + 1).fdiv (2 ^ k'.toNat) - 1) (rangeKs 0 (((Builtin.Int.intBits ((place : Int) + 1) : Nat) : Int) - 0).toNat)
def reachL (start : Int) (place : Nat) : List Int :=
  List.take 1 (wayL place) ++ List.foldl (fun l k => if start < (wayL place).getD (k - 1).toNat 0 then l ++ [(wayL place).getD k.toNat 0] else l) [] (rangeKs 1 (((Builtin.Int.intBits ((place : Int) + 1) : Nat) : Int) - 1).toNat)
theorem wayL_len (place : Nat) : (wayL place).length = Builtin.Int.intBits ((place : Int) + 1) := by
  unfold wayL; rw [List.length_map, rangeKs_length]; omega
theorem reach_ok {w : World} {p : Program} {loose : List Str} {mean : ExcName → Option Value} {mg mb : Str → Option Value}
  (dp un : Nat) (gd : Option (List Code)) (cn : Str) (cs : Scope) (a : Addr) (ccd : Value) (cl : List (Str × Addr)) (outer : List Env) (A₀ : Around) (base h₀ : Heap) (L : Addr) (m : Str → Option Value) (s : Shared) (Q E : Value → Shared → Prop)
  (rest : List (Addr × Obj)) (start : Int) (tk1 : Tok) (place : Nat) (tk2 : Tok)
  (B : Below A₀ base outer h₀) (F : Fr h₀ L s.heap m) (X : (hd.heap_39 w.params).In h₀) (N : News h₀ L s.heap rest) (T : Top p loose mean mg mb h₀) (hk : cs.kind = .function)
  (hpl : place < 70)
  (hdp : dp + 1 < recursionLimit) (hun : un + 8 < cLine)
  (ret : ∀ D ys h' tk', Fr h₀ L h' m → News h₀ L h' ((D, W.listOf (List.toArray ys) 0) :: rest) → IntsAre ys (reachL start place) → (∀ p ∈ rest, p.1 < D) → Q (.ref D) { s with heap := h', toks := tk' }) :
  wpAny (model PROG w) (ktrTop dp un gd cn cs L a ccd cl outer) (call (.ref 33) [.int start tk1, .int (place : Int) tk2]) Q E s := by
  have hbits := bits_le hpl
  refine wpAny_call ?_
  k_dflt cell_enter
  k_steps
  generalize hW : List.map (fun k' => ((place : Int) + 1).fdiv (2 ^ k'.toNat) - 1) (rangeKs 0 (((Builtin.Int.intBits ((place : Int) + 1) : Nat) : Int) - 0).toNat) = W at *
  have hWl : W.length = Builtin.Int.intBits ((place : Int) + 1) := by rw [← hW, List.length_map, rangeKs_length]; omega
  rename IntsAre _ W => hL8
  rename IntsAre _ (List.take 1 W) => hI'
  rename _ = List.length W => D1
  rw [hWl] at D1
  have hK1 : Stop (IntsAre _ _) := hL8
  have hK2 : Stop (IntsAre _ _) := hI'
  unfold Stop
  refine LCt.ListComp_T (F₀ := by k_asm) (by with_unfolding_all rfl) (by decide) (by rfl) (by decide) (by rfl) ?_
  k_steps
  unfold Stop
  refine LCt.CompSrcT.range (by rfl) (by k_asm) (by k_asm) (by assumption) (small_one (by omega) (by omega) (by omega) (by omega)) (rangeSize_nat _ _) (by rw [PySem.sizeLine_eq]; omega) ?_
  intro g₁
  refine kci_range (fun l k => if start < W.getD (k - 1).toNat 0 then l ++ [W.getD k.toNat 0] else l) (fun k' t' I' oI' C' oC' D' m' ys' l' h' tk' E' hlo' hhi' hI₁ hC' hx' F' N' off' ne' hMark' => ?_) ?_ ?_
  · obtain ⟨tA, hA⟩ := ints_at hK1 (i := (k' - 1).toNat) (by omega)
    obtain ⟨tB, hB⟩ := ints_at hK1 (i := k'.toNat) (by omega)
    k_steps
    · exact LCg.CompEnd.intro F' N' _ (fun p hp => hp) off' trivial ⟨rfl, _, _, rfl, if_pos (by assumption)⟩
    · exact LCg.CompEnd.intro F' N' _ (fun p hp => hp) off' trivial ⟨rfl, if_neg (by assumption)⟩
  · unfold KPfDone
    intro ys₂ hI₂ hl₂ D₂ h₂ tk₂ F₂ N₂ o₂
    have hz := hI₂.length
    refine kmk_add_ints F₂ N₂ (News.isList N₂ (List.Mem.tail _ (List.Mem.head _))) (News.isList N₂ (List.Mem.head _)) hK2 hI₂ ?_ (by rw [PySem.sizeLine_eq]; omega)
    intro D₃ us h₃ F₃ N₃ l₃ hI₃
    (try k_fold)
    k_steps
    have hres : IntsAre us (reachL start place) := by unfold reachL; unfold wayL; rw [hW]; exact hI₃
    rename_i kF kN _ _
    exact ret D₃ us _ _ kF (fun p hp => kN p (by simp only [List.mem_cons] at hp ⊢; rcases hp with h | h <;> simp [h])) hres (fun p hp => l₃ p (by simp only [List.mem_cons]; simp [hp]))
  · intro l k
    dsimp only
    split
    · simp
    · omega
end Mine

end

section
open PySem PySem.W PyProof.Rows
set_option maxRecDepth 100000
set_option maxHeartbeats 8000000
namespace Mine
local macro_rules | `(tactic| cell_enter) => `(tactic| (refine' code_defC ?k1 ?k2 ?k3 ?k4 ?k5 ?kA ?kF ?kK ?k6 ?k7 ?k8 ?k9 ?kB ?kD ?_ ?c2 ?c3 ?c4; (case kA => exact rfl); (case kF => exact rfl); (case kK => assumption); (case k1 => k_asm); (case k2 => k_asm); (case k3 => k_asm); (case k4 => k_asm); (case k5 => k_asm); (case k6 => k_is); (case k7 => k_is); (case k8 => ktr_room); (case k9 => exact BindsTo.of_eq rfl); (case kB => exact rfl); (case kD => decide +kernel); (case c2 => exact rfl); (case c3 => exact rfl); (case c4 => exact rfl); k_whole; intro g' L' h' tk' cells' FG' F' N' Y' B' X' T' l1; k_cells Y'; (try simp only [List.cons_append, List.nil_append] at N'); (try dsimp only); (try k_fold)))
local macro_rules | `(tactic| k_all) => `(tactic| first | assumption | exact ne_below (by assumption) (by omega))
local macro_rules | `(tactic| walk_at "eval ListComp Name") => `(tactic| refine stop_at ?_)
local macro_rules | `(tactic| walk_at "CompSrcT") => `(tactic| refine stop_at ?_)
local macro_rules | `(tactic| walk_at "call builtin:len") => `(tactic| (k_here; (with_reducible show wpAny _ _ (call (Value.builtin "len") [Value.ref _]) _ _ _); k_dflt (refine' lst_len ?k1 ?k2 ?k3 ?k4 ?_; (case k1 => k_asm); (case k2 => k_mem); (case k3 => with_reducible assumption); (case k4 => omega); k_whole)))
local macro_rules | `(tactic| walk_at "subscriptTail") => `(tactic| (k_here; (with_reducible show wpAny _ _ (subscriptTail _ _ (Value.ref _) (Value.int _ _)) _ _ _); k_dflt (refine' lst_sub ?k1 ?k2 ?k4 ?k5 ?k6 ?_ ?k7; (case k1 => k_asm); (case k2 => k_mem); (case k6 => assumption); (case k4 => first | omega | with_reducible assumption); (case k5 => first | omega | with_reducible assumption); (case k7 => with_unfolding_all rfl); k_whole)))

local macro_rules | `(tactic| k_mem) => `(tactic| first | exact List.mem_cons_self | (refine List.mem_cons_of_mem _ ?_; k_mem) | assumption)
theorem eq_nils {prog : Program} {w : World} {A : Around} {E : Value → Shared → Prop} {s : Shared} {a b : Addr} {Q : Value → Shared → Prop} (hu : A.units < cLine) (ha : s.heap.IsList a #[]) (hb : s.heap.IsList b #[]) (h : Q (.bool true) s) :
    wpAny (model prog w) A (compareOp .Eq (.ref a) (.ref b)) Q E s :=
  SeqAt.RcAt.lists (A := A) (s := s) (e := fun _ => true) ha hb rfl hu (fun j h1 _ => absurd h1 (Nat.not_lt_zero _)) prog w E Q h
theorem prime3 : PySem.Challenge.rw_dp0034_01 = PySem.Challenge.rw_dp0034_01 → hd.heap_39 = hd.heap_39 → True := by
  w_on
  k_fill
  intros; trivial
theorem same_ok {w : World} {p : Program} {loose : List Str} {mean : ExcName → Option Value} {mg mb : Str → Option Value}
  (dp un : Nat) (gd : Option (List Code)) (cn : Str) (cs : Scope) (a : Addr) (ccd : Value) (cl : List (Str × Addr)) (outer : List Env) (A₀ : Around) (base h₀ : Heap) (L : Addr) (m : Str → Option Value) (s : Shared) (Q E : Value → Shared → Prop)
  (rest : List (Addr × Obj)) (t d : Addr) (vs : List Value) (n1 n2 : Nat) (len : Nat)
  (B : Below A₀ base outer h₀) (F : Fr h₀ L s.heap m) (X : (hd.heap_39 w.params).In h₀) (N : News h₀ L s.heap rest) (T : Top p loose mean mg mb h₀) (hk : cs.kind = .function)
  (hm1 : (t, W.listOf vs.toArray n1) ∈ rest) (hm2 : (d, W.listOf vs.toArray n2) ∈ rest) (hlen : vs.length = len) (hsm : len ≤ 100) (helt : ∀ v ∈ vs, v = .none ∨ ∃ b, v = .ref b)
  (hdp : dp + 1 < recursionLimit) (hun : un + 8 < cLine)
  (ret : ∀ h' tk', Fr h₀ L h' m → News h₀ L h' rest → Q (.bool true) { s with heap := h', toks := tk' }) :
  wpAny (model PROG w) (ktrTop dp un gd cn cs L a ccd cl outer) (call (.ref 38) [.ref t, .ref d]) Q E s := by
  refine wpAny_call ?_
  k_dflt cell_enter
  k_steps
  · unfold Stop
    refine LCt.ListComp_T (F₀ := by k_asm) (by with_unfolding_all rfl) (by decide) (by rfl) (by decide) (by rfl) ?_
    k_steps
    unfold Stop
    refine LCt.CompSrcT.range (by rfl) (by k_asm) (by k_asm) (by assumption) (small_one (by omega) (by omega) (by omega) (by omega)) (rangeSize_nat _ _) (by rw [PySem.sizeLine_eq]; omega) ?_
    intro g₁
    refine kci_range (fun l k => l) (fun k' t' I' oI' C' oC' D' m' ys' l' h' tk' E' hlo' hhi' hI₁ hC' hx' F' N' off' ne' hMark' => ?_) ?_ ?_
    · obtain ⟨v, hv⟩ : ∃ v, vs[k'.toNat]? = some v := ⟨_, List.getElem?_eq_getElem (by omega)⟩
      rcases helt v (List.mem_of_getElem? hv) with rfl | ⟨b, rfl⟩
      · k_steps
        exact LCg.CompEnd.intro F' N' _ (fun p hp => hp) off' trivial ⟨rfl, rfl⟩
      · k_steps
        exact LCg.CompEnd.intro F' N' _ (fun p hp => hp) off' trivial ⟨rfl, rfl⟩
    · unfold KPfDone
      intro ys₂ hI₂ hl₂ D₂ h₂ tk₂ F₂ N₂ o₂
      have e₂ : ys₂ = [] := by
        have h1 : ∀ (ks : List Int), List.foldl (fun (l : List Int) (_ : Int) => l) [] ks = [] := fun ks => by induction ks <;> simp_all
        rw [h1] at hI₂
        cases hI₂; rfl
      subst e₂
      k_steps
      refine eq_nils (by ktr_units) (News.isList (by assumption) (List.mem_cons_of_mem _ List.mem_cons_self)) (News.isList (by assumption) List.mem_cons_self) ?_
      k_steps
      rename_i kF kN _ _
      exact ret _ _ kF (fun p hp => kN p (by simp only [List.mem_cons]; simp [hp]))
    · intro l k
      dsimp only
      omega
  · exact absurd rfl (by assumption)
end Mine

end

section
open PySem PySem.W PyProof.Rows PySem.Calls
set_option maxRecDepth 100000
namespace Mine
section
variable {prog : Program} {w : World} {A : Around} {h₀ : Heap} {L : Addr} {m : Str → Option Value} {env : Env} {elt : Expr} {x : Str} {scope : Scope} {cl : List (Str × Addr)} {s : Shared} {S : List (Addr × Obj) → Prop} {Fin : List Value → List (Addr × Obj) → Prop} {news : List (Addr × Obj)}
/-- a comprehension over range(n), any values -/
theorem cv_range {n : Nat} (fv : Nat → Value)
    (turn : ∀ (k : Nat) t I oI C oC D m₂ ys h tk (E' : Value → Shared → Prop), k < n → LCg.NsObj oC m₂ → m₂ x = some (.int (k : Int) t) → Fr h₀ L h m → News h₀ L h ((I, oI) :: (C, oC) :: (D, LCg.lst ys) :: news) → LCg.Off3 I C D news → ((@Ne Nat I C) ∧ (@Ne Nat I D) ∧ (@Ne Nat C D)) →
      wpAny (model prog w) A (eval elt (compEnvC scope cl C env)) (LCg.CompEnd h₀ L m { s with heap := h, toks := tk } I oI C oC D (LCg.lst ys) S (fun y news' => news' = news ∧ y = fv k)) E' { s with heap := h, toks := tk })
    (fin : Fin ((List.range n).map fv) news) : LCg.CompRest prog w A h₀ L m env elt x scope cl s S (fun i v => ∃ t, v = .int (0 + (i : Int)) t) Fin n 0 [] news := by
  have key : ∀ (j i : Nat), i + j = n → LCg.CompRest prog w A h₀ L m env elt x scope cl s S (fun i v => ∃ t, v = .int (0 + (i : Int)) t) Fin j i ((List.range i).map fv) news := by
    intro j
    induction j with
    | zero =>
      intro i hi
      obtain rfl : i = n := by omega
      exact LCg.CompRest.zero fin
    | succ j ih =>
      intro i hi
      refine LCg.CompRest.succ ?_
      intro v I oI C oC D m₂ h tk E' hv hC hx F N off ne
      obtain ⟨t, hv'⟩ := hv
      rw [Int.zero_add] at hv'
      rw [hv'] at hx
      refine wpAny_mono (turn i t I oI C oC D m₂ _ h tk E' (by omega) hC hx F N off ne) (fun y s₂ hq => ?_) fun _ _ e => e
      obtain ⟨h', tk', nw, e, F', N', off', hS, hn, hy⟩ := hq
      subst hn hy
      refine ⟨h', tk', nw, e, F', N', off', hS, ?_⟩
      have := ih (i + 1) (by omega)
      rw [List.range_succ, List.map_append] at this
      simpa using this
  exact key n 0 (by omega)
end
section
variable {prog : Program} {w : World} {A : Around} {E : Value → Shared → Prop} {s : Shared} {h₀ : Heap} {L D : Addr} {m : Str → Option Value} {news : List (Addr × Obj)} {vs : List Value} {n : Nat}
theorem lst_copy {Q : Value → Shared → Prop} (F : Fr h₀ L s.heap m) (N : News h₀ L s.heap news) (hm : (D, W.listOf vs.toArray n) ∈ news) (hl : vs.length ≤ 1000)
    (h : ∀ D' c h', Fr h₀ L h' m → News h₀ L h' ((D', W.listOf vs.toArray c) :: news) → (∀ q ∈ news, q.1 < D') → Q (.ref D') { s with heap := h' }) :
    wpAny (model prog w) A (call (.type "list") [.ref D]) Q E s :=
  list_copyK F N (PySem.IsL.isList (n := n) (N _ hm).1) h (by rw [List.size_toArray, PySem.sizeLine_eq]; omega)
end
end Mine

end

section
open PySem PySem.W PyProof.Rows
set_option maxRecDepth 100000
set_option maxHeartbeats 4000000
namespace Mine
theorem off1_mem {D : Addr} : ∀ {l : List (Addr × Obj)}, LCg.Off1 D l → ∀ p ∈ l, p.1 ≠ D
  | [], _, _, h => nomatch h
  | _ :: _, x, p, h => by
    rcases List.mem_cons.mp h with rfl | h
    · exact x.1
    · exact off1_mem x.2 p h
theorem mem_swap {α : Type} {x a b : α} {l : List α} (h : x ∈ a :: b :: l) : x ∈ b :: a :: l := by
  simp only [List.mem_cons] at h ⊢
  rcases h with h | h | h <;> simp [h]
theorem fnAt_keep {h₀ h : Heap} {L f : Addr} {m : Str → Option Value} (F : Fr h₀ L h m) (x : FnAt f h₀) : FnAt f h := by
  obtain ⟨oc, od, fd, sl, e⟩ := x
  exact ⟨oc, od, fd, sl, F.keep _ _ e⟩
def defBody : Stmt → List Stmt
  | .FunctionDef _ _ b _ _ _ _ _ _ _ => b
  | _ => []
def defScope : Stmt → Scope
  | .FunctionDef _ _ _ _ _ _ sc _ _ _ => sc
  | _ => default
def forBody : Stmt → List Stmt
  | .For _ _ b _ _ => b
  | _ => []
def holdsDef : Stmt := PySem.Challenge.pw_dp0034_01.main.body.getD 6 (.Pass default)
def holdsScope : Scope := defScope holdsDef
def holdsBody : List Stmt := defBody holdsDef
def turnBody : List Stmt := forBody (holdsBody.getD 0 (.Pass default))
theorem OneInt.mono {rest rest' : List (Addr × Obj)} {v : Value} {x : Int} (h : OneInt rest v x) (hs : ∀ q ∈ rest, q ∈ rest') : OneInt rest' v x := by
  obtain ⟨b, t, n, e, hm⟩ := h
  exact ⟨b, t, n, e, hs _ hm⟩
theorem Sift.mono {G G' : Value → Int → Prop} {c : Int → Int → Bool} {x : Int} {new : Value} {start : Int} {vs vs' : List Value} {pos : Nat} (S : Sift G c x new start vs pos vs') (h : ∀ v y, G v y → G' v y) : Sift G' c x new start vs pos vs' := by
  induction S with
  | top h1 => exact .top h1
  | stop h1 h2 h3 h4 => exact .stop h1 h2 (h _ _ h3) h4
  | up h1 h2 h3 h4 _ ih => exact .up h1 h2 (h _ _ h3) h4 ih
theorem sift_any {w : World} {p : Program} {loose : List Str} {mean : ExcName → Option Value} {mg mb : Str → Option Value}
  (dp un : Nat) (gd : Option (List Code)) (cn : Str) (cs : Scope) (a : Addr) (ccd : Value) (cl : List (Str × Addr)) (outer : List Env) (A₀ : Around) (base h₀ : Heap) (L : Addr) (m : Str → Option Value) (s : Shared) (Q E : Value → Shared → Prop)
  (t : Addr) (vs : List Value) (n : Nat) (rest : List (Addr × Obj)) (start : Int) (tk1 : Tok) (pos : Nat) (tk2 : Tok) (vs' : List Value) (x : Int) (new : Value) (f : Addr) (c : Int → Int → Bool)
  (hf : (f = 21 ∧ c = fun a b => decide (a < b)) ∨ (f = 28 ∧ c = fun a b => decide (b < a)))
  (B : Below A₀ base outer h₀) (F : Fr h₀ L s.heap m) (X : (hd.heap_39 w.params).In h₀) (N : News h₀ L s.heap ((t, W.listOf vs.toArray n) :: rest)) (T : Top p loose mean mg mb h₀) (hk : cs.kind = .function)
  (hoff : ∀ p ∈ rest, p.1 ≠ t) (hlen : vs.length < 2 ^ 62) (hpos : pos < vs.length) (hst : 0 ≤ start)
  (hnew : vs[pos]? = some new) (hx : OneInt rest new x) (S : Sift (OneInt rest) c x new start vs pos vs')
  (hdp : dp + 1 < recursionLimit) (hun : un + 8 < cLine)
  (ret : ∀ h' tk', Fr h₀ L h' m → News h₀ L h' ((t, W.listOf vs'.toArray n) :: rest) → Q .none { s with heap := h', toks := tk' }) :
  wpAny (model PROG w) (ktrTop dp un gd cn cs L a ccd cl outer) (call (.ref f) [.ref t, .int start tk1, .int (pos : Int) tk2]) Q E s := by
  rcases hf with ⟨rfl, rfl⟩ | ⟨rfl, rfl⟩
  · exact sift_ok dp un gd cn cs a ccd cl outer A₀ base h₀ L m s Q E t vs n rest start tk1 pos tk2 vs' x new B F X N T hk hoff hlen hpos hst hnew hx S hdp hun ret
  · exact siftmax_ok dp un gd cn cs a ccd cl outer A₀ base h₀ L m s Q E t vs n rest start tk1 pos tk2 vs' x new B F X N T hk hoff hlen hpos hst hnew hx S hdp hun ret
def noned (S : List Int) (vs : List Value) (n : Nat) : List Value := (List.range n).map fun (k : Nat) => if (S.any fun x => x == (k : Int)) = true then vs.getD k .none else .none
local macro_rules | `(tactic| cell_enter) => `(tactic| (refine' code_defC ?k1 ?k2 ?k3 ?k4 ?k5 ?kA ?kF ?kK ?k6 ?k7 ?k8 ?k9 ?kB ?kD ?_ ?c2 ?c3 ?c4; (case kA => exact rfl); (case kF => exact rfl); (case kK => assumption); (case k1 => k_asm); (case k2 => k_asm); (case k3 => k_asm); (case k4 => k_asm); (case k5 => k_asm); (case k6 => k_is); (case k7 => k_is); (case k8 => ktr_room); (case k9 => exact BindsTo.of_eq rfl); (case kB => exact rfl); (case kD => decide +kernel); (case c2 => exact rfl); (case c3 => exact rfl); (case c4 => exact rfl); k_whole; intro g' L' h' tk' cells' FG' F' N' Y' B' X' T' l1; k_cells Y'; (try simp only [List.cons_append, List.nil_append] at N'); (try dsimp only); (try k_fold)))
local macro_rules | `(tactic| k_all) => `(tactic| assumption)
local macro_rules | `(tactic| walk_at "call builtin:len") => `(tactic| (k_here; (with_reducible show wpAny _ _ (call (Value.builtin "len") [Value.ref _]) _ _ _); k_dflt (refine' lst_len ?k1 ?k2 ?k3 ?k4 ?_; (case k1 => k_asm); (case k2 => k_mem); (case k3 => with_reducible assumption); (case k4 => omega); k_whole)))
local macro_rules | `(tactic| walk_at "subscriptTail Name Name ref int") => `(tactic| (k_here; (with_reducible show wpAny _ _ (subscriptTail _ _ (Value.ref _) (Value.int _ _)) _ _ _); k_dflt (refine' lst_sub ?k1 ?k2 ?k4 ?k5 ?k6 ?_ ?k7; (case k1 => k_asm); (case k2 => k_mem); (case k6 => assumption); (case k4 => first | omega | with_reducible assumption); (case k5 => first | omega | with_reducible assumption); (case k7 => with_unfolding_all rfl); k_whole)))
local macro_rules | `(tactic| walk_at "subscriptTail Name Subscript ref int") => `(tactic| (k_here; (with_reducible show wpAny _ _ (subscriptTail _ _ (Value.ref _) (Value.int _ _)) _ _ _); k_dflt (refine' lst_sub ?k1 ?k2 ?k4 ?k5 ?k6 ?_ ?k7; (case k1 => k_asm); (case k2 => k_mem); (case k6 => assumption); (case k4 => first | omega | with_reducible assumption); (case k5 => first | omega | with_reducible assumption); (case k7 => with_unfolding_all rfl); k_whole)))
local macro_rules | `(tactic| walk_at "subscriptTail Name BinOp ref int") => `(tactic| (k_here; (with_reducible show wpAny _ _ (subscriptTail _ _ (Value.ref _) (Value.int _ _)) _ _ _); k_dflt (refine' lst_sub ?k1 ?k2 ?k4 ?k5 ?k6 ?_ ?k7; (case k1 => k_asm); (case k2 => k_mem); (case k6 => assumption); (case k4 => first | omega | with_reducible assumption); (case k5 => first | omega | with_reducible assumption); (case k7 => with_unfolding_all rfl); k_whole)))
local macro_rules | `(tactic| k_mem) => `(tactic| first | exact List.mem_cons_self | (refine List.mem_cons_of_mem _ ?_; k_mem) | assumption)
local macro_rules | `(tactic| walk_at "exec For Name Call cons nil") => `(tactic| (refine For_range ?_))
local macro_rules | `(tactic| walk_at "pyIter ref") => `(tactic| refine stop_at ?_)
local macro_rules | `(tactic| walk_at "eval Name") => `(tactic| (k_here; (with_reducible show wpAny _ _ (eval (Expr.Name _ _) (envOfC _ _ _ _ _)) _ _ _); k_dflt (refine' nameX_L ?F ?v ?_ ?a ?b; (case F => k_asm); (case a => rfl); (case b => rfl); (case v => assumption); k_whole)))
local macro_rules | `(tactic| walk_at "exec Assign cons ListComp") => `(tactic| refine stop_at ?_)
local macro_rules | `(tactic| walk_at "CompSrcT") => `(tactic| refine stop_at ?_)
local macro_rules | `(tactic| walk_at "CompSrc") => `(tactic| refine stop_at ?_)
local macro_rules | `(tactic| walk_at "call ref") => `(tactic| refine stop_at ?_)
local macro_rules | `(tactic| walk_at "callWith ref") => `(tactic| (k_here; k_dflt (refine' callWith_F ?k1 ?_; (case k1 => first | exact fnAt_keep (by k_asm) (by with_reducible assumption) | exact FnAt.of (by k_asm) (by with_reducible k_mem)); k_whole)))
local macro_rules | `(tactic| walk_at "And") => `(tactic| ((with_reducible show FnAt _ _ ∧ _); refine ⟨by first | exact fnAt_keep (by k_asm) (by with_reducible assumption) | exact FnAt.of (by k_asm) (by with_reducible k_mem), ?_⟩; try dsimp only [List.nil_append, List.cons_append]))

theorem prime5 : PySem.Challenge.rw_dp0034_01 = PySem.Challenge.rw_dp0034_01 → hd.heap_39 = hd.heap_39 → True := by
  w_on
  k_fill
  intros; trivial
theorem turnC {w : World} {p : Program} {loose : List Str} {mean : ExcName → Option Value} {mg mb : Str → Option Value}
  (dp un : Nat) (gd : Option (List Code)) (outer : List Env) (A₀ : Around) (base h₀ : Heap) (L : Addr) (m : Str → Option Value) (s : Shared) (Q : Flow → Shared → Prop) (E : Value → Shared → Prop)
  (rest : List (Addr × Obj)) (rw nb DR DD : Addr) (rvs dvs rys : List Value) (R : List Int) (n1 nd : Nat) (len lR i stp : Nat) (f fA : Addr) (c : Int → Int → Bool) (o1 o2 o3 o4 o5 o6 : Obj) (v1 : Option Value) (ti ts tp : Tok) (st x : Int) (vi : Value)
  (B : Below A₀ base outer h₀) (F : Fr h₀ L s.heap m) (X : (hd.heap_39 w.params).In h₀) (T : Top p loose mean mg mb h₀)
  (N : News h₀ L s.heap ((L + 1 + 1 + 1 + 1 + 1 + 1, o1) :: (L + 1 + 1 + 1 + 1 + 1, o2) :: (L + 1 + 1 + 1 + 1, o3) :: (L + 1 + 1 + 1, o4) :: (L + 1 + 1, o5) :: (L + 1, o6) :: rest))
  (d1 : o1.data = .cell v1) (d2 : o2.data = .cell (some (.ref DD))) (d3 : o3.data = .cell (some (.ref DR))) (d4 : o4.data = .cell (some (.int (i : Int) ti))) (d5 : o5.data = .cell (some (.ref fA))) (d6 : o6.data = .cell (some (.ref rw)))
  (z1 : ∀ p ∈ rest, p.1 ≠ L + 1) (z2 : ∀ p ∈ rest, p.1 ≠ L + 1 + 1) (z3 : ∀ p ∈ rest, p.1 ≠ L + 1 + 1 + 1) (z4 : ∀ p ∈ rest, p.1 ≠ L + 1 + 1 + 1 + 1) (z5 : ∀ p ∈ rest, p.1 ≠ L + 1 + 1 + 1 + 1 + 1) (z6 : ∀ p ∈ rest, p.1 ≠ L + 1 + 1 + 1 + 1 + 1 + 1)
  (e1 : m (Str.ofString "numbers") = some (.ref nb)) (e2 : m (Str.ofString "sift") = some (.ref f)) (e3 : m (Str.ofString "start") = some (.int st ts)) (e4 : m (Str.ofString "steps") = some (.int (stp : Int) tp))
  (hm1 : (rw, W.listOf rvs.toArray n1) ∈ rest) (hmR : (DR, W.listOf rys.toArray 0) ∈ rest) (hmD : (DD, W.listOf dvs.toArray nd) ∈ rest)
  (hlen : rvs.length = len) (hdl : dvs.length = len) (hIR : IntsAre rys R) (hRl : rys.length = lR) (hR7 : lR ≤ 7) (hsl : stp < lR) (hsm : len ≤ 70) (hi : i < len)
  (hel : ∀ v ∈ dvs, ∃ b, v = .ref b) (hst0 : 0 ≤ st)
  (hf : (f = 21 ∧ c = fun a b => decide (a < b)) ∨ (f = 28 ∧ c = fun a b => decide (b < a))) (hfF : FnAt f h₀)
  (hvi : (noned (R.take (stp + 2)) rvs len)[i]? = some vi) (hoi : OneInt rest vi x) (hS : Sift (OneInt rest) c x vi st (noned (R.take (stp + 2)) rvs len) i (noned (R.take (stp + 2)) dvs len))
  (hdp : dp + 2 < recursionLimit) (hun : un + 16 < cLine)
  (ret : ∀ h' tk' m' o1 o2 v1 v2, Fr h₀ L h' m' → News h₀ L h' ((L + 1 + 1 + 1 + 1 + 1 + 1, o1) :: (L + 1 + 1 + 1 + 1 + 1, o2) :: (L + 1 + 1 + 1 + 1, o3) :: (L + 1 + 1 + 1, o4) :: (L + 1 + 1, o5) :: (L + 1, o6) :: rest) → o1.data = .cell v1 → o2.data = .cell v2 → m' (Str.ofString "numbers") = some (.ref nb) → m' (Str.ofString "sift") = some (.ref f) → Q .next { s with heap := h', toks := tk' }) :
  wpAny (model PROG w) (ktrTop dp un gd (Str.ofString "_law_holds") holdsScope L 43 (.ref 42) (cellsFrom (L + 1) holdsScope.names []) outer) (execs (turnBody.drop 9) (envOfC (Str.ofString "_law_holds") holdsScope L 43 (.ref 42))) Q E s := by
  show wpAny _ _ (execs [_, _, _, _] _) _ _ _
  (try k_fold)
  k_steps
  rename_i DQ sqs _ hIQ hCQ hLQ lQ h₁ oQ F₁ N₁ dQ
  have hSQ : (((stp : Int) + 2).toNat) = stp + 2 := by omega
  rw [hSQ] at hIQ hCQ hLQ
  unfold Stop
  refine LCg.Assign_ListComp_U (F₀ := by k_asm) (by rfl) (by with_unfolding_all rfl) (by with_unfolding_all rfl) (by decide) (by rfl) (by decide) (by rfl) (by rfl) (by rfl) ?_
  k_steps
  unfold Stop
  refine LCg.CompSrc.range (by rfl) (by k_asm) (by k_asm) (by assumption) (small_one (by omega) (by omega) (by omega) (by omega)) (rangeSize_nat _ _) (by rw [PySem.sizeLine_eq]; omega) ?_
  intro g₂
  refine cv_range (fun k => if ((R.take (stp + 2)).any fun x => x == (k : Int)) = true then rvs.getD k .none else .none) (fun k' t' I' oI' C' oC' D' m' ys' h' tk' E' hlt' hC' hx' F' N' off' ne' => ?_) ?_
  · obtain ⟨vk, hvk⟩ : ∃ v, rvs[((k' : Nat) : Int).toNat]? = some v := ⟨_, List.getElem?_eq_getElem (by simp; omega)⟩
    k_steps
    · refine LCg.CompEnd.intro F' N' _ (fun p hp => hp) off' trivial ⟨rfl, ?_⟩
      rw [if_pos (by assumption), List.getD_eq_getElem?_getD]
      have hvk' : rvs[k']? = some vk := hvk
      rw [hvk']; rfl
    · refine LCg.CompEnd.intro F' N' _ (fun p hp => hp) off' trivial ⟨rfl, ?_⟩
      rw [if_neg (c := (_ = true)) (by rw [Bool.not_eq_true]; assumption)]
  · intro DT h₂ tk₂ F₂ N₂ off₂
    have hTl : (noned (R.take (stp + 2)) rvs len).length = len := by unfold noned; simp
    have N₂' : News h₀ L h₂ ((DT, LCg.lst (noned (R.take (stp + 2)) rvs len)) :: (DQ, W.listOf sqs.toArray 0) :: (L + 1 + 1 + 1 + 1 + 1 + 1, oQ) :: (L + 1 + 1 + 1 + 1 + 1, o2) :: (L + 1 + 1 + 1 + 1, o3) :: (L + 1 + 1 + 1, o4) :: (L + 1 + 1, o5) :: (L + 1, o6) :: rest) := by
      have e : ((len : Int) - 0).toNat = len := by omega
      rw [e] at N₂; exact N₂
    clear N₂
    generalize hT : noned (R.take (stp + 2)) rvs len = tvs at *
    have offT : ∀ p ∈ rest, p.1 ≠ DT := fun p hp => off1_mem off₂ p (by simp [hp])
    simp only [LCg.Off1] at off₂
    (try k_fold)
    k_steps
    unfold Stop
    refine wpAny_Assign_Name ?_
    refine LCg.ListComp_U (F₀ := by k_asm) (by with_unfolding_all rfl) (by decide) (by rfl) (by decide) (by rfl) ?_
    k_steps
    unfold Stop
    refine LCg.CompSrc.range (by rfl) (by k_asm) (by k_asm) (by assumption) (small_one (by omega) (by omega) (by omega) (by omega)) (rangeSize_nat _ _) (by rw [PySem.sizeLine_eq]; omega) ?_
    intro g₃
    refine cv_range (fun k => if ((R.take (stp + 2)).any fun x => x == (k : Int)) = true then dvs.getD k .none else .none) (fun k' t' I' oI' C' oC' D' m' ys' h' tk' E' hlt' hC' hx' F' N' off' ne' => ?_) ?_
    · obtain ⟨vk, hvk⟩ : ∃ v, dvs[((k' : Nat) : Int).toNat]? = some v := ⟨_, List.getElem?_eq_getElem (by simp; omega)⟩
      k_steps
      · refine LCg.CompEnd.intro F' N' _ (fun p hp => hp) off' trivial ⟨rfl, ?_⟩
        rw [if_pos (by assumption), List.getD_eq_getElem?_getD]
        have hvk' : dvs[k']? = some vk := hvk
        rw [hvk']; rfl
      · refine LCg.CompEnd.intro F' N' _ (fun p hp => hp) off' trivial ⟨rfl, ?_⟩
        rw [if_neg (c := (_ = true)) (by rw [Bool.not_eq_true]; assumption)]
    · intro DU h₃ tk₃ F₃ N₃ off₃
      have hUl : (noned (R.take (stp + 2)) dvs len).length = len := by unfold noned; simp
      have N₃' : News h₀ L h₃ ((DU, LCg.lst (noned (R.take (stp + 2)) dvs len)) :: (DT, LCg.lst tvs) :: (DQ, W.listOf sqs.toArray 0) :: (L + 1 + 1 + 1 + 1 + 1 + 1, oQ) :: (L + 1 + 1 + 1 + 1 + 1, o2) :: (L + 1 + 1 + 1 + 1, o3) :: (L + 1 + 1 + 1, o4) :: (L + 1 + 1, o5) :: (L + 1, o6) :: rest) := by
        have e : ((len : Int) - 0).toNat = len := by omega
        rw [e] at N₃; exact N₃
      clear N₃
      have hUel : ∀ v ∈ noned (R.take (stp + 2)) dvs len, v = .none ∨ ∃ b, v = .ref b := by
        intro v hv
        unfold noned at hv
        obtain ⟨k, hk, rfl⟩ := List.mem_map.mp hv
        have hk' := List.mem_range.mp hk
        split
        · refine .inr (hel _ ?_)
          rw [List.getD_eq_getElem?_getD, List.getElem?_eq_getElem (by omega)]
          exact List.getElem_mem _
        · exact .inl rfl
      generalize hU : noned (R.take (stp + 2)) dvs len = uvs at *
      have offU : ∀ p ∈ rest, p.1 ≠ DU := fun p hp => off1_mem off₃ p (by simp [hp])
      simp only [LCg.Off1] at off₃
      k_steps
      rename_i h₄ oU F₄ N₄ dU
      unfold Stop
      have hTm : ∀ q ∈ rest, q ∈ (DU, LCg.lst uvs) :: (DQ, W.listOf sqs.toArray 0) :: (L + 1 + 1 + 1 + 1 + 1 + 1, oQ) :: (L + 1 + 1 + 1 + 1 + 1, oU) :: (L + 1 + 1 + 1 + 1, o3) :: (L + 1 + 1 + 1, o4) :: (L + 1 + 1, o5) :: (L + 1, o6) :: rest := fun q hq => by simp [hq]
      refine sift_any _ _ _ _ _ _ _ _ _ _ _ _ _ _ _ _ _ DT tvs tvs.length ((DU, LCg.lst uvs) :: (DQ, W.listOf sqs.toArray 0) :: (L + 1 + 1 + 1 + 1 + 1 + 1, oQ) :: (L + 1 + 1 + 1 + 1 + 1, oU) :: (L + 1 + 1 + 1 + 1, o3) :: (L + 1 + 1 + 1, o4) :: (L + 1 + 1, o5) :: (L + 1, o6) :: rest) _ _ i _ uvs x vi f c hf
        (by assumption) F₄ (by assumption) (fun p hp => N₄ p (mem_swap hp)) (by assumption) (by rfl) ?_ (by omega) (by omega) hst0 hvi (hoi.mono hTm) (hS.mono fun v y hg => hg.mono hTm) (by ktr_room) (by ktr_units) ?_
      · simp only [List.forall_mem_cons]
        refine ⟨?_, ?_, ?_, ?_, ?_, ?_, ?_, ?_, offT⟩ <;> (refine neN ?_; (try dsimp only); omega)
      · intro h₅ tk₅ F₅ N₅
        (try k_fold)
        k_steps
        unfold Stop
        refine same_ok _ _ _ _ _ _ _ _ _ _ _ _ _ _ _ _ _ _ DT DU uvs _ _ len (by assumption) F₅ (by assumption) N₅ (by assumption) (by rfl) List.mem_cons_self (List.mem_cons_of_mem _ List.mem_cons_self) (by omega) (by omega) hUel (by ktr_room) (by ktr_units) ?_
        intro h₆ tk₆ F₆ N₆
        (try k_fold)
        k_steps
        exact ret h₆ tk₆ _ oQ oU _ _ F₆ (fun p hp => N₆ p (by simp only [List.mem_cons] at hp ⊢; rcases hp with h | h | h | h | h | h | h <;> simp [h])) dQ dU e1 e2
end Mine

end

section
open PySem PySem.W PyProof.Rows
set_option maxRecDepth 100000
set_option maxHeartbeats 4000000
namespace Mine
/-- due behind k turns of the law's inner loop -/
def dueK (R : List Int) (rvs : List Value) : Nat → List Value
  | 0 => rvs
  | k + 1 => (dueK R rvs k).set (R.getD k 0).toNat (rvs.getD (R.getD (k + 1) 0).toNat .none)
def dueF (R : List Int) (rvs : List Value) (stp : Nat) (vi : Value) : List Value := (dueK R rvs stp).set (R.getD stp 0).toNat vi
theorem dueK_length (R : List Int) (rvs : List Value) (k : Nat) : (dueK R rvs k).length = rvs.length := by
  induction k with
  | zero => rfl
  | succ k ih => rw [dueK, List.length_set, ih]
theorem dueF_length (R : List Int) (rvs : List Value) (stp : Nat) (vi : Value) : (dueF R rvs stp vi).length = rvs.length := by
  rw [dueF, List.length_set, dueK_length]
local macro_rules | `(tactic| cell_enter) => `(tactic| (refine' code_defC ?k1 ?k2 ?k3 ?k4 ?k5 ?kA ?kF ?kK ?k6 ?k7 ?k8 ?k9 ?kB ?kD ?_ ?c2 ?c3 ?c4; (case kA => exact rfl); (case kF => exact rfl); (case kK => assumption); (case k1 => k_asm); (case k2 => k_asm); (case k3 => k_asm); (case k4 => k_asm); (case k5 => k_asm); (case k6 => k_is); (case k7 => k_is); (case k8 => ktr_room); (case k9 => exact BindsTo.of_eq rfl); (case kB => exact rfl); (case kD => decide +kernel); (case c2 => exact rfl); (case c3 => exact rfl); (case c4 => exact rfl); k_whole; intro g' L' h' tk' cells' FG' F' N' Y' B' X' T' l1; k_cells Y'; (try simp only [List.cons_append, List.nil_append] at N'); (try dsimp only); (try k_fold)))
local macro_rules | `(tactic| k_all) => `(tactic| assumption)
local macro_rules | `(tactic| walk_at "call builtin:len") => `(tactic| (k_here; (with_reducible show wpAny _ _ (call (Value.builtin "len") [Value.ref _]) _ _ _); k_dflt (refine' lst_len ?k1 ?k2 ?k3 ?k4 ?_; (case k1 => k_asm); (case k2 => k_mem); (case k3 => with_reducible assumption); (case k4 => omega); k_whole)))
local macro_rules | `(tactic| walk_at "subscriptTail Name Name ref int") => `(tactic| (k_here; (with_reducible show wpAny _ _ (subscriptTail _ _ (Value.ref _) (Value.int _ _)) _ _ _); k_dflt (refine' lst_sub ?k1 ?k2 ?k4 ?k5 ?k6 ?_ ?k7; (case k1 => k_asm); (case k2 => k_mem); (case k6 => assumption); (case k4 => first | omega | with_reducible assumption); (case k5 => first | omega | with_reducible assumption); (case k7 => with_unfolding_all rfl); k_whole)))
local macro_rules | `(tactic| walk_at "subscriptTail Name Subscript ref int") => `(tactic| (k_here; (with_reducible show wpAny _ _ (subscriptTail _ _ (Value.ref _) (Value.int _ _)) _ _ _); k_dflt (refine' lst_sub ?k1 ?k2 ?k4 ?k5 ?k6 ?_ ?k7; (case k1 => k_asm); (case k2 => k_mem); (case k6 => assumption); (case k4 => first | omega | with_reducible assumption); (case k5 => first | omega | with_reducible assumption); (case k7 => with_unfolding_all rfl); k_whole)))
local macro_rules | `(tactic| walk_at "subscriptTail Name BinOp ref int") => `(tactic| (k_here; (with_reducible show wpAny _ _ (subscriptTail _ _ (Value.ref _) (Value.int _ _)) _ _ _); k_dflt (refine' lst_sub ?k1 ?k2 ?k4 ?k5 ?k6 ?_ ?k7; (case k1 => k_asm); (case k2 => k_mem); (case k6 => assumption); (case k4 => first | omega | with_reducible assumption); (case k5 => first | omega | with_reducible assumption); (case k7 => with_unfolding_all rfl); k_whole)))
local macro_rules | `(tactic| k_mem) => `(tactic| first | exact List.mem_cons_self | (refine List.mem_cons_of_mem _ ?_; k_mem) | assumption)
local macro_rules | `(tactic| walk_at "exec For Name Call cons nil") => `(tactic| (k_dflt (refine For_range ?_)))
local macro_rules | `(tactic| walk_at "pyIter ref") => `(tactic| refine stop_at ?_)
local macro_rules | `(tactic| walk_at "eval Name") => `(tactic| (k_here; (with_reducible show wpAny _ _ (eval (Expr.Name _ _) (envOfC _ _ _ _ _)) _ _ _); k_dflt (refine' nameX_L ?F ?v ?_ ?a ?b; (case F => k_asm); (case a => rfl); (case b => rfl); (case v => assumption); k_whole)))
local macro_rules | `(tactic| walk_at "exec Assign cons ListComp") => `(tactic| refine stop_at ?_)
local macro_rules | `(tactic| walk_at "CompSrcT") => `(tactic| refine stop_at ?_)
local macro_rules | `(tactic| walk_at "CompSrc") => `(tactic| refine stop_at ?_)
local macro_rules | `(tactic| walk_at "call ref") => `(tactic| refine stop_at ?_)
local macro_rules | `(tactic| walk_at "callWith ref") => `(tactic| (k_here; k_dflt (refine' callWith_F ?k1 ?_; (case k1 => first | exact fnAt_keep (by k_asm) (by with_reducible assumption) | exact FnAt.of (by k_asm) (by with_reducible k_mem)); k_whole)))
local macro_rules | `(tactic| walk_at "And") => `(tactic| ((with_reducible show FnAt _ _ ∧ _); refine ⟨by first | exact fnAt_keep (by k_asm) (by with_reducible assumption) | exact FnAt.of (by k_asm) (by with_reducible k_mem), ?_⟩; try dsimp only [List.nil_append, List.cons_append]))
local macro_rules | `(tactic| walk_at "call type:list") => `(tactic| (k_here; (with_reducible show wpAny _ _ (call (Value.type _) [Value.ref _]) _ _ _); k_dflt (refine' lst_copy ?k1 ?k2 ?k3 ?k4 ?_; (case k1 => k_asm); (case k2 => k_asm); (case k3 => k_mem); (case k4 => omega); k_whole); intro D' c' h' F' N' l1; (try k_sweep)))
local macro_rules | `(tactic| walk_at "setItem ref int") => `(tactic| (k_here; k_dflt (refine' lst_set ?k1 ?k2 ?k3 ?k4 ?k5 ?k6 ?_; (case k1 => k_asm); (case k2 => k_asm); (case k3 => k_upd); (case k4 => first | omega | with_reducible assumption); (case k5 => first | omega | with_reducible assumption); (case k6 => first | omega | with_reducible assumption); k_whole); intro h' F' N'; (try k_sweep)))

theorem prime6 : PySem.Challenge.rw_dp0034_01 = PySem.Challenge.rw_dp0034_01 → hd.heap_39 = hd.heap_39 → True := by
  w_on
  k_fill
  intros; trivial
theorem turnB {w : World} {p : Program} {loose : List Str} {mean : ExcName → Option Value} {mg mb : Str → Option Value}
  (dp un : Nat) (gd : Option (List Code)) (outer : List Env) (A₀ : Around) (base h₀ : Heap) (L : Addr) (m : Str → Option Value) (s : Shared) (Q : Flow → Shared → Prop) (E : Value → Shared → Prop)
  (rest : List (Addr × Obj)) (rw nb DR : Addr) (rvs rys : List Value) (R : List Int) (n1 : Nat) (len lR i stp : Nat) (f fA : Addr) (c : Int → Int → Bool) (o1 o2 o3 o4 o5 o6 : Obj) (v1 v2 : Option Value) (ti ts tp : Tok) (st x : Int) (vi : Value)
  (B : Below A₀ base outer h₀) (F : Fr h₀ L s.heap m) (X : (hd.heap_39 w.params).In h₀) (T : Top p loose mean mg mb h₀)
  (N : News h₀ L s.heap ((L + 1 + 1 + 1 + 1 + 1 + 1, o1) :: (L + 1 + 1 + 1 + 1 + 1, o2) :: (L + 1 + 1 + 1 + 1, o3) :: (L + 1 + 1 + 1, o4) :: (L + 1 + 1, o5) :: (L + 1, o6) :: rest))
  (d1 : o1.data = .cell v1) (d2 : o2.data = .cell v2) (d3 : o3.data = .cell (some (.ref DR))) (d4 : o4.data = .cell (some (.int (i : Int) ti))) (d5 : o5.data = .cell (some (.ref fA))) (d6 : o6.data = .cell (some (.ref rw)))
  (z1 : ∀ p ∈ rest, p.1 ≠ L + 1) (z2 : ∀ p ∈ rest, p.1 ≠ L + 1 + 1) (z3 : ∀ p ∈ rest, p.1 ≠ L + 1 + 1 + 1) (z4 : ∀ p ∈ rest, p.1 ≠ L + 1 + 1 + 1 + 1) (z5 : ∀ p ∈ rest, p.1 ≠ L + 1 + 1 + 1 + 1 + 1) (z6 : ∀ p ∈ rest, p.1 ≠ L + 1 + 1 + 1 + 1 + 1 + 1)
  (e1 : m (Str.ofString "numbers") = some (.ref nb)) (e2 : m (Str.ofString "sift") = some (.ref f)) (e3 : m (Str.ofString "start") = some (.int st ts)) (e4 : m (Str.ofString "steps") = some (.int (stp : Int) tp))
  (hm1 : (rw, W.listOf rvs.toArray n1) ∈ rest) (hmR : (DR, W.listOf rys.toArray 0) ∈ rest)
  (hlen : rvs.length = len) (hIR : IntsAre rys R) (hRl : rys.length = lR) (hR7 : lR ≤ 7) (hsl : stp < lR) (hsm : len ≤ 70) (hi : i < len)
  (hRm : ∀ k, k < lR → 0 ≤ R.getD k 0 ∧ R.getD k 0 < (len : Int)) (hel : ∀ v ∈ rvs, ∃ b, v = .ref b) (hst0 : 0 ≤ st)
  (hf : (f = 21 ∧ c = fun a b => decide (a < b)) ∨ (f = 28 ∧ c = fun a b => decide (b < a))) (hfF : FnAt f h₀)
  (hvi : rvs[i]? = some vi) (hoi : OneInt rest vi x) (hS1 : Sift (OneInt rest) c x vi st rvs i (dueF R rvs stp vi)) (hdel : ∀ v ∈ dueF R rvs stp vi, ∃ b, v = .ref b)
  (hvi2 : (noned (R.take (stp + 2)) rvs len)[i]? = some vi) (hS2 : Sift (OneInt rest) c x vi st (noned (R.take (stp + 2)) rvs len) i (noned (R.take (stp + 2)) (dueF R rvs stp vi) len))
  (hdp : dp + 2 < recursionLimit) (hun : un + 16 < cLine) (hE : PassesOwn (model PROG w) (ktrTop dp un gd (Str.ofString "_law_holds") holdsScope L 43 (.ref 42) (cellsFrom (L + 1) holdsScope.names []) outer) (envOfC (Str.ofString "_law_holds") holdsScope L 43 (.ref 42)) E)
  (ret : ∀ h' tk' m' o1 o2 v1 v2, Fr h₀ L h' m' → News h₀ L h' ((L + 1 + 1 + 1 + 1 + 1 + 1, o1) :: (L + 1 + 1 + 1 + 1 + 1, o2) :: (L + 1 + 1 + 1 + 1, o3) :: (L + 1 + 1 + 1, o4) :: (L + 1 + 1, o5) :: (L + 1, o6) :: rest) → o1.data = .cell v1 → o2.data = .cell v2 → m' (Str.ofString "numbers") = some (.ref nb) → m' (Str.ofString "sift") = some (.ref f) → Q .next { s with heap := h', toks := tk' }) :
  wpAny (model PROG w) (ktrTop dp un gd (Str.ofString "_law_holds") holdsScope L 43 (.ref 42) (cellsFrom (L + 1) holdsScope.names []) outer) (execs (turnBody.drop 4) (envOfC (Str.ofString "_law_holds") holdsScope L 43 (.ref 42))) Q E s := by
  show wpAny _ _ (execs [_, _, _, _, _, _, _, _, _] _) _ _ _
  (try k_fold)
  k_steps
  rename_i DD cD h₁ F₁ N₁ lD
  have offD : ∀ p ∈ rest, p.1 ≠ DD := fun p hp => Nat.ne_of_lt (lD p (by simp [hp]))
  k_lt lD
  k_steps
  rename_i h₂ oD F₂ N₂ dD hR kR tR1 tR2 tR3 aR FR NR KR
  unfold Stop
  refine range_loop (J := fun j m' news' => news' = (DD, W.listOf (dueK R rvs j).toArray cD) :: (L + 1 + 1 + 1 + 1 + 1 + 1, o1) :: (L + 1 + 1 + 1 + 1 + 1, oD) :: (L + 1 + 1 + 1 + 1, o3) :: (L + 1 + 1 + 1, o4) :: (L + 1 + 1, o5) :: (L + 1, o6) :: rest ∧
      m' (Str.ofString "numbers") = some (.ref nb) ∧ m' (Str.ofString "sift") = some (.ref f) ∧ m' (Str.ofString "start") = some (.int st ts) ∧ m' (Str.ofString "steps") = some (.int (stp : Int) tp))
    (by rfl) aR (by omega) FR NR ⟨rfl, e1, e2, e3, e4⟩ ?_ ?_ hE
  · rintro j tj m₁ news₁ I oI h₃ tk₃ hj ⟨rfl, f1, f2, f3, f4⟩ offI hIL F₃ N₃
    simp only [List.forall_mem_cons] at offI
    obtain ⟨q0, q1, q2, q3, q4, q5, q6, q7⟩ := offI
    replace q0 := neN q0; replace q1 := neN q1; replace q2 := neN q2; replace q3 := neN q3; replace q4 := neN q4; replace q5 := neN q5; replace q6 := neN q6
    obtain ⟨a0, a1⟩ := hRm j (by omega)
    obtain ⟨b0, b1⟩ := hRm (j + 1) (by omega)
    obtain ⟨tA, hA⟩ : ∃ t, rys[((j : Nat) : Int).toNat]? = some (.int (R.getD j 0) t) := ints_at hIR (by have := hIR.length; omega)
    obtain ⟨tB, hB⟩ : ∃ t, rys[(((j : Nat) : Int) + 1).toNat]? = some (.int (R.getD (j + 1) 0) t) := by
      have e : (((j : Nat) : Int) + 1).toNat = j + 1 := by omega
      rw [e]; exact ints_at hIR (by have := hIR.length; omega)
    have hdk := dueK_length R rvs j
    have hK : dueK R rvs (j + 1) = (dueK R rvs j).set (R.getD j 0).toNat (rvs.getD (R.getD (j + 1) 0).toNat .none) := rfl
    obtain ⟨vb, hvb⟩ : ∃ v, rvs[(R.getD (j + 1) 0).toNat]? = some v := ⟨_, List.getElem?_eq_getElem (by omega)⟩
    have hvb' : rvs.getD (R.getD (j + 1) 0).toNat .none = vb := by rw [List.getD_eq_getElem?_getD, hvb]; rfl
    rw [hvb'] at hK
    generalize R.getD (j + 1) 0 = rb at *
    generalize R.getD j 0 = ra at *
    generalize hdj : dueK R rvs j = dj at *
    generalize hdj1 : dueK R rvs (j + 1) = dj1 at *
    subst hK
    (try k_fold)
    k_steps
    rename_i F₄ N₄
    refine ⟨_, _, _, _, rfl, F₄, N₄, ?_, rfl, f1, f2, f3, f4⟩
    simp only [List.forall_mem_cons]
    exact ⟨q0, q1, q2, q3, q4, q5, q6, q7⟩
  · rintro m₁ news₁ h₃ tk₃ ⟨rfl, f1, f2, f3, f4⟩ F₃ N₃
    have hdk := dueK_length R rvs stp
    obtain ⟨a0, a1⟩ := hRm stp (by omega)
    obtain ⟨tA, hA⟩ : ∃ t, rys[((stp : Nat) : Int).toNat]? = some (.int (R.getD stp 0) t) := ints_at hIR (by have := hIR.length; omega)
    have hvi' : rvs[((i : Nat) : Int).toNat]? = some vi := hvi
    have hdF : dueF R rvs stp vi = (dueK R rvs stp).set (R.getD stp 0).toNat vi := rfl
    have hdl := dueF_length R rvs stp vi
    generalize dueF R rvs stp vi = dvs at *
    subst hdF
    generalize R.getD stp 0 = ra at *
    generalize dueK R rvs stp = dj at *
    (try k_fold)
    k_steps
    rename_i h₄ DT cT h₅ lT h₆ F₅ N₅
    generalize hdv : dj.set ra.toNat vi = dvs at *
    have offT : ∀ p ∈ rest, p.1 ≠ DT := fun p hp => Nat.ne_of_lt (lT p (by simp [hp]))
    k_lt lT
    unfold Stop
    have hTm : ∀ q ∈ rest, q ∈ (DD, W.listOf dvs.toArray cD) :: (L + 1 + 1 + 1 + 1 + 1 + 1, o1) :: (L + 1 + 1 + 1 + 1 + 1, oD) :: (L + 1 + 1 + 1 + 1, o3) :: (L + 1 + 1 + 1, o4) :: (L + 1 + 1, o5) :: (L + 1, o6) :: rest := fun q hq => by simp [hq]
    refine sift_any _ _ _ _ _ _ _ _ _ _ _ _ _ _ _ _ _ DT rvs cT ((DD, W.listOf dvs.toArray cD) :: (L + 1 + 1 + 1 + 1 + 1 + 1, o1) :: (L + 1 + 1 + 1 + 1 + 1, oD) :: (L + 1 + 1 + 1 + 1, o3) :: (L + 1 + 1 + 1, o4) :: (L + 1 + 1, o5) :: (L + 1, o6) :: rest) _ _ i _ dvs x vi f c hf
        (by assumption) F₅ (by assumption) N₅ (by assumption) (by rfl) ?_ (by omega) (by omega) hst0 hvi (hoi.mono hTm) (hS1.mono fun v y hg => hg.mono hTm) (by ktr_room) (by ktr_units) ?_
    · simp only [List.forall_mem_cons]
      refine ⟨?_, ?_, ?_, ?_, ?_, ?_, ?_, offT⟩ <;> (refine neN ?_; (try dsimp only); omega)
    · intro h₇ tk₇ F₇ N₇
      (try k_fold)
      k_steps
      unfold Stop
      refine same_ok _ _ _ _ _ _ _ _ _ _ _ _ _ _ _ _ _ _ DT DD dvs _ _ len (by assumption) F₇ (by assumption) N₇ (by assumption) (by rfl) List.mem_cons_self (List.mem_cons_of_mem _ List.mem_cons_self) (by omega) (by omega) (fun v hv => .inr (hdel v hv)) (by ktr_room) (by ktr_units) ?_
      intro h₈ tk₈ F₈ N₈
      (try k_fold)
      iterate 6 (first | (k_unfold; (try dsimp only)) | walk1 | (dsimp only; walk1))
      dsimp only
      have zz : ∀ (d : Nat), (@Ne Nat DD d) → (∀ p ∈ rest, p.1 ≠ d) → ∀ p ∈ (DD, W.listOf dvs.toArray cD) :: rest, p.1 ≠ d := fun d h1 h2 p hp => by
        rcases List.mem_cons.mp hp with rfl | hp
        · exact h1
        · exact h2 p hp
      have hsub : ∀ q ∈ rest, q ∈ (DD, W.listOf dvs.toArray cD) :: rest := fun q hq => List.mem_cons_of_mem _ hq
      refine turnC dp un gd outer A₀ base h₀ L _ _ _ _ ((DD, W.listOf dvs.toArray cD) :: rest) rw nb DR DD rvs dvs rys R n1 cD len lR i stp f fA c o1 oD o3 o4 o5 o6 _ ti ts tp st x vi B F₈ X T
        (fun p hp => N₈ p (by simp only [List.mem_cons] at hp ⊢; rcases hp with h | h | h | h | h | h | h | h <;> simp [h])) d1 dD d3 d4 d5 d6
        (zz (L + 1) (by omega) z1) (zz (L + 1 + 1) (by omega) z2) (zz (L + 1 + 1 + 1) (by omega) z3) (zz (L + 1 + 1 + 1 + 1) (by omega) z4) (zz (L + 1 + 1 + 1 + 1 + 1) (by omega) z5) (zz (L + 1 + 1 + 1 + 1 + 1 + 1) (by omega) z6) f1 f2 f3 f4
        (hsub _ hm1) (hsub _ hmR) List.mem_cons_self hlen (by omega) hIR hRl hR7 hsl hsm hi hdel hst0 hf hfF hvi2 (hoi.mono hsub) (hS2.mono fun v y hg => hg.mono hsub) hdp hun ?_
      intro h₉ tk₉ m₉ oa ob va vb F₉ N₉ da db g1 g2
      exact ret h₉ tk₉ m₉ oa ob va vb F₉ (fun p hp => N₉ p (by simp only [List.mem_cons] at hp ⊢; rcases hp with h | h | h | h | h | h | h <;> simp [h])) da db g1 g2
end Mine

end

section
open PySem PySem.W PyProof.Rows
set_option maxRecDepth 100000
namespace Mine

/-- everything that is needed of the places above `i`, all the way up -/
def wayOk (i : Nat) : Bool :=
  let W := wayL i
  decide (1 ≤ W.length) && decide (W.length ≤ 7) && decide (W.getD 0 0 = (i : Int)) &&
  (List.range (W.length - 1)).all (fun k => decide (W.getD (k + 1) 0 = (W.getD k 0 - 1) / 2)) &&
  (List.range W.length).all (fun k => decide (0 ≤ W.getD k 0) && decide (W.getD k 0 ≤ (i : Int))) &&
  decide (W.getD (W.length - 1) 0 ≤ 0)
theorem wayOk_all : (List.range 70).all wayOk = true := by decide +kernel

structure ReachP (st : Int) (i : Nat) (R : List Int) : Prop where
  pos : 1 ≤ R.length
  le7 : R.length ≤ 7
  zero : R.getD 0 0 = (i : Int)
  succ : ∀ k, k + 1 < R.length → R.getD (k + 1) 0 = (R.getD k 0 - 1) / 2 ∧ st < R.getD k 0
  mem : ∀ k, k < R.length → 0 ≤ R.getD k 0 ∧ R.getD k 0 ≤ (i : Int)
  last : R.getD (R.length - 1) 0 ≤ st

structure WayP (i : Nat) (W : List Int) : Prop where
  pos : 1 ≤ W.length
  le7 : W.length ≤ 7
  zero : W.getD 0 0 = (i : Int)
  succ : ∀ k, k + 1 < W.length → W.getD (k + 1) 0 = (W.getD k 0 - 1) / 2
  mem : ∀ k, k < W.length → 0 ≤ W.getD k 0 ∧ W.getD k 0 ≤ (i : Int)
  last : W.getD (W.length - 1) 0 ≤ 0
theorem way_p {i : Nat} (hi : i < 70) : WayP i (wayL i) := by
  have h := List.all_eq_true.mp wayOk_all i (List.mem_range.mpr hi)
  unfold wayOk at h
  simp only [Bool.and_eq_true, decide_eq_true_eq, List.all_eq_true, List.mem_range] at h
  obtain ⟨⟨⟨⟨⟨a1, a2⟩, a3⟩, a4⟩, a5⟩, a6⟩ := h
  exact ⟨a1, a2, a3, fun k hk => a4 k (by omega), fun k hk => a5 k hk, a6⟩
theorem WayP.le {i : Nat} {W : List Int} (P : WayP i W) : ∀ a b, a ≤ b → b < W.length → W.getD b 0 ≤ W.getD a 0 := by
  intro a b hab hb
  induction b with
  | zero =>
    obtain rfl : a = 0 := by omega
    exact Int.le_refl _
  | succ b ih =>
    by_cases q : a = b + 1
    · subst q; exact Int.le_refl _
    · have h1 := ih (by omega) (by omega)
      have e := P.succ b hb
      have m := P.mem b (by omega)
      have m2 := P.mem (b + 1) hb
      omega
theorem reach_take {i : Nat} {W : List Int} (P : WayP i W) (st : Int) : ∀ m, m + 1 ≤ W.length → ∃ j, j ≤ m ∧ List.foldl (fun l k => if st < W.getD (k - 1).toNat 0 then l ++ [W.getD k.toNat 0] else l) [] (rangeKs 1 m) = (W.drop 1).take j ∧ (∀ k, k < j → st < W.getD k 0) ∧ (j < m → W.getD j 0 ≤ st) := by
  intro m
  induction m with
  | zero => intro _; exact ⟨0, Nat.le_refl _, rfl, fun k hk => absurd hk (Nat.not_lt_zero _), fun h => absurd h (Nat.lt_irrefl _)⟩
  | succ m ih =>
    intro hm
    obtain ⟨j, hj, e, y, n⟩ := ih (by omega)
    have er : rangeKs 1 (m + 1) = rangeKs 1 m ++ [1 + (m : Int)] := by
      unfold rangeKs
      rw [List.range_succ, List.map_append]
      rfl
    have e1 : ((1 : Int) + (m : Int) - 1).toNat = m := by omega
    have e2 : ((1 : Int) + (m : Int)).toNat = m + 1 := by omega
    rw [er, List.foldl_append, List.foldl_cons, List.foldl_nil, e, e1, e2]
    by_cases h : st < W.getD m 0
    · have hjm : j = m := by
        by_cases q : j < m
        · have z := n q
          have := P.le j m (by omega) (by omega)
          omega
        · omega
      subst hjm
      refine ⟨j + 1, Nat.le_refl _, ?_, fun k hk => ?_, fun q => absurd q (Nat.lt_irrefl _)⟩
      · rw [if_pos h, List.take_add_one, List.getElem?_drop, List.getElem?_eq_getElem (by omega), List.getD_eq_getElem?_getD, List.getElem?_eq_getElem (by omega)]
        simp [Nat.add_comm]
      · by_cases q : k = j
        · subst q; exact h
        · exact y k (by omega)
    · rw [if_neg h]
      refine ⟨j, by omega, rfl, y, fun _ => ?_⟩
      by_cases q : j < m
      · exact n q
      · obtain rfl : j = m := by omega
        omega

theorem reach_p {st : Int} {i : Nat} (hi : i < 70) (h0 : 0 ≤ st) : ReachP st i (reachL st i) := by
  have P := way_p hi
  have hl := wayL_len i
  have hb : (((Builtin.Int.intBits ((i : Int) + 1) : Nat) : Int) - 1).toNat + 1 = (wayL i).length := by
    have := P.pos
    omega
  obtain ⟨j, hj, e, y, n⟩ := reach_take P st (((Builtin.Int.intBits ((i : Int) + 1) : Nat) : Int) - 1).toNat (Nat.le_of_eq hb)
  have eR : reachL st i = (wayL i).take (1 + j) := by
    unfold reachL
    rw [e, List.take_add]
  have hle : 1 + j ≤ (wayL i).length := by omega
  have hRl : (reachL st i).length = 1 + j := by rw [eR, List.length_take]; omega
  have hget : ∀ k, k < 1 + j → (reachL st i).getD k 0 = (wayL i).getD k 0 := fun k hk => by
    rw [eR, List.getD_eq_getElem?_getD, List.getElem?_take_of_lt hk, ← List.getD_eq_getElem?_getD]
  refine ⟨by omega, by have := P.le7; omega, ?_, fun k hk => ?_, fun k hk => ?_, ?_⟩
  · rw [hget 0 (by omega)]
    exact P.zero
  · rw [hRl] at hk
    rw [hget k (by omega), hget (k + 1) hk]
    exact ⟨P.succ k (by omega), y k (by omega)⟩
  · rw [hRl] at hk
    rw [hget k hk]
    exact P.mem k (by omega)
  · rw [hRl, hget (1 + j - 1) (by omega), show 1 + j - 1 = j by omega]
    by_cases q : j < (((Builtin.Int.intBits ((i : Int) + 1) : Nat) : Int) - 1).toNat
    · exact n q
    · have := P.last
      rw [show (wayL i).length - 1 = j by omega] at this
      omega

theorem ReachP.down {st : Int} {i : Nat} {R : List Int} (P : ReachP st i R) (h0 : 0 ≤ st) : ∀ a b, a < b → b < R.length → R.getD b 0 < R.getD a 0 := by
  intro a b hab hb
  induction b with
  | zero => omega
  | succ b ih =>
    obtain ⟨e, l⟩ := P.succ b hb
    have hx : R.getD (b + 1) 0 < R.getD b 0 := by rw [e]; omega
    by_cases q : a = b
    · subst q; exact hx
    · have := ih (by omega) (by omega)
      omega

/-- the stops, as the law finds them -/
theorem foldl_stops (q : Int → Bool) (ks acc : List Int) : List.foldl (fun l k => if q k = true then l else l ++ [k]) acc ks = acc ++ ks.filter (fun k => !q k) := by
  induction ks generalizing acc with
  | nil => simp
  | cons k ks ih =>
    rw [List.foldl_cons, ih]
    by_cases h : q k = true
    · simp [h]
    · simp [h]
theorem rangeKs_mem {a k : Int} {n : Nat} (h : a ≤ k) (h2 : k < a + (n : Int)) : k ∈ rangeKs a n := by
  refine List.mem_map.mpr ⟨(k - a).toNat, List.mem_range.mpr (by omega), by omega⟩

theorem stops_p {q : Int → Bool} {lR : Nat} {M : Int} (h1 : 1 ≤ lR) (hm : M ∈ List.foldl (fun l k => if q k = true then l else l ++ [k]) [] (rangeKs 1 ((lR : Int) - 1).toNat) ++ [(lR : Int)])
    (hle : ∀ a ∈ List.foldl (fun l k => if q k = true then l else l ++ [k]) [] (rangeKs 1 ((lR : Int) - 1).toNat) ++ [(lR : Int)], M ≤ a) :
    1 ≤ M ∧ M ≤ (lR : Int) ∧ (∀ k, 1 ≤ k → k < M → q k = true) ∧ (M < (lR : Int) → q M = false) := by
  rw [foldl_stops, List.nil_append] at hm hle
  have hl : M ≤ (lR : Int) := hle _ (by simp)
  refine ⟨?_, hl, fun k k1 k2 => ?_, fun hM => ?_⟩
  · rcases List.mem_append.mp hm with h | h
    · exact (mem_rangeKs (List.mem_filter.mp h).1).1
    · rw [List.mem_singleton.mp h]; omega
  · cases e : q k with
    | true => rfl
    | false =>
      have := hle k (List.mem_append_left _ (List.mem_filter.mpr ⟨rangeKs_mem k1 (by omega), by simp [e]⟩))
      omega
  · rcases List.mem_append.mp hm with h | h
    · simpa using (List.mem_filter.mp h).2
    · rw [List.mem_singleton.mp h] at hM; omega

section
variable {G : Value → Int → Prop} {c : Int → Int → Bool} {x st : Int} {i stp : Nat} {R xs : List Int} {vi : Value}

theorem dueK_off {ts : List Value} {j : Nat} : ∀ k, (∀ a, a < k → (R.getD a 0).toNat ≠ j) → (dueK R ts k)[j]? = ts[j]?
  | 0, _ => rfl
  | k + 1, h => by
    rw [dueK, List.getElem?_set_ne (h k (by omega))]
    exact dueK_off k fun a ha => h a (by omega)

theorem sift_due (P : ReachP st i R) (h0 : 0 ≤ st) {ts : List Value} (hs : stp < R.length) (hG : ∀ k, k < R.length → k ≤ stp + 1 → ∃ v, ts[(R.getD k 0).toNat]? = some v ∧ G v (xs.getD (R.getD k 0).toNat 0))
    (hyes : ∀ k, 1 ≤ k → k ≤ stp → c x (xs.getD (R.getD k 0).toNat 0) = true) (hno : stp + 1 < R.length → c x (xs.getD (R.getD (stp + 1) 0).toNat 0) = false) :
    Sift G c x vi st ts i (dueF R ts stp vi) := by
  have at_ : ∀ k, k + 1 < R.length → k ≤ stp → ((R.getD k 0).toNat - 1) / 2 = (R.getD (k + 1) 0).toNat ∧ st < ((R.getD k 0).toNat : Nat) ∧ ∃ v, (dueK R ts k)[((R.getD k 0).toNat - 1) / 2]? = some v ∧ ts.getD (R.getD (k + 1) 0).toNat .none = v ∧ G v (xs.getD (R.getD (k + 1) 0).toNat 0) := fun k hk hks => by
    obtain ⟨e, l⟩ := P.succ k hk
    obtain ⟨m0, _⟩ := P.mem k (by omega)
    have e2 : ((R.getD k 0).toNat - 1) / 2 = (R.getD (k + 1) 0).toNat := by rw [e]; omega
    refine ⟨e2, by omega, ?_⟩
    obtain ⟨v, hv, hg⟩ := hG (k + 1) hk (by omega)
    refine ⟨v, ?_, by rw [List.getD_eq_getElem?_getD, hv]; rfl, hg⟩
    rw [e2, dueK_off k fun a ha q => ?_]
    · exact hv
    · have d1 := P.down h0 a (k + 1) (by omega) hk
      have d2 := P.mem (k + 1) hk
      omega
  have main : ∀ n k, n + k = stp → Sift G c x vi st (dueK R ts k) (R.getD k 0).toNat (dueF R ts stp vi) := by
    intro n
    induction n with
    | zero =>
      intro k hk
      obtain rfl : k = stp := by omega
      by_cases q : k + 1 < R.length
      · obtain ⟨e2, l, v, hv, _, hg⟩ := at_ k q (Nat.le_refl _)
        exact Sift.stop l hv hg (hno q)
      · have : k = R.length - 1 := by omega
        refine Sift.top ?_
        have := P.last
        have hm := P.mem k hs
        have ek : R.length - 1 = k := by omega
        rw [ek] at this
        omega
    | succ n ih =>
      intro k hk
      obtain ⟨e2, l, v, hv, ev, hg⟩ := at_ k (by omega) (by omega)
      refine Sift.up l hv hg (hyes (k + 1) (by omega) (by omega)) ?_
      rw [e2, ← ev]
      exact ih (k + 1) (by omega)
  have := main stp 0 rfl
  rw [P.zero] at this
  exact this

theorem noned_length (S : List Int) (vs : List Value) (n : Nat) : (noned S vs n).length = n := by unfold noned; simp
theorem noned_get {S : List Int} {vs : List Value} {n j : Nat} (hj : j < n) : (noned S vs n)[j]? = some (if (S.any fun x => x == (j : Int)) = true then vs.getD j .none else .none) := by
  unfold noned
  rw [List.getElem?_map, List.getElem?_range hj]
  rfl
theorem noned_in {S : List Int} {vs : List Value} {n j : Nat} (hj : j < n) (hm : (j : Int) ∈ S) : (noned S vs n)[j]? = some (vs.getD j .none) := by
  rw [noned_get hj, if_pos]
  exact List.any_eq_true.mpr ⟨_, hm, by simp⟩
theorem noned_set {S : List Int} {vs : List Value} {n j : Nat} {v : Value} (hj : j < n) (hl : vs.length = n) (hm : (j : Int) ∈ S) : noned S (vs.set j v) n = (noned S vs n).set j v := by
  refine List.ext_getElem? fun k => ?_
  by_cases hk : k < n
  · rw [noned_get hk]
    by_cases q : j = k
    · subst q
      rw [List.getElem?_set_self (by rw [noned_length]; exact hj), if_pos (List.any_eq_true.mpr ⟨_, hm, by simp⟩), List.getD_eq_getElem?_getD, List.getElem?_set_self (by omega)]
      rfl
    · rw [List.getElem?_set_ne q, noned_get hk, List.getD_eq_getElem?_getD, List.getElem?_set_ne q, ← List.getD_eq_getElem?_getD]
  · rw [List.getElem?_eq_none (by rw [noned_length]; omega), List.getElem?_eq_none (by rw [List.length_set, noned_length]; omega)]

theorem noned_due {rvs : List Value} {n : Nat} (P : ReachP st i R) (hi : i < n) (hl : rvs.length = n) (hs : stp < R.length) :
    noned (R.take (stp + 2)) (dueF R rvs stp vi) n = dueF R (noned (R.take (stp + 2)) rvs n) stp vi := by
  have hin : ∀ k, k < R.length → k ≤ stp + 1 → ((R.getD k 0).toNat : Int) ∈ R.take (stp + 2) ∧ (R.getD k 0).toNat < n := fun k hk hks => by
    obtain ⟨m0, m1⟩ := P.mem k hk
    refine ⟨?_, by omega⟩
    rw [Int.toNat_of_nonneg m0]
    refine List.mem_of_getElem? (i := k) ?_
    rw [List.getElem?_take_of_lt (by omega), List.getD_eq_getElem?_getD, List.getElem?_eq_getElem hk]
    rfl
  have key : ∀ k, k ≤ stp → noned (R.take (stp + 2)) (dueK R rvs k) n = dueK R (noned (R.take (stp + 2)) rvs n) k := by
    intro k
    induction k with
    | zero => intro _; rfl
    | succ k ih =>
      intro hk
      obtain ⟨a1, a2⟩ := hin k (by omega) (by omega)
      obtain ⟨b1, b2⟩ := hin (k + 1) (by omega) (by omega)
      rw [dueK, noned_set a2 (by rw [dueK_length, hl]) a1, ih (by omega), dueK]
      congr 1
      rw [List.getD_eq_getElem?_getD (l := noned _ _ _), noned_in b2 b1]
      rfl
  obtain ⟨a1, a2⟩ := hin stp hs (by omega)
  rw [dueF, noned_set a2 (by rw [dueK_length, hl]) a1, key stp (Nat.le_refl _), dueF]

theorem due_refs {rvs : List Value} (hel : ∀ v ∈ rvs, ∃ b, v = .ref b) (hv : ∃ b, vi = .ref b) (hR : ∀ k, k ≤ stp → k < R.length → (R.getD k 0).toNat < rvs.length) (hs : stp < R.length) : ∀ v ∈ dueF R rvs stp vi, ∃ b, v = .ref b := by
  have key : ∀ k, k ≤ stp → ∀ v ∈ dueK R rvs k, ∃ b, v = .ref b := by
    intro k
    induction k with
    | zero => intro _ v h; exact hel v h
    | succ k ih =>
      intro hk v h
      rw [dueK] at h
      rcases List.mem_or_eq_of_mem_set h with h | h
      · exact ih (by omega) v h
      · have hl := hR (k + 1) hk (by omega)
        rw [List.getD_eq_getElem?_getD, List.getElem?_eq_getElem hl] at h
        subst h
        exact hel _ (List.getElem_mem hl)
  intro v h
  rw [dueF] at h
  rcases List.mem_or_eq_of_mem_set h with h | h
  · exact key stp (Nat.le_refl _) v h
  · subst h; exact hv

/-- the two sifts that a turn of the law makes, from the stops -/
theorem turn_law {rvs : List Value} {n : Nat} (P : ReachP st i R) (h0 : 0 ≤ st) (hi : i < n) (hl : rvs.length = n) (hs : stp < R.length) (hvi : rvs[i]? = some vi)
    (hG : ∀ j, j < n → ∃ v, rvs[j]? = some v ∧ G v (xs.getD j 0)) (hel : ∀ v ∈ rvs, ∃ b, v = .ref b)
    (hyes : ∀ k, 1 ≤ k → k ≤ stp → c x (xs.getD (R.getD k 0).toNat 0) = true) (hno : stp + 1 < R.length → c x (xs.getD (R.getD (stp + 1) 0).toNat 0) = false) :
    Sift G c x vi st rvs i (dueF R rvs stp vi) ∧ (∀ v ∈ dueF R rvs stp vi, ∃ b, v = .ref b) ∧ (noned (R.take (stp + 2)) rvs n)[i]? = some vi ∧
      Sift G c x vi st (noned (R.take (stp + 2)) rvs n) i (noned (R.take (stp + 2)) (dueF R rvs stp vi) n) := by
  have hlt : ∀ k, k < R.length → (R.getD k 0).toNat < n := fun k hk => by
    obtain ⟨m0, m1⟩ := P.mem k hk
    omega
  have hmem : ∀ k, k < R.length → k ≤ stp + 1 → ((R.getD k 0).toNat : Int) ∈ R.take (stp + 2) := fun k hk hks => by
    obtain ⟨m0, m1⟩ := P.mem k hk
    rw [Int.toNat_of_nonneg m0]
    refine List.mem_of_getElem? (i := k) ?_
    rw [List.getElem?_take_of_lt (by omega), List.getD_eq_getElem?_getD, List.getElem?_eq_getElem hk]
    rfl
  refine ⟨sift_due (xs := xs) P h0 hs (fun k hk _ => hG _ (hlt k hk)) hyes hno, due_refs hel (hel _ (List.mem_of_getElem? hvi)) (fun k _ hk => by rw [hl]; exact hlt k hk) hs, ?_, ?_⟩
  · have hz : (i : Int) ∈ R.take (stp + 2) := by
      have := hmem 0 (by omega) (by omega)
      rwa [P.zero] at this
    rw [noned_in hi hz, List.getD_eq_getElem?_getD, hvi]
    rfl
  · rw [noned_due P hi hl hs]
    refine sift_due (xs := xs) P h0 hs (fun k hk hks => ?_) hyes hno
    obtain ⟨v, hv, hg⟩ := hG _ (hlt k hk)
    refine ⟨v, ?_, hg⟩
    rw [noned_in (hlt k hk) (hmem k hk hks), List.getD_eq_getElem?_getD, hv]
    rfl
end
end Mine

end

section
open PySem PySem.W PyProof.Rows
set_option maxRecDepth 100000
namespace Mine

/-- What a note of the frames does to the heap `h₁` in which the exception `e` was just made. -/
structure Fly (fs : List Addr) (h₁ : Heap) (e : Addr) (c : Value) (vs : Array Value) (fl : Value) (h : Heap) : Prop where
  keep : ∀ b o, h₁.get? b = some o → b ∉ fs → b ≠ e → h.get? b = some o
  slot : ∀ b o, h₁.get? b = some o → b ∈ fs → ∃ sl, h.get? b = some { o with slots := sl }
  exc : ∃ oe T oT ts, h.get? e = some oe ∧ oe.cls = c ∧ oe.data = .fields (vs.setIfInBounds 1 (.ref T)) ∧ h₁.get? T = none ∧ h.get? T = some oT ∧ oT.data = .fields ts ∧ ts[3]? = some fl

section
variable {M : Model} {A : Around} {E : Value → Shared → Prop} {s : Shared} {fs : List Addr} {h₁ base : Heap} {e L : Addr} {c fl : Value} {vs : Array Value} {env : Env} {outer : List Env} {Q : Unit → Shared → Prop}

theorem fly_frames {h : Heap} {l : List Env} {oe : Obj} (hl : h₁.FunFrames base l) (he : h₁.get? e = some oe) (hd : oe.data = .fields vs)
    (keep : ∀ b o, h₁.get? b = some o → b ∉ fs → b ≠ e → h.get? b = some o) (slot : ∀ b o, h₁.get? b = some o → b ∈ fs → ∃ sl, h.get? b = some { o with slots := sl }) : h.FunFrames base l :=
  hl.of_keeps fun b o hb hnf => by
    by_cases hm : b ∈ fs
    · obtain ⟨sl, hs⟩ := slot b o hb hm
      exact ⟨_, hs, rfl⟩
    · refine ⟨o, keep b o hb hm (fun q => ?_), rfl⟩
      rw [q, he] at hb
      injection hb with hb
      subst hb
      exact hnf vs hd

theorem note_entry {oe : Obj} {head : Value} {hadNext : Bool} {oe₁ : Obj} {vs' : Array Value} (hfr : A.frames = some (env :: outer)) (hl : h₁.FunFrames base (env :: outer)) (hf : env.frame = some L) (hfs : ∀ b ∈ (env :: outer).filterMap (·.frame), b ∈ fs)
    (he₁ : h₁.get? e = some oe₁) (hd₁ : oe₁.data = .fields vs) (hen : e ∉ fs)
    (keep : ∀ b o, h₁.get? b = some o → b ∉ fs → b ≠ e → s.heap.get? b = some o) (slot : ∀ b o, h₁.get? b = some o → b ∈ fs → ∃ sl, s.heap.get? b = some { o with slots := sl })
    (he : s.heap.get? e = some oe) (hc : oe.cls = c) (hd : oe.data = .fields vs') (hv : ∀ x, vs'.setIfInBounds 1 x = vs.setIfInBounds 1 x) (hsz : 1 < vs'.size)
    (hsize : ∀ b o, h₁.get? b = some o → b < s.heap.objs.size)
    (h : ∀ h', Fly fs h₁ e c vs (rawInt L) h' → Q () { s with heap := h' }) :
    wpAny M A (do let a ← frameOf env; let pl ← entryPlaceOf L hadNext; let b ← EntryCells.newEntry head a .none (rawInt L) .none pl; setField (.ref e) 1 b) Q E s := by
  refine wpAny_bind (wpAny_frameOf_fun hfr (fly_frames hl he₁ hd₁ keep slot) hf fun h₂ hs₂ => ?_)
  refine wpAny_bind (wpAny_entryPlaceOf fun pl hpl => ?_)
  unfold EntryCells.newEntry newFields
  refine wpAny_bind (wpAny_newObj_type ?_ (hpl.sizeOk5 _ _ _ _ _))
  have hene : e ∉ (env :: outer).filterMap (·.frame) := fun hm => hen (hfs _ hm)
  have he₂ : h₂.get? e = some oe := (hs₂.2.1 e hene).trans he
  have he₃ := Heap.get?_push_of_some (h := h₂) { cls := .type "traceback", dict := none, data := .fields ([head, .ref L, .none, rawInt L, .none] ++ (if pl.isEmpty then List.replicate 6 Value.none else pl)).toArray } he₂
  refine wpAny_setField he₃ hd hsz (h _ ?_)
  have hTe : h₂.objs.size ≠ e := Nat.ne_of_gt (Heap.lt_size he₂)
  have hd₄ := Obj.data_mapFields hd (·.setIfInBounds 1 (Value.ref h₂.objs.size))
  have he₄ := Heap.get?_update_self (Obj.mapFields (·.setIfInBounds 1 (Value.ref h₂.objs.size))) he₃ (Obj.isFreed_of_fields hd₄)
  have hT := (Heap.get?_update_other (h₂.push { cls := .type "traceback", dict := none, data := .fields ([head, .ref L, .none, rawInt L, .none] ++ (if pl.isEmpty then List.replicate 6 Value.none else pl)).toArray })
    (Obj.mapFields (·.setIfInBounds 1 (Value.ref h₂.objs.size))) (Ne.symm hTe)).trans (Heap.get?_push_size h₂ rfl)
  have go : ∀ b o, b ≠ e → h₂.get? b = some o →
      ((h₂.push { cls := .type "traceback", dict := none, data := .fields ([head, .ref L, .none, rawInt L, .none] ++ (if pl.isEmpty then List.replicate 6 Value.none else pl)).toArray }).update e (Obj.mapFields (·.setIfInBounds 1 (Value.ref h₂.objs.size)))).get? b = some o :=
    fun b o hbe hb => by
      rw [Heap.get?_update_other _ _ (Ne.symm hbe)]
      exact Heap.get?_push_of_some _ hb
  refine ⟨fun b o hb hm hbe => go b o hbe ((hs₂.2.1 b fun q => hm (hfs _ q)).trans (keep b o hb hm hbe)), fun b o hb hm => ?_, ⟨_, h₂.objs.size, _, _, he₄, (Obj.cls_mapFields _ _).trans hc, by rw [hd₄, hv], ?_, hT, rfl, ?_⟩⟩
  · obtain ⟨sl, hs⟩ := slot b o hb hm
    obtain ⟨sl', hs'⟩ := hs₂.2.2 b _ hs
    exact ⟨sl', go b _ (fun q => hen (q ▸ hm)) hs'⟩
  · cases q : h₁.get? h₂.objs.size with
    | none => rfl
    | some o =>
      have hz := hsize _ _ q
      exact absurd (Nat.lt_of_lt_of_le hz (Nat.le_of_eq hs₂.1.symm)) (Nat.lt_irrefl _)
  · first | (simp; done) | (rcases hpl with rfl | ⟨_, _, _, _, _, _, _, rfl⟩ <;> simp)

theorem note_first {oe : Obj} (hfr : A.frames = some (env :: outer)) (hl : s.heap.FunFrames base (env :: outer)) (hf : env.frame = some L) (hfs : ∀ b ∈ (env :: outer).filterMap (·.frame), b ∈ fs)
    (he : s.heap.get? e = some oe) (hd : oe.data = .fields vs) (hen : e ∉ fs) (h1 : vs[1]? = some .none)
    (h : ∀ h', Fly fs s.heap e oe.cls vs (rawInt L) h' → Q () { s with heap := h' }) : wpAny M A (noteFrame (.ref e) env) Q E s := by
  unfold noteFrame
  simp only [hf]
  refine wpAny_bind (wpAny_field he hd h1 ?_)
  rw [if_neg (by decide)]
  exact note_entry hfr hl hf hfs he hd hen (fun _ _ q _ _ => q) (fun _ o q _ => ⟨o.slots, q⟩) he rfl hd (fun _ => rfl) (Array.getElem?_eq_some_iff.mp h1).1 (fun _ _ q => Heap.lt_size q) h

theorem fly_ne {h : Heap} {T : Addr} {oe₁ : Obj} (he₁ : h₁.get? e = some oe₁) (hT : h₁.get? T = none) : T ≠ e := fun q => by
  rw [q, he₁] at hT
  cases hT

theorem note_set {oe₁ : Obj} (he₁ : h₁.get? e = some oe₁) (hsz1 : 1 < vs.size) (hfs₁ : ∀ b ∈ fs, ∃ o, h₁.get? b = some o) (x : Fly fs h₁ e c vs fl s.heap) (h : ∀ h', Fly fs h₁ e c vs .none h' → Q () { s with heap := h' }) :
    wpAny M A (setFlight (.ref e) none) Q E s := by
  obtain ⟨keep, slot, oe, T, oT, ts, he, hc, hd, hnT, hT, hdT, h3⟩ := x
  have hTe : T ≠ e := fly_ne (h := h₁) he₁ hnT
  have hsz3 : 3 < ts.size := (Array.getElem?_eq_some_iff.mp h3).1
  have other : ∀ b, b ≠ T → (s.heap.update T (Obj.mapFields (·.setIfInBounds 3 ((none : Option Addr).elim Value.none fun f => rawInt f)))).get? b = s.heap.get? b :=
    fun b hb => Heap.get?_update_other _ _ (Ne.symm hb)
  have nT : ∀ b o, h₁.get? b = some o → b ≠ T := fun b o hb q => by
    rw [q, hnT] at hb
    cases hb
  unfold setFlight
  refine wpAny_bind (wpAny_field he hd (x := .ref T) (by simp [hsz1]) ?_)
  rw [if_pos (show (Value.ref T != Value.none) = true from by simp)]
  refine wpAny_setField hT hdT hsz3 (h _ ⟨fun b o hb hm hbe => (other b (nT b o hb)).trans (keep b o hb hm hbe), fun b o hb hm => ?_, oe, T, _, _, (other e (Ne.symm hTe)).trans he, hc, hd, hnT,
    Heap.get?_update_self _ hT (Obj.isFreed_of_fields (Obj.data_mapFields hdT _)), Obj.data_mapFields hdT _, by simp [hsz3]⟩)
  obtain ⟨sl, hs⟩ := slot b o hb hm
  exact ⟨sl, (other b (nT b o hb)).trans hs⟩

theorem note_next {oe₁ : Obj} (hfr : A.frames = some (env :: outer)) (hl : h₁.FunFrames base (env :: outer)) (hf : env.frame = some L) (hfs : ∀ b ∈ (env :: outer).filterMap (·.frame), b ∈ fs)
    (he₁ : h₁.get? e = some oe₁) (hd₁ : oe₁.data = .fields vs) (hen : e ∉ fs) (hsz1 : 1 < vs.size) (x : Fly fs h₁ e c vs .none s.heap) (hfs₁ : ∀ b ∈ fs, ∃ o, h₁.get? b = some o)
    (h : ∀ h', Fly fs h₁ e c vs (rawInt L) h' → Q () { s with heap := h' }) : wpAny M A (noteFrame (.ref e) env) Q E s := by
  obtain ⟨keep, slot, oe, T, oT, ts, he, hc, hd, hnT, hT, hdT, h3⟩ := x
  have hTe : T ≠ e := fly_ne (h := h₁) he₁ hnT
  have hsz3 : 3 < ts.size := (Array.getElem?_eq_some_iff.mp h3).1
  have other : ∀ b, b ≠ T → (s.heap.update T (Obj.mapFields (·.setIfInBounds 3 Value.none))).get? b = s.heap.get? b := fun b hb => Heap.get?_update_other _ _ (Ne.symm hb)
  have nT : ∀ b o, h₁.get? b = some o → b ≠ T := fun b o hb q => by
    rw [q, hnT] at hb
    cases hb
  unfold noteFrame
  simp only [hf]
  refine wpAny_bind (wpAny_field he hd (x := .ref T) (by simp [hsz1]) ?_)
  rw [if_pos (show (Value.ref T != Value.none) = true from by simp)]
  refine wpAny_bind (wpAny_field hT hdT h3 ?_)
  rw [if_neg (show ¬ ((Value.none == rawInt L) = true) from by simp [rawInt])]
  refine wpAny_bind (wpAny_setField hT hdT hsz3 ?_)
  refine note_entry hfr hl hf hfs he₁ hd₁ hen (fun b o hb hm hbe => (other b (nT b o hb)).trans (keep b o hb hm hbe)) (fun b o hb hm => ?_) ((other e (Ne.symm hTe)).trans he) hc hd (fun x => by simp) (by simpa using hsz1) (fun b o hb => ?_) h
  · obtain ⟨sl, hs⟩ := slot b o hb hm
    exact ⟨sl, (other b (nT b o hb)).trans hs⟩
  · show b < (s.heap.update T _).objs.size
    rw [Heap.size_after_update]
    by_cases hm : b ∈ fs
    · obtain ⟨sl, hs⟩ := slot b o hb hm
      exact Heap.lt_size hs
    · by_cases hbe : b = e
      · rw [hbe]
        exact Heap.lt_size he
      · exact Heap.lt_size (keep b o hb hm hbe)

theorem leave_first {oe : Obj} (hfr : A.frames = some (env :: outer)) (hl : s.heap.FunFrames base (env :: outer)) (hf : env.frame = some L) (hfs : ∀ b ∈ (env :: outer).filterMap (·.frame), b ∈ fs) (hfs₁ : ∀ b ∈ fs, ∃ o, s.heap.get? b = some o)
    (he : s.heap.get? e = some oe) (hd : oe.data = .fields vs) (hen : e ∉ fs) (h1 : vs[1]? = some .none)
    (h : ∀ h', Fly fs s.heap e oe.cls vs .none h' → Q () { s with heap := h' }) : wpAny M A (leaving env (.ref e)) Q E s := by
  unfold leaving
  refine wpAny_bind (note_first hfr hl hf hfs he hd hen h1 fun h' x => ?_)
  exact note_set (s := { s with heap := h' }) he (Array.getElem?_eq_some_iff.mp h1).1 hfs₁ x h
end
end Mine

end

section
open PySem PySem.W PyProof.Rows PySem.Spec PySem.Calls
set_option maxRecDepth 100000
namespace Mine

theorem entry_unchain : entryFor table "proto.unchain" = some Builtin.«proto.unchain» := entryFor_of_tree (by kernel_rfl)

/-- The handled exception has no context of its own. -/
def NoCtx (h : Heap) (e : Addr) : Prop := ∃ oe vs, h.get? e = some oe ∧ oe.data = .fields vs ∧ vs[2]? = some .none

section
variable {prog : Program} {w : World} {A : Around} {E : Value → Shared → Prop} {s : Shared}

theorem raiseNew_under {α : Type} {n e : Addr} {on : Obj} {ws : Array Value} {Q : α → Shared → Prop} (hh : A.handled = some (.ref e)) (hne : n ≠ e) (hc : NoCtx s.heap e)
    (hn : s.heap.get? n = some on) (hd : on.data = .fields ws) (hz : 2 < ws.size)
    (h : E (.ref n) { s with heap := s.heap.update n (Obj.mapFields (·.setIfInBounds 2 (.ref e))) }) :
    wpAny (model prog w) A (raiseNew (.ref n) : Sem α) Q E s := by
  unfold raiseNew
  refine wpAny_bind (wpAny_handled ?_)
  rw [hh]
  dsimp only
  rw [if_pos (show ((Value.ref e) != (Value.ref n)) = true from by simp; exact fun q => hne q.symm)]
  obtain ⟨oe, vs, he, hde, h2⟩ := hc
  refine wpAny_bind (wpAny_holding (wpAny_runValue ?_))
  refine codeAny_builtin entry_unchain ?_
  unfold Builtin.«proto.unchain»
  dsimp only
  refine wpAny_bind (wpAny_field he hde h2 ?_)
  rw [if_pos (by decide)]
  refine wpAny_pure ?_
  dsimp only
  refine wpAny_bind ?_
  unfold updateField
  refine wpAny_bind (wpAny_load hn ?_)
  rw [hd]
  dsimp only
  rw [if_pos hz]
  exact wpAny_update hn (wpAny_throw h)

theorem range_end_under {it e : Addr} {x left step : Int} {Q : Option Value → Shared → Prop} (hh : A.handled = some (.ref e)) (hc : NoCtx s.heap e) (hit : IsRangeIter s.heap it x left step) (hleft : left ≤ 0)
    (hQ : ∀ h', Heap.ExtBut it s.heap h' → Q none { s with heap := h' }) : wpAny (model prog w) A (pyNext (.ref it)) Q E s := by
  have hT : s.TypeIs (.ref it) "range_iterator" := ⟨_, hit, rfl⟩
  unfold pyNext
  refine wpAny_bind (wpAny_attempt (wpAny_callSpecial?_slot (name := Str.ofString "__next__") hT F.slot_range_iterator_next
    (wpAny_call_entry F.slot_range_iterator_next hT F.entry_range_iterator_next ?_ (F.args_range_iterator_next_1 _))))
  show wpAny _ _ (field (.ref it) 0 >>= _) _ _ s
  refine wpAny_bind (wpAny_field hit rfl (x := rawInt x) rfl ?_)
  show wpAny _ _ (field (.ref it) 1 >>= _) _ _ s
  refine wpAny_bind (wpAny_field hit rfl (x := rawInt left) rfl ?_)
  show wpAny _ _ (field (.ref it) 2 >>= _) _ _ s
  refine wpAny_bind (wpAny_field hit rfl (x := rawInt step) rfl ?_)
  show wpAny _ _ (if left ≤ 0 then _ else _) _ _ s
  rw [if_pos hleft]
  refine wpAny_bind (wpAny_rule ?_)
  refine wpAny_bind ?_
  show wpAny _ _ (newExc (.type "StopIteration") [] >>= _) _ _ _
  refine wpAny_bind ?_
  simp only [newExc, newTuple]
  refine wpAny_bind (wpAny_newObj_type ?_ (by size_fits))
  refine wpAny_bind (m := firstArgMember _ _) (wpAny_of_eq (a := Value.none) (by first | rfl | (simp only [firstArgMember]; rfl)) ?_)
  refine wpAny_newObj_type ?_ (by size_fits)
  obtain ⟨oe, vs, he, hde, h2⟩ := hc
  have he₁ := Heap.get?_push_of_some (h := s.heap) { cls := .type "tuple", dict := none, data := .seq ([] : List Value).toArray } he
  refine raiseNew_under (e := e) hh ?_ ⟨oe, vs, Heap.get?_push_of_some _ he₁, hde, h2⟩ (Heap.get?_push_size _ rfl) rfl (by simp; omega) ?_
  · exact Nat.ne_of_gt (Heap.lt_size he₁)
  refine wpAny_bind (wpAny_isInstance (T := "StopIteration") (b := true) ⟨_, Heap.get?_update_self _ (Heap.get?_push_size _ rfl) (Obj.isFreed_of_fields (Obj.data_mapFields rfl _)), rfl⟩ isSubtype_stop ?_)
  refine wpAny_pure (hQ _ fun b o hb hbo => ?_)
  have hb₁ := Heap.get?_push_of_some (h := s.heap) { cls := .type "tuple", dict := none, data := .seq ([] : List Value).toArray } hbo
  refine (Heap.get?_update_other _ _ (Nat.ne_of_gt (Heap.lt_size hb₁))).trans (Heap.get?_push_of_some _ hb₁)

theorem walks_under {I e : Addr} (hh : A.handled = some (.ref e)) (hIe : e ≠ I) (a : Int) (n : Nat) :
    Walks prog w A I [I, e] [I] n (fun i v => ∃ t, v = .int (a + (i : Int)) t) (fun i h => IsRangeIter h I (a + (i : Nat) * 1) ((n : Int) - (i : Nat)) 1 ∧ NoCtx h e) where
  sub := fun b hb => by rw [List.mem_singleton.mp hb]; exact List.mem_cons_self
  frame := fun _ h h' st hk => by
    obtain ⟨st, oe, vs, he, r⟩ := st
    exact ⟨hk I List.mem_cons_self _ st, oe, vs, hk e (List.mem_cons_of_mem _ List.mem_cons_self) _ he, r⟩
  item := fun i s Q E hi st hQ => by
    obtain ⟨st, oe, vs, he, r⟩ := st
    refine wpAny_pyNext_range_item st (by omega) fun h' hit' hs' => ?_
    refine hQ _ h' _ ⟨s.toks, by rw [Int.mul_one]⟩ ⟨?_, oe, vs, hs'.extBut e oe hIe he, r⟩ fun b o hb e => hs'.extBut b o (fun h => hb (by simp [h])) e
    have e1 : a + ((i + 1 : Nat) : Int) * 1 = a + (i : Int) * 1 + 1 := by push_cast; omega
    have e2 : (n : Int) - ((i + 1 : Nat) : Int) = (n : Int) - (i : Int) - 1 := by push_cast; omega
    rw [e1, e2]; exact hit'
  done := fun s Q E st hQ => range_end_under hh st.2 st.1 (by omega) fun h' he' => hQ h' s.toks fun b o hb e => he' b o (fun h => hb (by simp [h])) e
  self := fun _ _ _ _ st hQ => wpAny_pyIter_rangeiter st.1 hQ

variable {h₀ : Heap} {L : Addr} {m : Str → Option Value} {env : Env}
def SrcH (prog : Program) (w : World) (A : Around) (h₀ : Heap) (L : Addr) (m : Str → Option Value) (env : Env) (ct elt : Expr) (x : Str) (scope : Scope) (cl : List (Str × Addr)) (Fin : Shared → List Value → List (Addr × Obj) → Prop) (xv : Value) (s₁ : Shared) : Prop :=
  ∃ r a b t u v n news e oe vs, xv = .ref r ∧ A.handled = some (.ref e) ∧ (e, oe) ∈ news ∧ oe.data = .fields vs ∧ vs[2]? = some .none ∧ Fr h₀ L s₁.heap m ∧ News h₀ L s₁.heap news ∧ IsRange s₁.heap r a b 1 t u v ∧ Builtin.Range.small a b 1 = true ∧ Builtin.Range.rangeSize a b 1 = ((n : Nat) : Int) ∧ n ≤ sizeLine ∧
    ∀ s₂ : Shared, (∃ h, s₂ = { s₁ with heap := h }) → LCt.CompRestT prog w A h₀ L m env ct elt x scope cl s₂ (fun nw => (e, oe) ∈ nw) (fun i v => ∃ t, v = .int (a + (i : Int)) t) (Fin s₂) n 0 [] news

theorem SrcH.range {ct elt : Expr} {x : Str} {scope : Scope} {cl : List (Str × Addr)} {Fin : Shared → List Value → List (Addr × Obj) → Prop} {r e : Addr} {a b : Int} {t u v : Tok} {n : Nat} {news : List (Addr × Obj)} {s₁ : Shared} {oe : Obj} {vs : Array Value}
    (hh : A.handled = some (.ref e)) (hm : (e, oe) ∈ news) (hd : oe.data = .fields vs) (h2 : vs[2]? = some .none) (F : Fr h₀ L s₁.heap m) (N : News h₀ L s₁.heap news) (hr : IsRange s₁.heap r a b 1 t u v) (hsm : Builtin.Range.small a b 1 = true) (hn : Builtin.Range.rangeSize a b 1 = ((n : Nat) : Int)) (hsz : n ≤ sizeLine)
    (h : ∀ g, LCt.CompRestT prog w A h₀ L m env ct elt x scope cl { s₁ with heap := g } (fun nw => (e, oe) ∈ nw) (fun i v => ∃ t, v = .int (a + (i : Int)) t) (Fin { s₁ with heap := g }) n 0 [] news) :
    SrcH prog w A h₀ L m env ct elt x scope cl Fin (.ref r) s₁ := ⟨r, a, b, t, u, v, n, news, e, oe, vs, rfl, hh, hm, hd, h2, F, N, hr, hsm, hn, hsz, fun _ ⟨g, e⟩ => e ▸ h g⟩

theorem ListComp_H {ct elt iter : Expr} {x : Str} {px : Pos} {scope : Scope} {cl : List (Str × Addr)} {pos : Pos} {Q : Value → Shared → Prop} (F₀ : Fr h₀ L s.heap m)
    (hclos : closureFor scope env = pure cl) (hcell : ∀ y ∈ scope.names, y.2 ≠ .cell) (hkind : scope.kind = .function)
    (hnames : ∀ y ∈ scope.names, y.2 = .local → scope.names.lookup y.1 = some .local) (hx : scope.names.lookup x = some .local)
    (h : wpAny (model prog w) A (eval iter env) (SrcH prog w A h₀ L m env ct elt x scope cl (fun s₂ => LCg.FinE h₀ L m s₂ Q)) E s)
    (hs : ∀ x, foldedSetIterable iter env x = pure x := by intro _; rfl) :
    wpAny (model prog w) A (eval (.ListComp elt [⟨.Name x px, iter, [ct], 0⟩] scope pos) env) Q E s := by
  rw [eval_ListComp]
  refine wpAny_comprehension_free (use := none) rfl hs hclos hkind hnames (wpAny_mono h (fun xv s₁ h₁ => ?_) fun _ _ e => e)
  obtain ⟨r, a, b, t, u, v, n, news, e, oe, vs, rfl, hh, hm, hd, h2, F, N, hr, hsm, hn, hsz, R⟩ := h₁
  have he := (N _ hm).1
  have hlt : e < s₁.heap.objs.size := Heap.lt_size he
  refine wpAny_pyIter_range hr hsm ?_
  refine LCt.block_T (S := fun nw => (e, oe) ∈ nw) (walks_under (I := s₁.heap.objs.size) hh (Nat.ne_of_lt hlt) a n) hsz (fun i h st => ⟨_, st.1⟩) (fun i h h' o nw st e₁ e₂ _ N₂ hS => ?_) hcell hkind hx ⟨by show IsRangeIter _ _ _ _ _; rw [hn]; simpa using Heap.get?_push_size _ rfl, oe, vs, Heap.get?_push_of_some _ he, hd, h2⟩ (fun b hb => ?_)
      (F.keeps fun _ _ e => Heap.get?_push_of_some _ e) (N.grown fun _ _ e => Heap.get?_push_of_some _ e) (Nat.ne_of_lt F.ns.lt) (next_is_new F) (fun p hp => Nat.ne_of_lt (Heap.lt_size (N p hp).1)) hm (R _ ⟨_, rfl⟩) ?_
  · refine ⟨?_, oe, vs, (N₂ _ hS).1, hd, h2⟩
    have st' : h.get? _ = some _ := st.1
    show h'.get? _ = some _
    rw [e₂, ← e₁]; exact st'
  · show b < (s₁.heap.push _).objs.size
    rw [Heap.size_push]
    rcases List.mem_cons.mp hb with rfl | hb
    · exact Nat.lt_succ_self _
    · rw [List.mem_singleton.mp hb]; exact Nat.lt_succ_of_lt hlt
  · intro D C h tk m' ys news' F' N' o1 hn hC₀ hD₀ hCL hDL hCD offC fin
    refine ⟨m', hn, fun h'' hs'' => fin D h'' tk (F'.change hs'' hCL hC₀) (fun p hp => ?_) o1⟩
    refine ⟨hs''.extBut _ _ ?_ (N' p hp).1, (N' p hp).2⟩
    rcases List.mem_cons.mp hp with rfl | hp
    · exact Ne.symm hCD
    · exact offC p hp
end
end Mine

end

section
open PySem PySem.W PyProof.Rows
set_option maxRecDepth 100000
set_option maxHeartbeats 8000000
namespace Mine
local macro_rules | `(tactic| cell_enter) => `(tactic| (refine' code_defC ?k1 ?k2 ?k3 ?k4 ?k5 ?kA ?kF ?kK ?k6 ?k7 ?k8 ?k9 ?kB ?kD ?_ ?c2 ?c3 ?c4; (case kA => exact rfl); (case kF => exact rfl); (case kK => assumption); (case k1 => k_asm); (case k2 => k_asm); (case k3 => k_asm); (case k4 => k_asm); (case k5 => k_asm); (case k6 => k_is); (case k7 => k_is); (case k8 => ktr_room); (case k9 => exact BindsTo.of_eq rfl); (case kB => exact rfl); (case kD => decide +kernel); (case c2 => exact rfl); (case c3 => exact rfl); (case c4 => exact rfl); k_whole; intro g' L' h' tk' cells' FG' F' N' Y' B' X' T' l1; k_cells Y'; (try simp only [List.cons_append, List.nil_append] at N'); (try dsimp only); (try k_fold)))
local macro_rules | `(tactic| k_all) => `(tactic| first | assumption | exact ne_below (by assumption) (by omega))
local macro_rules | `(tactic| walk_at "eval ListComp Name") => `(tactic| refine stop_at ?_)
local macro_rules | `(tactic| walk_at "CompSrcT") => `(tactic| refine stop_at ?_)
local macro_rules | `(tactic| walk_at "SrcH") => `(tactic| refine stop_at ?_)
local macro_rules | `(tactic| walk_at "call builtin:len") => `(tactic| (k_here; (with_reducible show wpAny _ _ (call (Value.builtin "len") [Value.ref _]) _ _ _); k_dflt (refine' lst_len ?k1 ?k2 ?k3 ?k4 ?_; (case k1 => k_asm); (case k2 => k_mem); (case k3 => with_reducible assumption); (case k4 => omega); k_whole)))
local macro_rules | `(tactic| walk_at "subscriptTail") => `(tactic| (k_here; (with_reducible show wpAny _ _ (subscriptTail _ _ (Value.ref _) (Value.int _ _)) _ _ _); k_dflt (refine' lst_sub ?k1 ?k2 ?k4 ?k5 ?k6 ?_ ?k7; (case k1 => k_asm); (case k2 => k_mem); (case k6 => assumption); (case k4 => first | omega | with_reducible assumption); (case k5 => first | omega | with_reducible assumption); (case k7 => with_unfolding_all rfl); k_whole)))

local macro_rules | `(tactic| k_mem) => `(tactic| first | exact List.mem_cons_self | (refine List.mem_cons_of_mem _ ?_; k_mem) | assumption)
abbrev ktrH (e : Addr) (dp un : Nat) (gd : Option (List Code)) (cn : Str) (cs : Scope) (L a : Addr) (ccd : Value) (cl : List (Str × Addr)) (outer : List Env) : Around := { handled := some (.ref e), depth := dp, frames := some (envX cn cs L a ccd cl :: outer), guards := gd, units := un }
theorem primeT3 : PySem.Challenge.rw_dp0034_01 = PySem.Challenge.rw_dp0034_01 → hd.heap_39 = hd.heap_39 → True := by
  w_on
  k_fill
  intros; trivial
theorem same_okH {w : World} {p : Program} {loose : List Str} {mean : ExcName → Option Value} {mg mb : Str → Option Value}
  (dp un : Nat) (gd : Option (List Code)) (cn : Str) (cs : Scope) (a : Addr) (ccd : Value) (cl : List (Str × Addr)) (outer : List Env) (A₀ : Around) (base h₀ : Heap) (L : Addr) (m : Str → Option Value) (s : Shared) (Q E : Value → Shared → Prop)
  (rest : List (Addr × Obj)) (e : Addr) (oe : Obj) (ws : Array Value) (t d : Addr) (vs : List Value) (n1 n2 : Nat) (len : Nat)
  (B : Below A₀ base outer h₀) (F : Fr h₀ L s.heap m) (X : (hd.heap_39 w.params).In h₀) (N : News h₀ L s.heap rest) (T : Top p loose mean mg mb h₀) (hk : cs.kind = .function)
  (hme : (e, oe) ∈ rest) (hde : oe.data = .fields ws) (hc2 : ws[2]? = some .none)
  (hm1 : (t, W.listOf vs.toArray n1) ∈ rest) (hm2 : (d, W.listOf vs.toArray n2) ∈ rest) (hlen : vs.length = len) (hsm : len ≤ 100) (helt : ∀ v ∈ vs, v = .none ∨ ∃ b, v = .ref b)
  (hdp : dp + 1 < recursionLimit) (hun : un + 8 < cLine)
  (ret : ∀ h' tk', Fr h₀ L h' m → News h₀ L h' rest → Q (.bool true) { s with heap := h', toks := tk' }) :
  wpAny (model PROG w) (ktrH e dp un gd cn cs L a ccd cl outer) (call (.ref 38) [.ref t, .ref d]) Q E s := by
  refine wpAny_call ?_
  k_dflt cell_enter
  k_steps
  · unfold Stop
    refine ListComp_H (F₀ := by k_asm) (by with_unfolding_all rfl) (by decide) (by rfl) (by decide) (by rfl) ?_
    k_steps
    unfold Stop
    refine SrcH.range (by rfl) ?hme hde hc2 (by k_asm) (by k_asm) (by assumption) (small_one (by omega) (by omega) (by omega) (by omega)) (rangeSize_nat _ _) (by rw [PySem.sizeLine_eq]; omega) ?_
    case hme => k_mem
    intro g₁
    refine kci_range (fun l k => l) (fun k' t' I' oI' C' oC' D' m' ys' l' h' tk' E' hlo' hhi' hI₁ hC' hx' F' N' off' ne' hMark' => ?_) ?_ ?_
    · obtain ⟨v, hv⟩ : ∃ v, vs[k'.toNat]? = some v := ⟨_, List.getElem?_eq_getElem (by omega)⟩
      rcases helt v (List.mem_of_getElem? hv) with rfl | ⟨b, rfl⟩
      · k_steps
        exact LCg.CompEnd.intro F' N' _ (fun p hp => hp) off' (by k_mem) ⟨rfl, rfl⟩
      · k_steps
        exact LCg.CompEnd.intro F' N' _ (fun p hp => hp) off' (by k_mem) ⟨rfl, rfl⟩
    · unfold KPfDone
      intro ys₂ hI₂ hl₂ D₂ h₂ tk₂ F₂ N₂ o₂
      have e₂ : ys₂ = [] := by
        have h1 : ∀ (ks : List Int), List.foldl (fun (l : List Int) (_ : Int) => l) [] ks = [] := fun ks => by induction ks <;> simp_all
        rw [h1] at hI₂
        cases hI₂; rfl
      subst e₂
      k_steps
      refine eq_nils (by ktr_units) (News.isList (by assumption) (List.mem_cons_of_mem _ List.mem_cons_self)) (News.isList (by assumption) List.mem_cons_self) ?_
      k_steps
      rename_i kF kN _ _
      exact ret _ _ kF (fun p hp => kN p (by simp only [List.mem_cons]; simp [hp]))
    · intro l k
      dsimp only
      omega
  · exact absurd rfl (by assumption)
end Mine

end

section
open PySem PySem.W PyProof.Rows PySem.Spec PySem.Calls
set_option maxRecDepth 100000
namespace Mine

section
variable {prog : Program} {w : World} {A : Around} {E : Value → Shared → Prop} {s : Shared}

theorem raise_words {α : Type} {cls msg : String} {Q : α → Shared → Prop} (hp : PlainExc cls) (hh : A.handled = none)
    (h : ∀ h' tk e, Heap.MadeExc s.heap h' e cls [.str msg s.toks] → E (.ref e) { s with heap := h', toks := tk }) : wpAny (model prog w) A (raiseErrorWords cls msg : Sem α) Q E s := by
  unfold raiseErrorWords
  refine wpAny_bind (wpAny_mkText (wpAny_bind ?_))
  exact wpAny_newExc_plain hp fun h' e hm => wpAny_raiseNew_none hh (h _ _ _ hm)

theorem getItem_out {l : Addr} {items : Array Value} {k : Int} {t : Tok} {Q : Value → Shared → Prop} (hA : A.handled = none) (hl : s.heap.IsList l items)
    (h0 : 0 ≤ k) (hout : (items.size : Int) ≤ k) (hhi : k < 2 ^ 63)
    (hE : ∀ h' tk e, Heap.MadeExc s.heap h' e "IndexError" [.str "list index out of range" s.toks] → E (.ref e) { s with heap := h', toks := tk }) :
    wpAny (model prog w) A (getItem (.ref l) (.int k t)) Q E s := by
  obtain ⟨o, ho, hc, ne, hd⟩ := id hl
  unfold getItem
  try with_reducible refine wpAny_holding ?_
  first | refine wpAny_bind (wpAny_pure ?_) | skip
  refine wpAny_bind (wpAny_sequenceKey hl.typeIs (by decide) ?_)
  refine wpAny_bind (wpAny_callSpecial?_slot (name := Str.ofString "__getitem__") hl.typeIs slot_list_getitem
    (wpAny_call_entry slot_list_getitem hl.typeIs entry_list_getitem ?_ (args_list_getitem _ _)))
  show wpAny _ _ (Builtin.List.listSubscript? (.int k t) >>= _) _ _ s
  refine wpAny_bind (wpAny_listSubscript_int (fitsIndex_both (by omega) hhi) ?_)
  obtain ⟨j, rfl⟩ := Int.eq_ofNat_of_zero_le h0
  have hx : items[j]? = none := Array.getElem?_eq_none (by omega)
  show wpAny _ _ ((seqItemAt l j >>= fun r => pure (r.map (j, ·))) >>= _) _ _ s
  refine wpAny_bind (wpAny_bind (wpAny_seqItemAt ho hd (wpAny_pure ?_)))
  rw [hx]
  first
    | exact wpAny_bind (wpAny_rule (raise_words plainExc_IndexError hA hE))
    | exact wpAny_bind (wpAny_rule (wpAny_bind (raise_words plainExc_IndexError hA hE)))
    | exact wpAny_bind (wpAny_bind (wpAny_rule (raise_words plainExc_IndexError hA hE)))
    | exact wpAny_rule (raise_words plainExc_IndexError hA hE)

variable {h₀ : Heap} {L D : Addr} {m : Str → Option Value} {news : List (Addr × Obj)} {vs : List Value} {n : Nat} {k : Int} {u : Tok}
theorem lst_out {value slice : PySem.Expr} {Q : Value → Shared → Prop} (hA : A.handled = none) (N : News h₀ L s.heap news) (hm : (D, W.listOf vs.toArray n) ∈ news) (h0 : 0 ≤ k) (hfit : k < 2 ^ 63) (hx : (vs.length : Int) ≤ k)
    (h : ∀ h' tk tw e, Heap.MadeExc s.heap h' e "IndexError" [.str "list index out of range" tw] → E (.ref e) { s with heap := h', toks := tk })
    (hs : subscripted slice false (.ref D) (.int k u) = operate [.ref D, .int k u] (getItem (.ref D) (.int k u)) := by with_unfolding_all rfl) :
    wpAny (model prog w) A (subscriptTail value slice (.ref D) (.int k u)) Q E s :=
  tail_any (PySem.IsL.isList (n := n) (N _ hm).1).typeIs slot_list_getitem.lookup (getItem_out hA (PySem.IsL.isList (n := n) (N _ hm).1) h0 (by rw [List.size_toArray]; exact hx) hfit fun h' tk e x => h h' tk _ e x) hs
theorem sub_out {value slice : PySem.Expr} {Q : Value → Shared → Prop} {its : Array Value} (hA : A.handled = none) (hl : s.heap.IsList D its) (h0 : 0 ≤ k) (hfit : k < 2 ^ 63) (hx : (its.size : Int) ≤ k)
    (h : ∀ h' tk tw e, Heap.MadeExc s.heap h' e "IndexError" [.str "list index out of range" tw] → E (.ref e) { s with heap := h', toks := tk })
    (hs : subscripted slice false (.ref D) (.int k u) = operate [.ref D, .int k u] (getItem (.ref D) (.int k u)) := by with_unfolding_all rfl) :
    wpAny (model prog w) A (subscriptTail value slice (.ref D) (.int k u)) Q E s :=
  tail_any hl.typeIs slot_list_getitem.lookup (getItem_out hA hl h0 hx hfit fun h' tk e x => h h' tk _ e x) hs
end
end Mine

end

section
open PySem PySem.W PyProof.Rows PySem.Spec PySem.Calls
set_option maxRecDepth 100000
set_option maxHeartbeats 4000000
namespace Mine

/-- What an IndexError that left a call has done to the heap `h` of the call. -/
structure Out (fs : List Addr) (h : Heap) (e : Addr) (tw : Tok) (LS : Addr) (h₁ h' : Heap) : Prop where
  keep : ∀ b o, h.get? b = some o → h₁.get? b = some o
  new : h.get? e = none
  self : h.get? LS = none
  there : ∃ o, h₁.get? LS = some o
  args : ∃ t, t ≠ LS ∧ e ≠ LS ∧ h.get? t = none ∧ h₁.get? t = some { cls := .type "tuple", data := .seq [.str "list index out of range" tw].toArray } ∧
    h₁.get? e = some { cls := .type "IndexError", data := .fields #[.ref t, .none, .none, .none, .bool false, .none] } ∧ Fly (LS :: fs) h₁ e (.type "IndexError") #[.ref t, .none, .none, .none, .bool false, .none] .none h'

section
variable {prog : Program} {w : World} {A₀ A : Around} {s : Shared} {base h₀ : Heap} {outer : List Env} {L : Addr} {m : Str → Option Value} {env : Env} {K : Frag} {p : Program} {loose : List Str} {mean : ExcName → Option Value} {mg mb : Str → Option Value}
    {R : Result → Shared → Prop} {name qual : Str} {params : Arguments} {body : List Stmt} {scope : Scope} {dV kV doc pm cdv ct oc : Value} {an od : Option Addr} {osl : Array (Option Value)} {f : Addr} {args : Args} {binds : List (Str × Value)}

theorem code_out (F : Fr h₀ L s.heap m) (X₀ : K.In h₀) (T : Top p loose mean mg mb h₀)
    (ho : K.lookup f = some ⟨oc, od, .func (fnOf name qual params body scope dV kV doc pm an cdv ct), osl⟩) (hcd : codeIn K cdv qual = true) (hroom : A.depth < recursionLimit)
    (hbind : BindsTo s (fnOf name qual params body scope dV kV doc pm an cdv ct) args binds) (hloc : ∀ y ∈ binds.map (·.1), scope.names.lookup y = some .local)
    (h : ∀ L' h₁, Fr s.heap L' h₁ (fun y => binds.reverse.lookup y) → K.In s.heap → Top p loose mean mg mb s.heap →
      wpAny (model prog w) (A.deeper (envOf qual scope L' f cdv)) (execs body (envOf qual scope L' f cdv))
        (fun _ _ => False)
        (fun e s' => wpAny (model prog w) (A.deeper (envOf qual scope L' f cdv)) (leaving (envOf qual scope L' f cdv) e) (fun _ s'' => R (.error e) s'') (fun e' s'' => R (.error e') s'') s')
        { s with heap := h₁, toks := s.toks + binds.length })
    (hcell : ∀ x ∈ scope.names, x.2 ≠ .cell) (hco : scope.isCoroutine = false) (hgen : scope.isGenerator = false) (hk : scope.kind = .function) : codeAny (model prog w) A (.call (.ref f) args) R s := by
  have X := X₀.keeps F.keep
  refine codeAny_call_def (fd := fnOf name qual params body scope dV kV doc pm an cdv ct) (body := body) (binds := binds) hroom (X _ _ ho) rfl (T.nolimit.keeps F.keep) (codeRec_of X hcd) rfl hbind hcell (fun y hy => hloc _ (List.mem_map_of_mem hy)) (fun h₁ hns hk₁ => ?_) hco hgen hk
  exact wpAny_mono (h s.heap.objs.size h₁ ⟨hns, hk₁, Nat.le_refl _⟩ X (T.keeps F.keep)) (fun fl s' hl => hl.elim) fun _ _ y => y

theorem leave_out {E : Value → Shared → Prop} {Q : Unit → Shared → Prop} {h₁ h₂ : Heap} {L' e : Addr} {tw : Tok} {m' : Str → Option Value} {tk : Nat} {env' : Env} (B : Below A₀ base outer h₀) (F : Fr h₀ L s.heap m) (hA : A.frames = some (env :: outer)) (hf : env.frame = some L) (hke : env.scope.kind = .function)
    (F' : Fr s.heap L' h₁ m') (hf' : env'.frame = some L') (hke' : env'.scope.kind = .function) (x : Heap.MadeExc h₁ h₂ e "IndexError" [.str "list index out of range" tw])
    (h : ∀ h', Out ((env :: outer).filterMap (·.frame)) s.heap e tw L' h₂ h' → Q () { s with heap := h', toks := tk }) :
    wpAny (model prog w) (A.deeper env') (leaving env' (.ref e)) Q E { s with heap := h₂, toks := tk } := by
  have B₁ := pushX B F hf hke
  have B₁' : Below A base (env :: outer) s.heap := ⟨hA, B₁.stays, B₁.frames⟩
  have B₂ := pushX B₁' F' hf' hke'
  obtain ⟨t, he, htn, ht⟩ := x.there
  have fr : h₂.FunFrames base (env' :: env :: outer) := B₂.frames.of_keeps fun b o hb _ => ⟨o, x.keeps b o hb, rfl⟩
  have efs : (env' :: env :: outer).filterMap (·.frame) = L' :: (env :: outer).filterMap (·.frame) := by rw [List.filterMap_cons, hf']
  refine leave_first (s := { s with heap := h₂, toks := tk }) (fs := L' :: (env :: outer).filterMap (·.frame)) (base := base) B₂.stack fr hf' (fun b hb => efs ▸ hb) (fun b hb => ?_) he rfl (fun hm => ?_) rfl fun h' hF => ?_
  · obtain ⟨_, o, ho, _⟩ := fr.mem (efs ▸ hb)
    exact ⟨o, ho⟩
  · obtain ⟨_, o, ho, hd⟩ := fr.mem (efs ▸ hm)
    rw [he] at ho
    cases ho
    exact hd _ rfl
  · have up : ∀ b o, s.heap.get? b = some o → h₂.get? b = some o := fun b o q => x.keeps b o (F'.keep b o q)
    have dn : ∀ b, h₁.get? b = none → s.heap.get? b = none := fun b q => by
      cases z : s.heap.get? b with
      | none => rfl
      | some o => have := F'.keep b o z; rw [q] at this; cases this
    obtain ⟨o, _, _, ho, _⟩ := F'.ns
    refine h h' ⟨up, dn e x.new, kts_self F', ⟨o, x.keeps _ _ ho⟩, t, fun q => ?_, fun q => ?_, dn t htn, ht, he, hF⟩
    · rw [← q, htn] at ho
      cases ho
    · rw [← q, x.new] at ho
      cases ho
end

local macro_rules | `(tactic| walk_at "subscriptTail Name Name ref int") => `(tactic| refine stop_at ?_)
theorem primeT5 : PySem.Challenge.rw_dp0034_01 = PySem.Challenge.rw_dp0034_01 → hd.heap_39 = hd.heap_39 → True := by
  w_on
  k_fill
  intros; trivial
theorem out21 {w : World} {p : Program} {loose : List Str} {mean : ExcName → Option Value} {mg mb : Str → Option Value}
  (dp un : Nat) (gd : Option (List Code)) (cn : Str) (cs : Scope) (a : Addr) (ccd : Value) (cl : List (Str × Addr)) (outer : List Env) (A₀ : Around) (base h₀ : Heap) (L : Addr) (m : Str → Option Value) (s : Shared) (Q E : Value → Shared → Prop)
  (t : Addr) (vs : Array Value) (start : Int) (tk1 tk2 : Tok) (len : Nat)
  (B : Below A₀ base outer h₀) (F : Fr h₀ L s.heap m) (X : (hd.heap_39 w.params).In h₀) (T : Top p loose mean mg mb h₀) (hk : cs.kind = .function)
  (hl : s.heap.IsList t vs) (hlen : vs.size = len) (hsm : len ≤ 100)
  (hdp : dp + 1 < recursionLimit) (hun : un + 8 < cLine)
  (ret : ∀ h₁ h' e tw LS tk', Out ((envX cn cs L a ccd cl :: outer).filterMap (·.frame)) s.heap e tw LS h₁ h' → E (.ref e) { s with heap := h', toks := tk' }) :
  wpAny (model PROG w) (ktrTop dp un gd cn cs L a ccd cl outer) (call (.ref 21) [.ref t, .int start tk1, .int (len : Int) tk2]) Q E s := by
  refine wpAny_call ?_
  refine' code_out ?k2 ?k3 ?k5 ?k6 ?k7 ?k8 ?k9 ?kB ?_ ?c1 ?c2 ?c3 ?c4
  case k2 => k_asm
  case k3 => k_asm
  case k5 => k_asm
  case k6 => k_is
  case k7 => k_is
  case k8 => ktr_room
  case k9 => exact BindsTo.of_eq rfl
  case kB =>
    show ∀ y ∈ [Str.ofString "heap", Str.ofString "startpos", Str.ofString "pos"], _
    decide
  case c1 => decide
  case c2 => rfl
  case c3 => rfl
  case c4 => rfl
  intro L' h₁ F' X' T'
  clear X T
  (try dsimp only)
  (try k_fold)
  k_steps
  unfold Stop
  obtain ⟨ol, hol, rl⟩ := id hl
  refine sub_out rfl ⟨ol, F'.keep _ _ hol, rl⟩ (by omega) (by omega) (by omega) (fun h₂ tk₂ tw e x => ?_)
  show wpAny _ _ (leaving _ _) _ _ _
  refine leave_out (s := s) (env := envX cn cs L a ccd cl) B F rfl rfl hk F' rfl rfl x fun h' y => ?_
  exact ret _ _ _ _ _ _ y
theorem out28 {w : World} {p : Program} {loose : List Str} {mean : ExcName → Option Value} {mg mb : Str → Option Value}
  (dp un : Nat) (gd : Option (List Code)) (cn : Str) (cs : Scope) (a : Addr) (ccd : Value) (cl : List (Str × Addr)) (outer : List Env) (A₀ : Around) (base h₀ : Heap) (L : Addr) (m : Str → Option Value) (s : Shared) (Q E : Value → Shared → Prop)
  (t : Addr) (vs : Array Value) (start : Int) (tk1 tk2 : Tok) (len : Nat)
  (B : Below A₀ base outer h₀) (F : Fr h₀ L s.heap m) (X : (hd.heap_39 w.params).In h₀) (T : Top p loose mean mg mb h₀) (hk : cs.kind = .function)
  (hl : s.heap.IsList t vs) (hlen : vs.size = len) (hsm : len ≤ 100)
  (hdp : dp + 1 < recursionLimit) (hun : un + 8 < cLine)
  (ret : ∀ h₁ h' e tw LS tk', Out ((envX cn cs L a ccd cl :: outer).filterMap (·.frame)) s.heap e tw LS h₁ h' → E (.ref e) { s with heap := h', toks := tk' }) :
  wpAny (model PROG w) (ktrTop dp un gd cn cs L a ccd cl outer) (call (.ref 28) [.ref t, .int start tk1, .int (len : Int) tk2]) Q E s := by
  refine wpAny_call ?_
  refine' code_out ?k2 ?k3 ?k5 ?k6 ?k7 ?k8 ?k9 ?kB ?_ ?c1 ?c2 ?c3 ?c4
  case k2 => k_asm
  case k3 => k_asm
  case k5 => k_asm
  case k6 => k_is
  case k7 => k_is
  case k8 => ktr_room
  case k9 => exact BindsTo.of_eq rfl
  case kB =>
    show ∀ y ∈ [Str.ofString "heap", Str.ofString "startpos", Str.ofString "pos"], _
    decide
  case c1 => decide
  case c2 => rfl
  case c3 => rfl
  case c4 => rfl
  intro L' h₁ F' X' T'
  clear X T
  (try dsimp only)
  (try k_fold)
  k_steps
  unfold Stop
  obtain ⟨ol, hol, rl⟩ := id hl
  refine sub_out rfl ⟨ol, F'.keep _ _ hol, rl⟩ (by omega) (by omega) (by omega) (fun h₂ tk₂ tw e x => ?_)
  show wpAny _ _ (leaving _ _) _ _ _
  refine leave_out (s := s) (env := envX cn cs L a ccd cl) B F rfl rfl hk F' rfl rfl x fun h' y => ?_
  exact ret _ _ _ _ _ _ y
end Mine

end

section
open PySem PySem.W PyProof.Rows PySem.Spec PySem.Calls
set_option maxRecDepth 100000
set_option maxHeartbeats 4000000
namespace Mine

section
variable {A₀ A : Around} {base g h h₁ h₆ : Heap} {outer : List Env} {L e t LS : Addr} {m : Str → Option Value} {env : Env} {news : List (Addr × Obj)} {fl : Value} {vs : Array Value} {c : Value}

theorem out_ground {oL : Obj} (B : Below A₀ base outer g) (F : Fr g L h m) (N : News g L h news) (hf : env.frame = some L) (hup : ∀ b o, h.get? b = some o → h₁.get? b = some o) (hLS : h.get? LS = none) (hen : h.get? e = none) (hLSe : h₁.get? LS = some oL)
    (x : Fly (LS :: (env :: outer).filterMap (·.frame)) h₁ e c vs fl h₆) :
    ∃ g', KtsTurn (outer.filterMap (·.frame)) g g' ∧ Fr g' L h₆ m ∧ News g' L h₆ news ∧ Below A₀ base outer g' := by
  have efs : (env :: outer).filterMap (·.frame) = L :: outer.filterMap (·.frame) := by rw [List.filterMap_cons, hf]
  rw [efs] at x
  have gk : ∀ b o, g.get? b = some o → h₁.get? b = some o := fun b o q => hup b o (F.keep b o q)
  have ne : ∀ b o, h.get? b = some o → b ≠ e := fun b o q z => by rw [z, hen] at q; cases q
  have nS : ∀ b o, h.get? b = some o → b ≠ LS := fun b o q z => by rw [z, hLS] at q; cases q
  have nL : ∀ b o, g.get? b = some o → b ≠ L := fun b o q z => by rw [z, kts_self F] at q; cases q
  obtain ⟨T, S⟩ := kts_turn_at (h := h₆) (fs := outer.filterMap (·.frame)) (g := g)
    (fun b hb => by
      obtain ⟨_, o, ho, _⟩ := B.frames.mem hb
      exact ⟨o, ho⟩)
    (fun b o q nm => x.keep b o (gk b o q) (fun hm => by
      rcases List.mem_cons.mp hm with z | hm
      · exact nS b o (F.keep b o q) z
      · rcases List.mem_cons.mp hm with z | hm
        · exact nL b o q z
        · exact nm hm) (ne b o (F.keep b o q)))
    (fun b o q hm => x.slot b o (gk b o q) (List.mem_cons_of_mem _ (List.mem_cons_of_mem _ hm)))
  refine ⟨_, T, ⟨?_, S, by rw [T.size]; exact F.above⟩, fun p hp => ⟨x.keep _ _ (hup _ _ (N p hp).1) (fun hm => ?_) (ne _ _ (N p hp).1), (N p hp).2.1, T.none_ _ (N p hp).2.2⟩, ⟨B.stack, fun b o q => T.other b o (B.stays b o q) (fun hm => by
    rw [(B.frames.mem hm).1] at q
    cases q), B.frames.of_keeps fun b o q _ => ?_⟩⟩
  · obtain ⟨o, es, ep, ho, hd, r⟩ := F.ns
    obtain ⟨sl, hs⟩ := x.slot L o (hup _ _ ho) (List.mem_cons_of_mem _ List.mem_cons_self)
    exact ⟨_, es, ep, hs, hd, r⟩
  · rcases List.mem_cons.mp hm with z | hm
    · exact nS _ _ (N p hp).1 z
    · rcases List.mem_cons.mp hm with z | hm
      · exact (N p hp).2.1 z
      · obtain ⟨_, o, ho, _⟩ := B.frames.mem hm
        rw [(N p hp).2.2] at ho
        cases ho
  · obtain ⟨sl, hs⟩ := T.up q
    exact ⟨_, hs, rfl⟩
end

section
variable {prog : Program} {w : World} {A₀ A : Around} {E : Value → Shared → Prop} {s : Shared} {base g h₁ h' : Heap} {outer : List Env} {L a e LS : Addr} {tw : Tok} {m : Str → Option Value} {cn : Str} {cs : Scope} {ccd : Value} {cl : List (Str × Addr)}
  {n : Str} {b₀ : Stmt} {suite : List Stmt} {pos np : Pos} {hrest : List ExceptHandler} {Q : Flow → Shared → Prop} {news : List (Addr × Obj)} {KF : Frag} {tk : Nat}
  {p : Program} {loose : List Str} {mean : ExcName → Option Value} {mg mb : Str → Option Value}

theorem caught_out (B : Below A₀ base outer g) (hA : A.frames = some (envX cn cs L a ccd cl :: outer)) (F : Fr g L s.heap m) (N : News g L s.heap news) (XB : KF.In base) (TB : Top p loose mean mg mb base)
    (O : Out ((envX cn cs L a ccd cl :: outer).filterMap (·.frame)) s.heap e tw LS h₁ h')
    (ex : nsIn KF mainGlobals (Str.ofString "IndexError") = some none) (hv : bootBuiltins (Str.ofString "IndexError") = some (.type "IndexError"))
    (hexc : isSubtype (.type "IndexError") (.type "BaseException") = pure true) (hnt : isSubtype (.type ((Manifest.find? "IndexError").elim "type" fun y => y.metatype)) (.type "tuple") = pure false) (hsub : isSubtype (.type "IndexError") (.type "IndexError") = pure true)
    (k : ∀ h₇ g' t oe ot ws nt tk₇ E', KtsTurn (outer.filterMap (·.frame)) g g' → Fr g' L h₇ (fun y => if y = n then some (.ref e) else m y) → News g' L h₇ ((e, oe) :: (t, ot) :: news) → oe.cls = .type "IndexError" → oe.data = .fields ws → ws[0]? = some (.ref t) → ws[2]? = some .none →
      ot.cls = .type "tuple" → ot.data = .seq [Value.str "list index out of range" tw].toArray nt → Below A₀ base outer g' → KF.In g' → Top p loose mean mg mb g' → (@Ne Nat e t) → (∀ p ∈ news, (@Ne Nat p.1 e) ∧ (@Ne Nat p.1 t)) →
      wpAny (model prog w) (A.mark (some (.ref e))) (execs (b₀ :: suite) (envX cn cs L a ccd cl))
        (fun f s₄ => ∃ m₄ news₄, Fr g' L s₄.heap m₄ ∧ News g' L s₄.heap news₄ ∧ ∀ h'' m'', Fr g' L h'' m'' → News g' L h'' news₄ → Q f { s₄ with heap := h'', toks := s₄.toks + 1 }) E' { s with heap := h₇, toks := tk₇ })
    (hk : cs.kind = .function) (hlo : (envX cn cs L a ccd cl).kindOf n = some .local) (hx : (envX cn cs L a ccd cl).kindOf (Str.ofString "IndexError") = some .globalImplicit) :
    wpAny (model prog w) A (noteFrame (.ref e) (envX cn cs L a ccd cl))
      (fun _ s₂ => wpAny (model prog w) A (setFlight (.ref e) none) (fun _ s₃ =>
        wpAny (model prog w) A (handleBy (.ref e) (envX cn cs L a ccd cl) (.ExceptHandler (some (.Name (Str.ofString "IndexError") np)) (some n) (b₀ :: suite) pos :: hrest)) Q E s₃) E s₂) E { s with heap := h', toks := tk } := by
  obtain ⟨hup, hen, hLS, ⟨oL, hLSe⟩, t, htLS, heLS, htn, ht, he, x⟩ := O
  have B₁ := pushX (env := envX cn cs L a ccd cl) B F rfl hk
  have fr : h₁.FunFrames base (envX cn cs L a ccd cl :: outer) := B₁.frames.of_keeps fun b o hb _ => ⟨o, hup b o hb, rfl⟩
  have hfs : ∀ b ∈ (envX cn cs L a ccd cl :: outer).filterMap (·.frame), b ∈ LS :: (envX cn cs L a ccd cl :: outer).filterMap (·.frame) := fun b hb => List.mem_cons_of_mem _ hb
  have henf : e ∉ LS :: (envX cn cs L a ccd cl :: outer).filterMap (·.frame) := fun hm => by
    rcases List.mem_cons.mp hm with z | hm
    · exact heLS z
    · obtain ⟨_, o, ho, hd⟩ := fr.mem hm
      rw [he] at ho
      cases ho
      exact hd _ rfl
  have htf : t ∉ LS :: (envX cn cs L a ccd cl :: outer).filterMap (·.frame) := fun hm => by
    rcases List.mem_cons.mp hm with z | hm
    · exact htLS z
    · obtain ⟨_, o, ho, _⟩ := B₁.frames.mem hm
      rw [htn] at ho
      cases ho
  have hfs₁ : ∀ b ∈ LS :: (envX cn cs L a ccd cl :: outer).filterMap (·.frame), ∃ o, h₁.get? b = some o := fun b hb => by
    rcases List.mem_cons.mp hb with z | hb
    · exact ⟨_, z ▸ hLSe⟩
    · obtain ⟨_, o, ho, _⟩ := fr.mem hb
      exact ⟨o, ho⟩
  have hte : t ≠ e := fun q => by
    rw [q, he] at ht
    injection ht with ht
    injection ht with z1 z2 z3
    cases z3
  refine note_next (s := { s with heap := h', toks := tk }) (base := base) hA fr rfl hfs he rfl henf (by simp) x hfs₁ fun h₃ x₃ => ?_
  refine note_set (s := { s with heap := h₃, toks := tk }) he (by simp) hfs₁ x₃ fun h₅ x₅ => ?_
  obtain ⟨g₅, T₅, F₅, N₅, B₅⟩ := out_ground (env := envX cn cs L a ccd cl) B F N rfl hup hLS hen hLSe x₅
  have X₅ : KF.In g₅ := XB.keeps B₅.stays
  have P₅ : TopRead p loose mg mb g₅ := topRead_of (TB.keeps B₅.stays)
  obtain ⟨oe₅, T₅', _, _, hoe₅, hoc₅, _⟩ := x₅.exc
  refine wpAny_handleBy_builtin_as (X := "IndexError") (T := "IndexError") (b := true) hexc hnt hsub (nameX_B (s := { s with heap := h₅, toks := tk }) F₅ X₅ P₅ ex hv (by decide) ⟨rfl, ⟨oe₅, hoe₅, hoc₅⟩, ?_⟩ hk hx (by decide))
  rw [if_pos rfl]
  refine note_set (s := { s with heap := h₅, toks := tk }) he (by simp) hfs₁ x₅ fun h₆ x₆ => ?_
  obtain ⟨g₆, T₆, F₆, N₆, B₆⟩ := out_ground (env := envX cn cs L a ccd cl) B F N rfl hup hLS hen hLSe x₆
  obtain ⟨oe, T₆', _, _, hoe, hoc, hod, _⟩ := x₆.exc
  have ht₆ := x₆.keep t _ ht htf hte
  have dn : ∀ b, s.heap.get? b = none → g₆.get? b = none := fun b q => T₆.none_ _ (by
    cases z : g.get? b with
    | none => rfl
    | some o => have := F.keep b o z; rw [q] at this; cases this)
  have hLe : ∀ b, s.heap.get? b = none → b ≠ L := fun b q z => by
    obtain ⟨o, _, _, ho, _⟩ := F.ns
    rw [← z, q] at ho
    cases ho
  have N₆' : News g₆ L h₆ ((e, oe) :: (t, _) :: news) := fun q hq => by
    rcases List.mem_cons.mp hq with rfl | hq
    · exact ⟨hoe, hLe _ hen, dn _ hen⟩
    · rcases List.mem_cons.mp hq with rfl | hq
      · exact ⟨ht₆, hLe _ htn, dn _ htn⟩
      · exact N₆ q hq
  refine storeX_L (s := { s with heap := h₆, toks := tk }) F₆ N₆' (fun h₇ F₇ N₇ => ?_) hk hlo
  refine wpAny_mono (k h₇ g₆ t oe _ _ _ _ _ T₆ F₇ N₇ hoc hod rfl rfl rfl rfl B₆ (XB.keeps B₆.stays) (TB.keeps B₆.stays) (Ne.symm hte) (fun p hp => ⟨fun z => ?_, fun z => ?_⟩)) (fun f s₄ h₄ => ?_) fun _ _ y => y
  · have := (N p hp).1
    rw [show p.1 = e from z, hen] at this
    cases this
  · have := (N p hp).1
    rw [show p.1 = t from z, htn] at this
    cases this
  · obtain ⟨m₄, news₄, F₄, N₄, k₄⟩ := h₄
    refine wpAny_nameGoes (env := envX cn cs L a ccd cl) hlo F₄.ns (by show (cs.kind == .class || (cs.kind == .module && L != mainGlobals)) = false; rw [hk]; rfl) fun h'' m'' hn hs => ?_
    exact k₄ h'' m'' (F₄.set hn hs) (N₄.set hs)
end
end Mine

end

section
open PySem PySem.W PyProof.Rows PySem.Spec PySem.Calls
set_option maxRecDepth 100000
set_option maxHeartbeats 4000000
namespace Mine

section
variable {prog : Program} {w : World} {A₀ A : Around} {s : Shared} {base h₀ : Heap} {L : Addr} {m : Str → Option Value} {env : Env} {news : List (Addr × Obj)} {K : Frag} {p : Program} {loose : List Str} {mean : ExcName → Option Value} {mg mb : Str → Option Value}
  {R : Result → Shared → Prop} {name qual : Str} {params : Arguments} {body : List Stmt} {scope : Scope} {dV kV doc pm cdv ct oc : Value} {an od : Option Addr} {osl : Array (Option Value)} {f : Addr} {args : Args} {binds : List (Str × Value)}


theorem code_defSC0 (B : Below A₀ base [] h₀) (F : Fr h₀ L s.heap m) (X₀ : K.In h₀) (N : News h₀ L s.heap news) (T : Top p loose mean mg mb h₀) (hA : A.frames = some [env]) (hf : env.frame = some L) (hke : env.scope.kind = .function)
    (ho : K.lookup f = some ⟨oc, od, .func (fnOf name qual params body scope dV kV doc pm an cdv ct), osl⟩) (hcd : codeIn K cdv qual = true) (hroom : A.depth < recursionLimit)
    (hbind : BindsTo s (fnOf name qual params body scope dV kV doc pm an cdv ct) args binds) (hkind : (binds.all fun y => scope.names.lookup y.1 == some .local || scope.names.lookup y.1 == some .cell) = true)
    (hnd : ((cellsFrom 0 scope.names []).map (·.1)).Nodup)
    (h : ∀ g L' h₁ tk cells, Fr h₀ L g m → Fr g L' h₁ (bindL (envOfC qual scope L' f cdv).kindOf binds fun _ => none) → News g L' h₁ (cells ++ news) →
      CellsAre (bindC (envOfC qual scope L' f cdv).kindOf binds fun _ => none) (cellsFrom (L' + 1) scope.names []) cells → Below A base [env] g → K.In g → Top p loose mean mg mb g → (∀ p ∈ news, p.1 < L') →
      wpAny (model prog w) (A.deeper (envOfC qual scope L' f cdv)) (execs body (envOfC qual scope L' f cdv))
        (fun fl s' => LeaveS0 ([env].filterMap (·.frame)) h₀ L m g R (match fl with | .ret v => v | _ => .none) s')
        (fun e s' => wpAny (model prog w) (A.deeper (envOfC qual scope L' f cdv)) (leaving (envOfC qual scope L' f cdv) e) (fun _ s'' => R (.error e) s'') (fun e' s'' => R (.error e') s'') s')
        { s with heap := h₁, toks := tk })
    (hco : scope.isCoroutine = false) (hgen : scope.isGenerator = false) (hk : scope.kind = .function) : codeAny (model prog w) A (.call (.ref f) args) R s := by
  have X := X₀.keeps F.keep
  obtain ⟨FG, BG, st, _⟩ := groundX (R := R) B F N hA hf hke
  refine codeAny_call_function hroom (X _ _ ho) rfl hco hgen rfl (codeRec_of X hcd) (hbind _ _ _ _ ?_)
  refine wpAny_newFunctionEnv_cells hk (kindsX hkind _) fun env' he s' x => ?_
  subst he
  refine ⟨(T.nolimit.keeps F.keep).keeps x.toInCall.keep, codeAny_func ?_⟩
  obtain ⟨h₁, tk, rfl, _⟩ := x.done
  have hk₁ := x.toInCall.keep
  obtain ⟨cells, NC, Y⟩ := Cl.news (h₀ := s.heap) (Nat.le_refl _) fun n c hm => ⟨x.cell n c (lookup_of_mem_nodup (cellsFrom_names scope.names 0 (s.heap.objs.size + 1) [] [] rfl ▸ hnd) hm), x.above n c hm⟩
  refine wpAny_mono (h _ s.heap.objs.size h₁ tk cells FG ⟨x.toInCall.ns, fun b o e => hk₁ b o (of_hideAll _ e), Nat.le_of_eq (hideAll_size _ _)⟩ (fun p hp => ?_) Y BG (X₀.keeps st) (T.keeps st) (fun p hp => Heap.lt_size (N p hp).1)) (fun fl s' hl => ?_) fun _ _ y => y
  · rcases List.mem_append.mp hp with hp | hp
    · refine ⟨(NC p hp).1, (NC p hp).2.1, ?_⟩
      cases q : (hideAll s.heap (news.map (·.1))).get? p.1 with
      | none => rfl
      | some o => have := of_hideAll _ q; rw [(NC p hp).2.2] at this; cases this
    · exact ⟨hk₁ _ _ (N p hp).1, Nat.ne_of_lt (Heap.lt_size (N p hp).1), hideAll_none _ (List.mem_map_of_mem hp)⟩
  · obtain ⟨g', L', m', news', T', F', N', k⟩ := hl
    have nL₀ : h₀.get? L = none := kts_self F
    obtain ⟨oL, es, ep, hLg, hLd, hLr⟩ := FG.ns
    obtain ⟨sl, hs⟩ := T'.up hLg
    refine k ⟨⟨_, es, ep, F'.keep _ _ hs, hLd, hLr⟩, fun b o e => F'.keep b o (T'.other b o (st b o e) (fun q => ?_)), F.above⟩ fun p hp => ⟨(N' p hp).1, fun q => ?_, ?_⟩
    · have z : b = L := by
        rw [List.filterMap_cons, hf] at q
        simpa using q
      rw [z, nL₀] at e
      cases e
    · have := (N' p hp).2.2; rw [q, hs] at this; cases this
    · cases q : h₀.get? p.1 with
      | none => rfl
      | some o =>
        obtain ⟨sl', hs'⟩ := T'.up (st _ _ q)
        have := (N' p hp).2.2
        rw [hs'] at this
        cases this
end
end Mine

end

section
open PySem PySem.W PyProof.Rows
set_option maxRecDepth 100000
set_option maxHeartbeats 4000000
namespace Mine
local macro_rules | `(tactic| cell_enter) => `(tactic| (refine' code_defC ?k1 ?k2 ?k3 ?k4 ?k5 ?kA ?kF ?kK ?k6 ?k7 ?k8 ?k9 ?kB ?kD ?_ ?c2 ?c3 ?c4; (case kA => exact rfl); (case kF => exact rfl); (case kK => assumption); (case k1 => k_asm); (case k2 => k_asm); (case k3 => k_asm); (case k4 => k_asm); (case k5 => k_asm); (case k6 => k_is); (case k7 => k_is); (case k8 => ktr_room); (case k9 => exact BindsTo.of_eq rfl); (case kB => exact rfl); (case kD => decide +kernel); (case c2 => exact rfl); (case c3 => exact rfl); (case c4 => exact rfl); k_whole; intro g' L' h' tk' cells' FG' F' N' Y' B' X' T' l1; k_cells Y'; (try simp only [List.cons_append, List.nil_append] at N'); (try dsimp only); (try k_fold)))
local macro_rules | `(tactic| k_all) => `(tactic| assumption)
local macro_rules | `(tactic| walk_at "call builtin:len") => `(tactic| (k_here; (with_reducible show wpAny _ _ (call (Value.builtin "len") [Value.ref _]) _ _ _); k_dflt (refine' lst_len ?k1 ?k2 ?k3 ?k4 ?_; (case k1 => k_asm); (case k2 => k_mem); (case k3 => with_reducible assumption); (case k4 => omega); k_whole)))
local macro_rules | `(tactic| walk_at "subscriptTail Name Name ref int") => `(tactic| (k_here; (with_reducible show wpAny _ _ (subscriptTail _ _ (Value.ref _) (Value.int _ _)) _ _ _); k_dflt (refine' lst_sub ?k1 ?k2 ?k4 ?k5 ?k6 ?_ ?k7; (case k1 => k_asm); (case k2 => k_mem); (case k6 => assumption); (case k4 => first | omega | with_reducible assumption); (case k5 => first | omega | with_reducible assumption); (case k7 => with_unfolding_all rfl); k_whole)))
local macro_rules | `(tactic| walk_at "subscriptTail Name Subscript ref int") => `(tactic| (k_here; (with_reducible show wpAny _ _ (subscriptTail _ _ (Value.ref _) (Value.int _ _)) _ _ _); k_dflt (refine' lst_sub ?k1 ?k2 ?k4 ?k5 ?k6 ?_ ?k7; (case k1 => k_asm); (case k2 => k_mem); (case k6 => assumption); (case k4 => first | omega | with_reducible assumption); (case k5 => first | omega | with_reducible assumption); (case k7 => with_unfolding_all rfl); k_whole)))
local macro_rules | `(tactic| walk_at "subscriptTail Name BinOp ref int") => `(tactic| (k_here; (with_reducible show wpAny _ _ (subscriptTail _ _ (Value.ref _) (Value.int _ _)) _ _ _); k_dflt (refine' lst_sub ?k1 ?k2 ?k4 ?k5 ?k6 ?_ ?k7; (case k1 => k_asm); (case k2 => k_mem); (case k6 => assumption); (case k4 => first | omega | with_reducible assumption); (case k5 => first | omega | with_reducible assumption); (case k7 => with_unfolding_all rfl); k_whole)))
local macro_rules | `(tactic| k_mem) => `(tactic| first | exact List.mem_cons_self | (refine List.mem_cons_of_mem _ ?_; k_mem) | assumption)
local macro_rules | `(tactic| walk_at "exec For Name Call cons nil") => `(tactic| (k_dflt (refine For_range ?_)))
local macro_rules | `(tactic| walk_at "pyIter ref") => `(tactic| refine stop_at ?_)
local macro_rules | `(tactic| walk_at "eval Name") => `(tactic| (k_here; (with_reducible show wpAny _ _ (eval (Expr.Name _ _) (envOfC _ _ _ _ _)) _ _ _); k_dflt (refine' nameX_L ?F ?v ?_ ?a ?b; (case F => k_asm); (case a => rfl); (case b => rfl); (case v => assumption); k_whole)))
local macro_rules | `(tactic| walk_at "exec Assign cons ListComp") => `(tactic| refine stop_at ?_)
local macro_rules | `(tactic| walk_at "CompSrcT") => `(tactic| refine stop_at ?_)
local macro_rules | `(tactic| walk_at "CompSrc") => `(tactic| refine stop_at ?_)
local macro_rules | `(tactic| walk_at "callWith ref") => `(tactic| (k_here; k_dflt (refine' callWith_F ?k1 ?_; (case k1 => first | exact fnAt_keep (by k_asm) (by with_reducible assumption) | exact FnAt.of (by k_asm) (by with_reducible k_mem)); k_whole)))
local macro_rules | `(tactic| walk_at "And") => `(tactic| ((with_reducible show FnAt _ _ ∧ _); refine ⟨by first | exact fnAt_keep (by k_asm) (by with_reducible assumption) | exact FnAt.of (by k_asm) (by with_reducible k_mem), ?_⟩; try dsimp only [List.nil_append, List.cons_append]))
local macro_rules | `(tactic| walk_at "call type:list") => `(tactic| (k_here; (with_reducible show wpAny _ _ (call (Value.type _) [Value.ref _]) _ _ _); k_dflt (refine' lst_copy ?k1 ?k2 ?k3 ?k4 ?_; (case k1 => k_asm); (case k2 => k_asm); (case k3 => k_mem); (case k4 => omega); k_whole); intro D' c' h' F' N' l1; (try k_sweep)))
local macro_rules | `(tactic| walk_at "setItem ref int") => `(tactic| (k_here; k_dflt (refine' lst_set ?k1 ?k2 ?k3 ?k4 ?k5 ?k6 ?_; (case k1 => k_asm); (case k2 => k_asm); (case k3 => k_upd); (case k4 => first | omega | with_reducible assumption); (case k5 => first | omega | with_reducible assumption); (case k6 => first | omega | with_reducible assumption); k_whole); intro h' F' N'; (try k_sweep)))

theorem primeT8 : PySem.Challenge.rw_dp0034_01 = PySem.Challenge.rw_dp0034_01 → hd.heap_39 = hd.heap_39 → True := by
  w_on
  k_fill
  intros; trivial
theorem out_any {w : World} {p : Program} {loose : List Str} {mean : ExcName → Option Value} {mg mb : Str → Option Value}
  (dp un : Nat) (gd : Option (List Code)) (cn : Str) (cs : Scope) (a : Addr) (ccd : Value) (cl : List (Str × Addr)) (outer : List Env) (A₀ : Around) (base h₀ : Heap) (L : Addr) (m : Str → Option Value) (s : Shared) (Q E : Value → Shared → Prop)
  (t : Addr) (vs : Array Value) (start : Int) (tk1 tk2 : Tok) (len : Nat) (f : Addr) (hf : f = 21 ∨ f = 28)
  (B : Below A₀ base outer h₀) (F : Fr h₀ L s.heap m) (X : (hd.heap_39 w.params).In h₀) (T : Top p loose mean mg mb h₀) (hk : cs.kind = .function)
  (hl : s.heap.IsList t vs) (hlen : vs.size = len) (hsm : len ≤ 100)
  (hdp : dp + 1 < recursionLimit) (hun : un + 8 < cLine)
  (ret : ∀ h₁ h' e tw LS tk', Out ((envX cn cs L a ccd cl :: outer).filterMap (·.frame)) s.heap e tw LS h₁ h' → E (.ref e) { s with heap := h', toks := tk' }) :
  wpAny (model PROG w) (ktrTop dp un gd cn cs L a ccd cl outer) (call (.ref f) [.ref t, .int start tk1, .int (len : Int) tk2]) Q E s := by
  rcases hf with rfl | rfl
  · exact out21 dp un gd cn cs a ccd cl outer A₀ base h₀ L m s Q E t vs start tk1 tk2 len B F X T hk hl hlen hsm hdp hun ret
  · exact out28 dp un gd cn cs a ccd cl outer A₀ base h₀ L m s Q E t vs start tk1 tk2 len B F X T hk hl hlen hsm hdp hun ret

local macro_rules | `(tactic| walk_at "call ref") => `(tactic| refine stop_at ?_)
local macro_rules | `(tactic| walk_at "call type:str") => `(tactic| refine stop_at ?_)
local macro_rules | `(tactic| walk_at "exec Try") => `(tactic| refine stop_at ?_)
theorem tailD {w : World} {p : Program} {loose : List Str} {mean : ExcName → Option Value} {mg mb : Str → Option Value}
  (dp un : Nat) (gd : Option (List Code)) (outer : List Env) (A₀ : Around) (base h₀ : Heap) (L : Addr) (m : Str → Option Value) (s : Shared) (Q : Flow → Shared → Prop) (E : Value → Shared → Prop)
  (rest : List (Addr × Obj)) (rw nb : Addr) (rvs : List Value) (n1 : Nat) (len : Nat) (f fA : Addr) (o1 o2 o3 o4 o5 o6 : Obj) (v1 v2 v3 v4 : Option Value)
  (B : Below A₀ base outer h₀) (F : Fr h₀ L s.heap m) (X : (hd.heap_39 w.params).In h₀) (T : Top p loose mean mg mb h₀)
  (N : News h₀ L s.heap ((L + 1 + 1 + 1 + 1 + 1 + 1, o1) :: (L + 1 + 1 + 1 + 1 + 1, o2) :: (L + 1 + 1 + 1 + 1, o3) :: (L + 1 + 1 + 1, o4) :: (L + 1 + 1, o5) :: (L + 1, o6) :: rest))
  (d1 : o1.data = .cell v1) (d2 : o2.data = .cell v2) (d3 : o3.data = .cell v3) (d4 : o4.data = .cell v4) (d5 : o5.data = .cell (some (.ref fA))) (d6 : o6.data = .cell (some (.ref rw)))
  (z1 : ∀ p ∈ rest, p.1 ≠ L + 1) (z2 : ∀ p ∈ rest, p.1 ≠ L + 1 + 1) (z3 : ∀ p ∈ rest, p.1 ≠ L + 1 + 1 + 1) (z4 : ∀ p ∈ rest, p.1 ≠ L + 1 + 1 + 1 + 1) (z5 : ∀ p ∈ rest, p.1 ≠ L + 1 + 1 + 1 + 1 + 1) (z6 : ∀ p ∈ rest, p.1 ≠ L + 1 + 1 + 1 + 1 + 1 + 1)
  (e1 : m (Str.ofString "numbers") = some (.ref nb)) (e2 : m (Str.ofString "sift") = some (.ref f))
  (hm1 : (rw, W.listOf rvs.toArray n1) ∈ rest) (hlen : rvs.length = len) (hsm : len ≤ 70)
  (hel : ∀ v ∈ rvs, ∃ b, v = .ref b)
  (hf : f = 21 ∨ f = 28) (hfF : FnAt f h₀) (XB : (hd.heap_39 w.params).In base) (TB : Top p loose mean mg mb base)
  (hdp : dp + 2 < recursionLimit) (hun : un + 16 < cLine)
  (ret : ∀ g' h' tk' m' news', KtsTurn (outer.filterMap (·.frame)) h₀ g' → Fr g' L h' m' → News g' L h' news' → (∀ p ∈ rest, p ∈ news') → Q (.ret (.bool true)) { s with heap := h', toks := tk' }) :
  wpAny (model PROG w) (ktrTop dp un gd (Str.ofString "_law_holds") holdsScope L 43 (.ref 42) (cellsFrom (L + 1) holdsScope.names []) outer) (execs (holdsBody.drop 1) (envOfC (Str.ofString "_law_holds") holdsScope L 43 (.ref 42))) Q E s := by
  show wpAny _ _ (execs [_, _, _] _) _ _ _
  (try k_fold)
  k_steps
  unfold Stop
  refine wpAny_Try_except ?_
  k_steps
  unfold Stop
  rename_i D c₁ _ lD h₁ F₁ N₁
  refine out_any dp un gd _ _ _ _ _ _ A₀ base h₀ L _ _ _ _ D rvs.toArray 0 _ _ len f hf B F₁ X T (by rfl) (News.isList N₁ List.mem_cons_self) (by rw [List.size_toArray]; exact hlen) (by omega) (by ktr_room) (by ktr_units) ?_
  intro h₂ h₃ e tw LS tk₂ O
  refine caught_out B (by rfl) F₁ N₁ XB TB O (by k_is) PyProof.Rows.Boot.«IndexError» PySem.F.isExc_IndexError PySem.F.notTuple_IndexError PySem.F.self_IndexError ?_ (by rfl) (by rfl) (by rfl)
  intro h₇ g' t oe ot ws nt tk₇ E' T₇ F₇ N₇ hoc hod hw0 hw2 htc htd B₇ X₇ P₇ het hnn
  clear F₁ N₁ B X T hfF O
  have G : Got ((e, oe) :: (t, ot) :: (D, W.listOf rvs.toArray c₁) :: (L + 1 + 1 + 1 + 1 + 1 + 1, o1) :: (L + 1 + 1 + 1 + 1 + 1, o2) :: (L + 1 + 1 + 1 + 1, o3) :: (L + 1 + 1 + 1, o4) :: (L + 1 + 1, o5) :: (L + 1, o6) :: rest) e t (.type "IndexError") [.str "list index out of range" tw] :=
    ⟨oe, ot, ws, nt, List.mem_cons_self, List.mem_cons_of_mem _ List.mem_cons_self, hoc, hod, hw0, htc, htd⟩
  show wpAny (model PROG w) (ktrH e dp un gd (Str.ofString "_law_holds") holdsScope L 43 (.ref 42) (cellsFrom (L + 1) holdsScope.names []) outer) (execs [_] (envOfC (Str.ofString "_law_holds") holdsScope L 43 (.ref 42))) _ _ _
  (try k_fold)
  k_steps
  unfold Stop
  refine str_got_one PySem.F.excStr_IndexError N₇ G (by ktr_units) ?_
  (try k_fold)
  k_steps
  unfold Stop
  refine same_okH _ _ _ _ _ _ _ _ _ _ _ _ _ _ _ _ _ _ e oe ws D rw rvs c₁ n1 len B₇ F₇ X₇ N₇ P₇ (by rfl) List.mem_cons_self hod hw2 (by simp) (by simp [hm1]) hlen (by omega) (fun v hv => .inr (hel v hv)) (by ktr_room) (by ktr_units) ?_
  intro h₈ tk₈ F₈ N₈
  exact ⟨_, _, F₈, N₈, fun h'' m'' F'' N'' => ret g' h'' _ m'' _ T₇ F'' N'' (fun p hp => by simp [hp])⟩
end Mine

end

section
open PySem PySem.W PyProof.Rows
set_option maxRecDepth 100000
set_option maxHeartbeats 4000000
namespace Mine
local macro_rules | `(tactic| cell_enter) => `(tactic| (refine' code_defC ?k1 ?k2 ?k3 ?k4 ?k5 ?kA ?kF ?kK ?k6 ?k7 ?k8 ?k9 ?kB ?kD ?_ ?c2 ?c3 ?c4; (case kA => exact rfl); (case kF => exact rfl); (case kK => assumption); (case k1 => k_asm); (case k2 => k_asm); (case k3 => k_asm); (case k4 => k_asm); (case k5 => k_asm); (case k6 => k_is); (case k7 => k_is); (case k8 => ktr_room); (case k9 => exact BindsTo.of_eq rfl); (case kB => exact rfl); (case kD => decide +kernel); (case c2 => exact rfl); (case c3 => exact rfl); (case c4 => exact rfl); k_whole; intro g' L' h' tk' cells' FG' F' N' Y' B' X' T' l1; k_cells Y'; (try simp only [List.cons_append, List.nil_append] at N'); (try dsimp only); (try k_fold)))
local macro_rules | `(tactic| k_all) => `(tactic| assumption)
local macro_rules | `(tactic| walk_at "call builtin:len") => `(tactic| (k_here; (with_reducible show wpAny _ _ (call (Value.builtin "len") [Value.ref _]) _ _ _); k_dflt (refine' lst_len ?k1 ?k2 ?k3 ?k4 ?_; (case k1 => k_asm); (case k2 => k_mem); (case k3 => with_reducible assumption); (case k4 => omega); k_whole)))
local macro_rules | `(tactic| walk_at "subscriptTail Name Name ref int") => `(tactic| (k_here; (with_reducible show wpAny _ _ (subscriptTail _ _ (Value.ref _) (Value.int _ _)) _ _ _); k_dflt (refine' lst_sub ?k1 ?k2 ?k4 ?k5 ?k6 ?_ ?k7; (case k1 => k_asm); (case k2 => k_mem); (case k6 => assumption); (case k4 => first | omega | with_reducible assumption); (case k5 => first | omega | with_reducible assumption); (case k7 => with_unfolding_all rfl); k_whole)))
local macro_rules | `(tactic| walk_at "subscriptTail Name Subscript ref int") => `(tactic| (k_here; (with_reducible show wpAny _ _ (subscriptTail _ _ (Value.ref _) (Value.int _ _)) _ _ _); k_dflt (refine' lst_sub ?k1 ?k2 ?k4 ?k5 ?k6 ?_ ?k7; (case k1 => k_asm); (case k2 => k_mem); (case k6 => assumption); (case k4 => first | omega | with_reducible assumption); (case k5 => first | omega | with_reducible assumption); (case k7 => with_unfolding_all rfl); k_whole)))
local macro_rules | `(tactic| walk_at "subscriptTail Name BinOp ref int") => `(tactic| (k_here; (with_reducible show wpAny _ _ (subscriptTail _ _ (Value.ref _) (Value.int _ _)) _ _ _); k_dflt (refine' lst_sub ?k1 ?k2 ?k4 ?k5 ?k6 ?_ ?k7; (case k1 => k_asm); (case k2 => k_mem); (case k6 => assumption); (case k4 => first | omega | with_reducible assumption); (case k5 => first | omega | with_reducible assumption); (case k7 => with_unfolding_all rfl); k_whole)))
local macro_rules | `(tactic| k_mem) => `(tactic| first | exact List.mem_cons_self | (refine List.mem_cons_of_mem _ ?_; k_mem) | assumption)
local macro_rules | `(tactic| walk_at "exec For Name Call cons nil") => `(tactic| (k_dflt (refine For_range ?_)))
local macro_rules | `(tactic| walk_at "pyIter ref") => `(tactic| refine stop_at ?_)
local macro_rules | `(tactic| walk_at "eval Name") => `(tactic| (k_here; (with_reducible show wpAny _ _ (eval (Expr.Name _ _) (envOfC _ _ _ _ _)) _ _ _); k_dflt (refine' nameX_L ?F ?v ?_ ?a ?b; (case F => k_asm); (case a => rfl); (case b => rfl); (case v => assumption); k_whole)))
local macro_rules | `(tactic| walk_at "exec Assign cons ListComp") => `(tactic| refine stop_at ?_)
local macro_rules | `(tactic| walk_at "CompSrcT") => `(tactic| refine stop_at ?_)
local macro_rules | `(tactic| walk_at "CompSrc") => `(tactic| refine stop_at ?_)
local macro_rules | `(tactic| walk_at "call ref") => `(tactic| refine stop_at ?_)
local macro_rules | `(tactic| walk_at "callWith ref") => `(tactic| (k_here; k_dflt (refine' callWith_F ?k1 ?_; (case k1 => first | exact fnAt_keep (by k_asm) (by with_reducible assumption) | exact FnAt.of (by k_asm) (by with_reducible k_mem)); k_whole)))
local macro_rules | `(tactic| walk_at "And") => `(tactic| ((with_reducible show FnAt _ _ ∧ _); refine ⟨by first | exact fnAt_keep (by k_asm) (by with_reducible assumption) | exact FnAt.of (by k_asm) (by with_reducible k_mem), ?_⟩; try dsimp only [List.nil_append, List.cons_append]))
local macro_rules | `(tactic| walk_at "call type:list") => `(tactic| (k_here; (with_reducible show wpAny _ _ (call (Value.type _) [Value.ref _]) _ _ _); k_dflt (refine' lst_copy ?k1 ?k2 ?k3 ?k4 ?_; (case k1 => k_asm); (case k2 => k_asm); (case k3 => k_mem); (case k4 => omega); k_whole); intro D' c' h' F' N' l1; (try k_sweep)))
local macro_rules | `(tactic| walk_at "setItem ref int") => `(tactic| (k_here; k_dflt (refine' lst_set ?k1 ?k2 ?k3 ?k4 ?k5 ?k6 ?_; (case k1 => k_asm); (case k2 => k_asm); (case k3 => k_upd); (case k4 => first | omega | with_reducible assumption); (case k5 => first | omega | with_reducible assumption); (case k6 => first | omega | with_reducible assumption); k_whole); intro h' F' N'; (try k_sweep)))

local macro_rules | `(tactic| walk_at "execs cons") => `(tactic| ((with_reducible show wpAny _ _ (execs (Stmt.Assign [Expr.Name (Str.ofString "due") _] (Expr.Call _ _ _ _) _ :: _) _) _ _ _); refine stop_at ?_))
theorem primeH1 : PySem.Challenge.rw_dp0034_01 = PySem.Challenge.rw_dp0034_01 → hd.heap_39 = hd.heap_39 → True := by
  w_on
  k_fill
  intros; trivial
/-- what the law's second argument of a pair does: it compares two lists of one int each -/
def AheadC (w : World) (p : Program) (loose : List Str) (mean : ExcName → Option Value) (mg mb : Str → Option Value) (lam : List (Addr × Obj)) (fA : Addr) (c : Int → Int → Bool) : Prop :=
  ∀ (dp un : Nat) (gd : Option (List Code)) (cn : Str) (cs : Scope) (a : Addr) (ccd : Value) (cl : List (Str × Addr)) (outer : List Env) (A₀ : Around) (base h₀ : Heap) (L : Addr) (m : Str → Option Value) (s : Shared) (Q E : Value → Shared → Prop)
    (rest : List (Addr × Obj)) (v1 v2 : Value) (x y : Int),
    Below A₀ base outer h₀ → Fr h₀ L s.heap m → (hd.heap_39 w.params).In h₀ → News h₀ L s.heap rest → Top p loose mean mg mb h₀ → cs.kind = .function → (∀ q ∈ lam, q ∈ rest) → OneInt rest v1 x → OneInt rest v2 y →
    dp + 1 < recursionLimit → un + 8 < cLine → (∀ h' tk', Fr h₀ L h' m → News h₀ L h' rest → Q (.bool (c x y)) { s with heap := h', toks := tk' }) →
    wpAny (model PROG w) (ktrTop dp un gd cn cs L a ccd cl outer) (call (.ref fA) [v1, v2]) Q E s

theorem turnA {w : World} {p : Program} {loose : List Str} {mean : ExcName → Option Value} {mg mb : Str → Option Value}
  (dp un : Nat) (gd : Option (List Code)) (outer : List Env) (A₀ : Around) (base h₀ : Heap) (L : Addr) (m : Str → Option Value) (s : Shared) (Q : Flow → Shared → Prop) (E : Value → Shared → Prop)
  (rest : List (Addr × Obj)) (rw nb : Addr) (rvs nvs : List Value) (xs : List Int) (n1 n2 : Nat) (len i : Nat) (f fA : Addr) (lam : List (Addr × Obj)) (c : Int → Int → Bool) (o1 o2 o3 o4 o5 o6 : Obj) (v1 v2 v3 : Option Value) (ti : Tok)
  (B : Below A₀ base outer h₀) (F : Fr h₀ L s.heap m) (X : (hd.heap_39 w.params).In h₀) (T : Top p loose mean mg mb h₀)
  (N : News h₀ L s.heap ((L + 1 + 1 + 1 + 1 + 1 + 1, o1) :: (L + 1 + 1 + 1 + 1 + 1, o2) :: (L + 1 + 1 + 1 + 1, o3) :: (L + 1 + 1 + 1, o4) :: (L + 1 + 1, o5) :: (L + 1, o6) :: rest))
  (d1 : o1.data = .cell v1) (d2 : o2.data = .cell v2) (d3 : o3.data = .cell v3) (d4 : o4.data = .cell (some (.int (i : Int) ti))) (d5 : o5.data = .cell (some (.ref fA))) (d6 : o6.data = .cell (some (.ref rw)))
  (z1 : ∀ p ∈ rest, p.1 ≠ L + 1) (z2 : ∀ p ∈ rest, p.1 ≠ L + 1 + 1) (z3 : ∀ p ∈ rest, p.1 ≠ L + 1 + 1 + 1) (z4 : ∀ p ∈ rest, p.1 ≠ L + 1 + 1 + 1 + 1) (z5 : ∀ p ∈ rest, p.1 ≠ L + 1 + 1 + 1 + 1 + 1) (z6 : ∀ p ∈ rest, p.1 ≠ L + 1 + 1 + 1 + 1 + 1 + 1)
  (e1 : m (Str.ofString "numbers") = some (.ref nb)) (e2 : m (Str.ofString "sift") = some (.ref f))
  (hm1 : (rw, W.listOf rvs.toArray n1) ∈ rest) (hm2 : (nb, W.listOf nvs.toArray n2) ∈ rest) (hI : IntsAre nvs xs) (hlen : rvs.length = len) (hlen2 : xs.length = len) (hsm : len ≤ 70) (hi : i < len)
  (hone : ∀ i, i < len → ∃ v x, rvs[i]? = some v ∧ xs[i]? = some x ∧ OneInt rest v x)
  (hf : (f = 21 ∧ c = fun a b => decide (a < b)) ∨ (f = 28 ∧ c = fun a b => decide (b < a))) (hfF : FnAt f h₀)
  (oc : Value) (od : Option Addr) (fd : FuncData) (sl : Array (Option Value)) (hfn : (fA, (⟨oc, od, .func fd, sl⟩ : Obj)) ∈ rest)
  (hlam : ∀ q ∈ lam, q ∈ rest) (hA : AheadC w p loose mean mg mb lam fA c)
  (hdp : dp + 2 < recursionLimit) (hun : un + 16 < cLine) (hE : PassesOwn (model PROG w) (ktrTop dp un gd (Str.ofString "_law_holds") holdsScope L 43 (.ref 42) (cellsFrom (L + 1) holdsScope.names []) outer) (envOfC (Str.ofString "_law_holds") holdsScope L 43 (.ref 42)) E)
  (ret : ∀ h' tk' m' o1 o2 o3 v1 v2 v3, Fr h₀ L h' m' → News h₀ L h' ((L + 1 + 1 + 1 + 1 + 1 + 1, o1) :: (L + 1 + 1 + 1 + 1 + 1, o2) :: (L + 1 + 1 + 1 + 1, o3) :: (L + 1 + 1 + 1, o4) :: (L + 1 + 1, o5) :: (L + 1, o6) :: rest) → o1.data = .cell v1 → o2.data = .cell v2 → o3.data = .cell v3 → m' (Str.ofString "numbers") = some (.ref nb) → m' (Str.ofString "sift") = some (.ref f) → Q .next { s with heap := h', toks := tk' }) :
  wpAny (model PROG w) (ktrTop dp un gd (Str.ofString "_law_holds") holdsScope L 43 (.ref 42) (cellsFrom (L + 1) holdsScope.names []) outer) (execs turnBody (envOfC (Str.ofString "_law_holds") holdsScope L 43 (.ref 42))) Q E s := by
  have hnl : nvs.length = len := by rw [hI.length, hlen2]
  obtain ⟨x, tx, hx, hnx⟩ : ∃ x t, xs[i]? = some x ∧ nvs[((i : Nat) : Int).toNat]? = some (.int x t) := by
    obtain ⟨t, ht⟩ := ints_at hI (i := i) (by omega)
    exact ⟨_, t, by simp [List.getD_eq_getElem?_getD, hlen2, hi], ht⟩
  show wpAny _ _ (execs [_, _, _, _, _, _, _, _, _, _, _, _, _] _) _ _ _
  (try k_fold)
  k_steps
  have hst0 : 0 ≤ x.fmod ((i : Int) + 2) := Int.fmod_nonneg_of_pos _ (by omega)
  have hst1 : x.fmod ((i : Int) + 2) < (i : Int) + 2 := Int.fmod_lt_of_pos _ (by omega)
  generalize x.fmod ((i : Int) + 2) = st at *
  unfold Stop
  (try dsimp only)
  refine reach_ok _ _ _ _ _ _ _ _ _ _ _ _ _ _ _ _ _ _ _ _ _ _ (by assumption) (by assumption) (by assumption) (by assumption) (by assumption) (by rfl) (by omega) (by ktr_room) (by ktr_units) ?_
  intro DR rys h₂ tk₂ F₂ N₂ hIR lR
  have lRr : ∀ p ∈ rest, p.1 < DR := fun p hp => lR p (by simp [hp])
  k_lt lR
  have hRl : rys.length = (reachL st i).length := hIR.length
  have hIR2 : Stop (IntsAre rys (reachL st i)) := hIR
  have hP := reach_p (st := st) (i := i) (by omega) hst0
  obtain ⟨hR1, hR2⟩ := And.intro hP.pos hP.le7
  have hRm := hP.mem
  generalize hReq : reachL st i = R at *
  obtain ⟨vi, xi, hvi, hxi, hoi⟩ := hone i hi
  obtain rfl : x = xi := by rw [hx] at hxi; exact Option.some.inj hxi
  have hvi' : rvs[((i : Nat) : Int).toNat]? = some vi := hvi
  (try k_fold)
  k_steps
  unfold Stop
  refine LCt.Assign_ListComp_T (F₀ := by k_asm) (by rfl) (by with_unfolding_all rfl) (by with_unfolding_all rfl) (by decide) (by rfl) (by decide) (by rfl) (by rfl) (by rfl) ?_
  k_steps
  unfold Stop
  refine LCt.CompSrcT.range (by rfl) (by k_asm) (by k_asm) (by assumption) (small_one (by omega) (by omega) (by omega) (by omega)) (rangeSize_nat _ _) (by rw [PySem.sizeLine_eq]; omega) ?_
  intro g₁
  refine kci_range (fun l k => if c x (xs.getD (R.getD k.toNat 0).toNat 0) = true then l else l ++ [k]) (fun k' t' I' oI' C' oC' D' m' ys' l' h' tk' E' hlo' hhi' hI₁ hC' hx' F' N' off' ne' hMark' => ?_) ?_ ?_
  · obtain ⟨r, hr⟩ : ∃ r, R.getD k'.toNat 0 = r := ⟨_, rfl⟩
    obtain ⟨hr0, hr1⟩ := hRm k'.toNat (by omega)
    obtain ⟨tB, hB⟩ := ints_at hIR2 (i := k'.toNat) (by omega)
    rw [hr] at hr0 hr1 hB
    obtain ⟨vr, xr, hvr, hxr, hor⟩ := hone r.toNat (by omega)
    have hxr' : xs.getD r.toNat 0 = xr := by rw [List.getD_eq_getElem?_getD, hxr]; rfl
    k_steps
    unfold Stop
    refine hA _ _ _ _ _ _ _ _ _ _ _ _ _ _ _ _ _ _ _ _ _ _ (by assumption) F' (by assumption) N' (by assumption) (by rfl) (fun q hq => by simp [hlam q hq]) (hoi.mono fun q hq => by simp [hq]) (hor.mono fun q hq => by simp [hq]) (by ktr_room) (by ktr_units) ?_
    intro h₃ tk₃ F₃ N₃
    (try k_fold)
    k_steps
    · refine LCg.CompEnd.intro F₃ N₃ _ (fun p hp => hp) off' trivial ⟨rfl, ?_⟩
      rw [hr, hxr', if_pos (by assumption)]
    · refine LCg.CompEnd.intro F₃ N₃ _ (fun p hp => hp) off' trivial ⟨rfl, k', _, rfl, ?_⟩
      rw [hr, hxr', if_neg (c := (_ = true)) (by simp_all)]
  · unfold KPfDone
    intro sys hIS hlS DS h₄ tk₄ F₄ N₄ o₄
    have hSp := fun M => stops_p (q := fun k => c x (xs.getD (R.getD k.toNat 0).toNat 0)) (lR := R.length) (M := M) hR1
    generalize hSt : List.foldl (fun l k => if c x (xs.getD (R.getD k.toNat 0).toNat 0) = true then l else l ++ [k]) [] (rangeKs 1 ((R.length : Int) - 1).toNat) = St at *
    have hSl := hIS.length
    have offS : ∀ p ∈ rest, p.1 ≠ DS := fun p hp => off1_mem o₄ p (by simp [hp])
    simp only [LCg.Off1] at o₄
    (try k_fold)
    k_steps
    rename Obj.data _ = Data.cell (some (Value.ref DR)) => dR
    rename_i M tM kM aM bM h₅ F₅ N₅
    obtain ⟨M1, M2, Myes, Mno⟩ := hSp M aM bM
    obtain ⟨stp, hstp⟩ : ∃ stp : Nat, M - 1 = (stp : Int) := ⟨(M - 1).toNat, by omega⟩
    rw [hstp] at F₅
    have hel : ∀ v ∈ rvs, ∃ b, v = .ref b := fun v hv => by
      obtain ⟨j, hj, rfl⟩ := List.getElem_of_mem hv
      obtain ⟨v', x', hv', _, b, _, _, eb, _⟩ := hone j (by omega)
      rw [List.getElem?_eq_getElem hj] at hv'
      exact ⟨b, by rw [Option.some.inj hv']; exact eb⟩
    obtain ⟨hS1, hdel, hvi2, hS2⟩ := turn_law (G := OneInt rest) (c := c) (x := x) (xs := xs) (stp := stp) hP hst0 hi hlen (by omega) hvi (fun j hj => by
        obtain ⟨v', x', hv', hx', ho'⟩ := hone j hj
        refine ⟨v', hv', ?_⟩
        rw [List.getD_eq_getElem?_getD, hx']
        exact ho') hel (fun k k1 k2 => Myes (k : Int) (by omega) (by omega)) (fun hlt => by
        have e : M = ((stp + 1 : Nat) : Int) := by omega
        have := Mno (by omega)
        rw [e] at this
        exact this)
    unfold Stop
    (try dsimp only)
    have zz : ∀ (d : Nat), (@Ne Nat DR d) → (∀ p ∈ rest, p.1 ≠ d) → ∀ p ∈ (DR, W.listOf rys.toArray 0) :: rest, p.1 ≠ d := fun d h1 h2 p hp => by
      rcases List.mem_cons.mp hp with rfl | hp
      · exact h1
      · exact h2 p hp
    have hsub : ∀ q ∈ rest, q ∈ (DR, W.listOf rys.toArray 0) :: rest := fun q hq => List.mem_cons_of_mem _ hq
    refine turnB dp un gd outer A₀ base h₀ L _ _ _ _ ((DR, W.listOf rys.toArray 0) :: rest) rw nb DR rvs rys R n1 len R.length i stp f fA c o1 o2 _ o4 o5 o6 _ _ ti _ _ st x vi B F₅ X T
      (fun p hp => N₅ p (by simp only [List.mem_cons] at hp ⊢; rcases hp with h | h | h | h | h | h | h | h <;> simp [h])) d1 d2 dR d4 d5 d6
      (zz (L + 1) (by omega) z1) (zz (L + 1 + 1) (by omega) z2) (zz (L + 1 + 1 + 1) (by omega) z3) (zz (L + 1 + 1 + 1 + 1) (by omega) z4) (zz (L + 1 + 1 + 1 + 1 + 1) (by omega) z5) (zz (L + 1 + 1 + 1 + 1 + 1 + 1) (by omega) z6) e1 e2 rfl rfl
      (hsub _ hm1) List.mem_cons_self hlen hIR2 hRl hR2 (by omega) hsm hi (fun k hk => by have := hRm k hk; omega) hel hst0 hf hfF hvi (hoi.mono hsub) (hS1.mono fun v y hg => hg.mono hsub) hdel hvi2 (hS2.mono fun v y hg => hg.mono hsub) hdp hun hE ?_
    intro h₉ tk₉ m₉ oa ob va vb F₉ N₉ da db g1 g2
    exact ret h₉ tk₉ m₉ oa ob _ va vb _ F₉ (fun p hp => N₉ p (by simp only [List.mem_cons] at hp ⊢; rcases hp with h | h | h | h | h | h | h <;> simp [h])) da db dR g1 g2
  · intro l k
    dsimp only
    split <;> simp
end Mine

end

section
open PySem PySem.W PyProof.Rows
set_option maxRecDepth 100000
set_option maxHeartbeats 4000000
namespace Mine
local macro_rules | `(tactic| cell_enter) => `(tactic| (refine' code_defSC0 ?k1 ?k2 ?k3 ?k4 ?k5 ?kA ?kF ?kK ?k6 ?k7 ?k8 ?k9 ?kB ?kD ?_ ?c2 ?c3 ?c4; (case kA => exact rfl); (case kF => exact rfl); (case kK => assumption); (case k1 => k_asm); (case k2 => k_asm); (case k3 => k_asm); (case k4 => k_asm); (case k5 => k_asm); (case k6 => k_is); (case k7 => k_is); (case k8 => ktr_room); (case k9 => exact BindsTo.of_eq rfl); (case kB => exact rfl); (case kD => decide +kernel); (case c2 => exact rfl); (case c3 => exact rfl); (case c4 => exact rfl); k_whole; intro g' L' h' tk' cells' FG' F' N' Y' B' X' T' l1; k_cells Y'; (try simp only [List.cons_append, List.nil_append] at N'); (try dsimp only); (try k_fold)))
local macro_rules | `(tactic| k_all) => `(tactic| assumption)
local macro_rules | `(tactic| walk_at "call builtin:len") => `(tactic| (k_here; (with_reducible show wpAny _ _ (call (Value.builtin "len") [Value.ref _]) _ _ _); k_dflt (refine' lst_len ?k1 ?k2 ?k3 ?k4 ?_; (case k1 => k_asm); (case k2 => k_mem); (case k3 => with_reducible assumption); (case k4 => omega); k_whole)))
local macro_rules | `(tactic| walk_at "subscriptTail Name Name ref int") => `(tactic| (k_here; (with_reducible show wpAny _ _ (subscriptTail _ _ (Value.ref _) (Value.int _ _)) _ _ _); k_dflt (refine' lst_sub ?k1 ?k2 ?k4 ?k5 ?k6 ?_ ?k7; (case k1 => k_asm); (case k2 => k_mem); (case k6 => assumption); (case k4 => first | omega | with_reducible assumption); (case k5 => first | omega | with_reducible assumption); (case k7 => with_unfolding_all rfl); k_whole)))
local macro_rules | `(tactic| walk_at "subscriptTail Name Subscript ref int") => `(tactic| (k_here; (with_reducible show wpAny _ _ (subscriptTail _ _ (Value.ref _) (Value.int _ _)) _ _ _); k_dflt (refine' lst_sub ?k1 ?k2 ?k4 ?k5 ?k6 ?_ ?k7; (case k1 => k_asm); (case k2 => k_mem); (case k6 => assumption); (case k4 => first | omega | with_reducible assumption); (case k5 => first | omega | with_reducible assumption); (case k7 => with_unfolding_all rfl); k_whole)))
local macro_rules | `(tactic| walk_at "subscriptTail Name BinOp ref int") => `(tactic| (k_here; (with_reducible show wpAny _ _ (subscriptTail _ _ (Value.ref _) (Value.int _ _)) _ _ _); k_dflt (refine' lst_sub ?k1 ?k2 ?k4 ?k5 ?k6 ?_ ?k7; (case k1 => k_asm); (case k2 => k_mem); (case k6 => assumption); (case k4 => first | omega | with_reducible assumption); (case k5 => first | omega | with_reducible assumption); (case k7 => with_unfolding_all rfl); k_whole)))
local macro_rules | `(tactic| k_mem) => `(tactic| first | exact List.mem_cons_self | (refine List.mem_cons_of_mem _ ?_; k_mem) | assumption)
local macro_rules | `(tactic| walk_at "exec For Name Call cons nil") => `(tactic| (k_dflt (refine For_range ?_)))
local macro_rules | `(tactic| walk_at "pyIter ref") => `(tactic| refine stop_at ?_)
local macro_rules | `(tactic| walk_at "eval Name") => `(tactic| (k_here; (with_reducible show wpAny _ _ (eval (Expr.Name _ _) (envOfC _ _ _ _ _)) _ _ _); k_dflt (refine' nameX_L ?F ?v ?_ ?a ?b; (case F => k_asm); (case a => rfl); (case b => rfl); (case v => assumption); k_whole)))
local macro_rules | `(tactic| walk_at "exec Assign cons ListComp") => `(tactic| refine stop_at ?_)
local macro_rules | `(tactic| walk_at "CompSrcT") => `(tactic| refine stop_at ?_)
local macro_rules | `(tactic| walk_at "CompSrc") => `(tactic| refine stop_at ?_)
local macro_rules | `(tactic| walk_at "call ref") => `(tactic| refine stop_at ?_)
local macro_rules | `(tactic| walk_at "callWith ref") => `(tactic| (k_here; k_dflt (refine' callWith_F ?k1 ?_; (case k1 => first | exact fnAt_keep (by k_asm) (by with_reducible assumption) | exact FnAt.of (by k_asm) (by with_reducible k_mem)); k_whole)))
local macro_rules | `(tactic| walk_at "And") => `(tactic| ((with_reducible show FnAt _ _ ∧ _); refine ⟨by first | exact fnAt_keep (by k_asm) (by with_reducible assumption) | exact FnAt.of (by k_asm) (by with_reducible k_mem), ?_⟩; try dsimp only [List.nil_append, List.cons_append]))
local macro_rules | `(tactic| walk_at "call type:list") => `(tactic| (k_here; (with_reducible show wpAny _ _ (call (Value.type _) [Value.ref _]) _ _ _); k_dflt (refine' lst_copy ?k1 ?k2 ?k3 ?k4 ?_; (case k1 => k_asm); (case k2 => k_asm); (case k3 => k_mem); (case k4 => omega); k_whole); intro D' c' h' F' N' l1; (try k_sweep)))
local macro_rules | `(tactic| walk_at "setItem ref int") => `(tactic| (k_here; k_dflt (refine' lst_set ?k1 ?k2 ?k3 ?k4 ?k5 ?k6 ?_; (case k1 => k_asm); (case k2 => k_asm); (case k3 => k_upd); (case k4 => first | omega | with_reducible assumption); (case k5 => first | omega | with_reducible assumption); (case k6 => first | omega | with_reducible assumption); k_whole); intro h' F' N'; (try k_sweep)))

theorem primeH2 : PySem.Challenge.rw_dp0034_01 = PySem.Challenge.rw_dp0034_01 → hd.heap_39 = hd.heap_39 → True := by
  w_on
  k_fill
  intros; trivial
def HoldsJ (L rw nb f fA : Addr) (rest : List (Addr × Obj)) (m : Str → Option Value) (news : List (Addr × Obj)) : Prop :=
  ∃ o1 o2 o3 o4 o5 o6 v1 v2 v3 v4, news = (L + 1 + 1 + 1 + 1 + 1 + 1, o1) :: (L + 1 + 1 + 1 + 1 + 1, o2) :: (L + 1 + 1 + 1 + 1, o3) :: (L + 1 + 1 + 1, o4) :: (L + 1 + 1, o5) :: (L + 1, o6) :: rest ∧
    o1.data = .cell v1 ∧ o2.data = .cell v2 ∧ o3.data = .cell v3 ∧ o4.data = .cell v4 ∧ o5.data = .cell (some (.ref fA)) ∧ o6.data = .cell (some (.ref rw)) ∧
    m (Str.ofString "numbers") = some (.ref nb) ∧ m (Str.ofString "sift") = some (.ref f)

theorem holds_ok {w : World} {p : Program} {loose : List Str} {mean : ExcName → Option Value} {mg mb : Str → Option Value}
  (dp un : Nat) (gd : Option (List Code)) (cn : Str) (cs : Scope) (a : Addr) (ccd : Value) (cl : List (Str × Addr)) (A₀ : Around) (base h₀ : Heap) (L : Addr) (m : Str → Option Value) (s : Shared) (Q E : Value → Shared → Prop)
  (rest : List (Addr × Obj)) (rw nb : Addr) (rvs nvs : List Value) (xs : List Int) (n1 n2 : Nat) (len : Nat) (f fA : Addr) (lam : List (Addr × Obj)) (c : Int → Int → Bool)
  (B : Below A₀ base [] h₀) (F : Fr h₀ L s.heap m) (X : (hd.heap_39 w.params).In h₀) (N : News h₀ L s.heap rest) (T : Top p loose mean mg mb h₀) (XB : (hd.heap_39 w.params).In base) (TB : Top p loose mean mg mb base) (hk : cs.kind = .function)
  (hm1 : (rw, W.listOf rvs.toArray n1) ∈ rest) (hm2 : (nb, W.listOf nvs.toArray n2) ∈ rest) (hI : IntsAre nvs xs) (hlen : rvs.length = len) (hlen2 : xs.length = len) (hsm : len ≤ 70)
  (hone : ∀ i, i < len → ∃ v x, rvs[i]? = some v ∧ xs[i]? = some x ∧ OneInt rest v x)
  (hf : (f = 21 ∧ c = fun a b => decide (a < b)) ∨ (f = 28 ∧ c = fun a b => decide (b < a))) (hfF : FnAt f h₀)
  (oc : Value) (od : Option Addr) (fd : FuncData) (sl : Array (Option Value)) (hfn : (fA, (⟨oc, od, .func fd, sl⟩ : Obj)) ∈ rest)
  (hlam : ∀ q ∈ lam, q ∈ rest) (hA : AheadC w p loose mean mg mb lam fA c)
  (hdp : dp + 3 < recursionLimit) (hun : un + 20 < cLine)
  (ret : ∀ h' tk', Fr h₀ L h' m → News h₀ L h' rest → Q (.bool true) { s with heap := h', toks := tk' }) :
  wpAny (model PROG w) (ktrTop dp un gd cn cs L a ccd cl []) (call (.ref 43) [.ref rw, .ref nb, .ref f, .ref fA]) Q E s := by
  have hI2 : Stop (IntsAre nvs xs) := hI
  refine wpAny_call ?_
  k_dflt cell_enter
  rename_i g₀ L₀ hh₀ tt₀ FG₀ F₀ B₀ X₀ T₀ l1 c1 c2 c3 c4 c5 c6 dd1 dd2 dd3 dd4 dd5 dd6 N₀
  have hfF₀ : FnAt f g₀ := fnAt_keep FG₀ hfF
  have z1 : ∀ p ∈ rest, p.1 ≠ L₀ + 1 := ne_below l1 (by omega)
  have z2 : ∀ p ∈ rest, p.1 ≠ L₀ + 1 + 1 := ne_below l1 (by omega)
  have z3 : ∀ p ∈ rest, p.1 ≠ L₀ + 1 + 1 + 1 := ne_below l1 (by omega)
  have z4 : ∀ p ∈ rest, p.1 ≠ L₀ + 1 + 1 + 1 + 1 := ne_below l1 (by omega)
  have z5 : ∀ p ∈ rest, p.1 ≠ L₀ + 1 + 1 + 1 + 1 + 1 := ne_below l1 (by omega)
  have z6 : ∀ p ∈ rest, p.1 ≠ L₀ + 1 + 1 + 1 + 1 + 1 + 1 := ne_below l1 (by omega)
  k_steps
  unfold Stop
  have y5 : c5.data = .cell (some (.ref fA)) := dd5
  have y6 : c6.data = .cell (some (.ref rw)) := dd6
  refine range_loop (J := fun _ => HoldsJ L₀ rw nb f fA rest) (by rfl) (by assumption) (by omega) (by assumption) (by assumption) ⟨c1, c2, c3, c4, c5, c6, _, _, _, _, rfl, dd1, dd2, dd3, dd4, y5, y6, rfl, rfl⟩ ?_ ?_ (by passes_own)
  · rintro i ti m₁ news₁ I oI h₁ tk₁ hi ⟨o1, o2, o3, o4, o5, o6, v1, v2, v3, v4, rfl, d1, d2, d3, d4, d5, d6, e1, e2⟩ offI hIL F₁ N₁
    simp only [List.forall_mem_cons] at offI
    obtain ⟨q1, q2, q3, q4, q5, q6, q7⟩ := offI
    have p1 := neN q1; have p2 := neN q2; have p3 := neN q3; have p4 := neN q4; have p5 := neN q5; have p6 := neN q6
    refine storeX_C F₁ N₁ (by rfl) (by k_updF) d4 (fun h₂ o' F₂ N₂ d' => ?_)
    have zz : ∀ (d : Nat), (@Ne Nat I d) → (∀ p ∈ rest, p.1 ≠ d) → ∀ p ∈ (I, oI) :: rest, p.1 ≠ d := fun d h1 h2 p hp => by
      rcases List.mem_cons.mp hp with rfl | hp
      · exact h1
      · exact h2 p hp
    have hsub : ∀ q ∈ rest, q ∈ (I, oI) :: rest := fun q hq => List.mem_cons_of_mem _ hq
    refine turnA (dp + 1) (un + 3) gd [envX cn cs L a ccd cl] (ktrTop dp un gd cn cs L a ccd cl []) base g₀ L₀ _ _ _ _ ((I, oI) :: rest) rw nb rvs nvs xs n1 n2 len i f fA lam c o1 o2 o3 o' o5 o6 _ _ _ ti B₀ F₂ X₀ T₀
      (fun p hp => N₂ p (by simp only [List.mem_cons] at hp ⊢; rcases hp with h | h | h | h | h | h | h | h <;> simp [h])) d1 d2 d3 d' d5 d6
      (zz (L₀ + 1) (by omega) z1) (zz (L₀ + 1 + 1) (by omega) z2) (zz (L₀ + 1 + 1 + 1) (by omega) z3) (zz (L₀ + 1 + 1 + 1 + 1) (by omega) z4) (zz (L₀ + 1 + 1 + 1 + 1 + 1) (by omega) z5) (zz (L₀ + 1 + 1 + 1 + 1 + 1 + 1) (by omega) z6) e1 e2
      (hsub _ hm1) (hsub _ hm2) hI2 hlen hlen2 hsm hi (fun j hj => by
        obtain ⟨v, x, h1, h2, h3⟩ := hone j hj
        exact ⟨v, x, h1, h2, h3.mono hsub⟩) hf hfF₀ oc od fd sl (hsub _ hfn) (fun q hq => hsub q (hlam q hq)) hA (by omega) (by omega) (by passes_own) ?_
    intro h₉ tk₉ m₉ oa ob o3' va vb v3' F₉ N₉ da db d3' g1 g2
    refine ⟨h₉, tk₉, m₉, _, rfl, F₉, (fun p hp => N₉ p (by simp only [List.mem_cons] at hp ⊢; rcases hp with h | h | h | h | h | h | h | h <;> simp [h])), ?_, oa, ob, o3', o', o5, o6, va, vb, v3', _, rfl, da, db, d3', d', d5, d6, g1, g2⟩
    simp only [List.forall_mem_cons]
    exact ⟨q1, q2, q3, q4, q5, q6, q7⟩
  · rintro m₁ news₁ h₁ tk₁ ⟨o1, o2, o3, o4, o5, o6, v1, v2, v3, v4, rfl, d1, d2, d3, d4, d5, d6, e1, e2⟩ F₁ N₁
    have hel : ∀ v ∈ rvs, ∃ b, v = .ref b := fun v hv => by
      obtain ⟨j, hj, rfl⟩ := List.getElem_of_mem hv
      obtain ⟨v', x', hv', _, b, _, _, eb, _⟩ := hone j (by omega)
      rw [List.getElem?_eq_getElem hj] at hv'
      exact ⟨b, by rw [Option.some.inj hv']; exact eb⟩
    have hf' : f = 21 ∨ f = 28 := hf.elim (fun h => .inl h.1) (fun h => .inr h.1)
    refine tailD (dp + 1) (un + 3) gd [envX cn cs L a ccd cl] (ktrTop dp un gd cn cs L a ccd cl []) base g₀ L₀ _ _ _ _ rest rw nb rvs n1 len f fA o1 o2 o3 o4 o5 o6 _ _ _ _ B₀ F₁ X₀ T₀ N₁ d1 d2 d3 d4 d5 d6 z1 z2 z3 z4 z5 z6 e1 e2 hm1 hlen hsm hel hf' hfF₀ XB TB (by omega) (by omega) ?_
    intro g' h' tk' m' news' T' F' N' sub
    exact leaveS0_ F' N' T' fun F'' N'' => ret _ _ F'' (fun p hp => N'' p (sub p hp))
end Mine

end

section
open PySem PySem.W PyProof.Rows PySem.Calls
set_option maxRecDepth 100000
namespace Mine
section
variable {prog : Program} {w : World} {A : Around} {h₀ : Heap} {L : Addr} {m : Str → Option Value} {env : Env} {elt : Expr} {x : Str} {scope : Scope} {cl : List (Str × Addr)} {s : Shared} {Fin : List Value → List (Addr × Obj) → Prop} {news : List (Addr × Obj)}
/-- a comprehension over a list of ints that makes a list of one int each -/
theorem rows_rest {nvs : List Value} {xs : List Int} {ax : Addr} (hI : IntsAre nvs xs) (hS : LCg.SrcAt h₀ ax nvs.toArray news)
    (turn : ∀ k t I oI C oC D m₂ ys nw h tk (E' : Value → Shared → Prop), LCg.NsObj oC m₂ → m₂ x = some (.int k t) → Fr h₀ L h m → News h₀ L h ((I, oI) :: (C, oC) :: (D, LCg.lst ys) :: nw) → LCg.Off3 I C D nw → ((@Ne Nat I C) ∧ (@Ne Nat I D) ∧ (@Ne Nat C D)) →
      wpAny (model prog w) A (eval elt (compEnvC scope cl C env)) (LCg.CompEnd h₀ L m { s with heap := h, toks := tk } I oI C oC D (LCg.lst ys) (fun _ => True) (fun y news' => ∃ l, y = .ref l ∧ news' = (l, W.listOf #[.int k t] 0) :: nw ∧ ∀ q ∈ nw, q.1 < l)) E' { s with heap := h, toks := tk })
    (fin : ∀ ys adds, ys.length = xs.length → (∀ q ∈ adds, ∀ p ∈ news, p.1 < q.1) → (∀ j, j < xs.length → ∃ v x, ys[j]? = some v ∧ xs[j]? = some x ∧ OneInt adds v x) → Fin ys (adds ++ news)) :
    LCg.CompRest prog w A h₀ L m env elt x scope cl s (LCg.SrcAt h₀ ax nvs.toArray) (fun i v => nvs.toArray[i]? = some v) Fin nvs.toArray.size 0 [] news := by
  have hl : nvs.length = xs.length := hI.length
  have key : ∀ (j i : Nat) (ys : List Value) (adds : List (Addr × Obj)), i + j = xs.length → ys.length = i → (∀ q ∈ adds, ∀ p ∈ news, p.1 < q.1) →
      (∀ j, j < i → ∃ v x, ys[j]? = some v ∧ xs[j]? = some x ∧ OneInt adds v x) →
      LCg.CompRest prog w A h₀ L m env elt x scope cl s (LCg.SrcAt h₀ ax nvs.toArray) (fun i v => nvs.toArray[i]? = some v) Fin j i ys (adds ++ news) := by
    intro j
    induction j with
    | zero =>
      intro i ys adds hi hy hoff hys
      obtain rfl : i = xs.length := by omega
      exact LCg.CompRest.zero (fin ys adds hy hoff hys)
    | succ j ih =>
      intro i ys adds hi hy hoff hys
      refine LCg.CompRest.succ ?_
      intro v I oI C oC D m₂ h tk E' hv hC hx F N off ne
      obtain ⟨t, ht⟩ := ints_at hI (i := i) (by omega)
      have hv' : v = .int (xs.getD i 0) t := by
        simp only [List.getElem?_toArray] at hv
        rw [ht] at hv
        exact (Option.some.inj hv).symm
      rw [hv'] at hx
      refine wpAny_mono (turn _ t I oI C oC D m₂ _ _ h tk E' hC hx F N off ne) (fun y s₂ hq => ?_) fun _ _ e => e
      obtain ⟨h', tk', nw, e, F', N', off', _, l, hy', hnw, hlt⟩ := hq
      subst hy' hnw
      refine ⟨h', tk', _, e, F', N', off', ?_, ?_⟩
      · rcases hS with h | ⟨o, hm, r⟩
        · exact .inl h
        · exact .inr ⟨o, List.mem_cons_of_mem _ (List.mem_append_right _ hm), r⟩
      · refine ih (i + 1) (ys ++ [.ref l]) ((l, _) :: adds) (by omega) (by simp [hy]) (fun q hq p hp => ?_) (fun k hk => ?_)
        · rcases List.mem_cons.mp hq with rfl | hq
          · exact hlt p (List.mem_append_right _ hp)
          · exact hoff q hq p hp
        · by_cases q : k < i
          · obtain ⟨v, x, h1, h2, h3⟩ := hys k q
            refine ⟨v, x, ?_, h2, h3.mono fun q hq => List.mem_cons_of_mem _ hq⟩
            rw [List.getElem?_append_left (by omega)]
            exact h1
          · obtain rfl : k = i := by omega
            refine ⟨.ref l, xs.getD k 0, ?_, ?_, l, t, 0, rfl, List.mem_cons_self⟩
            · rw [List.getElem?_append_right (by omega), hy]
              simp
            · rw [List.getD_eq_getElem?_getD, List.getElem?_eq_getElem (by omega)]
              rfl
  have := key xs.length 0 [] [] (by omega) rfl (fun q hq => nomatch hq) (fun j hj => absurd hj (Nat.not_lt_zero _))
  rw [List.size_toArray, hl]
  exact this
end
end Mine

end

section
open PySem PySem.W PyProof.Rows
set_option maxRecDepth 100000
set_option maxHeartbeats 8000000
namespace Mine
local macro_rules | `(tactic| walk_at "exec Assign cons ListComp") => `(tactic| refine stop_at ?_)
local macro_rules | `(tactic| walk_at "CompSrc") => `(tactic| refine stop_at ?_)
local macro_rules | `(tactic| walk_at "call ref") => `(tactic| refine stop_at ?_)
local macro_rules | `(tactic| k_all) => `(tactic| assumption)
local macro_rules | `(tactic| walk_at "compareOp Lt ref ref") => `(tactic| (k_here; k_dflt (refine' cmp_lt1 ?u ?a ?b ?_; (case u => ktr_units); (case a => exact News.get (by k_asm) (by assumption)); (case b => exact News.get (by k_asm) (by assumption)); k_whole)))
theorem allLt_mem {D : Addr} : ∀ {l : List (Addr × Obj)}, AllLt D l → ∀ q ∈ l, q.1 < D
  | [], _, _, h => nomatch h
  | _ :: _, x, q, h => by
    rcases List.mem_cons.mp h with rfl | h
    · exact x.1
    · exact allLt_mem x.2 q h
theorem ledger3 {h₀ h : Heap} {L DR : Addr} {oR : Obj} {adds : List (Addr × Obj)} {q1 q2 q3 : Addr × Obj} (N : News h₀ L h ((DR, oR) :: (adds ++ [q1, q2, q3]))) (h1 : ∀ q ∈ adds, (@Ne Nat q.1 45)) (h2 : (@Ne Nat q1.1 45)) (h3 : (@Ne Nat q2.1 45)) :
    ∃ rest, News h₀ L h ((DR, oR) :: q3 :: rest) ∧ q1 ∈ rest ∧ (∀ q ∈ adds, q ∈ rest) ∧ (∀ p ∈ rest, p.1 ≠ 45) := by
  refine ⟨adds ++ [q1, q2], fun p hp => N p ?_, by simp, fun q hq => by simp [hq], fun p hp => ?_⟩
  · simp only [List.mem_cons, List.mem_append, List.not_mem_nil, or_false] at hp ⊢
    rcases hp with h | h | h | h | h <;> simp [h]
  · simp only [List.mem_cons, List.mem_append, List.not_mem_nil, or_false] at hp
    rcases hp with h | h | h
    · exact h1 p h
    · exact h ▸ h2
    · exact h ▸ h3
theorem w0 : PySem.Challenge.rw_dp0034_01.Holds := hd (by
  w_on
  k_go0
  (all_goals try k_fold)
  k_steps
  rename_i nb ws _ hNI lN h₁ F₁ N₁
  unfold Stop
  refine LCg.Assign_ListComp_U (F₀ := by k_asm) (by rfl) (by with_unfolding_all rfl) (by with_unfolding_all rfl) (by decide) (by rfl) (by decide) (by rfl) (by rfl) (by rfl) ?_
  k_steps
  unfold Stop
  have hNl := hNI.length
  have hNI2 : Stop (IntsAre ws _) := hNI
  have hxl : ws.length ≤ 70 := by rw [hNl, List.length_append]; simp; omega
  refine LCg.CompSrc.ledger (by rfl) F₁ N₁ List.mem_cons_self (by rw [PySem.sizeLine_eq, List.size_toArray]; omega) ?_
  intro g₁
  refine rows_rest hNI2 (.inr ⟨_, List.mem_cons_self, rfl, _, rfl⟩) ?_ ?_
  · intro k t I oI C oC D m₂ ys nw h tk E' hC hx F N off ne
    k_steps
    rename_i l h' F' N' lA
    obtain ⟨a1, a2, a3, a4⟩ := lA
    refine LCg.CompEnd.intro F' N' ((l, W.listOf #[.int k t] 0) :: nw) (fun p hp => by simp only [List.mem_cons] at hp ⊢; rcases hp with h | h | h | h | h <;> simp [h]) ⟨⟨by dsimp only; omega, by dsimp only; omega, by dsimp only; omega⟩, off⟩ trivial ⟨l, rfl, rfl, allLt_mem a4⟩
  · intro ys adds hyl hadd hys DR h₂ tk₂ F₂ N₂ off₂
    obtain ⟨lN1, lN2⟩ := lN
    have hall : ∀ q ∈ adds, (@Ne Nat q.1 45) := fun q hq => Nat.ne_of_gt (hadd q hq (45, tabObj #[]) (by simp))
    have hDR : (@Ne Nat DR 45) := Ne.symm (off1_mem off₂ (45, tabObj #[]) (by simp))
    obtain ⟨rest, N₃, hnb, hadds, z45⟩ := ledger3 N₂ hall (by dsimp only; omega) (by dsimp only; omega)
    clear N₂ hadd hall off₂
    (try k_fold)
    k_steps
    rename_i fA cA ocA vsA tA ctA h₃ tk₃ F₄ N₄ dA1 dA2 lA1 lA2
    unfold Stop
    refine holds_ok (callerA.depth + 1) (callerA.units + 3) callerA.guards _ _ _ _ _ callerA _ _ _ _ _ _ _ _ DR nb ys ws _ ys.length 0 _ 21 fA _ (fun a b => decide (a < b)) (by assumption) F₄ (by assumption) N₄ (by assumption) (by assumption) (by assumption) (by rfl)
      (by simp) (by simp [hnb]) hNI2 hyl rfl (by omega) ?hone (.inl ⟨rfl, rfl⟩) ⟨_, _, _, _, (by assumption : (hd.heap_39 _).In _) 21 _ (by k_is)⟩ _ _ _ _ List.mem_cons_self (fun q hq => hq) ?hA (by ktr_room) (by ktr_units) ?hret
    case hone =>
      intro j hj
      obtain ⟨v, x, a1, a2, a3⟩ := hys j hj
      exact ⟨v, x, a1, a2, a3.mono fun q hq => by simp [hadds q hq]⟩
    case hA =>
      intro dp un gd cn cs a ccd cl outer A₀ base h₀ L m s Q E rest' v1 v2 x y B F X N T hk hlam ho1 ho2 hdp hun ret
      have hm1 := hlam _ List.mem_cons_self
      have hm2 := hlam _ (List.mem_cons_of_mem _ List.mem_cons_self)
      clear hlam
      obtain ⟨b1, t1, n1, rfl, hb1⟩ := ho1
      obtain ⟨b2, t2, n2, rfl, hb2⟩ := ho2
      refine wpAny_call ?_
      refine' kla_code ?k1 ?k2 ?k3 ?k4 ?k5 ?kA ?kF ?kK hm1 (codeRec_news (by k_asm) hm2 dA1 dA2) ?k8 ?k9 ?kB ?_ ?c2 ?c3 ?c4 ?c5
      case kA => exact rfl
      case kF => exact rfl
      case kK => exact hk
      case k1 => exact B
      case k2 => exact F
      case k3 => exact X
      case k4 => exact N
      case k5 => exact T
      case k8 => ktr_room
      case k9 => exact rfl
      case kB => exact locs rfl
      case c2 => exact rfl
      case c3 => exact rfl
      case c4 => exact rfl
      case c5 => decide
      intro g' L' h' FG' F' N' B' X' T'
      (try dsimp only)
      (try k_fold)
      k_steps
      exact ret _ _ (by assumption) (by assumption)
    · intro h₅ tk₅ F₅ N₅
      (try k_fold)
      k_steps
      rename_i fB cB ocB vsA tA ctA h₃ tk₃ F₆ N₆ dB1 dB2 lA1 lA2
      unfold Stop
      refine holds_ok (callerA.depth + 1) (callerA.units + 3) callerA.guards _ _ _ _ _ callerA _ _ _ _ _ _ _ _ DR nb ys ws _ ys.length 0 _ 28 fB _ (fun a b => decide (b < a)) (by assumption) F₆ (by assumption) N₆ (by assumption) (by assumption) (by assumption) (by rfl)
        (by simp) (by simp [hnb]) hNI2 hyl rfl (by omega) ?hone2 (.inr ⟨rfl, rfl⟩) ⟨_, _, _, _, (by assumption : (hd.heap_39 _).In _) 28 _ (by k_is)⟩ _ _ _ _ List.mem_cons_self (fun q hq => hq) ?hB (by ktr_room) (by ktr_units) ?hret2
      case hone2 =>
        intro j hj
        obtain ⟨v, x, a1, a2, a3⟩ := hys j hj
        exact ⟨v, x, a1, a2, a3.mono fun q hq => by simp [hadds q hq]⟩
      case hB =>
        intro dp un gd cn cs a ccd cl outer A₀ base h₀ L m s Q E rest' v1 v2 x y B F X N T hk hlam ho1 ho2 hdp hun ret
        have hm1 := hlam _ List.mem_cons_self
        have hm2 := hlam _ (List.mem_cons_of_mem _ List.mem_cons_self)
        clear hlam
        obtain ⟨b1, t1, n1, rfl, hb1⟩ := ho1
        obtain ⟨b2, t2, n2, rfl, hb2⟩ := ho2
        refine wpAny_call ?_
        refine' kla_code ?k1 ?k2 ?k3 ?k4 ?k5 ?kA ?kF ?kK hm1 (codeRec_news (by k_asm) hm2 dB1 dB2) ?k8 ?k9 ?kB ?_ ?c2 ?c3 ?c4 ?c5
        case kA => exact rfl
        case kF => exact rfl
        case kK => exact hk
        case k1 => exact B
        case k2 => exact F
        case k3 => exact X
        case k4 => exact N
        case k5 => exact T
        case k8 => ktr_room
        case k9 => exact rfl
        case kB => exact locs rfl
        case c2 => exact rfl
        case c3 => exact rfl
        case c4 => exact rfl
        case c5 => decide
        intro g' L' h' FG' F' N' B' X' T'
        (try dsimp only)
        (try k_fold)
        k_steps
        exact ret _ _ (by assumption) (by assumption)
      · intro h₇ tk₇ F₇ N₇
        (try k_fold)
        k_steps)
end Mine

end

set_option maxRecDepth 100000 in
theorem PySem.Challenge.cw_dp0034_01_holds : PySem.Challenge.rw_dp0034_01.Holds := by
  exact Mine.w0

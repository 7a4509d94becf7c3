import PyProof.Rows.All
import Wide.All
import OpenK.AllK
import Wide.FinOn
import PySem.Challenge.RW_kg0016_01
/-! The law of unorderable_list_difference. First the plain law (the function's loop and the law's two loops, over lists of ints), then rules for the walk, then the walk. -/
open PySem PySem.W PyProof.Rows
set_option Elab.async false
set_option maxRecDepth 100000
namespace Mine
open PySem PySem.W PyProof.Rows

/-- the law's own first list, as far as it has come -/
def missOf (one other : List Int) (pre : List Int) : List Int :=
  (pre.filter fun k => decide (other.count (one.getD k.toNat 0) < (one.drop k.toNat).count (one.getD k.toNat 0))).map fun k => one.getD k.toNat 0
/-- the law's own second list, as far as it has come -/
def leftOf (one other : List Int) (pre : List Int) : List Int :=
  (pre.filter fun k => decide (one.count (other.getD k.toNat 0) < (other.take (k + 1).toNat).count (other.getD k.toNat 0))).map fun k => other.getD k.toNat 0

/-- one turn of the function's loop: the item, what is missing and what is left -/
def step (x : Int) (st : List Int × List Int) : List Int × List Int :=
  if x ∈ st.2 then (st.1, st.2.erase x) else (st.1 ++ [x], st.2)
/-- the function's loop over the items that it has taken, the last one first -/
def run (d A : List Int) : List Int × List Int := d.foldr step ([], A)

theorem run_cons (x : Int) (t A : List Int) : run (x :: t) A = step x (run t A) := rfl
theorem run_left (x : Int) (t A : List Int) : (run (x :: t) A).2 = (run t A).2.erase x := by
  rw [run_cons, step]
  split
  · rfl
  · rename_i h
    exact (List.erase_of_not_mem h).symm
theorem run_count (y : Int) (A : List Int) : ∀ t : List Int, (run t A).2.count y = A.count y - t.count y
  | [] => by simp [run]
  | x :: t => by
    rw [run_left, List.count_erase, run_count y A t, List.count_cons]
    by_cases h : x = y
    · subst h
      simp
      omega
    · simp [h]
theorem run_miss (x : Int) (t A : List Int) : (run (x :: t) A).1 = (run t A).1 ++ (if A.count x < (x :: t).count x then [x] else []) := by
  have hc := run_count x A t
  rw [run_cons, step]
  by_cases h : x ∈ (run t A).2
  · have h1 : 0 < (run t A).2.count x := List.count_pos_iff.mpr h
    have h2 : ¬ (A.count x < (x :: t).count x) := by rw [List.count_cons_self]; omega
    rw [if_pos h, if_neg h2, List.append_nil]
  · have h1 : (run t A).2.count x = 0 := List.count_eq_zero.mpr h
    have h2 : A.count x < (x :: t).count x := by rw [List.count_cons_self]; omega
    rw [if_neg h, if_pos h2]

/-- the second list, item by item -/
def rest (one : List Int) : List Int → List Int → List Int
  | _, [] => []
  | pre, y :: A => (if one.count y < (pre ++ [y]).count y then [y] else []) ++ rest one (pre ++ [y]) A
theorem count_snoc_self (pre : List Int) (x : Int) : (pre ++ [x]).count x = pre.count x + 1 := by simp
theorem count_snoc_ne {x y : Int} (pre : List Int) (h : y ≠ x) : (pre ++ [y]).count x = pre.count x := by
  rw [List.count_append, List.count_cons_of_ne h, List.count_nil, Nat.add_zero]
theorem rest_over (x : Int) (one : List Int) : ∀ (A pre : List Int), one.count x < pre.count x → rest one pre A = rest (x :: one) pre A
  | [], _, _ => rfl
  | y :: A, pre, h => by
    unfold rest
    by_cases e : y = x
    · subst e
      have h1 : one.count y < (pre ++ [y]).count y := by rw [count_snoc_self]; omega
      have h2 : (y :: one).count y < (pre ++ [y]).count y := by rw [count_snoc_self, List.count_cons_self]; omega
      rw [if_pos h1, if_pos h2, rest_over y one A _ h1]
    · have h1 : one.count x < (pre ++ [y]).count x := by rw [count_snoc_ne pre e]; exact h
      rw [rest_over x one A _ h1, List.count_cons_of_ne (fun q => e q.symm)]
theorem rest_erase (x : Int) (one : List Int) : ∀ (A pre : List Int), pre.count x ≤ one.count x → (rest one pre A).erase x = rest (x :: one) pre A
  | [], _, _ => rfl
  | y :: A, pre, h => by
    unfold rest
    by_cases e : y = x
    · subst e
      by_cases h1 : one.count y < (pre ++ [y]).count y
      · have h2 : ¬ ((y :: one).count y < (pre ++ [y]).count y) := by
          rw [count_snoc_self, List.count_cons_self]
          omega
        rw [if_pos h1, if_neg h2, ← rest_over y one A _ h1]
        simp
      · have h2 : ¬ ((y :: one).count y < (pre ++ [y]).count y) := by
          rw [List.count_cons_self]
          omega
        rw [if_neg h1, if_neg h2, List.nil_append, List.nil_append]
        exact rest_erase y one A _ (by omega)
    · have h1 : (pre ++ [y]).count x ≤ one.count x := by rw [count_snoc_ne pre e]; exact h
      rw [← rest_erase x one A _ h1, List.count_cons_of_ne (fun q => e q.symm)]
      split
      · show (y :: rest one (pre ++ [y]) A).erase x = y :: (rest one (pre ++ [y]) A).erase x
        rw [List.erase_cons_tail (by simpa using e)]
      · rfl
theorem rest_nil : ∀ (A pre : List Int), rest [] pre A = A
  | [], _ => rfl
  | y :: A, pre => by
    unfold rest
    have h : List.count y ([] : List Int) < (pre ++ [y]).count y := by rw [count_snoc_self, List.count_nil]; omega
    rw [if_pos h, rest_nil A]
    rfl
theorem run_rest (A : List Int) : ∀ one : List Int, (run one A).2 = rest one [] A
  | [] => (rest_nil A []).symm
  | x :: t => by rw [run_left, run_rest A t, rest_erase x t A [] (by simp)]

/-- the law's second loop over the places behind pre -/
theorem left_at (one : List Int) : ∀ (A pre : List Int),
    ((List.range' pre.length A.length).filter fun k => decide (one.count ((pre ++ A).getD k 0) < ((pre ++ A).take (k + 1)).count ((pre ++ A).getD k 0))).map (fun k => (pre ++ A).getD k 0) = rest one pre A
  | [], _ => rfl
  | y :: A, pre => by
    have ih := left_at one A (pre ++ [y])
    have e1 : pre ++ y :: A = (pre ++ [y]) ++ A := by simp
    have e2 : (pre ++ [y]).length = pre.length + 1 := by simp
    have e3 : ((pre ++ [y]) ++ A).getD pre.length 0 = y := by simp [List.getD]
    have e4 : ((pre ++ [y]) ++ A).take (pre.length + 1) = pre ++ [y] := by rw [← e2, List.take_left]
    rw [e2] at ih
    rw [List.length_cons, List.range'_succ, e1, List.filter_cons, e3, e4]
    unfold rest
    rw [← ih]
    by_cases h : one.count y < (pre ++ [y]).count y
    · rw [if_pos h, if_pos (by simpa using h), List.map_cons, e3]
      rfl
    · rw [if_neg h, if_neg (by simpa using h)]
      rfl
/-- the law's first loop over the places behind pre -/
theorem miss_at (A : List Int) : ∀ (t pre : List Int),
    ((List.range' pre.length t.length).reverse.filter fun k => decide (A.count ((pre ++ t).getD k 0) < ((pre ++ t).drop k).count ((pre ++ t).getD k 0))).map (fun k => (pre ++ t).getD k 0) = (run t A).1
  | [], _ => rfl
  | x :: t, pre => by
    have ih := miss_at A t (pre ++ [x])
    have e1 : pre ++ x :: t = (pre ++ [x]) ++ t := by simp
    have e2 : (pre ++ [x]).length = pre.length + 1 := by simp
    have e3 : ((pre ++ [x]) ++ t).getD pre.length 0 = x := by simp [List.getD]
    have e4 : ((pre ++ [x]) ++ t).drop pre.length = x :: t := by rw [← e1, List.drop_left]
    rw [e2] at ih
    rw [List.length_cons, List.range'_succ, List.reverse_cons, List.filter_append, List.map_append, e1, ih, run_miss]
    congr 1
    by_cases h : A.count x < (x :: t).count x
    · rw [if_pos h, List.filter_cons, e3, e4, if_pos (by simpa using h)]
      simp [List.getD]
    · rw [if_neg h, List.filter_cons, e3, e4, if_neg (by simpa using h)]
      rfl

theorem ofNats (ks : List Nat) (p : Int → Bool) (f : Int → Int) : ((ks.map fun (k : Nat) => (k : Int)).filter p).map f = (ks.filter fun (k : Nat) => p (k : Int)).map fun (k : Nat) => f (k : Int) := by
  rw [List.filter_map, List.map_map]
  rfl
theorem leftOf_nats (one other : List Int) (ks : List Nat) : leftOf one other (ks.map fun (k : Nat) => (k : Int)) = (ks.filter fun k => decide (one.count (other.getD k 0) < (other.take (k + 1)).count (other.getD k 0))).map (fun k => other.getD k 0) := by
  unfold leftOf
  rw [ofNats]
  rfl
theorem missOf_nats (one other : List Int) (ks : List Nat) : missOf one other (ks.map fun (k : Nat) => (k : Int)) = (ks.filter fun k => decide (other.count (one.getD k 0) < (one.drop k).count (one.getD k 0))).map (fun k => one.getD k 0) := by
  unfold missOf
  rw [ofNats]
  rfl
/-- the law's second list is what the function leaves -/
theorem leftOf_run (one other : List Int) : leftOf one other (rangeKs 0 other.length) = (run one other).2 := by
  have e : rangeKs 0 other.length = (List.range' 0 other.length).map fun (k : Nat) => (k : Int) := by
    rw [← List.range_eq_range']
    unfold rangeKs
    apply List.map_congr_left
    intro k _
    omega
  rw [e, leftOf_nats, run_rest, ← left_at one other []]
  rfl
/-- the law's first list is what the function misses -/
theorem missOf_run (one other : List Int) : missOf one other (downKs ((one.length : Int) - 1) one.length) = (run one other).1 := by
  have e : downKs ((one.length : Int) - 1) one.length = ((List.range' 0 one.length).reverse).map fun (k : Nat) => (k : Int) := by
    unfold downKs
    rw [← List.range_eq_range']
    apply List.ext_getElem
    · simp
    · intro i h1 h2
      simp at h1 h2
      simp
      omega
  rw [e, missOf_nats, ← miss_at other one []]
  rfl
end Mine

namespace Mine
open PySem PySem.W PySem.Calls PyProof.Rows PySem.Spec

section
variable {prog : Program} {w : World} {A : Around} {E : Value → Shared → Prop} {s : Shared} {h₀ : Heap} {L l D : Addr} {m : Str → Option Value} {news news' : List (Addr × Obj)} {value slice : PySem.Expr} {vs us : List Value} {ns : List Int} {vl vu vk : Value} {lo hi st : Option Int} {ops : List Value} {n : Nat} {Q : Value → Shared → Prop}
/-- a slice with a step of a list of ints: some ints, no more than there were -/
theorem step_slice (F : Fr h₀ L s.heap m) (N : News h₀ L s.heap news) (hl : s.heap.IsList l vs.toArray) (pl : IsPart vl lo) (pu : IsPart vu hi) (pk : IsPart vk st) (h0 : st ≠ some 0) (hi' : IntsAre vs ns) (hb : ns.length ≤ 63)
    (h : ∀ D ws ms h', Fr h₀ L h' m → News h₀ L h' ((D, listOf (List.toArray ws) 0) :: news) → (∀ p ∈ news, p.1 < D) → IntsAre ws ms → ms.length ≤ 63 → Q (.ref D) { s with heap := h' })
    (hs : subscripted slice false (.ref l) (.ref s.heap.objs.size) = operate ops (getItem (.ref l) (.ref s.heap.objs.size))) (ht : ∀ r, letTemporaryGo value (.ref l) r = pure ()) (hz : vs.toArray.size ≤ sizeLine) :
    wpAny (model prog w) A (subscriptTail value slice (.ref l) (.ref s.heap.objs.size)) Q E { s with heap := s.heap.push { cls := .type "slice", data := .fields #[vl, vu, vk] } } := by
  refine slice_list3 F N hl pl pu pk h0 (fun h' F' N' => h _ (slicePick vs.toArray lo hi st).toList (pickNums ns lo hi st) h' F' ?_ (fun p hp => Nat.lt_succ_of_lt (Heap.lt_size (N p hp).1)) (hi'.pick lo hi st) (Nat.le_trans (length_pickNums_le hi' lo hi st) hb)) hs ht hz
  rw [Array.toArray_toList]
  exact N'
theorem from_slice {k : Int} {t : Tok} (F : Fr h₀ L s.heap m) (N : News h₀ L s.heap news) (hl : s.heap.IsList l vs.toArray) (hi' : IntsAre vs ns) (h0 : 0 ≤ k) (hb : ns.length ≤ 63)
    (h : ∀ D ws h', Fr h₀ L h' m → News h₀ L h' ((D, listOf (List.toArray ws) 0) :: news) → (∀ p ∈ news, p.1 < D) → IntsAre ws (ns.drop k.toNat) → Q (.ref D) { s with heap := h' })
    (hs : subscripted slice false (.ref l) (.ref s.heap.objs.size) = operate [.ref s.heap.objs.size, .ref l] (getItem (.ref l) (.ref s.heap.objs.size))) (ht : ∀ r, letTemporaryGo value (.ref l) r = pure ()) :
    wpAny (model prog w) A (subscriptTail value slice (.ref l) (.ref s.heap.objs.size)) Q E { s with heap := s.heap.push { cls := .type "slice", data := .fields #[.int k t, .none, .none] } } :=
  kmk_slice_ints F N hl (.int _ _) .none hi' (kmk_from hi' h0) rfl (fun D ws h' F' N' l1 hI _ _ => h D ws h' F' N' l1 hI) hs ht (kmk_sz hi' (by rw [sizeLine_eq]; omega))
theorem upto_slice {k : Int} {t : Tok} (F : Fr h₀ L s.heap m) (N : News h₀ L s.heap news) (hl : s.heap.IsList l vs.toArray) (hi' : IntsAre vs ns) (h0 : 0 ≤ k) (hb : ns.length ≤ 63)
    (h : ∀ D ws h', Fr h₀ L h' m → News h₀ L h' ((D, listOf (List.toArray ws) 0) :: news) → (∀ p ∈ news, p.1 < D) → IntsAre ws (ns.take (k + 1).toNat) → Q (.ref D) { s with heap := h' })
    (hs : subscripted slice false (.ref l) (.ref s.heap.objs.size) = operate [.ref s.heap.objs.size, .ref l] (getItem (.ref l) (.ref s.heap.objs.size))) (ht : ∀ r, letTemporaryGo value (.ref l) r = pure ()) :
    wpAny (model prog w) A (subscriptTail value slice (.ref l) (.ref s.heap.objs.size)) Q E { s with heap := s.heap.push { cls := .type "slice", data := .fields #[.none, .int (k + 1) t, .none] } } :=
  kmk_slice_ints F N hl .none (.int _ _) hi' (kmk_upto hi' (by omega)) rfl (fun D ws h' F' N' l1 hI _ _ => h D ws h' F' N' l1 hI) hs ht (kmk_sz hi' (by rw [sizeLine_eq]; omega))
theorem len_of {c : Nat} (N : News h₀ L s.heap news) (hm : (l, listOf us.toArray c) ∈ news) (hi : IntsAre us ns) (hb : ns.length ≤ 63)
    (h : Q (.int (ns.length : Int) (s.toks + 1)) { s with toks := s.toks + 1 + 1 }) : wpAny (model prog w) A (call (.builtin "len") [.ref l]) Q E s :=
  kst_len N hm hi.length (by omega) h
theorem truthy_of {c : Nat} {Q : Bool → Shared → Prop} (N : News h₀ L s.heap news) (hm : (l, listOf us.toArray c) ∈ news) (hi : IntsAre us ns) (hb : ns.length ≤ 63)
    (h : Q (decide (0 < ns.length)) { s with toks := s.toks + 1 + 1 }) : wpAny (model prog w) A (truthy (.ref l)) Q E s :=
  truthy_ints_fit (News.isList N hm) hi (by omega) h
theorem pop_of (F : Fr h₀ L s.heap m) (N : News h₀ L s.heap news) (U : Upd D (listOf us.toArray n) (listOf us.dropLast.toArray (n + 1)) news news') (hi : IntsAre us ns) (hne : 0 < ns.length)
    (hb : ns.length ≤ 63) (h : ∀ h' t, Fr h₀ L h' m → News h₀ L h' news' → IntsAre us.dropLast ns.dropLast → Q (.int (ns.getLastD 0) t) { s with heap := h' }) : wpAny (model prog w) A (call (.builtin "list.pop") [.ref D]) Q E s :=
  kpa_pop F N U hi (by rw [hi.length]; exact hne) (by rw [hi.length, sizeLine_eq]; omega) h

theorem ints_all {vs : List Value} {ns : List Int} (h : IntsAre vs ns) : kf_ints vs = true := by
  induction h with
  | nil => rfl
  | cons n t _ ih => exact ih
theorem ints_hit (k : Int) {vs : List Value} {ns : List Int} (h : IntsAre vs ns) : k ∈ ns → kf_at k vs = some (ns.idxOf k) ∧ ki_delL vs (ns.idxOf k) = some (vs.eraseIdx (ns.idxOf k)) ∧ IntsAre (vs.eraseIdx (ns.idxOf k)) (ns.erase k) := by
  induction h with
  | nil => intro q; cases q
  | @cons n t vs ns h ih =>
    intro q
    by_cases e : n = k
    · subst e
      refine ⟨?_, ?_, ?_⟩
      · simp [kf_at, isInt]
      · simp [ki_delL]
      · simpa using h
    · have hk : k ∈ ns := by
        rcases List.mem_cons.mp q with q | q
        · exact absurd q.symm e
        · exact q
      obtain ⟨h1, h2, h3⟩ := ih hk
      have e0 : (n == k) = false := by simpa using e
      have e1 : (n :: ns).idxOf k = ns.idxOf k + 1 := by rw [List.idxOf_cons, e0]; rfl
      have e2 : isInt k (.int n t) = false := by simpa [isInt] using e
      rw [e1, List.erase_cons_tail (by simpa using e), List.eraseIdx_cons_succ]
      refine ⟨?_, ?_, .cons n t h3⟩
      · show cond (isInt k (.int n t)) (some 0) (match kf_at k vs with | some j => some (j + 1) | none => none) = _
        rw [e2, h1]
        rfl
      · show (match ki_delL vs (ns.idxOf k) with | some q => some (Value.int n t :: q) | none => none) = _
        rw [h2]
theorem ints_miss (k : Int) {vs : List Value} {ns : List Int} (h : IntsAre vs ns) : k ∉ ns → ∀ v ∈ vs, isInt k v = false := by
  induction h with
  | nil => intro _ v hv; cases hv
  | @cons n t vs ns h ih =>
    intro q v hv
    rw [List.mem_cons, not_or] at q
    rcases List.mem_cons.mp hv with rfl | hv
    · simpa [isInt] using fun e => q.1 (Eq.symm e)
    · exact ih q.2 v hv
/-- remove: the first of its kind goes, or ValueError -/
theorem remove_or {k : Int} {t : Tok} (hA : A.handled = none) (F : Fr h₀ L s.heap m) (N : News h₀ L s.heap news) (U : Upd D (listOf us.toArray n) (listOf (us.eraseIdx (ns.idxOf k)).toArray (n + 1)) news news') (hi : IntsAre us ns) (hb : ns.length ≤ 63)
    (h1 : k ∈ ns → ∀ h', Fr h₀ L h' m → News h₀ L h' news' → IntsAre (us.eraseIdx (ns.idxOf k)) (ns.erase k) → Q .none { s with heap := h' })
    (h2 : k ∉ ns → ∀ h' tk e, Heap.NewExc s.heap h' e "ValueError" → E (.ref e) { s with heap := h', toks := tk }) :
    wpAny (model prog w) A (call (.builtin "list.remove") [.ref D, .int k t]) Q E s := by
  by_cases hk : k ∈ ns
  · obtain ⟨a, b, c⟩ := ints_hit k hi hk
    exact kf_remove F N (its := us.toArray) (ints_all hi) a b U (by show us.length ≤ _; rw [hi.length, sizeLine_eq]; omega) fun h' F' N' => h1 hk h' F' N' c
  · obtain ⟨pre, post, rfl, rfl, a', b'⟩ := U.split
    have z := N (D, listOf us.toArray n) (List.mem_append.mpr (.inr (.head _)))
    refine call_meets PySem.F.slot_list_remove ⟨_, z.1, rfl⟩ PySem.F.entry_list_remove (PySem.F.args_list_remove_2 _ _)
      (MeetsSeq.list_remove_none D us.toArray n (.int k t) (isInt k) (fun y hy => kf_eq (ints_all hi) y (by simpa using hy)) (fun i hm => ints_miss k hi hk _ (by simp))) ⟨z.1, hA, h2 hk⟩
end

section
variable {prog : Program} {w : World} {A : Around} {s : Shared} {h₀ : Heap} {L a : Addr} {m : Str → Option Value} {news : List (Addr × Obj)} {K : Frag} {p : Program} {loose : List Str} {mean : ExcName → Option Value} {mg mb : Str → Option Value}
  {R : Result → Shared → Prop} {name qual : Str} {params : Arguments} {body : List Stmt} {scope : Scope} {dV kV doc pm cdv ct oc : Value} {an od : Option Addr} {osl : Array (Option Value)} {f : Addr} {args : Args} {binds : List (Str × Value)} {env : Env}
/-- a call of a def that may note an exception: the caller's frame goes onto the ledger -/
theorem enter {L₁ : Addr} (hA : A.frames = some [env]) (F : Fr h₀ L₁ s.heap m) (hLL : L₁ = L) (X₀ : K.In h₀) (N : News h₀ L₁ s.heap news) (T : Top p loose mean mg mb h₀) (hef : env.frame = some L) (hek : env.scope.kind = .function)
    (ho : K.lookup f = some ⟨oc, od, .func (fnOf name qual params body scope dV kV doc pm an cdv ct), osl⟩) (hcd : codeIn K cdv qual = true) (hroom : A.depth < recursionLimit)
    (hbind : BindsTo s (fnOf name qual params body scope dV kV doc pm an cdv ct) args binds) (hloc : ∀ y ∈ binds, scope.names.lookup y.1 = some .local)
    (h : ∀ oL h₁, TI.Caller h₀ L m oL → TI.Frs [env] [(L, oL)] → (∀ b ∈ news.map (·.1), b ≠ L) → Fr h₀ s.heap.objs.size h₁ (fun y => binds.reverse.lookup y) → News h₀ s.heap.objs.size h₁ ((L, oL) :: news) →
      wpAny (model prog w) (A.deeper (envOf qual scope s.heap.objs.size f cdv)) (execs body (envOf qual scope s.heap.objs.size f cdv))
        (fun fl s' => TI.LeaveI s' (R (.ok (.ret (match fl with | .ret v => v | _ => .none))) s'))
        (fun e s' => wpAny (model prog w) (A.deeper (envOf qual scope s.heap.objs.size f cdv)) (leaving (envOf qual scope s.heap.objs.size f cdv) e) (fun _ s'' => TI.LeaveX (R (.error e) s'')) (fun e' s'' => TI.LeaveX (R (.error e') s'')) s')
        { s with heap := h₁, toks := s.toks + binds.length })
    (hco : scope.isCoroutine = false := by rfl) (hgen : scope.isGenerator = false := by rfl) (hk : scope.kind = .function := by rfl)
    (hcell : ∀ x ∈ scope.names, x.2 ≠ .cell := by decide) : codeAny (model prog w) A (.call (.ref f) args) R s := by
  subst hLL
  have X := X₀.keeps F.keep
  obtain ⟨oL, es, ep, hL, hLd, hLk, hLf⟩ := F.ns
  have hLt := Heap.lt_size hL
  refine codeAny_call_def (fd := fnOf name qual params body scope dV kV doc pm an cdv ct) (body := body) (binds := binds) hroom (X _ _ ho) rfl (T.nolimit.keeps F.keep) (codeRec_of X hcd) rfl hbind hcell hloc (fun h₁ hns up => ?_) hco hgen hk
  refine h oL h₁ ⟨fun h' sl e => ⟨_, es, ep, e, hLd, hLk, hLf⟩, ⟨es, ep, hLd⟩, F.above⟩ ⟨by rw [hek]; decide, hef, ⟨es, ep, hLd⟩, trivial⟩ (fun b hb => ?_)
    ⟨hns, fun b o e => up b o (F.keep b o e), Nat.le_trans F.above (Nat.le_of_lt hLt)⟩ (fun q hq => ?_)
  · obtain ⟨q, hq, rfl⟩ := List.mem_map.mp hb
    exact (N q hq).2.1
  · rcases List.mem_cons.mp hq with rfl | hq
    · exact ⟨up _ _ hL, Nat.ne_of_lt hLt, Heap.get?_none_of_le F.above⟩
    · obtain ⟨h1, h2, h3⟩ := N q hq
      exact ⟨up _ _ h1, Nat.ne_of_lt (Heap.lt_size h1), h3⟩
end

section
variable {prog : Program} {w : World} {A₀ : Around} {E : Value → Shared → Prop} {s' : Shared} {h₀ h : Heap} {L M Lc a e : Addr} {m : Str → Option Value} {name : Str} {scope : Scope} {cd : Value}
  {b₀ : Stmt} {suite : List Stmt} {pos np : Pos} {hrest : List ExceptHandler} {Q : Flow → Shared → Prop} {X : String} {x : Str} {p : Program} {loose : List Str} {mean : ExcName → Option Value} {mg mb : Str → Option Value}
  {env : Env} {o oM : Obj} {rest : List (Addr × Obj)}
/-- an exception of this very frame, caught by its own clause, one caller above: only the caller's slots turn -/
theorem caught (hfr : A₀.frames = some [env]) (Fs : TI.Frs [env] [(Lc, o)]) (hx : Heap.NewExc h s'.heap e X) (F : Fr h₀ L h m) (N : News h₀ L h ((M, oM) :: (Lc, o) :: rest)) (hM : M ≠ Lc) (hr : ∀ b ∈ rest.map (·.1), b ≠ Lc)
    (T : Top p loose mean mg mb h₀) (t1 : x ∉ startupNames) (t2 : x ∉ loose) (t3 : x ∉ (recsOf p).map (·.name)) (t4 : x ∉ (litsOf p).map (·.1)) (t5 : x ∉ (clssOf p loose).map (·.name))
    (hv : bootBuiltins x = some (.type x.toString))
    (k : ∀ h' sl, Fr h₀ L h' m → News h₀ L h' ((M, oM) :: (Lc, { o with slots := sl }) :: rest) → TI.Frs [env] [(Lc, { o with slots := sl })] →
      wpAny (model prog w) ((A₀.deeper (envOf name scope L a cd)).mark (some (.ref e))) (execs (b₀ :: suite) (envOf name scope L a cd)) Q E { s' with heap := h' })
    (h3 : subB X (.type x.toString) = some true := by decide +kernel) (h1 : subB x.toString (.type "BaseException") = some true := by decide +kernel)
    (h2 : subB ((Manifest.find? x.toString).elim "type" fun y => y.metatype) (.type "tuple") = some false := by decide +kernel) (hn : x ≠ "__name__" := by decide)
    (hk : scope.kind = .function := by rfl) (hxk : (envOf name scope L a cd).kindOf x = some .globalImplicit := by rfl) (hdb : (x == ("__debug__" : Str)) = false := by decide)
    (hE : PassesOwnAt (model prog w) ((A₀.deeper (envOf name scope L a cd)).mark (some (.ref e))) (A₀.deeper (envOf name scope L a cd)) (envOf name scope L a cd) E := by passes_own) :
    wpAny (model prog w) (A₀.deeper (envOf name scope L a cd)) (noteFrame (.ref e) (envOf name scope L a cd))
      (fun _ s₂ => wpAny (model prog w) (A₀.deeper (envOf name scope L a cd)) (setFlight (.ref e) none) (fun _ s₃ =>
        wpAny (model prog w) (A₀.deeper (envOf name scope L a cd)) (handleBy (.ref e) (envOf name scope L a cd) (.ExceptHandler (some (.Name x np)) none (b₀ :: suite) pos :: hrest)) Q E s₃) E s₂) E s' := by
  have N1 : News h₀ L h (((M, oM) :: rest) ++ [(Lc, o)]) := fun q hq => N q (by
    rcases List.mem_append.mp hq with hq | hq
    · rcases List.mem_cons.mp hq with rfl | hq
      · exact .head _
      · exact .tail _ (.tail _ hq)
    · rw [List.mem_singleton.mp hq]
      exact .tail _ (.head _))
  have hne : ∀ q ∈ (M, oM) :: rest, q.1 ∉ L :: [(Lc, o)].map (·.1) := fun q hq hm => by
    rcases List.mem_cons.mp hm with hm | hm
    · exact (N1 q (List.mem_append_left _ hq)).2.1 hm
    · have hm' : q.1 = Lc := List.mem_singleton.mp hm
      rcases List.mem_cons.mp hq with rfl | hq
      · exact hM hm'
      · exact hr q.1 (List.mem_map.mpr ⟨q, hq, rfl⟩) hm'
  refine TLg.noted_newA hfr Fs hx F N1 hne (fun h₁ frs' SU Fs' H => ?_) hk
  obtain ⟨sl, rfl⟩ := TLg.one_up SU
  refine TT.HeldNA.land (s' := { s' with heap := h₁ }) H fun h₂ H₂ => ?_
  refine TT.clause_hitTN (s' := { s' with heap := h₂ }) H₂ T t1 t2 t3 t4 t5 (fun h₃ F₃ N₃ => ?_) h3 hv h1 h2 hn hk hxk hdb hE
  refine k h₃ sl F₃ (fun q hq => N₃ q ?_) Fs'
  rcases List.mem_cons.mp hq with rfl | hq
  · exact .head _
  · rcases List.mem_cons.mp hq with rfl | hq
    · exact List.mem_append_right _ (.head _)
    · exact .tail _ (List.mem_append_left _ hq)
end

/-- what holds between the turns of the function's loop: e is what is left of the first list, a and mi what the taken items have made -/
def Inv (E0 A0 e a mi : List Int) : Prop := ∃ d, E0 = e ++ d ∧ mi = (run d A0).1 ∧ a = (run d A0).2
theorem inv_start (E0 A0 : List Int) : Inv E0 A0 E0 A0 [] := ⟨[], (List.append_nil _).symm, rfl, rfl⟩
theorem last_split {e : List Int} (h : 0 < e.length) : e = e.dropLast ++ [e.getLastD 0] := by
  have hne : e ≠ [] := fun q => by rw [q] at h; exact absurd h (Nat.lt_irrefl _)
  have h1 := List.dropLast_concat_getLast hne
  have h2 : e.getLastD 0 = e.getLast hne := by
    rw [List.getLastD_eq_getLast?, List.getLast?_eq_some_getLast hne]
    rfl
  rw [h2]
  exact h1.symm
theorem inv_hit {E0 A0 e a mi : List Int} (h : Inv E0 A0 e a mi) (h0 : 0 < e.length) (hk : e.getLastD 0 ∈ a) : Inv E0 A0 e.dropLast (a.erase (e.getLastD 0)) mi := by
  obtain ⟨d, h1, h2, h3⟩ := h
  refine ⟨e.getLastD 0 :: d, ?_, ?_, ?_⟩
  · rw [h1]
    conv => lhs; rw [last_split h0]
    rw [List.append_assoc]
    rfl
  · rw [run_cons, step, ← h3, if_pos hk]
    exact h2
  · rw [run_cons, step, ← h3, if_pos hk]
theorem inv_miss {E0 A0 e a mi : List Int} (h : Inv E0 A0 e a mi) (h0 : 0 < e.length) (hk : e.getLastD 0 ∉ a) : Inv E0 A0 e.dropLast a (mi ++ [e.getLastD 0]) := by
  obtain ⟨d, h1, h2, h3⟩ := h
  refine ⟨e.getLastD 0 :: d, ?_, ?_, ?_⟩
  · rw [h1]
    conv => lhs; rw [last_split h0]
    rw [List.append_assoc]
    rfl
  · rw [run_cons, step, ← h3, if_neg hk, ← h2]
  · rw [run_cons, step, ← h3, if_neg hk]
theorem inv_done {E0 A0 e a mi : List Int} (h : Inv E0 A0 e a mi) (h0 : ¬ 0 < e.length) : mi = (run E0 A0).1 ∧ a = (run E0 A0).2 := by
  obtain ⟨d, h1, h2, h3⟩ := h
  have he : e = [] := List.length_eq_zero_iff.mp (by omega)
  rw [he, List.nil_append] at h1
  rw [h1]
  exact ⟨h2, h3⟩

/-- the turn's end -/
def LoopEnd (h₀ : Heap) (L : Addr) (s : Shared) (M Lc D2 D1 : Addr) (oL : Obj) (rest : List (Addr × Obj)) (m₀ : Str → Option Value) (x : Str) (E0 A0 e : List Int) (s₂ : Shared) : Prop :=
  ∃ (us : List Value) (e' : List Int) (n1 : Nat) (ws : List Value) (a : List Int) (n2 : Nat) (vs : List Value) (mi : List Int) (n3 : Nat) (sl : Array (Option Value)) (h : Heap) (tk : Nat) (m' : Str → Option Value),
    s₂ = { s with heap := h, toks := tk } ∧ Fr h₀ L h m' ∧ (∀ z, z ≠ x → m' z = m₀ z) ∧
    News h₀ L h ((M, listOf vs.toArray n3) :: (Lc, { oL with slots := sl }) :: (D2, listOf ws.toArray n2) :: (D1, listOf us.toArray n1) :: rest) ∧
    IntsAre us e' ∧ IntsAre ws a ∧ IntsAre vs mi ∧ Inv E0 A0 e' a mi ∧ e'.length ≤ 63 ∧ a.length ≤ 63 ∧ mi.length + e'.length ≤ 63 ∧ e'.length < e.length
def LoopPost (h₀ : Heap) (L : Addr) (s : Shared) (M Lc D2 D1 : Addr) (oL : Obj) (rest : List (Addr × Obj)) (m₀ : Str → Option Value) (x : Str) (E0 A0 e : List Int) (Q : Flow → Shared → Prop) (f : Flow) (s₂ : Shared) : Prop :=
  match f with
  | .ret v => Q (.ret v) s₂
  | .brk => Q .next s₂
  | _ => LoopEnd h₀ L s M Lc D2 D1 oL rest m₀ x E0 A0 e s₂
section
variable {prog : Program} {w : World} {A : Around} {E : Value → Shared → Prop} {Q : Flow → Shared → Prop} {s : Shared} {env : Env} {h₀ : Heap} {L M Lc D2 D1 : Addr} {oL : Obj} {rest : List (Addr × Obj)} {m₀ : Str → Option Value} {E0 A0 : List Int}
/-- the function's loop -/
theorem loop {test : Expr} {body : List Stmt} {pos : Pos} {us ws : List Value} {c1 c2 : Nat} (x : Str)
    (F : Fr h₀ L s.heap m₀) (N : News h₀ L s.heap ((M, listOf #[] 0) :: (Lc, oL) :: (D2, listOf ws.toArray c2) :: (D1, listOf us.toArray c1) :: rest))
    (i1 : IntsAre us E0) (i2 : IntsAre ws A0) (b1 : E0.length ≤ 63) (b2 : A0.length ≤ 63)
    (turn : ∀ (us : List Value) (e : List Int) (n1 : Nat) (ws : List Value) (a : List Int) (n2 : Nat) (vs : List Value) (mi : List Int) (n3 : Nat) (sl : Array (Option Value)) (h : Heap) (tk : Nat) (u : Option Value),
      Fr h₀ L h (fun z => if z = x then u else m₀ z) →
      News h₀ L h ((M, listOf vs.toArray n3) :: (Lc, { oL with slots := sl }) :: (D2, listOf ws.toArray n2) :: (D1, listOf us.toArray n1) :: rest) →
      IntsAre us e → IntsAre ws a → IntsAre vs mi → Inv E0 A0 e a mi → e.length ≤ 63 → a.length ≤ 63 → mi.length + e.length ≤ 63 →
      wpAny (model prog w) A (isTrue test env (eval test env)) (fun b s₂ =>
        if b = true then wpAny (model prog w) A (execs body env) (LoopPost h₀ L s M Lc D2 D1 oL rest m₀ x E0 A0 e Q) E s₂ else Q .next s₂) E { s with heap := h, toks := tk })
    (hE : PassesOwn (model prog w) A env E := by passes_own) :
    wpAny (model prog w) A (exec (.While test body [] pos) env) Q E s := by
  refine While_inv2 (fun n m nx => ∃ (us : List Value) (e : List Int) (n1 : Nat) (ws : List Value) (a : List Int) (n2 : Nat) (vs : List Value) (mi : List Int) (n3 : Nat) (sl : Array (Option Value)),
      nx = (M, listOf vs.toArray n3) :: (Lc, { oL with slots := sl }) :: (D2, listOf ws.toArray n2) :: (D1, listOf us.toArray n1) :: rest ∧ n = e.length ∧ (∀ z, z ≠ x → m z = m₀ z) ∧
      IntsAre us e ∧ IntsAre ws a ∧ IntsAre vs mi ∧ Inv E0 A0 e a mi ∧ e.length ≤ 63 ∧ a.length ≤ 63 ∧ mi.length + e.length ≤ 63)
    F N ⟨us, E0, c1, ws, A0, c2, [], [], 0, oL.slots, rfl, rfl, fun _ _ => rfl, i1, i2, .nil, inv_start E0 A0, b1, b2, by simpa using b1⟩ ?_ hE
  rintro n m₁ nx h tk F₁ N₁ ⟨us, e, n1, ws, a, n2, vs, mi, n3, sl, rfl, rfl, hm, j1, j2, j3, hv, k1, k2, k3⟩
  have em : m₁ = fun z => if z = x then m₁ x else m₀ z := by
    funext z
    by_cases hz : z = x
    · rw [if_pos hz, hz]
    · rw [if_neg hz, hm z hz]
  refine wpAny_mono (turn us e n1 ws a n2 vs mi n3 sl h tk (m₁ x) (em ▸ F₁) N₁ j1 j2 j3 hv k1 k2 k3) (fun b s₂ q => ?_) fun _ _ y => y
  cases b with
  | false => simpa using q
  | true =>
    simp only [if_true] at q ⊢
    refine wpAny_mono q (fun f s₃ q => ?_) fun _ _ y => y
    have go : LoopEnd h₀ L s M Lc D2 D1 oL rest m₀ x E0 A0 e s₃ → ∃ h' tk m₂ news₂ n', s₃ = { s with heap := h', toks := tk } ∧ Fr h₀ L h' m₂ ∧ News h₀ L h' news₂ ∧ n' < e.length ∧
        ∃ (us : List Value) (e : List Int) (n1 : Nat) (ws : List Value) (a : List Int) (n2 : Nat) (vs : List Value) (mi : List Int) (n3 : Nat) (sl : Array (Option Value)),
        news₂ = (M, listOf vs.toArray n3) :: (Lc, { oL with slots := sl }) :: (D2, listOf ws.toArray n2) :: (D1, listOf us.toArray n1) :: rest ∧ n' = e.length ∧ (∀ z, z ≠ x → m₂ z = m₀ z) ∧
        IntsAre us e ∧ IntsAre ws a ∧ IntsAre vs mi ∧ Inv E0 A0 e a mi ∧ e.length ≤ 63 ∧ a.length ≤ 63 ∧ mi.length + e.length ≤ 63 := by
      rintro ⟨us', e', n1', ws', a', n2', vs', mi', n3', sl', h', tk', m', rfl, F', hm', N', x1, x2, x3, x4, x5, x6, x7, x8⟩
      exact ⟨h', tk', m', _, e'.length, rfl, F', N', x8, us', e', n1', ws', a', n2', vs', mi', n3', sl', rfl, rfl, hm', x1, x2, x3, x4, x5, x6, x7⟩
    cases f with
    | ret v => exact q
    | brk => exact q
    | next => exact go q
    | cont => exact go q
theorem end_hit {us : List Value} {e : List Int} {n1 : Nat} {ws : List Value} {a : List Int} {n2 : Nat} {vs : List Value} {mi : List Int} {n3 : Nat} {sl : Array (Option Value)} {h : Heap} {tk : Nat} {m' : Str → Option Value} {x : Str}
    (F : Fr h₀ L h m') (N : News h₀ L h ((M, listOf vs.toArray n3) :: (Lc, { oL with slots := sl }) :: (D2, listOf (ws.eraseIdx (a.idxOf (e.getLastD 0))).toArray n2) :: (D1, listOf us.dropLast.toArray n1) :: rest))
    (hm : ∀ z, z ≠ x → m' z = m₀ z) (i1 : IntsAre us.dropLast e.dropLast) (i2 : IntsAre (ws.eraseIdx (a.idxOf (e.getLastD 0))) (a.erase (e.getLastD 0))) (i3 : IntsAre vs mi) (hv : Inv E0 A0 e a mi) (h0 : 0 < e.length) (hk : e.getLastD 0 ∈ a)
    (k1 : e.length ≤ 63) (k2 : a.length ≤ 63) (k3 : mi.length + e.length ≤ 63) : LoopEnd h₀ L s M Lc D2 D1 oL rest m₀ x E0 A0 e { s with heap := h, toks := tk } := by
  have l1 : e.dropLast.length = e.length - 1 := List.length_dropLast
  have l2 : (a.erase (e.getLastD 0)).length ≤ a.length := List.length_erase_le
  exact ⟨_, _, _, _, _, _, _, _, _, _, h, tk, m', rfl, F, hm, N, i1, i2, i3, inv_hit hv h0 hk, by omega, by omega, by omega, by omega⟩
theorem end_miss {us : List Value} {e : List Int} {n1 : Nat} {ws : List Value} {a : List Int} {n2 : Nat} {vs : List Value} {mi : List Int} {n3 : Nat} {sl : Array (Option Value)} {h : Heap} {tk : Nat} {m' : Str → Option Value} {x : Str} {t : Tok}
    (F : Fr h₀ L h m') (N : News h₀ L h ((M, listOf (vs.toArray.push (.int (e.getLastD 0) t)) n3) :: (Lc, { oL with slots := sl }) :: (D2, listOf ws.toArray n2) :: (D1, listOf us.dropLast.toArray n1) :: rest))
    (hm : ∀ z, z ≠ x → m' z = m₀ z) (i1 : IntsAre us.dropLast e.dropLast) (i2 : IntsAre ws a) (i3 : IntsAre vs mi) (hv : Inv E0 A0 e a mi) (h0 : 0 < e.length) (hk : e.getLastD 0 ∉ a)
    (k1 : e.length ≤ 63) (k2 : a.length ≤ 63) (k3 : mi.length + e.length ≤ 63) : LoopEnd h₀ L s M Lc D2 D1 oL rest m₀ x E0 A0 e { s with heap := h, toks := tk } := by
  have l1 : e.dropLast.length = e.length - 1 := List.length_dropLast
  rw [List.push_toArray] at N
  exact ⟨_, _, _, _, _, _, _, _, _, _, h, tk, m', rfl, F, hm, N, i1, i2, i3.append (.cons _ _ .nil), inv_miss hv h0 hk, by omega, by omega, by rw [List.length_append, List.length_singleton]; omega, by omega⟩
/-- back to the caller -/
theorem back {P : Prop} {s' : Shared} {L' : Addr} {m m' : Str → Option Value} {sl : Array (Option Value)} {T₁ M₁ : Addr} {oT oM : Obj} (C : TI.Caller h₀ Lc m oL) (F' : Fr h₀ L' s'.heap m')
    (N' : News h₀ L' s'.heap ((T₁, oT) :: (M₁, oM) :: (Lc, { oL with slots := sl }) :: rest)) (hT : T₁ ≠ Lc) (hM : M₁ ≠ Lc) (hne : ∀ b ∈ rest.map (·.1), b ≠ Lc)
    (k : Fr h₀ Lc s'.heap m → News h₀ Lc s'.heap ((T₁, oT) :: (M₁, oM) :: rest) → P) : TI.LeaveI s' P := by
  have hL : s'.heap.get? Lc = some { oL with slots := sl } := (N' _ (.tail _ (.tail _ (.head _)))).1
  refine k ⟨C.ns _ sl hL, F'.keep, C.above⟩ fun q hq => ?_
  rcases List.mem_cons.mp hq with rfl | hq
  · obtain ⟨x1, _, x3⟩ := N' _ (.head _)
    exact ⟨x1, hT, x3⟩
  · rcases List.mem_cons.mp hq with rfl | hq
    · obtain ⟨x1, _, x3⟩ := N' _ (.tail _ (.head _))
      exact ⟨x1, hM, x3⟩
    · obtain ⟨x1, _, x3⟩ := N' q (.tail _ (.tail _ (.tail _ hq)))
      exact ⟨x1, hne _ (List.mem_map.mpr ⟨q, hq, rfl⟩), x3⟩
end

/-- the ranges' ints lie in the lists -/
theorem down_facts {k : Int} {p n : Nat} (h : k = (n:Int) - 1 - (p:Int)) (h2 : p < ((n:Int) - 1 - -1).toNat) : 0 ≤ k ∧ k < (n : Int) := by omega
theorem up_facts {k : Int} {p n : Nat} (h : k = 0 + (p:Int)) (h2 : p < ((n:Int) - 0).toNat) : 0 ≤ k ∧ k < (n : Int) := by omega
theorem miss_start (one other : List Int) : ([] : List Int) = missOf one other [] ∧ ([] : List Int).length ≤ ([] : List Int).length := ⟨rfl, Nat.le_refl _⟩
theorem left_start (one other : List Int) : ([] : List Int) = leftOf one other [] ∧ ([] : List Int).length ≤ ([] : List Int).length := ⟨rfl, Nat.le_refl _⟩
theorem miss_yes {one other pre f : List Int} {k : Int} (h : f = missOf one other pre) (hl : f.length ≤ pre.length) (hc : ((other.count (one.getD k.toNat 0) : Nat) : Int) < (((one.drop k.toNat).count (one.getD k.toNat 0) : Nat) : Int)) :
    f ++ [one.getD k.toNat 0] = missOf one other (pre ++ [k]) ∧ (f ++ [one.getD k.toNat 0]).length ≤ (pre ++ [k]).length := by
  refine ⟨?_, by rw [List.length_append, List.length_append, List.length_singleton, List.length_singleton]; omega⟩
  have hc' : other.count (one.getD k.toNat 0) < (one.drop k.toNat).count (one.getD k.toNat 0) := by omega
  rw [h]
  unfold missOf
  rw [List.filter_append, List.map_append, List.filter_cons, if_pos (by simpa using hc')]
  rfl
theorem miss_no {one other pre f : List Int} {k : Int} (h : f = missOf one other pre) (hl : f.length ≤ pre.length) (hc : ¬ ((other.count (one.getD k.toNat 0) : Nat) : Int) < (((one.drop k.toNat).count (one.getD k.toNat 0) : Nat) : Int)) :
    f = missOf one other (pre ++ [k]) ∧ f.length ≤ (pre ++ [k]).length := by
  refine ⟨?_, by rw [List.length_append]; omega⟩
  have hc' : ¬ other.count (one.getD k.toNat 0) < (one.drop k.toNat).count (one.getD k.toNat 0) := by omega
  rw [h]
  unfold missOf
  rw [List.filter_append, List.map_append, List.filter_cons, if_neg (by simpa using hc')]
  simp
theorem left_yes {one other pre f : List Int} {k : Int} (h : f = leftOf one other pre) (hl : f.length ≤ pre.length) (hc : ((one.count (other.getD k.toNat 0) : Nat) : Int) < (((other.take (k + 1).toNat).count (other.getD k.toNat 0) : Nat) : Int)) :
    f ++ [other.getD k.toNat 0] = leftOf one other (pre ++ [k]) ∧ (f ++ [other.getD k.toNat 0]).length ≤ (pre ++ [k]).length := by
  refine ⟨?_, by rw [List.length_append, List.length_append, List.length_singleton, List.length_singleton]; omega⟩
  have hc' : one.count (other.getD k.toNat 0) < (other.take (k + 1).toNat).count (other.getD k.toNat 0) := by omega
  rw [h]
  unfold leftOf
  rw [List.filter_append, List.map_append, List.filter_cons, if_pos (by simpa using hc')]
  rfl
theorem left_no {one other pre f : List Int} {k : Int} (h : f = leftOf one other pre) (hl : f.length ≤ pre.length) (hc : ¬ ((one.count (other.getD k.toNat 0) : Nat) : Int) < (((other.take (k + 1).toNat).count (other.getD k.toNat 0) : Nat) : Int)) :
    f = leftOf one other (pre ++ [k]) ∧ f.length ≤ (pre ++ [k]).length := by
  refine ⟨?_, by rw [List.length_append]; omega⟩
  have hc' : ¬ one.count (other.getD k.toNat 0) < (other.take (k + 1).toNat).count (other.getD k.toNat 0) := by omega
  rw [h]
  unfold leftOf
  rw [List.filter_append, List.map_append, List.filter_cons, if_neg (by simpa using hc')]
  simp
/-- both readings agree -/
theorem miss_agree {one other f : List Int} (h : f = missOf one other (downKs ((one.length : Int) - 1) ((one.length : Int) - 1 - -1).toNat)) : f = (run one other).1 := by
  rw [show ((one.length : Int) - 1 - -1).toNat = one.length by omega] at h
  rw [h, missOf_run]
theorem left_agree {one other f : List Int} (h : f = leftOf one other (rangeKs 0 ((other.length : Int) - 0).toNat)) : f = (run one other).2 := by
  rw [show ((other.length : Int) - 0).toNat = other.length by omega] at h
  rw [h, leftOf_run]
/-- behind the function's loop the two answers are the law's own lists -/
theorem ends {one other e a mi f g : List Int} (hv : Inv one other e a mi) (h0 : ¬ 0 < e.length) (h1 : f = missOf one other (downKs ((one.length : Int) - 1) ((one.length : Int) - 1 - -1).toNat)) (h2 : g = leftOf one other (rangeKs 0 ((other.length : Int) - 0).toNat)) : mi = f ∧ a = g := by
  obtain ⟨x, y⟩ := inv_done hv h0
  exact ⟨x.trans (miss_agree h1).symm, y.trans (left_agree h2).symm⟩
theorem eq_of {prog : Program} {w : World} {A : Around} {E : Value → Shared → Prop} {s : Shared} {h₀ : Heap} {L a b : Addr} {news : List (Addr × Obj)} {vs us : List Value} {ns ms : List Int} {c d : Nat} {Q : Value → Shared → Prop}
    (N : News h₀ L s.heap news) (m1 : (a, listOf vs.toArray c) ∈ news) (m2 : (b, listOf us.toArray d) ∈ news) (i1 : IntsAre vs ns) (i2 : IntsAre us ms) (e : ns = ms) (hu : A.units + 64 < cLine) (h : Q (.bool true) s) :
    wpAny (model prog w) A (compareOp .Eq (.ref a) (.ref b)) Q E s :=
  eq_intsK (News.isList N m1) i1 (News.isList N m2) i2 hu (by rw [decide_eq_true e]; exact h)
end Mine

local macro_rules | `(tactic| walk_at "subscriptTail Name Slice ref ref") => `(tactic| (k_here; (with_reducible show wpAny _ _ (subscriptTail _ (PySem.Expr.Slice _ none (some _) _) (Value.ref _) (Value.ref _)) _ _ _); k_dflt (refine' Mine.step_slice ?F ?N ?l ?p ?q ?k ?o ?i ?b ?_ ?s ?t ?z; (case F => k_asm); (case N => k_asm); (case l => kmk_list); (case p => kmk_part); (case q => kmk_part); (case k => kmk_part); (case o => decide); (case i => l_ints); (case b => (simp only [List.length_map, List.length_drop]; omega)); (case s => with_unfolding_all rfl); (case t => kmk_pure); (case z => kmk_size)); intro D' ws' ms' h' F' N' l1 hI' hL'; (try k_lt l1); (try k_sweep)))
local macro_rules | `(tactic| walk_at "call builtin:len") => `(tactic| (k_here; (with_reducible show wpAny _ _ (call (Value.builtin "len") [Value.ref _]) _ _ _); k_dflt (refine' Mine.len_of ?k1 ?k2 ?k3 ?k4 ?_; (case k1 => k_asm); (case k2 => k_memK); (case k3 => l_ints); (case k4 => assumption)); k_whole))
local macro_rules | `(tactic| walk_at "subscriptTail Name Slice ref ref") => `(tactic| (k_here; (with_reducible show wpAny _ _ (subscriptTail _ (PySem.Expr.Slice (some _) none none _) (Value.ref _) (Value.ref _)) _ _ _); (rename KstMark => hMk9); k_dflt (refine' Mine.from_slice ?F ?N ?l ?i ?p ?b ?_ ?s ?t; (case F => k_asm); (case N => k_asm); (case l => kmk_list); (case i => l_ints); (case p => assumption); (case b => assumption); (case s => with_unfolding_all rfl); (case t => kmk_pure)); intro D' ws' h' F' N' l1 hI'; (try k_lt l1); (try k_sweep)))
local macro_rules | `(tactic| walk_at "subscriptTail Name Slice ref ref") => `(tactic| (k_here; (with_reducible show wpAny _ _ (subscriptTail _ (PySem.Expr.Slice none (some _) none _) (Value.ref _) (Value.ref _)) _ _ _); (rename KstMark => hMk9); k_dflt (refine' Mine.upto_slice ?F ?N ?l ?i ?p ?b ?_ ?s ?t; (case F => k_asm); (case N => k_asm); (case l => kmk_list); (case i => l_ints); (case p => assumption); (case b => assumption); (case s => with_unfolding_all rfl); (case t => kmk_pure)); intro D' ws' h' F' N' l1 hI'; (try k_lt l1); (try k_sweep)))
local macro_rules | `(tactic| walk_at "getMethod ref") => `(tactic| (k_here; (with_reducible show wpAny _ _ (getMethod (Value.ref _) (PySem.Str.ofString "count") _) _ _ _); k_dflt (refine' kf_method ?N ?m PySem.F.slot_list_count PySem.F.type_list_count ?_; (case N => k_asm); (case m => k_memK))))
local macro_rules | `(tactic| walk_at "call ref") => `(tactic| (k_here; k_dflt (refine wpAny_call ?_; refine' Mine.enter ?hA ?F ?LL ?X ?N ?T ?ef ?ek ?ho ?cd ?rm ?bi ?lo ?_ ?c1 ?c2 ?c3 ?c4; (case hA => exact rfl); (case F => k_asm); (case LL => (first | (dsimp only [PyProof.Rows.envOfC]; done) | (dsimp only [PyProof.Rows.envOfC]; exact rfl) | exact rfl)); (case X => k_asm); (case N => k_asm); (case T => k_asm); (case ef => exact rfl); (case ek => exact rfl); (case ho => k_is); (case cd => k_is); (case rm => k_room); (case bi => first | exact BindsTo.of_eq rfl | exact binds_K (by k_in) rfl (by k_is) rfl rfl rfl); (case lo => exact locs rfl); (case c1 => exact rfl); (case c2 => exact rfl); (case c3 => exact rfl); (case c4 => decide); k_whole); intro oL' h' tiC' tiF' tiE' F' N'; (try simp only [List.map_cons, List.map_nil] at tiE'); (try dsimp only)))
local macro_rules | `(tactic| walk_at "exec While Name cons nil") => `(tactic| (k_here; k_dflt (refine' Mine.loop (PySem.Str.ofString "item") ?F ?N ?i1 ?i2 ?b1 ?b2 ?_ ?hE; (case F => k_asm); (case N => k_asm); (case i1 => assumption); (case i2 => assumption); (case b1 => assumption); (case b2 => assumption); (case hE => passes_own); k_whole); intro us' e' n1' ws' a' n2' vs' mi' n3' sl' h' tk' u' F' N' j1' j2' j3' hv' k1' k2' k3'))
local macro_rules | `(tactic| walk_at "truthy ref") => `(tactic| (k_here; (with_reducible show wpAny _ _ (truthy (Value.ref _)) _ _ _); k_dflt (refine' Mine.truthy_of ?N ?m ?i ?b ?_; (case N => k_asm); (case m => k_memK); (case i => assumption); (case b => assumption)); k_whole))
local macro_rules | `(tactic| walk_at "call builtin:list.pop") => `(tactic| (k_here; (with_reducible show wpAny _ _ (call (Value.builtin _) [Value.ref _]) _ _ _); k_dflt (refine' Mine.pop_of ?F ?N ?U ?i ?l ?z ?_; (case F => k_asm); (case N => k_asm); (case U => k_upd); (case i => assumption); (case l => assumption); (case z => assumption)); (intro h' t' F' N' hI')))
local macro_rules | `(tactic| walk_at "call builtin:list.remove") => `(tactic| (k_here; (with_reducible show wpAny _ _ (call (Value.builtin _) [Value.ref _, Value.int _ _]) _ _ _); k_dflt (refine' Mine.remove_or ?A ?F ?N ?U ?i ?b ?_ ?_; (case A => exact rfl); (case F => k_asm); (case N => k_asm); (case U => k_upd); (case i => assumption); (case b => assumption)); all_goals (intro hk' h' y1' y2' y3')))
local macro_rules | `(tactic| walk_at "noteFrame ref") => `(tactic| (k_here; (rename TI.Frs _ _ => tiX'); (rename Heap.NewExc _ _ _ _ => nxX'); k_dflt (refine' Mine.caught ?fr ?Fs ?hx ?F ?N ?hM ?hr ?T ?t1 ?t2 ?t3 ?t4 ?t5 ?hv ?_ ?d1 ?d2 ?d3 ?d4 ?d5 ?d6 ?d7 ?d8; (case fr => exact rfl); (case hx => exact nxX'); (case F => k_asm); (case N => k_asm); (case Fs => exact tiX'); (case hM => k_ne); (case hr => ((simp only [List.map_cons, List.map_nil]); assumption)); (case T => k_asm); (case t1 => decide +kernel); (case t2 => decide +kernel); (case t3 => decide +kernel); (case t4 => decide +kernel); (case t5 => decide +kernel); (case hv => boot_by_name); (case d1 => decide +kernel); (case d2 => decide +kernel); (case d3 => decide +kernel); (case d4 => decide); (case d5 => rfl); (case d6 => rfl); (case d7 => decide); (case d8 => passes_own); k_whole); intro h' sl' F' N' tiF'))
local macro_rules | `(tactic| walk_at "LoopPost") => `(tactic| (dsimp only [Mine.LoopPost]))
local macro_rules | `(tactic| walk_at "LoopEnd") => `(tactic| (first
  | (refine' Mine.end_hit ?F ?N ?hm ?i1 ?i2 ?i3 ?hv ?h0 ?hk ?k1 ?k2 ?k3; (case F => k_asm); (case N => k_asm); (case hm => (intro z hz; simp only [if_neg hz])); (case hk => assumption); (case i1 => assumption); (case i2 => assumption); (case i3 => assumption); (case hv => assumption); (case h0 => assumption); (case k1 => assumption); (case k2 => assumption); (case k3 => assumption))
  | (refine' Mine.end_miss ?F ?N ?hm ?i1 ?i2 ?i3 ?hv ?h0 ?hk ?k1 ?k2 ?k3; (case F => k_asm); (case N => k_asm); (case hm => (intro z hz; simp only [if_neg hz])); (case hk => assumption); (case i1 => assumption); (case i2 => assumption); (case i3 => assumption); (case hv => assumption); (case h0 => assumption); (case k1 => assumption); (case k2 => assumption); (case k3 => assumption))))
local macro_rules | `(tactic| walk_at "LeaveI") => `(tactic| (k_here; (rename TI.Caller _ _ _ _ => tiC'); k_dflt (refine' Mine.back tiC' ?F ?N ?hT ?hM ?hr ?_; (case F => k_asm); (case N => k_asm); (case hT => k_ne); (case hM => k_ne); (case hr => ((simp only [List.map_cons, List.map_nil]); assumption))); intro F' N'; (have eq1' := Mine.ends (by assumption) (by assumption) (by assumption) (by assumption)); (have eq2' := eq1'.1); (have eq3' := eq1'.2); clear eq1'))
local macro_rules | `(tactic| walk_at "compareOp Eq ref ref") => `(tactic| (k_here; (with_reducible show wpAny _ _ (compareOp CmpOp.Eq (Value.ref _) (Value.ref _)) _ _ _); k_dflt (refine' Mine.eq_of ?N ?m1 ?m2 ?i1 ?i2 ?e ?u ?_; (case N => k_asm); (case m1 => k_memK); (case m2 => k_memK); (case i1 => assumption); (case i2 => assumption); (case e => assumption); (case u => units_room)); k_whole))
set_option maxHeartbeats 8000000 in
theorem PySem.Challenge.cw_kg0016_01_holds : PySem.Challenge.rw_kg0016_01.Holds := by
  (k_with "pyIter ref" => ((first | k_state_given ["one", "other"] (fun one other pre left => left = Mine.leftOf one other pre ∧ left.length ≤ pre.length) "left" | k_state_given ["one", "other"] (fun one other pre missing => missing = Mine.missOf one other pre ∧ missing.length ≤ pre.length) "missing"); (all_goals (try (have hk2 := Mine.down_facts kEq kLt; have hk0 := hk2.1; have hk1 := hk2.2))); (all_goals (try (have hk2 := Mine.up_facts kEq kLt; have hk0 := hk2.1; have hk1 := hk2.2)))))
  (k_with "state" => first | exact Mine.miss_start _ _ | exact Mine.left_start _ _ | exact Mine.miss_yes (by assumption) (by assumption) (by assumption) | exact Mine.miss_no (by assumption) (by assumption) (by assumption) | exact Mine.left_yes (by assumption) (by assumption) (by assumption) | exact Mine.left_no (by assumption) (by assumption) (by assumption))
  open_k

import PyProof.Rows.All
import Wide.All
import OpenK.AllK
import Wide.FinOn
import Lean
import PySem.Challenge.RW_mg0009_01
open PySem PySem.W PyProof.Rows
set_option Elab.async false

-- part MgTop
namespace Mine
theorem startMgTop : True := by
  w_top off
  exact True.intro
set_option maxRecDepth 100000 in
set_option maxHeartbeats 8000000 in
open_top hd for PySem.Challenge.rw_mg0009_01
end Mine

-- part MgLt
namespace Mine
theorem startMgLt : True := by
  w_top off
  exact True.intro

/-- two rows of ints by Python's order -/
def lexLt : List Int → List Int → Bool
  | x :: xs, y :: ys => if x = y then lexLt xs ys else decide (x < y)
  | [], ys => decide (0 < ys.length)
  | _ :: _, [] => false

section
variable {prog : Program} {w : World} {A : Around} {E : Value → Shared → Prop} {s : Shared}

theorem lexLt_nil (xs ys : List Value) (is js : List Int) (hx : IntsAre xs is) (hy : IntsAre ys js) (hz : List.zip xs ys = []) : lexLt is js = decide (xs.length < ys.length) := by
  cases hx with
  | nil => cases hy with
    | nil => rfl
    | cons => simp [lexLt]
  | cons => cases hy with
    | nil => simp [lexLt]
    | cons => simp at hz

theorem tuple_lt_tree {xs ys : List Value} {is js : List Int} {a b : Addr} {P : Fin → Shared → Prop} (hx : IsTup s.heap a xs.toArray) (hy : IsTup s.heap b ys.toArray) (hi : IntsAre xs is) (hj : IntsAre ys js)
    (h : P (.done (.ret (.bool (lexLt is js)))) s) :
    wpAny (model prog w) A (Builtin.«tuple.__lt__» ⟨[.ref a, .ref b], []⟩) P E s := by
  obtain ⟨oa, hoa, hca, na, hda⟩ := hx
  obtain ⟨ob, hob, hcb, nb, hdb⟩ := hy
  have hTb : s.TypeIs (.ref b) "tuple" := ⟨ob, hob, hcb⟩
  show wpAny _ _ (isInstance (.ref b) (.type "tuple") >>= _) _ _ s
  refine wpAny_bind (wpAny_isInstance hTb isSubtype_tuple_tuple ?_)
  simp only [Bool.not_true, Bool.false_eq_true, if_false]
  refine wpAny_bind (wpAny_tupleItemsOf hoa hda ?_)
  refine wpAny_bind (wpAny_tupleItemsOf hob hdb ?_)
  refine wpAny_bind ?_
  refine wpAny_forIn_list _
    (fun rest r s' => r.1 = none ∧ s' = s ∧ ∃ is' js' xs' ys', rest = List.zip xs' ys' ∧ IntsAre xs' is' ∧ IntsAre ys' js' ∧ lexLt is' js' = lexLt is js ∧ (decide (xs'.length < ys'.length)) = (decide (xs.length < ys.length)))
    _ ?_ ?_ _ _ ⟨rfl, rfl, is, js, xs, ys, rfl, hi, hj, rfl, rfl⟩
  · rintro ⟨u, v⟩ rest r s' ⟨hr, rfl, is', js', xs', ys', hz, hx', hy', hl, hlen⟩
    cases hx' with
    | nil => simp at hz
    | @cons k1 t1 xs'' is'' hx'' =>
      cases hy' with
      | nil => simp at hz
      | @cons k2 t2 ys'' js'' hy'' =>
        simp only [List.zip_cons_cons, List.cons.injEq, Prod.mk.injEq] at hz
        obtain ⟨⟨rfl, rfl⟩, rfl⟩ := hz
        refine wpAny_bind (wpAny_eqBool_int ?_)
        by_cases hk : k1 = k2
        · subst hk
          simp only [beq_self_eq_true, Bool.not_true, Bool.false_eq_true, if_false]
          refine wpAny_pure ⟨rfl, rfl, is'', js'', xs'', ys'', rfl, hx'', hy'', ?_, by simpa using hlen⟩
          rw [← hl, lexLt, if_pos rfl]
        · simp only [beq_eq_false_iff_ne.mpr hk, Bool.not_false, if_true]
          have hf : lexLt is js = decide (k1 < k2) := by rw [← hl, lexLt, if_neg hk]
          rw [hf] at h
          refine wpAny_bind (wpAny_rule ?_)
          refine wpAny_bind (?_)
          refine (show wpAny _ _ (compareOp .Lt (.int k1 t1) (.int k2 t2)) _ _ _ from PyProof.Rows.lt_int ?_)
          exact wpAny_bind (wpAny_pure (wpAny_pure (wpAny_pure h)))
  · rintro ⟨r1, r2⟩ s' ⟨hr, rfl, is', js', xs', ys', hz, hx', hy', hl, hlen⟩
    simp only at hr
    subst hr
    refine wpAny_pure ?_
    show P (.done (.ret (.bool (decide (xs.toArray.size < ys.toArray.size))))) s'
    rw [List.size_toArray, List.size_toArray, ← hlen, ← lexLt_nil _ _ _ _ hx' hy' hz.symm, hl]
    exact h

theorem lt_tup {xs ys : List Value} {is js : List Int} {a b : Addr} {Q : Value → Shared → Prop} (hx : IsTup s.heap a xs.toArray) (hy : IsTup s.heap b ys.toArray) (hi : IntsAre xs is) (hj : IntsAre ys js) (hu : A.units < cLine)
    (h : Q (.bool (lexLt is js)) s) : wpAny (model prog w) A (richCompare .Lt (.ref a) (.ref b)) Q E s := by
  have hTa : s.TypeIs (.ref a) "tuple" := by obtain ⟨oa, hoa, hca, na, hda⟩ := hx; exact ⟨oa, hoa, hca⟩
  have hTb : s.TypeIs (.ref b) "tuple" := by obtain ⟨oa, hoa, hca, na, hda⟩ := hy; exact ⟨oa, hoa, hca⟩
  exact wpAny_richCompare_same_room (op := .Lt) hTa hTb F.slot_tuple_lt
      (wpAny_call_entry F.slot_tuple_lt hTa F.entry_tuple_lt (tuple_lt_tree hx hy hi hj ⟨_, rfl, (fun e => nomatch e), h⟩) (F.args_tuple_lt_2 _ _)) hu
end
end Mine

-- part MgSift
namespace Mine
theorem startMgSift : True := by
  w_top off
  exact True.intro

abbrev tupOf (xs : List Value) (n : Nat) : Obj := { cls := .type "tuple", data := .seq xs.toArray n }
def TupIn (tl : List (Addr × Obj)) (v : Value) (is : List Int) : Prop := ∃ a xs n, v = .ref a ∧ (a, tupOf xs n) ∈ tl ∧ IntsAre xs is

def sift3 {α : Type} (ia ib ic : List Int) (va vb vc : α) : List α :=
  if lexLt ib ic then (if lexLt ia ib then [va, vb, vc] else [vb, va, vc]) else (if lexLt ia ic then [va, vb, vc] else [vc, vb, va])

local macro_rules | `(tactic| walk_at "compareOp Lt ref ref") => `(tactic| (k_here; (with_reducible show wpAny _ _ (compareOp CmpOp.Lt (Value.ref _) (Value.ref _)) _ _ _); (refine cmp_ofLt ?_); k_dflt (refine' lt_tup ?k1 ?k2 ?k3 ?k4 ?k5 ?_; (case k1 => exact News.isTup (by k_asm) (List.mem_cons_of_mem _ (by assumption))); (case k2 => exact News.isTup (by k_asm) (List.mem_cons_of_mem _ (by assumption))); (case k3 => assumption); (case k4 => assumption); (case k5 => ktr_units); k_whole)))
local macro_rules | `(tactic| k_upd) => `(tactic| exact Upd.head (by assumption))

section
variable {w : World} {mean : ExcName → Option Value} {mg mb : Str → Option Value} {dp un : Nat} {gd : Option (List Code)} {cn : Str} {cs : Scope} {a : Addr} {ccd : Value} {cl : List (Str × Addr)} {outer : List Env} {A₀ : Around} {base h₀ : Heap} {L : Addr} {m : Str → Option Value} {s : Shared} {Q E : Value → Shared → Prop}
    {hp : Addr} {va vb vc : Value} {n : Nat} {tl : List (Addr × Obj)} {ia ib ic : List Int} {t u : Tok} {p : Int}

set_option maxRecDepth 100000 in
set_option maxHeartbeats 8000000 in
theorem siftdown1_c
    (B : Below A₀ base outer h₀) (F : Fr h₀ L s.heap m) (X : (hd.heap_39 w.params).In h₀) (N : News h₀ L s.heap ((hp, listOf #[va, vb, vc] n) :: tl)) (T : Top hd.view_39 (looseW hd.view_39 []) mean mg mb h₀) (hk : cs.kind = .function)
    (hoff : ∀ p ∈ tl, p.1 ≠ hp) (ta : TupIn tl va ia) (tb : TupIn tl vb ib) (e : p = 1)
    (hdp : dp + 1 < recursionLimit) (hun : un + 40 < cLine)
    (hret : ∀ h' tk' n', Fr h₀ L h' m → News h₀ L h' ((hp, listOf (if lexLt ib ia then [vb, va, vc] else [va, vb, vc]).toArray n') :: tl) → Q .none { s with heap := h', toks := tk' }) :
    wpAny (model Challenge.rw_mg0009_01.row.prog w) (ktrTop dp un gd cn cs L a ccd cl outer) (call (.ref 35) [.ref hp, .int 0 t, .int p u]) Q E s := by
  subst e
  (revert X; k_fill; intro X)
  obtain ⟨aa, xa, na, rfl, ma, ja⟩ := ta
  obtain ⟨ab, xb, nb, rfl, mb', jb⟩ := tb
  refine wpAny_call ?_
  k_dflt cell_enter
  k_steps
  all_goals ((rename lexLt _ _ = _ => hl); (simp only [hl, if_true, Bool.false_eq_true, if_false] at hret); exact hret _ _ _ (by k_asm) (by k_asm))

set_option maxRecDepth 100000 in
set_option maxHeartbeats 8000000 in
theorem siftdown2_c
    (B : Below A₀ base outer h₀) (F : Fr h₀ L s.heap m) (X : (hd.heap_39 w.params).In h₀) (N : News h₀ L s.heap ((hp, listOf #[va, vb, vc] n) :: tl)) (T : Top hd.view_39 (looseW hd.view_39 []) mean mg mb h₀) (hk : cs.kind = .function)
    (hoff : ∀ p ∈ tl, p.1 ≠ hp) (ta : TupIn tl va ia) (tb : TupIn tl vc ib) (e : p = 2)
    (hdp : dp + 1 < recursionLimit) (hun : un + 40 < cLine)
    (hret : ∀ h' tk' n', Fr h₀ L h' m → News h₀ L h' ((hp, listOf (if lexLt ib ia then [vc, vb, va] else [va, vb, vc]).toArray n') :: tl) → Q .none { s with heap := h', toks := tk' }) :
    wpAny (model Challenge.rw_mg0009_01.row.prog w) (ktrTop dp un gd cn cs L a ccd cl outer) (call (.ref 35) [.ref hp, .int 0 t, .int p u]) Q E s := by
  subst e
  (revert X; k_fill; intro X)
  obtain ⟨aa, xa, na, rfl, ma, ja⟩ := ta
  obtain ⟨ab, xb, nb, rfl, mb', jb⟩ := tb
  refine wpAny_call ?_
  k_dflt cell_enter
  k_steps
  all_goals ((rename lexLt _ _ = _ => hl); (simp only [hl, if_true, Bool.false_eq_true, if_false] at hret); exact hret _ _ _ (by k_asm) (by k_asm))

local macro_rules | `(tactic| walk_at "call ref") => `(tactic| (k_here; (with_reducible show wpAny _ _ (call (Value.ref 35) _) _ _ _); k_dflt (first
  | refine' siftdown1_c ?k1 ?k2 ?k3 ?k4 ?k5 ?kK ?ko ?ta ?tb ?e ?kd ?ku ?_; (case e => rfl); (case k1 => k_asm); (case k2 => k_asm); (case k3 => k_asm); (case k4 => k_asm); (case k5 => k_asm); (case kK => first | exact rfl | assumption); (case ko => assumption); (case ta => exact ⟨_, _, _, rfl, by assumption, by assumption⟩); (case tb => exact ⟨_, _, _, rfl, by assumption, by assumption⟩); (case kd => ktr_room); (case ku => ktr_units)
  | refine' siftdown2_c ?k1 ?k2 ?k3 ?k4 ?k5 ?kK ?ko ?ta ?tb ?e ?kd ?ku ?_; (case e => rfl); (case k1 => k_asm); (case k2 => k_asm); (case k3 => k_asm); (case k4 => k_asm); (case k5 => k_asm); (case kK => first | exact rfl | assumption); (case ko => assumption); (case ta => exact ⟨_, _, _, rfl, by assumption, by assumption⟩); (case tb => exact ⟨_, _, _, rfl, by assumption, by assumption⟩); (case kd => ktr_room); (case ku => ktr_units)); k_whole; intro h9 tk9 n9 F9 N9; (try dsimp only); (try k_fold)))

set_option maxRecDepth 100000 in
set_option maxHeartbeats 8000000 in
theorem siftup_c
    (B : Below A₀ base outer h₀) (F : Fr h₀ L s.heap m) (X : (hd.heap_39 w.params).In h₀) (N : News h₀ L s.heap ((hp, listOf #[va, vb, vc] n) :: tl)) (T : Top hd.view_39 (looseW hd.view_39 []) mean mg mb h₀) (hk : cs.kind = .function)
    (hoff : ∀ p ∈ tl, p.1 ≠ hp) (ta : TupIn tl va ia) (tb : TupIn tl vb ib) (tc : TupIn tl vc ic)
    (hdp : dp + 2 < recursionLimit) (hun : un + 80 < cLine)
    (hret : ∀ h' tk' n', Fr h₀ L h' m → News h₀ L h' ((hp, listOf (sift3 ia ib ic va vb vc).toArray n') :: tl) → Q .none { s with heap := h', toks := tk' }) :
    wpAny (model Challenge.rw_mg0009_01.row.prog w) (ktrTop dp un gd cn cs L a ccd cl outer) (call (.ref 42) [.ref hp, .int 0 t]) Q E s := by
  (revert X; k_fill; intro X)
  obtain ⟨aa, xa, na, rfl, ma, ja⟩ := ta
  obtain ⟨ab, xb, nb, rfl, mb', jb⟩ := tb
  obtain ⟨ac, xc, nc, rfl, mc, jc⟩ := tc
  refine wpAny_call ?_
  k_dflt cell_enter
  k_steps
  all_goals ((rename lexLt _ _ = _ => hl); (simp only [sift3, hl, if_true, Bool.false_eq_true, if_false] at hret); exact hret _ _ _ (by k_asm) (by k_asm))
end
end Mine

-- part MgRev
namespace Mine
set_option maxRecDepth 100000
theorem startMgRev : True := by
  w_top off
  exact True.intro
abbrev rgIter (x left step : Int) : Obj := { cls := .type "range_iterator", data := .fields #[rawInt x, rawInt left, rawInt step] }
theorem sub_ri_reversed : isSubtype (.type "range_iterator") (.type "reversed") = pure false := by rw [isSubtype_type]; kernel_rfl
section
variable {prog : Program} {w : World} {A : Around} {E : Value → Shared → Prop} {s : Shared}

theorem call_range_reversed {r : Addr} {t u v : Tok} {Q : Value → Shared → Prop} (hr : IsRange s.heap r 0 1 1 t u v)
    (h : Q (.ref s.heap.objs.size) { s with heap := s.heap.push (rgIter 0 1 (-1)) }) : wpAny (model prog w) A (call (.builtin "range.__reversed__") [.ref r]) Q E s := by
  have hT : s.TypeIs (.ref r) "range" := ⟨_, hr, rfl⟩
  refine wpAny_call_entry F.slot_range_reversed hT F.entry_range_reversed ?_ (F.args_range_reversed_1 _)
  unfold Builtin.«range.__reversed__»
  refine wpAny_bind (wpAny_of_eq (a := Value.ref r) rfl ?_)
  unfold Builtin.Range.rangeFields
  refine wpAny_bind ?_
  refine wpAny_bind (wpAny_field hr rfl (x := .int 0 t) rfl ?_)
  refine wpAny_bind (wpAny_of_eq (a := some 0) rfl ?_)
  refine wpAny_bind (wpAny_field hr rfl (x := .int 1 u) rfl ?_)
  refine wpAny_bind (wpAny_of_eq (a := some 1) rfl ?_)
  refine wpAny_bind (wpAny_field hr rfl (x := .int 1 v) rfl ?_)
  refine wpAny_bind (wpAny_of_eq (a := some 1) rfl ?_)
  refine wpAny_pure ?_
  show wpAny _ _ (newFields "range_iterator" [rawInt 0, rawInt 1, rawInt (-1)] >>= _) _ _ _
  exact wpAny_bind (wpAny_newObj_type (wpAny_pure ⟨_, rfl, h⟩))

theorem code_reversed_range {r : Addr} {t u v : Tok} {Q₁ : Value → Shared → Prop} (hr : IsRange s.heap r 0 1 1 t u v)
    (h : Q₁ (.ref s.heap.objs.size) { s with heap := s.heap.push (rgIter 0 1 (-1)) }) :
    codeAny (model prog w) A (.call (.builtin "reversed.__new__") ⟨[.type "reversed", .ref r], []⟩) (wants Q₁ E) s := by
  have hT : s.TypeIs (.ref r) "range" := ⟨_, hr, rfl⟩
  refine codeAny_of_tree ?_
  show wpAny _ A.in1 (do checkBuiltinCall "reversed.__new__" ⟨[.type "reversed", .ref r], []⟩; again (.builtin "reversed.__new__" ⟨[.type "reversed", .ref r], []⟩)) _ _ s
  refine wpAny_bind (wpAny_of_eq (F.newCall_reversed_1 _) (wpAny_pure ⟨plainId_quiet F.plain_reversed_new _, codeAny_builtin F.entry_reversed_new ?_⟩))
  rw [Around.under_plainId F.plain_reversed_new _]
  unfold Builtin.«reversed.__new__»
  refine wpAny_bind (wpAny_of_eq (newClass_reversed _) ?_)
  try dsimp only
  refine wpAny_bind (wpAny_of_eq (a := ()) (by first | rfl | kernel_rfl) ?_)
  refine wpAny_bind (wpAny_of_eq (a := ()) (by first | rfl | kernel_rfl) ?_)
  try dsimp only
  refine wpAny_bind (wpAny_specialOf hT F.slot_range_reversed.lookup ?_)
  try dsimp only
  refine wpAny_bind (wpAny_of_eq (F.slot_range_reversed.bind _) ?_)
  try dsimp only
  rw [if_neg (show ¬ ((Value.builtin "range.__reversed__" == Value.none) = true) from Bool.false_ne_true)]
  refine wpAny_bind (wpAny_rule ?_)
  refine wpAny_bind (m := runValue (.call (.builtin "range.__reversed__") ⟨[.ref r], []⟩)) (show wpAny _ _ (call (.builtin "range.__reversed__") [.ref r]) _ _ _ from call_range_reversed hr ?_)
  exact wpAny_pure h

theorem call_reversed_range {r : Addr} {t u v : Tok} {Q : Value → Shared → Prop} (hr : IsRange s.heap r 0 1 1 t u v)
    (h : Q (.ref s.heap.objs.size) { s with heap := s.heap.push (rgIter 0 1 (-1)) }) : wpAny (model prog w) A (call (.type "reversed") [.ref r]) Q E s := by
  refine callType_other (U := "range_iterator") (Q₁ := fun obj s₁ => obj = .ref s.heap.objs.size ∧ s₁ = { s with heap := s.heap.push (rgIter 0 1 (-1)) }) (by decide +kernel) F.create_reversed ⟨_, _, F.mro_reversed⟩ F.made_reversed sub_ri_reversed (F.typeCall_reversed_1 _) (code_reversed_range hr ⟨rfl, rfl⟩) ?_
  rintro obj s₁ ⟨rfl, rfl⟩
  exact ⟨⟨_, Heap.get?_push_size _ rfl, rfl⟩, h⟩
end
end Mine

namespace Mine
set_option maxRecDepth 100000
section
variable {prog : Program} {w : World} {A : Around} {E : Value → Shared → Prop} {s : Shared} {env : Env} {h₀ : Heap} {x : Str} {body : List Stmt} {Q : Flow → Shared → Prop}

theorem rev1_loop {r : Addr} {t u v : Tok} {m₀ : Str → Option Value} {news : List (Addr × Obj)} (J : (Str → Option Value) → List (Addr × Obj) → Prop)
    (hh : A.handled = none) (hr : IsRange s.heap r 0 1 1 t u v) (F : Fr h₀ env.locals s.heap m₀) (N : News h₀ env.locals s.heap news)
    (turn : ∀ t h tk own, OwnOff own (news.map (·.1)) → Fr h₀ env.locals h (fun y => if y = x then some (.int 0 t) else m₀ y) → News h₀ env.locals h (news ++ own) →
      wpAny (model prog w) A (execs body env) (InvPostG h₀ env.locals J own { s with heap := h, toks := tk } Q) E { s with heap := h, toks := tk })
    (done : ∀ m₁ nx h tk, J m₁ nx → Fr h₀ env.locals h m₁ → News h₀ env.locals h nx → Q .next { s with heap := h, toks := tk }) :
    wpAny (model prog w) A (call (.type "reversed") [.ref r]) (fun xv s₁ => wpAny (model prog w) A (pyIter xv) (fun it s₂ => LoopAtV prog w A h₀ env x body Q E it s₂) E s₁) E s := by
  refine call_reversed_range hr ?_
  have W := Walks.range (prog := prog) (w := w) hh s.heap.objs.size 0 (-1) 1
  have hst : IsRangeIter (s.heap.push (rgIter 0 1 (-1))) s.heap.objs.size (0 + ((0 : Nat) : Int) * -1) (((1 : Nat) : Int) - ((0 : Nat) : Int)) (-1) := by
    show Heap.get? _ _ = _
    exact Heap.get?_push_size _ rfl
  have F' := F.push (rgIter 0 1 (-1))
  have N' := News.push F N (rgIter 0 1 (-1))
  have hlt : ∀ p ∈ news, p.1 < s.heap.objs.size := fun p hp => Heap.lt_size (N p hp).1
  refine W.self 0 _ _ _ hst ?_
  refine kdr_loop (s := { s with heap := s.heap.push (rgIter 0 1 (-1)) }) (fun i m nx => match i with | 0 => m = m₀ ∧ nx = news | _ => J m nx) W (fun _ h => h) (fun _ h => h) (fun i h st b hb => ?_) (fun hL => ?_) (fun b hb => ?_) (fun p hp hq => ?_) hst F' (fun p hp => N' p (List.mem_cons_of_mem _ hp)) ⟨rfl, rfl⟩ ?_ ?_
  · rw [List.mem_singleton.mp hb]; exact ⟨_, st⟩
  · exact (N' _ (List.mem_cons_self ..)).2.1 (List.mem_singleton.mp hL).symm
  · rw [List.mem_singleton.mp hb]; exact (N' _ (List.mem_cons_self ..)).2.2
  · have := hlt p hp
    rw [List.mem_singleton.mp hq] at this
    exact Nat.lt_irrefl _ this
  · rintro i v m₁ nx h tk own hi ⟨t', rfl⟩ hoff hJ F₁ N₁
    obtain rfl : i = 0 := by omega
    obtain ⟨rfl, rfl⟩ := hJ
    exact turn t' h tk own hoff F₁ N₁
  · intro m₁ nx h tk hJ F₁ N₁
    exact done m₁ nx h tk hJ F₁ N₁
end
end Mine

-- part MgHeap
namespace Mine
theorem startMgHeap : True := by
  w_top off
  exact True.intro
theorem off_append {tl own : List (Addr × Obj)} {hp : Addr} (h1 : ∀ p ∈ tl, p.1 ≠ hp) (h2 : ∀ p ∈ own, p.1 ≠ hp) : ∀ p ∈ tl ++ own, p.1 ≠ hp :=
  fun p hp => (List.mem_append.mp hp).elim (h1 p) (h2 p)
theorem cons_sub {α : Type} (x : α) (tl own : List α) : ∀ p ∈ x :: tl, p ∈ x :: (tl ++ own) := by
  intro p hp
  rcases List.mem_cons.mp hp with rfl | hp
  · exact List.mem_cons_self ..
  · exact List.mem_cons_of_mem _ (List.mem_append_left _ hp)
theorem cons_sub2 {α : Type} (x : α) (tl own : List α) : ∀ p ∈ own, p ∈ x :: (tl ++ own) := fun _ hp => List.mem_cons_of_mem _ (List.mem_append_right _ hp)
local macro_rules | `(tactic| k_upd) => `(tactic| exact Upd.head (by assumption))

section
variable {w : World} {mean : ExcName → Option Value} {mg mb : Str → Option Value} {dp un : Nat} {gd : Option (List Code)} {cn : Str} {cs : Scope} {a : Addr} {ccd : Value} {cl : List (Str × Addr)} {outer : List Env} {A₀ : Around} {base h₀ : Heap} {L : Addr} {m : Str → Option Value} {s : Shared} {Q E : Value → Shared → Prop}
    {hp : Addr} {va vb vc : Value} {n : Nat} {tl : List (Addr × Obj)} {ia ib ic : List Int} {t u : Tok} {p : Int}

local macro_rules | `(tactic| walk_at "call ref") => `(tactic| (k_here; (with_reducible show wpAny _ _ (call (Value.ref 42) _) _ _ _); k_dflt (refine' siftup_c ?k1 ?k2 ?k3 ?k4 ?k5 ?kK ?ko ?ta ?tb ?tc ?kd ?ku ?_; (case k1 => k_asm); (case k2 => k_asm); (case k3 => k_asm); (case k4 => k_asm); (case k5 => k_asm); (case kK => first | exact rfl | assumption); (case ko => first | assumption | exact off_append (by assumption) (by assumption)); (case ta => exact ⟨_, _, _, rfl, by first | assumption | exact List.mem_append_left _ (by assumption), by assumption⟩); (case tb => exact ⟨_, _, _, rfl, by first | assumption | exact List.mem_append_left _ (by assumption), by assumption⟩); (case tc => exact ⟨_, _, _, rfl, by first | assumption | exact List.mem_append_left _ (by assumption), by assumption⟩); (case kd => ktr_room); (case ku => ktr_units)); k_whole; intro h9 tk9 n9 F9 N9; (try dsimp only); (try k_fold)))

set_option maxRecDepth 100000 in
set_option maxHeartbeats 8000000 in
theorem heapify_c
    (B : Below A₀ base outer h₀) (F : Fr h₀ L s.heap m) (X : (hd.heap_39 w.params).In h₀) (N : News h₀ L s.heap ((hp, listOf #[va, vb, vc] n) :: tl)) (T : Top hd.view_39 (looseW hd.view_39 []) mean mg mb h₀) (hk : cs.kind = .function)
    (hoff : ∀ p ∈ tl, p.1 ≠ hp) (ta : TupIn tl va ia) (tb : TupIn tl vb ib) (tc : TupIn tl vc ic)
    (hdp : dp + 3 < recursionLimit) (hun : un + 120 < cLine)
    (hret : ∀ h' tk' n', Fr h₀ L h' m → News h₀ L h' ((hp, listOf (sift3 ia ib ic va vb vc).toArray n') :: tl) → Q .none { s with heap := h', toks := tk' }) :
    wpAny (model Challenge.rw_mg0009_01.row.prog w) (ktrTop dp un gd cn cs L a ccd cl outer) (call (.ref 28) [.ref hp]) Q E s := by
  (revert X; k_fill; intro X)
  obtain ⟨aa, xa, na, rfl, ma, ja⟩ := ta
  obtain ⟨ab, xb, nb, rfl, mb', jb⟩ := tb
  obtain ⟨ac, xc, nc, rfl, mc, jc⟩ := tc
  refine wpAny_call ?_
  k_dflt cell_enter
  k_steps
  k_dflt refine' rev1_loop (fun m' nx => ∃ n', nx = (hp, listOf (sift3 ia ib ic (Value.ref aa) (Value.ref ab) (Value.ref ac)).toArray n') :: tl) ?hh ?hr ?F ?N ?turn ?done
  case hh => rfl
  case hr => assumption
  case F => assumption
  case N => k_asm
  case done =>
    rintro m₁ nx h' tk' ⟨n', rfl⟩ F₁ N₁
    k_steps
    exact hret _ _ _ (by k_asm) (by k_asm)
  case turn =>
    intro t' h' tk' own hoff' F₁ N₁
    have hof2 : ∀ p ∈ own, p.1 ≠ hp := fun p hp' => hoff' p hp' _ (by simp)
    simp only [List.cons_append] at N₁
    k_steps
    exact InvEndG.intro (by k_asm) (by k_asm) ⟨_, rfl⟩ hoff' (cons_sub _ _ _) (cons_sub2 _ _ _)

set_option maxRecDepth 100000 in
set_option maxHeartbeats 8000000 in
theorem heapreplace_c {vd : Value} {id : List Int}
    (B : Below A₀ base outer h₀) (F : Fr h₀ L s.heap m) (X : (hd.heap_39 w.params).In h₀) (N : News h₀ L s.heap ((hp, listOf #[va, vb, vc] n) :: tl)) (T : Top hd.view_39 (looseW hd.view_39 []) mean mg mb h₀) (hk : cs.kind = .function)
    (hoff : ∀ p ∈ tl, p.1 ≠ hp) (ta : TupIn tl va ia) (tb : TupIn tl vb ib) (tc : TupIn tl vc ic) (td : TupIn tl vd id)
    (hdp : dp + 3 < recursionLimit) (hun : un + 120 < cLine)
    (hret : ∀ h' tk' n', Fr h₀ L h' m → News h₀ L h' ((hp, listOf (sift3 id ib ic vd vb vc).toArray n') :: tl) → Q va { s with heap := h', toks := tk' }) :
    wpAny (model Challenge.rw_mg0009_01.row.prog w) (ktrTop dp un gd cn cs L a ccd cl outer) (call (.ref 21) [.ref hp, vd]) Q E s := by
  (revert X; k_fill; intro X)
  obtain ⟨aa, xa, na, rfl, ma, ja⟩ := ta
  obtain ⟨ab, xb, nb, rfl, mb', jb⟩ := tb
  obtain ⟨ac, xc, nc, rfl, mc, jc⟩ := tc
  obtain ⟨ad, xd, nd, rfl, md, jd⟩ := td
  refine wpAny_call ?_
  k_dflt cell_enter
  k_steps
  exact hret _ _ _ (by k_asm) (by k_asm)
end
end Mine

-- part MgLoop
namespace Mine
set_option maxRecDepth 100000
theorem startMgLoop : True := by
  w_top off
  exact True.intro
theorem kst_self {m : Str → Option Value} {ps : List (Str × Value)} (h1 : ∀ p ∈ ps, m p.1 = some p.2) : kstB m ps = m := by
  funext y
  exact kstB_eq h1 fun _ => rfl
theorem fr_ps {h₀ h : Heap} {L : Addr} {m : Str → Option Value} {ps : List (Str × Value)} (h1 : ∀ p ∈ ps, m p.1 = some p.2) (F : Fr h₀ L h m) : Fr h₀ L h (kstB m ps) := by
  rw [kst_self h1]; exact F
theorem fr_psx {h₀ h : Heap} {L : Addr} {m : Str → Option Value} {ps : List (Str × Value)} {x : Str} {v : Value} (h1 : ∀ p ∈ ps, m p.1 = some p.2) (F : Fr h₀ L h (fun y => if y = x then some v else m y)) :
    Fr h₀ L h (fun y => if y = x then some v else kstB m ps y) := by
  rw [kst_self h1]; exact F
section
variable {prog : Program} {w : World} {A : Around} {E : Value → Shared → Prop} {s : Shared} {env : Env} {h₀ : Heap} {x : Str} {body : List Stmt} {Q : Flow → Shared → Prop}

theorem range_loop {r : Addr} {b : Int} {t u v : Tok} {m₀ : Str → Option Value} {news : List (Addr × Obj)} (n : Nat) (J : Nat → (Str → Option Value) → List (Addr × Obj) → Prop)
    (hh : A.handled = none) (hr : IsRange s.heap r 0 b 1 t u v) (hb : b = (n : Int)) (hn : n < 2 ^ 60) (F : Fr h₀ env.locals s.heap m₀) (N : News h₀ env.locals s.heap news) (hj : J 0 m₀ news)
    (turn : ∀ i t m₁ nx h tk own, i < n → OwnOff own (nx.map (·.1)) → J i m₁ nx → Fr h₀ env.locals h (fun y => if y = x then some (.int (i : Int) t) else m₁ y) → News h₀ env.locals h (nx ++ own) →
      wpAny (model prog w) A (execs body env) (InvPostG h₀ env.locals (J (i + 1)) own { s with heap := h, toks := tk } Q) E { s with heap := h, toks := tk })
    (done : ∀ m₁ nx h tk, J n m₁ nx → Fr h₀ env.locals h m₁ → News h₀ env.locals h nx → Q .next { s with heap := h, toks := tk }) :
    wpAny (model prog w) A (pyIter (.ref r)) (fun it s₂ => LoopAtV prog w A h₀ env x body Q E it s₂) E s := by
  subst hb
  have hsz : Builtin.Range.rangeSize 0 (n : Int) 1 = (n : Int) := by
    unfold Builtin.Range.rangeSize
    rw [if_pos (by decide)]
    split
    · rw [Int.ediv_one]; omega
    · omega
  refine wpAny_pyIter_range hr (small_one (by omega) (by omega) (by omega) (by omega)) ?_
  rw [hsz]
  have W := Walks.range (prog := prog) (w := w) hh s.heap.objs.size 0 1 n
  have hst : IsRangeIter (s.heap.push { cls := .type "range_iterator", data := .fields #[rawInt 0, rawInt (n : Int), rawInt 1] }) s.heap.objs.size (0 + ((0 : Nat) : Int) * 1) ((n : Int) - ((0 : Nat) : Int)) 1 := by
    have e1 : (0 + ((0 : Nat) : Int) * 1) = 0 := by omega
    have e2 : ((n : Int) - ((0 : Nat) : Int)) = n := by omega
    rw [e1, e2]
    exact Heap.get?_push_size _ rfl
  have F' := F.push { cls := .type "range_iterator", data := .fields #[rawInt 0, rawInt (n : Int), rawInt 1] }
  have N' := News.push F N { cls := .type "range_iterator", data := .fields #[rawInt 0, rawInt (n : Int), rawInt 1] }
  have hlt : ∀ p ∈ news, p.1 < s.heap.objs.size := fun p hp => Heap.lt_size (N p hp).1
  refine kdr_loop (s := { s with heap := s.heap.push { cls := .type "range_iterator", data := .fields #[rawInt 0, rawInt (n : Int), rawInt 1] } }) J W (fun _ h => h) (fun _ h => h) (fun i h st b hb => ?_) (fun hL => ?_) (fun b hb => ?_) (fun p hp hq => ?_) hst F' (fun p hp => N' p (List.mem_cons_of_mem _ hp)) hj ?_ ?_
  · rw [List.mem_singleton.mp hb]; exact ⟨_, st⟩
  · exact (N' _ (List.mem_cons_self ..)).2.1 (List.mem_singleton.mp hL).symm
  · rw [List.mem_singleton.mp hb]; exact (N' _ (List.mem_cons_self ..)).2.2
  · have := hlt p hp
    rw [List.mem_singleton.mp hq] at this
    exact Nat.lt_irrefl _ this
  · rintro i v m₁ nx h tk own hi ⟨t', rfl⟩ hoff hJ F₁ N₁
    have e : (0 + (i : Int) * 1) = (i : Int) := by omega
    rw [e] at F₁
    exact turn i t' m₁ nx h tk own hi hoff hJ F₁ N₁
  · intro m₁ nx h tk hJ F₁ N₁
    exact done m₁ nx h tk hJ F₁ N₁
end
end Mine

-- part MgMin
namespace Mine
set_option maxRecDepth 100000
theorem startMgMin : True := by
  w_top off
  exact True.intro

/-- each value is a tuple of two ints, borne by the ledger -/
def PairsIn (tl : List (Addr × Obj)) (vs : List Value) (ps : List (Int × Int)) : Prop :=
  vs.length = ps.length ∧ ∀ (i : Nat) (v : Value) (p : Int × Int), vs[i]? = some v → ps[i]? = some p → TupIn tl v [p.1, p.2]
theorem TupIn.mono {tl tl' : List (Addr × Obj)} {v : Value} {is : List Int} (h : TupIn tl v is) (hs : ∀ p ∈ tl, p ∈ tl') : TupIn tl' v is := by
  obtain ⟨a, xs, n, e, hm, hi⟩ := h
  exact ⟨a, xs, n, e, hs _ hm, hi⟩
theorem PairsIn.mono {tl tl' : List (Addr × Obj)} {vs : List Value} {ps : List (Int × Int)} (h : PairsIn tl vs ps) (hs : ∀ p ∈ tl, p ∈ tl') : PairsIn tl' vs ps :=
  ⟨h.1, fun i v p a b => (h.2 i v p a b).mono hs⟩
theorem PairsIn.nil {tl : List (Addr × Obj)} : PairsIn tl [] [] := ⟨rfl, fun i v p a _ => by simp at a⟩
theorem PairsIn.snoc {tl : List (Addr × Obj)} {vs : List Value} {ps : List (Int × Int)} {v : Value} {x y : Int} (h : PairsIn tl vs ps) (hv : TupIn tl v [x, y]) : PairsIn tl (vs ++ [v]) (ps ++ [(x, y)]) := by
  refine ⟨by simp [h.1], fun i u p a b => ?_⟩
  by_cases hi : i < vs.length
  · rw [List.getElem?_append_left hi] at a
    rw [List.getElem?_append_left (h.1 ▸ hi)] at b
    exact h.2 i u p a b
  · have hi' : vs.length ≤ i := Nat.le_of_not_lt hi
    rw [List.getElem?_append_right hi'] at a
    rw [List.getElem?_append_right (h.1 ▸ hi')] at b
    cases hk : i - vs.length with
    | zero =>
      rw [hk] at a
      rw [← h.1, hk] at b
      simp at a b
      subst a; subst b
      exact hv
    | succ k => rw [hk] at a; simp at a

theorem lex2 {a b c d : Int} : lexLt [a, b] [c, d] = decide (a < c ∨ (a = c ∧ b < d)) := by
  simp only [lexLt, List.length_nil]
  by_cases h : a = c
  · subst h
    by_cases h2 : b = d
    · subst h2; simp
    · simp [h2]
  · simp [h]

section
variable {prog : Program} {w : World} {A : Around} {R : Result → Shared → Prop} {h₀ : Heap} {L : Addr} {news : List (Addr × Obj)} {vs : List Value} {ps : List (Int × Int)} {I l S : Addr} {nn : Nat} {s : Shared}

theorem code_min_pairs (hh : A.handled = none) (hu : A.in1.units < cLine) (N : News h₀ L s.heap news) (hlI : l ≠ I) (hSI : S ≠ I) (hnS : ∀ p ∈ news, p.1 ≠ S) (hnI : ∀ p ∈ news, p.1 ≠ I)
    (hl : (l, listOf vs.toArray nn) ∈ news) (hps : PairsIn news vs ps)
    (hR : ∀ v p h' tk', TupIn news v [p.1, p.2] → p ∈ ps → (∀ q ∈ ps, lexLt [q.1, q.2] [p.1, p.2] = false) → (∀ b o, b ≠ I → b ≠ S → s.heap.get? b = some o → h'.get? b = some o) → R (.ok (.ret v)) { s with heap := h', toks := tk' }) :
    ∀ (r j : Nat) (h : Heap) (tk : Nat) (vb : Value) (pb : Int × Int) (c : Nat), vs.length - (j + 1) = r → j + 1 ≤ vs.length → (∀ b o, b ≠ I → b ≠ S → s.heap.get? b = some o → h.get? b = some o) →
      h.IsListIter I l (j + 1) → TupIn news vb [pb.1, pb.2] → pb ∈ ps → (∀ i q, i ≤ j → ps[i]? = some q → lexLt [q.1, q.2] [pb.1, pb.2] = false) →
      h.get? S = some { cls := .type "list", dict := none, data := .seq #[vb, vb] c, slots := #[] } →
      codeAny (model prog w) A (.builtin "min.loop" ⟨[.ref I, .none, .ref S], []⟩) R { s with heap := h, toks := tk } := by
  have hname : (toString "min" ++ toString ".loop" : String) = "min.loop" := by decide
  have W := Walks.list (prog := prog) (w := w) (A := A.in1) hh I l hlI vs.toArray
  have hsz : vs.toArray.size = vs.length := List.size_toArray ..
  have news_at : ∀ h : Heap, (∀ b o, b ≠ I → b ≠ S → s.heap.get? b = some o → h.get? b = some o) → ∀ p ∈ news, h.get? p.1 = some p.2 :=
    fun h hk p hp => hk _ _ (hnI p hp) (hnS p hp) (N p hp).1
  have isl : ∀ h : Heap, (∀ b o, b ≠ I → b ≠ S → s.heap.get? b = some o → h.get? b = some o) → h.IsList l vs.toArray :=
    fun h hk => ⟨_, news_at h hk _ hl, rfl, nn, rfl⟩
  intro r
  induction r with
  | zero =>
    intro j h tk vb pb c hr hj hk hit htb hpb hbest hS
    have hin : j + 1 = vs.length := by omega
    refine codeAny_builtin F.entry_min_loop ?_
    rw [Around.under_plainId F.plain_min_loop _]
    show wpAny _ A.in1 (seqItems? (.ref S) >>= _) _ _ _
    refine wpAny_bind (wpAny_seqItems hS rfl ?_)
    show wpAny _ A.in1 (tryCatch (pyNext (.ref I)) _ >>= _) _ _ _
    refine wpAny_bind (wpAny_tryCatch (W.done _ _ _ ⟨by rw [hsz, ← hin]; exact hit, isl h hk⟩ fun h' tk' hk' => ?_))
    have hS' := hk' S _ (by simpa using hSI) hS
    show wpAny _ A.in1 (updateSeq S (fun _ => #[]) >>= _) _ _ _
    refine wpAny_bind ?_
    refine wpAny_updateSeq hS' rfl (wpAny_bind (wpAny_letGo (wpAny_pure ?_)))
    refine hR vb pb _ _ htb hpb (fun q hq => ?_) (fun b o hb1 hb2 e => (Heap.get?_update_other _ _ (Ne.symm hb2)).trans (hk' b o (by simpa using hb1) (hk b o hb1 hb2 e)))
    obtain ⟨i, hi, rfl⟩ := List.mem_iff_getElem.mp hq
    exact hbest i _ (by have := hps.1; omega) (by simp [hi])
  | succ r ih =>
    intro j h tk vb pb c hr hj hk hit htb hpb hbest hS
    have hlt : j + 1 < vs.length := by omega
    have hltp : j + 1 < ps.length := by have := hps.1; omega
    refine codeAny_builtin F.entry_min_loop ?_
    rw [Around.under_plainId F.plain_min_loop _]
    show wpAny _ A.in1 (seqItems? (.ref S) >>= _) _ _ _
    refine wpAny_bind (wpAny_seqItems hS rfl ?_)
    show wpAny _ A.in1 (tryCatch (pyNext (.ref I)) _ >>= _) _ _ _
    refine wpAny_bind (wpAny_tryCatch (W.item (j + 1) _ _ _ (by rw [hsz]; exact hlt) ⟨hit, isl h hk⟩ fun v h' tk' hP hst' hk' => ?_))
    have hS' := hk' S _ (by simpa using hSI) hS
    have hv : vs[j + 1]? = some v := by simpa using hP
    have hpn : ps[j + 1]? = some ps[j + 1] := by simp [hltp]
    have htv := hps.2 _ _ _ hv hpn
    have hK : ∀ b o, b ≠ I → b ≠ S → s.heap.get? b = some o → h'.get? b = some o := fun b o hb1 hb2 e => hk' b o (by simpa using hb1) (hk b o hb1 hb2 e)
    obtain ⟨av, xv, kv, ev, mv, iv⟩ := id htv
    obtain ⟨ab, xb, kb, eb, mb, ib⟩ := id htb
    have T1 : IsTup h' av xv.toArray := ⟨_, news_at h' hK _ mv, rfl, kv, rfl⟩
    have T2 : IsTup h' ab xb.toArray := ⟨_, news_at h' hK _ mb, rfl, kb, rfl⟩
    show wpAny _ A.in1 (tryCatch (holding [v, v] (richCompare .Lt v vb >>= _)) _ >>= _) _ _ _
    refine wpAny_bind (wpAny_tryCatch (wpAny_holding (wpAny_bind ?_)))
    rw [ev, eb]
    refine lt_tup T1 T2 iv ib hu ?_
    rw [← ev, ← eb]
    refine wpAny_bind (wpAny_holding (wpAny_truthy_bool ?_))
    refine wpAny_bind (wpAny_letGo (wpAny_pure ?_))
    cases hb : lexLt [ps[j + 1].1, ps[j + 1].2] [pb.1, pb.2] with
    | true =>
      simp only [if_true]
      refine wpAny_bind ?_
      refine wpAny_updateSeq hS' rfl (wpAny_bind (wpAny_letGo ?_))
      rw [hname]
      refine wpAny_pure ⟨plainId_quiet F.plain_min_loop _, ih (j + 1) _ _ v ps[j + 1] _ (by omega) hlt (fun b o hb1 hb2 e => (Heap.get?_update_other _ _ (Ne.symm hb2)).trans (hK b o hb1 hb2 e)) ?_ htv (List.getElem_mem hltp) ?_ (Heap.get?_update_self _ hS' rfl)⟩
      · obtain ⟨oI, hoI, h1, h2⟩ := hst'.1
        exact ⟨oI, (Heap.get?_update_other _ _ hSI).trans hoI, h1, h2⟩
      · intro i q hi hq
        by_cases hi' : i ≤ j
        · have := hbest i q hi' hq
          rw [lex2] at this hb ⊢
          simp only [decide_eq_false_iff_not, decide_eq_true_eq] at *
          omega
        · have : i = j + 1 := by omega
          subst this
          rw [hpn] at hq
          obtain rfl := Option.some.inj hq
          rw [lex2]
          simp only [decide_eq_false_iff_not]
          omega
    | false =>
      simp only [Bool.false_eq_true, if_false]
      refine wpAny_bind (wpAny_letGo ?_)
      rw [hname]
      refine wpAny_pure ⟨plainId_quiet F.plain_min_loop _, ih (j + 1) _ _ vb pb c (by omega) hlt hK hst'.1 htb hpb ?_ hS'⟩
      intro i q hi hq
      by_cases hi' : i ≤ j
      · exact hbest i q hi' hq
      · have : i = j + 1 := by omega
        subst this
        rw [hpn] at hq
        obtain rfl := Option.some.inj hq
        exact hb
end

section
variable {prog : Program} {w : World} {A : Around} {R : Result → Shared → Prop} {h₀ : Heap} {L : Addr} {news : List (Addr × Obj)} {vs : List Value} {ps : List (Int × Int)} {I l S : Addr} {nn : Nat} {s : Shared}
theorem code_min_pairs1 (hh : A.handled = none) (hu : A.in1.units < cLine) (N : News h₀ L s.heap news) (hlI : l ≠ I) (hSI : S ≠ I) (hnS : ∀ p ∈ news, p.1 ≠ S) (hnI : ∀ p ∈ news, p.1 ≠ I)
    (hl : (l, listOf vs.toArray nn) ∈ news) (hps : PairsIn news vs ps) (hne : 0 < ps.length) {c : Nat} (hit : s.heap.IsListIter I l 0) (hS : s.heap.get? S = some { cls := .type "list", dict := none, data := .seq #[] c, slots := #[] })
    (hR : ∀ v p h' tk', TupIn news v [p.1, p.2] → p ∈ ps → (∀ q ∈ ps, lexLt [q.1, q.2] [p.1, p.2] = false) → (∀ b o, b ≠ I → b ≠ S → s.heap.get? b = some o → h'.get? b = some o) → R (.ok (.ret v)) { s with heap := h', toks := tk' }) :
    codeAny (model prog w) A (.builtin "min.loop" ⟨[.ref I, .none, .ref S], []⟩) R s := by
  have hname : (toString "min" ++ toString ".loop" : String) = "min.loop" := by decide
  have W := Walks.list (prog := prog) (w := w) (A := A.in1) hh I l hlI vs.toArray
  have hsz : vs.toArray.size = vs.length := List.size_toArray ..
  have hnv : 0 < vs.length := by rw [hps.1]; exact hne
  refine codeAny_builtin F.entry_min_loop ?_
  rw [Around.under_plainId F.plain_min_loop _]
  show wpAny _ A.in1 (seqItems? (.ref S) >>= _) _ _ _
  refine wpAny_bind (wpAny_seqItems hS rfl ?_)
  show wpAny _ A.in1 (tryCatch (pyNext (.ref I)) _ >>= _) _ _ _
  refine wpAny_bind (wpAny_tryCatch (W.item 0 _ _ _ (by rw [hsz]; exact hnv) ⟨hit, ⟨_, (N _ hl).1, rfl, nn, rfl⟩⟩ fun v h' tk' hP hst' hk' => ?_))
  have hS' := hk' S _ (by simpa using hSI) hS
  have hv : vs[0]? = some v := by simpa using hP
  have hpn : ps[0]? = some ps[0] := by simp [hne]
  have htv := hps.2 _ _ _ hv hpn
  show wpAny _ A.in1 (updateSeq S (fun _ => #[v, v]) >>= _) _ _ _
  refine wpAny_bind ?_
  refine wpAny_updateSeq hS' rfl ?_
  rw [hname]
  refine wpAny_pure ⟨plainId_quiet F.plain_min_loop _, code_min_pairs (s := s) hh hu N hlI hSI hnS hnI hl hps hR _ 0 _ _ v ps[0] _ rfl hnv (fun b o hb1 hb2 e => (Heap.get?_update_other _ _ (Ne.symm hb2)).trans (hk' b o (by simpa using hb1) e)) ?_ htv (List.getElem_mem hne) ?_ (Heap.get?_update_self _ hS' rfl)⟩
  · obtain ⟨oI, hoI, h1, h2⟩ := hst'.1
    exact ⟨oI, (Heap.get?_update_other _ _ hSI).trans hoI, h1, h2⟩
  · intro i q hi hq
    obtain rfl : i = 0 := by omega
    rw [hpn] at hq
    obtain rfl := Option.some.inj hq
    rw [lex2]
    simp only [decide_eq_false_iff_not]
    omega
end

section
variable {prog : Program} {w : World} {A : Around} {E : Value → Shared → Prop} {s : Shared} {h₀ : Heap} {L l : Addr} {m : Str → Option Value} {news : List (Addr × Obj)} {vs : List Value} {ps : List (Int × Int)} {nn : Nat} {Q : Value → Shared → Prop}

theorem min_pairs (F : Fr h₀ L s.heap m) (N : News h₀ L s.heap news) (hl : (l, listOf vs.toArray nn) ∈ news) (hps : PairsIn news vs ps) (hne : 0 < ps.length) (hh : A.handled = none) (hu : A.units + 2 < cLine)
    (h : ∀ h' a xs k p tk, Fr h₀ L h' m → News h₀ L h' news → (a, tupOf xs k) ∈ news → IntsAre xs [p.1, p.2] → p ∈ ps → (∀ q ∈ ps, lexLt [q.1, q.2] [p.1, p.2] = false) → Q (.ref a) { s with heap := h', toks := tk }) :
    wpAny (model prog w) A (call (.builtin "min") [.ref l]) Q E s := by
  have hname : (toString "min" ++ toString ".loop" : String) = "min.loop" := by decide
  have hlg := (N _ hl).1
  have hlS : l < s.heap.objs.size := Heap.lt_size hlg
  refine call_function_tree PySem.F.kind_min PySem.F.plain_min PySem.F.entry_min (PySem.F.args_min1 _) ?_
  show wpAny _ A.in1 (Builtin.Builtins.bindParams "min" ["key", "default"] 0 ⟨[], []⟩ >>= _) _ _ s
  refine wpAny_bind (wpAny_of_eq (show Builtin.Builtins.bindParams "min" ["key", "default"] 0 ⟨[], []⟩ = pure [none, none] from rfl) ?_)
  refine wpAny_bind (wpAny_pure ?_)
  refine wpAny_bind (wpAny_pyIter_list (N.isList hl) ?_)
  refine wpAny_bind (wpAny_newObj_type ?_)
  rw [hname]
  have hs1 : (s.heap.push { cls := .type "list_iterator", data := .fields #[.ref l, rawInt 0] }).objs.size = s.heap.objs.size + 1 := Heap.size_push ..
  have hs2 : s.heap.objs.size < (s.heap.push { cls := .type "list_iterator", data := .fields #[.ref l, rawInt 0] }).objs.size := by rw [hs1]; exact Nat.lt_succ_self _
  refine wpAny_pure ⟨plainId_quiet PySem.F.plain_min_loop _, ?_⟩
  have hlt : ∀ p ∈ news, p.1 < s.heap.objs.size := fun p hp => Heap.lt_size (N p hp).1
  refine code_min_pairs1 (h₀ := h₀) (L := L) (news := news) (vs := vs) (ps := ps) (l := l) (nn := nn) hh (by rw [units_in1]; omega) (fun p hp => ⟨Heap.get?_push_of_some _ (Heap.get?_push_of_some _ (N p hp).1), (N p hp).2⟩) (Nat.ne_of_lt hlS) (fun e => Nat.lt_irrefl s.heap.objs.size (e ▸ hs2)) (fun p hp => ?_) (fun p hp => Nat.ne_of_lt (hlt p hp)) hl hps hne ⟨_, Heap.get?_push_of_some _ (Heap.get?_push_size _ rfl), rfl, rfl⟩ (Heap.get?_push_size _ rfl) ?_
  · have := hlt p hp
    exact Nat.ne_of_lt (Nat.lt_trans this hs2)
  · rintro v p h' tk' ⟨a, xs, k, rfl, hm, hi⟩ hp hb hk
    have hk2 : ∀ b o, s.heap.get? b = some o → h'.get? b = some o := fun b o e => by
      have hb' := Heap.lt_size e
      exact hk b o (Nat.ne_of_lt hb') (Nat.ne_of_lt (Nat.lt_trans hb' hs2)) (Heap.get?_push_of_some _ (Heap.get?_push_of_some _ e))
    exact h h' a xs k p tk' (F.grownK hk2) (N.grown hk2) hm hi hp hb
end
end Mine

-- part MgCh
namespace Mine
set_option maxRecDepth 100000
theorem startMgCh : True := by
  w_top off
  exact True.intro
def Halt (P : Prop) : Prop := P
theorem Halt.of {P : Prop} (h : Halt P) : P := h

def ChJ (ch : Addr) (rest ts₁ : List (Addr × Obj)) (psm : List (Str × Value)) (ps : List (Int × Int)) (m : Str → Option Value) (nx : List (Addr × Obj)) : Prop :=
  (∀ p ∈ psm, m p.1 = some p.2) ∧ ∃ cs k ts, nx = (ch, listOf cs.toArray k) :: (rest ++ ts) ∧ OwnOff ts (ch :: rest.map (·.1)) ∧ PairsIn (ts₁ ++ ts) cs ps

section
variable {prog : Program} {w : World} {A : Around} {E : Value → Shared → Prop} {s : Shared} {env : Env} {h₀ : Heap} {x : Str} {body : List Stmt} {Q : Flow → Shared → Prop}

theorem ch_loop {l ch : Addr} {vs cs₀ : List Value} {is : List Int} {nn k₀ : Nat} {m₀ : Str → Option Value} {rest : List (Addr × Obj)} (ts₁ : List (Addr × Obj)) (psm : List (Str × Value)) (P : Nat → List (Int × Int))
    (hh : A.handled = none) (hl : (l, listOf vs.toArray nn) ∈ rest) (hi : IntsAre vs is) (F : Fr h₀ env.locals s.heap m₀) (N : News h₀ env.locals s.heap ((ch, listOf cs₀.toArray k₀) :: rest))
    (hps : ∀ p ∈ psm, m₀ p.1 = some p.2) (hp : PairsIn ts₁ cs₀ (P 0))
    (turn : ∀ i n t m₁ cs k ts h tk own, is[i]? = some n → OwnOff own (ch :: (rest ++ ts).map (·.1)) → OwnOff ts (ch :: rest.map (·.1)) → PairsIn (ts₁ ++ ts) cs (P i) →
      Fr h₀ env.locals h (fun y => if y = x then some (.int n t) else kstB m₁ psm y) → News h₀ env.locals h ((ch, listOf cs.toArray k) :: (rest ++ (ts ++ own))) →
      wpAny (model prog w) A (execs body env) (InvPostG h₀ env.locals (ChJ ch rest ts₁ psm (P (i + 1))) own { s with heap := h, toks := tk } Q) E { s with heap := h, toks := tk })
    (done : ∀ m₁ cs k ts h tk, OwnOff ts (ch :: rest.map (·.1)) → PairsIn (ts₁ ++ ts) cs (P is.length) → Fr h₀ env.locals h (kstB m₁ psm) → News h₀ env.locals h ((ch, listOf cs.toArray k) :: (rest ++ ts)) → Q .next { s with heap := h, toks := tk }) :
    wpAny (model prog w) A (pyIter (.ref l)) (fun it s₂ => LoopAtV prog w A h₀ env x body Q E it s₂) E s := by
  have hlen : vs.length = is.length := hi.length
  refine kdl_iter (nn := nn) (vs := vs) (fun i m nx => ChJ ch rest ts₁ psm (P i) m nx) hh (List.mem_cons_of_mem _ hl) F N ⟨hps, cs₀, k₀, [], by simp, fun p hp => (nomatch hp), by simpa using hp⟩ ?_ ?_
  · rintro i v m₁ nx h tk own hv hoff hmem ⟨hm, cs, k, ts, rfl, ht, hP⟩ F₁ N₁
    have hi' : i < is.length := by rw [← hlen]; exact (List.getElem?_eq_some_iff.mp hv).1
    obtain ⟨t, hx⟩ := hi.get i (is[i]'hi') (List.getElem?_eq_getElem hi')
    have ev : v = .int (is[i]'hi') t := by rw [hx] at hv; exact (Option.some.inj hv).symm
    subst ev
    refine wpAny_mono (turn i (is[i]'hi') t m₁ cs k ts h tk own (by simp [hi']) hoff ht hP (fr_psx hm F₁) (by simpa using N₁)) (fun f s₂ p => ?_) fun _ _ x => x
    have up : InvEndG h₀ env.locals (ChJ ch rest ts₁ psm (P (i + 1))) own { s with heap := h, toks := tk } s₂ →
        InvEndG h₀ env.locals (fun m' nx => (l, listOf vs.toArray nn) ∈ nx ∧ ChJ ch rest ts₁ psm (P (i + 1)) m' nx) own { s with heap := h, toks := tk } s₂ := by
      rintro ⟨h', tk', m', news', nx', e', F', N', hn', ho', ha, hS⟩
      refine ⟨h', tk', m', news', nx', e', F', N', hn', ho', ha, ?_, hS⟩
      obtain ⟨_, cs', k', ts', rfl, _⟩ := hS
      exact List.mem_cons_of_mem _ (List.mem_append_left _ hl)
    cases f with
    | ret v => exact p
    | brk => exact p
    | next => exact up p
    | cont => exact up p
  · rintro m₁ nx h tk ⟨hm, cs, k, ts, rfl, ht, hP⟩ F₁ N₁
    rw [hlen] at hP
    exact done m₁ cs k ts h tk ht hP (fr_ps hm F₁) N₁

theorem ch_end {ch : Addr} {rest ts₁ : List (Addr × Obj)} {psm : List (Str × Value)} {ps : List (Int × Int)} {L : Addr} {m' : Str → Option Value} {own news' ts : List (Addr × Obj)} {s₁ : Shared} {h' : Heap} {tk : Nat} {cs : List Value} {k : Nat} (add : List (Addr × Obj))
    (F : Fr h₀ L h' m') (N : News h₀ L h' news') (ho : OwnOff own (ch :: (rest ++ ts).map (·.1))) (ht : OwnOff ts (ch :: rest.map (·.1))) (ha : OwnOff add (ch :: rest.map (·.1))) (hao : OwnOff own (add.map (·.1)))
    (h1 : (ch, listOf cs.toArray k) ∈ news') (h2 : ∀ p ∈ rest ++ (ts ++ own), p ∈ news') (h3 : ∀ p ∈ add, p ∈ news') (hm : ∀ p ∈ psm, m' p.1 = some p.2) (hp : PairsIn (ts₁ ++ (ts ++ add)) cs ps) :
    InvEndG h₀ L (ChJ ch rest ts₁ psm ps) own s₁ { s₁ with heap := h', toks := tk } := by
  refine InvEndG.intro (nx := (ch, listOf cs.toArray k) :: (rest ++ (ts ++ add))) F N ⟨hm, cs, k, ts ++ add, rfl, ?_, hp⟩ ?_ ?_ ?_
  · intro p hp b hb
    rcases List.mem_append.mp hp with h | h
    · exact ht p h b hb
    · exact ha p h b hb
  · intro p hp b hb
    simp only [List.map_cons, List.map_append, List.mem_cons, List.mem_append] at hb
    rcases hb with hb | hb | hb | hb
    · exact ho p hp b (by simp [hb])
    · exact ho p hp b (by simp only [List.map_append, List.mem_cons, List.mem_append]; exact .inr (.inl hb))
    · exact ho p hp b (by simp only [List.map_append, List.mem_cons, List.mem_append]; exact .inr (.inr hb))
    · exact hao p hp b hb
  · intro p hp
    simp only [List.mem_cons, List.mem_append] at hp
    rcases hp with rfl | hp | hp | hp
    · exact h1
    · exact h2 p (by simp [hp])
    · exact h2 p (by simp [hp])
    · exact h3 p hp
  · exact fun p hp => h2 p (by simp [hp])
end
end Mine

-- part MgNar
namespace Mine
theorem startMgNar : True := by
  w_top off
  exact True.intro
local macro_rules | `(tactic| walk_at "pyIter ref") => `(tactic| (k_here; (with_reducible show wpAny _ _ (pyIter (Value.ref _)) _ _ _); refine Halt.of ?_))
local macro_rules | `(tactic| walk_at "exec For Name Subscript cons nil") => `(tactic| (k_here; (rename Fr _ _ _ _ => lF'); (with_unfolding_all refine' For_invVF lF' ?k1 ?k2 ?_; (case k1 => exact rfl); (case k2 => exact rfl); k_whole)))
local macro_rules | `(tactic| k_upd) => `(tactic| first | exact Upd.head (by assumption) | (refine' Upd.tail ?a ?b; (case a => k_ne); (case b => k_upd)))

section
variable {prog : Program} {w : World} {A : Around} {E : Value → Shared → Prop} {s : Shared} {h₀ : Heap} {L : Addr} {m : Str → Option Value} {news : List (Addr × Obj)} {Q : Value → Shared → Prop} {a b c : Int} {t u x : Tok}
theorem min3 (F : Fr h₀ L s.heap m) (N : News h₀ L s.heap news) (hh : A.handled = none)
    (h : ∀ h' tk t', Fr h₀ L h' m → News h₀ L h' news → Q (.int (min a (min b c)) t') { s with heap := h', toks := tk }) :
    wpAny (model prog w) A (call (.builtin "min") [.int a t, .int b u, .int c x]) Q E s := by
  refine min_three_ints hh fun h' tk hk => ?_
  have F' := F.grownK hk
  have N' := N.grown hk
  split <;> split
  · have e : min a (min b c) = c := by omega
    exact e ▸ h h' tk x F' N'
  · have e : min a (min b c) = b := by omega
    exact e ▸ h h' tk u F' N'
  · have e : min a (min b c) = c := by omega
    exact e ▸ h h' tk x F' N'
  · have e : min a (min b c) = a := by omega
    exact e ▸ h h' tk t F' N'
theorem max3 (F : Fr h₀ L s.heap m) (N : News h₀ L s.heap news) (hh : A.handled = none)
    (h : ∀ h' tk t', Fr h₀ L h' m → News h₀ L h' news → Q (.int (max a (max b c)) t') { s with heap := h', toks := tk }) :
    wpAny (model prog w) A (call (.builtin "max") [.int a t, .int b u, .int c x]) Q E s := by
  refine max_three_ints hh fun h' tk hk => ?_
  have F' := F.grownK hk
  have N' := N.grown hk
  split <;> split
  · have e : max a (max b c) = c := by omega
    exact e ▸ h h' tk x F' N'
  · have e : max a (max b c) = b := by omega
    exact e ▸ h h' tk u F' N'
  · have e : max a (max b c) = c := by omega
    exact e ▸ h h' tk x F' N'
  · have e : max a (max b c) = a := by omega
    exact e ▸ h h' tk t F' N'
end
local macro_rules | `(tactic| walk_at "call builtin:min") => `(tactic| (k_here; (with_reducible show wpAny _ _ (call (Value.builtin "min") [Value.int _ _, Value.int _ _, Value.int _ _]) _ _ _); k_dflt (refine' min3 ?k1 ?k2 ?k3 ?_; (case k1 => k_asm); (case k2 => k_asm); (case k3 => rfl); k_whole); intro h' tk' t' F' N'))
local macro_rules | `(tactic| walk_at "call builtin:min") => `(tactic| (k_here; (with_reducible show wpAny _ _ (call (Value.builtin "min") [Value.ref _]) _ _ _); k_dflt (refine' min_pairs ?k1 ?k2 ?k3 ?k4 ?k5 ?k6 ?k7 ?_; (case k1 => k_asm); (case k2 => k_asm); (case k3 => k_mem); (case k4 => assumption); (case k5 => assumption); (case k6 => rfl); (case k7 => ktr_units); k_whole); intro h' a' xs' k' p' tk' F' N' m' i' c' b'))
local macro_rules | `(tactic| walk_at "call builtin:max") => `(tactic| (k_here; (with_reducible show wpAny _ _ (call (Value.builtin "max") [Value.int _ _, Value.int _ _, Value.int _ _]) _ _ _); k_dflt (refine' max3 ?k1 ?k2 ?k3 ?_; (case k1 => k_asm); (case k2 => k_asm); (case k3 => rfl); k_whole); intro h' tk' t' F' N'))

def cand (a b c : Int) : Int × Int := (max a (max b c) - min a (min b c), min a (min b c))
def ch3 (pre : List (Int × Int)) (a b : Int) (i2 : List Int) (i : Nat) : List (Int × Int) := pre ++ (i2.take i).map (cand a b)
def ch2 (pre : List (Int × Int)) (a : Int) (i1 i2 : List Int) (i : Nat) : List (Int × Int) := pre ++ (i1.take i).flatMap fun b => i2.map (cand a b)
def ch1 (i0 i1 i2 : List Int) (i : Nat) : List (Int × Int) := (i0.take i).flatMap fun a => i1.flatMap fun b => i2.map (cand a b)

theorem flat_len {α β : Type} (l : List α) (f : α → List β) (c : Nat) (h : ∀ x ∈ l, (f x).length ≤ c) : (l.flatMap f).length ≤ l.length * c := by
  induction l with
  | nil => simp
  | cons x r ih =>
    rw [List.flatMap_cons, List.length_append, List.length_cons, Nat.succ_mul]
    have h1 := h x (List.mem_cons_self ..)
    have h2 := ih fun y hy => h y (List.mem_cons_of_mem _ hy)
    omega
theorem ch_len {i0 i1 i2 : List Int} (b0 : i0.length ≤ 15) (b1 : i1.length ≤ 15) (b2 : i2.length ≤ 15) (i i' i'' : Nat) (x y : Int) : (ch3 (ch2 (ch1 i0 i1 i2 i) x i1 i2 i') x y i2 i'').length ≤ 4000 := by
  have e2 : ∀ (a : Int) (l : List Int), l.length ≤ 15 → (l.flatMap fun b => i2.map (cand a b)).length ≤ 225 := fun a l hl => by
    have := flat_len l (fun b => i2.map (cand a b)) 15 (fun x _ => by simpa using b2)
    have : l.length * 15 ≤ 225 := by omega
    omega
  have e1 := flat_len (i0.take i) (fun a => i1.flatMap fun b => i2.map (cand a b)) 225 (fun a _ => e2 a i1 b1)
  have e3 := e2 x (i1.take i') (by rw [List.length_take]; omega)
  simp only [ch3, ch2, ch1, List.length_append, List.length_map, List.length_take] at *
  omega
theorem allLt_mem {d : Addr} {l : List (Addr × Obj)} (h : AllLt d l) : ∀ p ∈ l, p.1 < d := by
  induction l with
  | nil => intro p hp; cases hp
  | cons a r ih =>
    intro p hp
    rcases List.mem_cons.mp hp with e | hp
    · rw [e]; exact h.1
    · exact ih h.2 p hp
theorem news_pick {h₀ h : Heap} {L : Addr} {news rest : List (Addr × Obj)} {x : Addr × Obj} (N : News h₀ L h news) (hx : x ∈ news) (hs : ∀ p ∈ rest, p ∈ news) : News h₀ L h (x :: rest) := by
  intro p hp
  rcases List.mem_cons.mp hp with rfl | hp
  · exact N _ hx
  · exact N p (hs p hp)
theorem ch_end1 {h₀ h' : Heap} {ch L : Addr} {rest ts₁ : List (Addr × Obj)} {psm : List (Str × Value)} {ps : List (Int × Int)} {m' : Str → Option Value} {own news' ts : List (Addr × Obj)} {s₁ : Shared} {tk : Nat} {cs : List Value} {k : Nat} {d : Addr} {o : Obj}
    (F : Fr h₀ L h' m') (N : News h₀ L h' news') (h3 : (d, o) ∈ news') (hd : ∀ b ∈ ch :: (rest ++ (ts ++ own)).map (·.1), b < d) (ho : OwnOff own (ch :: (rest ++ ts).map (·.1))) (ht : OwnOff ts (ch :: rest.map (·.1)))
    (h1 : (ch, listOf cs.toArray k) ∈ news') (h2 : ∀ p ∈ rest ++ (ts ++ own), p ∈ news') (hm : ∀ p ∈ psm, m' p.1 = some p.2) (hp : PairsIn (ts₁ ++ (ts ++ [(d, o)])) cs ps) :
    InvEndG h₀ L (ChJ ch rest ts₁ psm ps) own s₁ { s₁ with heap := h', toks := tk } := by
  refine ch_end [(d, o)] F N ho ht (fun p hp b hb => ?_) (fun p hp b hb => ?_) h1 h2 (fun p hp => List.mem_singleton.mp hp ▸ h3) hm hp
  · rw [List.mem_singleton.mp hp]
    refine Nat.ne_of_gt (hd b ?_)
    rcases List.mem_cons.mp hb with h | h
    · exact h ▸ List.mem_cons_self ..
    · exact List.mem_cons_of_mem _ (by rw [List.map_append]; exact List.mem_append_left _ h)
  · rw [List.mem_singleton.mp hb]
    exact Nat.ne_of_lt (hd _ (List.mem_cons_of_mem _ (List.mem_map.mpr ⟨p, List.mem_append_right _ (List.mem_append_right _ hp), rfl⟩)))
theorem ch3_succ {pre : List (Int × Int)} {x y z : Int} {i2 : List Int} {i : Nat} (h : i2[i]? = some z) : ch3 pre x y i2 (i + 1) = ch3 pre x y i2 i ++ [cand x y z] := by
  simp [ch3, List.take_add_one, h]
theorem ch3_all {pre : List (Int × Int)} {x y : Int} {i2 : List Int} : ch3 pre x y i2 i2.length = pre ++ i2.map (cand x y) := by
  simp [ch3]
theorem ch2_succ {pre : List (Int × Int)} {x y : Int} {i1 i2 : List Int} {i : Nat} (h : i1[i]? = some y) : ch2 pre x i1 i2 (i + 1) = ch2 pre x i1 i2 i ++ i2.map (cand x y) := by
  simp [ch2, List.take_add_one, h]
theorem ch2_all {pre : List (Int × Int)} {x : Int} {i1 i2 : List Int} : ch2 pre x i1 i2 i1.length = pre ++ i1.flatMap fun b => i2.map (cand x b) := by
  simp [ch2]
theorem ch1_succ {x : Int} {i0 i1 i2 : List Int} {i : Nat} (h : i0[i]? = some x) : ch1 i0 i1 i2 (i + 1) = ch1 i0 i1 i2 i ++ i1.flatMap fun b => i2.map (cand x b) := by
  simp [ch1, List.take_add_one, h]
theorem ch_nest {h₀ h' : Heap} {ch L : Addr} {rest ts₁ ts ts2 own : List (Addr × Obj)} {psm : List (Str × Value)} {ps : List (Int × Int)} {m' : Str → Option Value} {s₁ : Shared} {tk : Nat} {cs : List Value} {k : Nat}
    (ho : OwnOff own (ch :: (rest ++ ts).map (·.1))) (ht : OwnOff ts (ch :: rest.map (·.1))) (ht2 : OwnOff ts2 (ch :: (rest ++ (ts ++ own)).map (·.1)))
    (F : Fr h₀ L h' m') (N : News h₀ L h' ((ch, listOf cs.toArray k) :: (rest ++ (ts ++ own) ++ ts2))) (hm : ∀ p ∈ psm, m' p.1 = some p.2) (hp : PairsIn (ts₁ ++ ts ++ ts2) cs ps) :
    InvEndG h₀ L (ChJ ch rest ts₁ psm ps) own s₁ { s₁ with heap := h', toks := tk } := by
  refine ch_end ts2 F N ho ht (fun p hp b hb => ht2 p hp b ?_) (fun p hp b hb e => ?_) (List.mem_cons_self ..) (fun p hp => List.mem_cons_of_mem _ (List.mem_append_left _ hp)) (fun p hp => List.mem_cons_of_mem _ (List.mem_append_right _ hp)) hm (by simpa using hp)
  · rcases List.mem_cons.mp hb with h | h
    · exact h ▸ List.mem_cons_self ..
    · exact List.mem_cons_of_mem _ (by rw [List.map_append]; exact List.mem_append_left _ h)
  · obtain ⟨q, hq, rfl⟩ := List.mem_map.mp hb
    exact ht2 q hq p.1 (List.mem_cons_of_mem _ (List.mem_map.mpr ⟨p, List.mem_append_right _ (List.mem_append_right _ hp), rfl⟩)) e.symm
local macro_rules | `(tactic| walk_at "call builtin:list.append") => `(tactic| (k_here; (with_reducible show wpAny _ _ (call (Value.builtin _) [Value.ref _, _]) _ _ _); k_dflt (refine' append_K ?k1 ?k2 ?k3 ?_ ?z; (case k1 => k_asm); (case k2 => k_asm); (case k3 => k_upd); (case z => assumption); k_whole); intro h' F' N'))

section
variable {w : World} {mean : ExcName → Option Value} {mg mb : Str → Option Value} {dp un : Nat} {gd : Option (List Code)} {cn : Str} {cs : Scope} {a : Addr} {ccd : Value} {cl : List (Str × Addr)} {outer : List Env} {A₀ : Around} {base h₀ : Heap} {L : Addr} {m : Str → Option Value} {s : Shared} {Q E : Value → Shared → Prop}
    {rw r0 r1 r2 : Addr} {v0 v1 v2 : List Value} {i0 i1 i2 : List Int} {n n0 n1 n2 : Nat} {tl : List (Addr × Obj)}

set_option maxRecDepth 100000 in
set_option maxHeartbeats 8000000 in
theorem narrow_c
    (B : Below A₀ base outer h₀) (F : Fr h₀ L s.heap m) (X : (hd.heap_39 w.params).In h₀) (N : News h₀ L s.heap ((rw, listOf #[.ref r0, .ref r1, .ref r2] n) :: (r0, listOf v0.toArray n0) :: (r1, listOf v1.toArray n1) :: (r2, listOf v2.toArray n2) :: tl)) (T : Top hd.view_39 (looseW hd.view_39 []) mean mg mb h₀) (hk : cs.kind = .function)
    (j0 : IntsAre v0 i0) (j1 : IntsAre v1 i1) (j2 : IntsAre v2 i2) (b0 : i0.length ≤ 15) (b1 : i1.length ≤ 15) (b2 : i2.length ≤ 15)
    (hdp : dp + 3 < recursionLimit) (hun : un + 120 < cLine) (e0 : 0 < i0.length) (e1 : 0 < i1.length) (e2 : 0 < i2.length)
    (hret : ∀ h' tk' a' xs k' p, Fr h₀ L h' m → News h₀ L h' ((a', tupOf xs k') :: (rw, listOf #[.ref r0, .ref r1, .ref r2] n) :: (r0, listOf v0.toArray n0) :: (r1, listOf v1.toArray n1) :: (r2, listOf v2.toArray n2) :: tl) → IntsAre xs [p.1, p.2] →
      p ∈ ch1 i0 i1 i2 i0.length → (∀ q ∈ ch1 i0 i1 i2 i0.length, lexLt [q.1, q.2] [p.1, p.2] = false) → Q (.ref a') { s with heap := h', toks := tk' }) :
    wpAny (model Challenge.rw_mg0009_01.row.prog w) (ktrTop dp un gd cn cs L a ccd cl outer) (call (.ref 59) [.ref rw]) Q E s := by
  (revert X; k_fill; intro X)
  refine wpAny_call ?_
  k_dflt cell_enter
  k_steps
  rename_i ch hx1 hlt hx2 FF NN
  have hb0 : ∀ p ∈ (rw, listOf #[Value.ref r0, Value.ref r1, Value.ref r2] n) :: (r0, listOf v0.toArray n0) :: (r1, listOf v1.toArray n1) :: (r2, listOf v2.toArray n2) :: tl, p.1 ≠ ch := by
    obtain ⟨q1, q2, q3, q4, q5⟩ := hlt
    intro p hp
    simp only [List.mem_cons] at hp
    rcases hp with rfl | rfl | rfl | rfl | hp
    · exact Nat.ne_of_lt q1
    · exact Nat.ne_of_lt q2
    · exact Nat.ne_of_lt q3
    · exact Nat.ne_of_lt q4
    · exact Nat.ne_of_lt (allLt_mem q5 p hp)
  show wpAny _ _ _ _ _ _
  k_dflt refine' ch_loop (cs₀ := []) (k₀ := 0) [] [(Str.ofString "rows", .ref rw), (Str.ofString "choices", .ref ch)] (ch1 i0 i1 i2) ?hh ?hl ?hi ?F ?N ?hps ?hp ?turn ?done
  case hh => rfl
  case F => exact FF
  case N => exact NN
  case hl => k_mem
  case hi => exact j0
  case hps => exact List.forall_mem_cons.mpr ⟨rfl, List.forall_mem_cons.mpr ⟨rfl, List.forall_mem_nil _⟩⟩
  case hp => exact PairsIn.nil
  case done =>
    intro m₁ cs1 k1 ts1 h1 tk1 ht1 hP1 F₁ N₁
    have hpp : PairsIn ((ch, listOf cs1.toArray k1) :: (rw, listOf #[Value.ref r0, Value.ref r1, Value.ref r2] n) :: (r0, listOf v0.toArray n0) :: (r1, listOf v1.toArray n1) :: (r2, listOf v2.toArray n2) :: (tl ++ ts1)) cs1 (ch1 i0 i1 i2 i0.length) := hP1.mono fun p hp => by
      simp only [List.nil_append] at hp
      simp only [List.mem_cons, List.mem_append]
      exact .inr (.inr (.inr (.inr (.inr (.inr hp)))))
    have hne : 0 < (ch1 i0 i1 i2 i0.length).length := by
      cases i0 with
      | nil => cases e0
      | cons a0 r0' => cases i1 with
        | nil => cases e1
        | cons a1 r1' => cases i2 with
          | nil => cases e2
          | cons a2 r2' => simp [ch1]
    simp only [List.cons_append] at N₁
    k_steps
    (rename News _ _ _ _ => NZ)
    (rename (_, tupOf _ _) ∈ _ => mZ)
    refine hret _ _ _ _ _ _ (by k_asm) (news_pick NZ mZ fun p hp => ?_) (by assumption) (by assumption) (by assumption)
    refine List.mem_cons_of_mem _ ?_
    simp only [List.mem_cons, List.mem_append] at hp ⊢
    rcases hp with hp | hp | hp | hp | hp
    · exact .inl hp
    · exact .inr (.inl hp)
    · exact .inr (.inr (.inl hp))
    · exact .inr (.inr (.inr (.inl hp)))
    · exact .inr (.inr (.inr (.inr (.inl hp))))
  case turn =>
    intro i x t m₁ cs1 k1 ts1 h1 tk1 own1 hx ho1 ht1 hP1 F₁ N₁
    simp only [List.cons_append] at N₁
    k_steps
    show wpAny _ _ _ _ _ _
    k_dflt refine' ch_loop (m₀ := fun y => if y = Str.ofString "one" then some (Value.int x t) else kstB m₁ [(Str.ofString "rows", .ref rw), (Str.ofString "choices", .ref ch)] y) (cs₀ := cs1) (k₀ := k1) ([] ++ ts1) [(Str.ofString "rows", .ref rw), (Str.ofString "choices", .ref ch), (Str.ofString "one", .int x t)] (ch2 (ch1 i0 i1 i2 i) x i1 i2) ?hh ?hl ?hi ?F ?N ?hps ?hp ?turn ?done
    case hh => rfl
    case F => k_asm
    case N => k_asm
    case hl => k_mem
    case hi => exact j1
    case hps => exact List.forall_mem_cons.mpr ⟨rfl, List.forall_mem_cons.mpr ⟨rfl, List.forall_mem_cons.mpr ⟨rfl, List.forall_mem_nil _⟩⟩⟩
    case hp => simpa [ch2] using hP1
    case done =>
      intro m₂ cs2 k2 ts2 h2 tk2 ht2 hP2 F₂ N₂
      k_steps
      refine ch_nest ho1 ht1 ht2 (by k_asm) (by k_asm) (List.forall_mem_cons.mpr ⟨rfl, List.forall_mem_cons.mpr ⟨rfl, List.forall_mem_nil _⟩⟩) ?_
      rw [ch1_succ hx]
      rw [ch2_all] at hP2
      simpa using hP2
    case turn =>
      intro i' y u m₂ cs2 k2 ts2 h2 tk2 own2 hy ho2 ht2 hP2 F₂ N₂
      simp only [List.cons_append] at N₂
      k_steps
      show wpAny _ _ _ _ _ _
      k_dflt refine' ch_loop (m₀ := fun z => if z = Str.ofString "two" then some (Value.int y u) else kstB m₂ [(Str.ofString "rows", .ref rw), (Str.ofString "choices", .ref ch), (Str.ofString "one", .int x t)] z) (cs₀ := cs2) (k₀ := k2) ([] ++ ts1 ++ ts2) [(Str.ofString "rows", .ref rw), (Str.ofString "choices", .ref ch), (Str.ofString "one", .int x t), (Str.ofString "two", .int y u)] (ch3 (ch2 (ch1 i0 i1 i2 i) x i1 i2 i') x y i2) ?hh ?hl ?hi ?F ?N ?hps ?hp ?turn ?done
      case hh => rfl
      case F => k_asm
      case N => k_asm
      case hl => k_mem
      case hi => exact j2
      case hps => exact List.forall_mem_cons.mpr ⟨rfl, List.forall_mem_cons.mpr ⟨rfl, List.forall_mem_cons.mpr ⟨rfl, List.forall_mem_cons.mpr ⟨rfl, List.forall_mem_nil _⟩⟩⟩⟩
      case hp => simpa [ch3] using hP2
      case done =>
        intro m₃ cs3 k3 ts3 h3 tk3 ht3 hP3 F₃ N₃
        k_steps
        refine ch_nest ho2 ht2 ht3 (by k_asm) (by k_asm) (List.forall_mem_cons.mpr ⟨rfl, List.forall_mem_cons.mpr ⟨rfl, List.forall_mem_cons.mpr ⟨rfl, List.forall_mem_nil _⟩⟩⟩) ?_
        rw [ch2_succ hy]
        rw [ch3_all] at hP3
        simpa using hP3
      case turn =>
        intro i'' z v m₃ cs3 k3 ts3 h3 tk3 own3 hz ho3 ht3 hP3 F₃ N₃
        have hof : ∀ p ∈ (rw, listOf #[Value.ref r0, Value.ref r1, Value.ref r2] n) :: (r0, listOf v0.toArray n0) :: (r1, listOf v1.toArray n1) :: (r2, listOf v2.toArray n2) :: (tl ++ (ts1 ++ own1) ++ (ts2 ++ own2) ++ (ts3 ++ own3)), p.1 ≠ ch := by
          intro p hp
          simp only [List.mem_cons, List.mem_append] at hp
          rcases hp with hp | hp | hp | hp | ((hp | hp | hp) | hp | hp) | hp | hp
          · exact hb0 p (hp ▸ by simp)
          · exact hb0 p (hp ▸ by simp)
          · exact hb0 p (hp ▸ by simp)
          · exact hb0 p (hp ▸ by simp)
          · exact hb0 p (by simp [hp])
          · exact ht1 p hp ch (List.mem_cons_self ..)
          · exact ho1 p hp ch (List.mem_cons_self ..)
          · exact ht2 p hp ch (List.mem_cons_self ..)
          · exact ho2 p hp ch (List.mem_cons_self ..)
          · exact ht3 p hp ch (List.mem_cons_self ..)
          · exact ho3 p hp ch (List.mem_cons_self ..)
        have hz3 : cs3.toArray.size ≤ sizeLine := by
          rw [List.size_toArray, hP3.1]
          exact Nat.le_trans (ch_len b0 b1 b2 i i' i'' x y) (by decide)
        simp only [List.cons_append] at N₃
        k_steps
        rename_i D' hA FA NA l1 hB FB NB
        have hl1 : ∀ p ∈ (ch, listOf cs3.toArray k3) :: (rw, listOf #[Value.ref r0, Value.ref r1, Value.ref r2] n) :: (r0, listOf v0.toArray n0) :: (r1, listOf v1.toArray n1) :: (r2, listOf v2.toArray n2) :: (tl ++ (ts1 ++ own1) ++ (ts2 ++ own2) ++ (ts3 ++ own3)), p.1 < D' := by
          obtain ⟨q0, q1, q2, q3, q4, q5⟩ := l1
          intro p hp
          rcases List.mem_cons.mp hp with rfl | hp
          · exact q0
          · rcases List.mem_cons.mp hp with rfl | hp
            · exact q1
            · rcases List.mem_cons.mp hp with rfl | hp
              · exact q2
              · rcases List.mem_cons.mp hp with rfl | hp
                · exact q3
                · rcases List.mem_cons.mp hp with rfl | hp
                  · exact q4
                  · exact allLt_mem q5 p hp
        refine ch_end1 (cs := cs3 ++ [.ref D']) (k := k3 + 1) (d := D') FB NB (List.mem_cons_self ..) (fun b hb => ?_) ho3 ht3 ?_ ?_ ?_ ?_
        · rcases List.mem_cons.mp hb with rfl | hb
          · exact hl1 _ (List.mem_cons_self ..)
          · obtain ⟨q, hq, rfl⟩ := List.mem_map.mp hb
            exact hl1 q (List.mem_cons_of_mem _ hq)
        · rw [← List.push_toArray]
          exact List.mem_cons_of_mem _ (List.mem_cons_self ..)
        · exact fun p hp => List.mem_cons_of_mem _ (List.mem_cons_of_mem _ hp)
        · exact List.forall_mem_cons.mpr ⟨rfl, List.forall_mem_cons.mpr ⟨rfl, List.forall_mem_cons.mpr ⟨rfl, List.forall_mem_cons.mpr ⟨rfl, List.forall_mem_nil _⟩⟩⟩⟩
        · rw [ch3_succ hz]
          refine PairsIn.snoc (hP3.mono fun p hp => ?_) ⟨D', [_, _], 0, rfl, List.mem_append_right _ (List.mem_append_right _ (List.mem_cons_self ..)), .cons _ _ (.cons _ _ .nil)⟩
          rw [← List.append_assoc]
          exact List.mem_append_left _ (by simpa using hp)
end
end Mine

-- part MgRows
namespace Mine
theorem startMgRows : True := by
  w_top off
  exact True.intro
local macro_rules | `(tactic| walk_at "pyIter ref") => `(tactic| (k_here; (with_reducible show wpAny _ _ (pyIter (Value.ref _)) (fun it s₂ => LoopAtV _ _ _ _ _ _ _ _ _ it s₂) _ _); refine Halt.of ?_))
local macro_rules | `(tactic| walk_at "exec For Name Call cons nil") => `(tactic| (k_here; (rename Fr _ _ _ _ => lF'); (with_unfolding_all refine' For_invVF lF' ?k1 ?k2 ?_; (case k1 => exact rfl); (case k2 => exact rfl); k_whole)))

local macro_rules | `(tactic| k_all) => `(tactic| assumption)

theorem news4 {h₀ h : Heap} {L : Addr} {news : List (Addr × Obj)} {x1 x2 x3 x4 : Addr × Obj} (N : News h₀ L h news) (h1 : x1 ∈ news) (h2 : x2 ∈ news) (h3 : x3 ∈ news) (h4 : x4 ∈ news) : News h₀ L h [x1, x2, x3, x4] := by
  intro p hp
  simp only [List.mem_cons, List.not_mem_nil, or_false] at hp
  rcases hp with rfl | rfl | rfl | rfl
  · exact N _ h1
  · exact N _ h2
  · exact N _ h3
  · exact N _ h4
local macro_rules | `(tactic| walk_at "call builtin:list.append") => `(tactic| (k_here; (with_reducible show wpAny _ _ (call (Value.builtin _) [Value.ref _, _]) _ _ _); k_dflt (refine' append_K ?k1 ?k2 ?k3 ?_ ?z; (case k1 => k_asm); (case k2 => k_asm); (case k3 => k_upd); (case z => assumption); k_whole); intro h' F' N'))
def RowsJ (sc rw a0 a1 a2 : Addr) (i : Nat) (m : Str → Option Value) (nx : List (Addr × Obj)) : Prop :=
  (∀ p ∈ [(Str.ofString "script", Value.ref sc), (Str.ofString "rows", Value.ref rw)], m p.1 = some p.2) ∧ ∃ x0 x1 x2 k0 k1 k2 y0 y1 y2,
    nx = [(a0, listOf (List.toArray x0) k0), (a1, listOf (List.toArray x1) k1), (a2, listOf (List.toArray x2) k2), (rw, listOf #[Value.ref a0, Value.ref a1, Value.ref a2] 0)] ∧ IntsAre x0 y0 ∧ IntsAre x1 y1 ∧ IntsAre x2 y2 ∧
    0 < y0.length ∧ 0 < y1.length ∧ 0 < y2.length ∧ y0.length + y1.length + y2.length ≤ 4 + i

theorem rows_end {h₀ h' : Heap} {L : Addr} {sc rw a0 a1 a2 : Addr} {i : Nat} {m' : Str → Option Value} {own : List (Addr × Obj)} {s₁ : Shared} {tk : Nat} {x0 x1 x2 : List Value} {k0 k1 k2 : Nat} {y0 y1 y2 : List Int}
    (F : Fr h₀ L h' m') (N : News h₀ L h' ((a0, listOf (List.toArray x0) k0) :: (a1, listOf (List.toArray x1) k1) :: (a2, listOf (List.toArray x2) k2) :: (rw, listOf #[Value.ref a0, Value.ref a1, Value.ref a2] 0) :: own))
    (hm : ∀ p ∈ [(Str.ofString "script", Value.ref sc), (Str.ofString "rows", Value.ref rw)], m' p.1 = some p.2) (ho : ∀ p ∈ own, ∀ b ∈ [a0, a1, a2, rw], p.1 ≠ b)
    (q0 : IntsAre x0 y0) (q1 : IntsAre x1 y1) (q2 : IntsAre x2 y2) (l0 : 0 < y0.length) (l1 : 0 < y1.length) (l2 : 0 < y2.length) (lz : y0.length + y1.length + y2.length ≤ 4 + i) :
    InvEndG h₀ L (RowsJ sc rw a0 a1 a2 i) own s₁ { s₁ with heap := h', toks := tk } := by
  refine InvEndG.intro F N ⟨hm, x0, x1, x2, k0, k1, k2, y0, y1, y2, rfl, q0, q1, q2, l0, l1, l2, lz⟩ ho (fun p hp => ?_) fun p hp => ?_
  · simp only [List.mem_cons, List.not_mem_nil, or_false] at hp ⊢
    rcases hp with hp | hp | hp | hp
    · exact .inl hp
    · exact .inr (.inl hp)
    · exact .inr (.inr (.inl hp))
    · exact .inr (.inr (.inr (.inl hp)))
  · simp only [List.mem_cons]
    exact .inr (.inr (.inr (.inr hp)))

section
variable {w : World} {mean : ExcName → Option Value} {mg mb : Str → Option Value} {dp un : Nat} {gd : Option (List Code)} {cn : Str} {cs : Scope} {a : Addr} {ccd : Value} {cl : List (Str × Addr)} {outer : List Env} {A₀ : Around} {base h₀ : Heap} {L : Addr} {m : Str → Option Value} {s : Shared} {Q E : Value → Shared → Prop}
    {sc : Addr} {vs : List Value} {ns : List Int}

set_option maxRecDepth 100000 in
set_option maxHeartbeats 8000000 in
theorem rows_c
    (B : Below A₀ base outer h₀) (F : Fr h₀ L s.heap m) (X : (hd.heap_39 w.params).In h₀) (N : News h₀ L s.heap []) (T : Top hd.view_39 (looseW hd.view_39 []) mean mg mb h₀) (hk : cs.kind = .function)
    (hl : h₀.IsList sc vs.toArray) (hi : IntsAre vs ns) (hlen : ns.length ≤ 63)
    (hdp : dp + 3 < recursionLimit) (hun : un + 120 < cLine)
    (hret : ∀ h' tk' rw r0 r1 r2 n v0 v1 v2 n0 n1 n2 i0 i1 i2, Fr h₀ L h' m → News h₀ L h' [(rw, listOf #[.ref r0, .ref r1, .ref r2] n), (r0, listOf (List.toArray v0) n0), (r1, listOf (List.toArray v1) n1), (r2, listOf (List.toArray v2) n2)] →
      IntsAre v0 i0 → IntsAre v1 i1 → IntsAre v2 i2 → i0.Pairwise (· ≤ ·) → i1.Pairwise (· ≤ ·) → i2.Pairwise (· ≤ ·) → 0 < i0.length → 0 < i1.length → 0 < i2.length → i0.length + i1.length + i2.length ≤ 13 → Q (.ref rw) { s with heap := h', toks := tk' }) :
    wpAny (model Challenge.rw_mg0009_01.row.prog w) (ktrTop dp un gd cn cs L a ccd cl outer) (call (.ref 47) [.ref sc]) Q E s := by
  (revert X; k_fill; intro X)
  refine wpAny_call ?_
  k_dflt cell_enter
  (rename Fr h₀ L _ m => FG)
  have hl2 := hl.at fun o e => FG.keep _ o e
  k_steps
  rename_i a0 hA lA a1 hB lB a2 hC lC rw hD lD hE D' ws' hF FZ NZ hI hC9 hL9 lE hG tk9 t1 u1 v1 hR FY NY hK
  show wpAny _ _ _ _ _ _
  have hn9 : (List.take 9 ns).length ≤ 9 := by rw [List.length_take]; omega
  k_dflt refine' range_loop (List.take 9 ns).length (RowsJ sc rw a0 a1 a2) ?hh hR ?hb ?hn FY (news := [(a0, _), (a1, _), (a2, _), (rw, listOf #[Value.ref a0, Value.ref a1, Value.ref a2] 0)]) ?N ?hj ?turn ?done
  case hh => rfl
  case hb => rfl
  case hn => exact Nat.lt_of_le_of_lt hn9 (by decide)
  case N => exact news4 NY (by k_mem) (by k_mem) (by k_mem) (by k_mem)
  case hj => exact ⟨List.forall_mem_cons.mpr ⟨rfl, List.forall_mem_cons.mpr ⟨rfl, List.forall_mem_nil _⟩⟩, [_], [_, _], [_], 0, 0, 0, [4], [1, 9], [8], rfl, .cons _ _ .nil, .cons _ _ (.cons _ _ .nil), .cons _ _ .nil, by decide, by decide, by decide, by decide⟩
  case turn =>
    rintro i t m₁ nx h tk own hi9 ho ⟨hm, x0, x1, x2, k0, k1, k2, y0, y1, y2, rfl, q0, q1, q2, l0, l1, l2, lz⟩ F₁ N₁
    have F₂ := fr_psx hm F₁
    clear F₁ FY FZ NY NZ
    simp only [List.cons_append, List.nil_append] at N₁
    have o0 : ∀ p ∈ own, p.1 ≠ a0 := fun p hp => ho p hp _ (by simp)
    have o1 : ∀ p ∈ own, p.1 ≠ a1 := fun p hp => ho p hp _ (by simp)
    have o2 : ∀ p ∈ own, p.1 ≠ a2 := fun p hp => ho p hp _ (by simp)
    have o3 : ∀ p ∈ own, p.1 ≠ rw := fun p hp => ho p hp _ (by simp)
    have hb1 : (i : Int) < (ns.length : Int) := by omega
    have hb0 : (0 : Int) ≤ (i : Int) := by omega
    have hf : (i : Int).fmod 3 = 0 ∨ (i : Int).fmod 3 = 1 ∨ (i : Int).fmod 3 = 2 := by
      rw [Int.fmod_eq_emod_of_nonneg _ (by decide)]
      omega
    have z0 : x0.toArray.size ≤ sizeLine := by rw [List.size_toArray, q0.length, sizeLine_eq]; omega
    have z1 : x1.toArray.size ≤ sizeLine := by rw [List.size_toArray, q1.length, sizeLine_eq]; omega
    have z2 : x2.toArray.size ≤ sizeLine := by rw [List.size_toArray, q2.length, sizeLine_eq]; omega
    k_steps
    dsimp only
    rcases hf with e | e | e
    all_goals rw [e]
    all_goals k_steps
    all_goals (rename Fr _ _ _ _ => FE)
    all_goals (rename News _ _ _ _ => NE)
    all_goals simp only [List.push_toArray] at NE
    · exact rows_end FE NE (List.forall_mem_cons.mpr ⟨rfl, List.forall_mem_cons.mpr ⟨rfl, List.forall_mem_nil _⟩⟩) ho (ksk_snoc q0) q1 q2 (by simp) l1 l2 (by simp; omega)
    · exact rows_end FE NE (List.forall_mem_cons.mpr ⟨rfl, List.forall_mem_cons.mpr ⟨rfl, List.forall_mem_nil _⟩⟩) ho q0 (ksk_snoc q1) q2 l0 (by simp) l2 (by simp; omega)
    · exact rows_end FE NE (List.forall_mem_cons.mpr ⟨rfl, List.forall_mem_cons.mpr ⟨rfl, List.forall_mem_nil _⟩⟩) ho q0 q1 (ksk_snoc q2) l0 l1 (by simp) (by simp; omega)
  case done =>
    rintro m₁ nx h tk ⟨hm, x0, x1, x2, k0, k1, k2, y0, y1, y2, rfl, q0, q1, q2, l0, l1, l2, lz⟩ F₁ N₁
    have F₂ := fr_ps hm F₁
    clear F₁ FY FZ NY NZ
    k_steps
    (rename News h₀ L _ _ => NQ)
    exact hret _ _ _ _ _ _ _ _ _ _ _ _ _ _ _ _ (by k_asm) (news4 NQ (List.Mem.head _) (by k_mem) (by k_mem) (by k_mem)) (by assumption) (by assumption) (by assumption) (by assumption) (by assumption) (by assumption) (by omega) (by omega) (by omega) (by omega)
end
end Mine

-- part MgPlain
namespace Mine
theorem startMgPlain : True := by
  w_top off
  exact True.intro

def pairLe (b q : Int × Int) : Prop := b.1 < q.1 ∨ (b.1 = q.1 ∧ b.2 ≤ q.2)
def upd (best : Option (Int × Int)) (c : Int × Int) : Int × Int :=
  match best with
  | none => c
  | some b => if lexLt [c.1, c.2] [b.1, b.2] then c else b
def at3 (i0 i1 i2 : List Int) (j0 j1 j2 : Nat) : Int × Int := cand (i0.getD j0 0) (i1.getD j1 0) (i2.getD j2 0)
def BestOk (i0 i1 i2 : List Int) (p0 p1 p2 : Nat) (best : Option (Int × Int)) : Prop :=
  (∀ b, best = some b → ∃ j0 j1 j2, j0 < i0.length ∧ j1 < i1.length ∧ j2 < i2.length ∧ b = at3 i0 i1 i2 j0 j1 j2) ∧
  ∀ j0 j1 j2, j0 < i0.length → j1 < i1.length → j2 < i2.length → (j0 < p0 ∨ j1 < p1 ∨ j2 < p2) → ∃ b, best = some b ∧ pairLe b (at3 i0 i1 i2 j0 j1 j2)

theorem getD_mono {i : List Int} (hs : i.Pairwise (· ≤ ·)) {a b : Nat} (hab : a ≤ b) (hb : b < i.length) : i.getD a 0 ≤ i.getD b 0 := by
  have ha : a < i.length := Nat.lt_of_le_of_lt hab hb
  have e1 : i.getD a 0 = i[a] := by simp [ha]
  have e2 : i.getD b 0 = i[b] := by simp [hb]
  rw [e1, e2]
  rcases Nat.lt_or_eq_of_le hab with h | h
  · exact List.pairwise_iff_getElem.mp hs a b ha hb h
  · subst h; exact Int.le_refl _

theorem upd_choice {best : Option (Int × Int)} {c : Int × Int} {P : Int × Int → Prop} (hb : ∀ b, best = some b → P b) (hc : P c) : P (upd best c) := by
  cases best with
  | none => exact hc
  | some b =>
    show P (if lexLt [c.1, c.2] [b.1, b.2] then c else b)
    split
    · exact hc
    · exact hb b rfl
theorem upd_le_c {best : Option (Int × Int)} {c q : Int × Int} (h : pairLe c q) : pairLe (upd best c) q := by
  cases best with
  | none => exact h
  | some b =>
    show pairLe (if lexLt [c.1, c.2] [b.1, b.2] then c else b) q
    rw [lex2]
    simp only [decide_eq_true_eq]
    unfold pairLe at *
    split <;> omega
theorem upd_le_b {b c q : Int × Int} (h : pairLe b q) : pairLe (upd (some b) c) q := by
  show pairLe (if lexLt [c.1, c.2] [b.1, b.2] then c else b) q
  rw [lex2]
  simp only [decide_eq_true_eq]
  unfold pairLe at *
  split <;> omega

section
variable {i0 i1 i2 : List Int} {p0 p1 p2 : Nat} {best : Option (Int × Int)} {v G : Int}
theorem cand_le {x0 x1 x2 : Int} (hv : v = min x0 (min x1 x2)) (hG : G ≤ max x0 (max x1 x2)) : pairLe (G - v, v) (cand x0 x1 x2) := by
  unfold pairLe cand
  subst hv
  dsimp only
  omega
theorem best_step (s0 : i0.Pairwise (· ≤ ·)) (s1 : i1.Pairwise (· ≤ ·)) (s2 : i2.Pairwise (· ≤ ·)) (l0 : p0 < i0.length) (l1 : p1 < i1.length) (l2 : p2 < i2.length) (h : BestOk i0 i1 i2 p0 p1 p2 best)
    (m0 : v ≤ i0.getD p0 0) (m1 : v ≤ i1.getD p1 0) (m2 : v ≤ i2.getD p2 0) (hG : G = max (i0.getD p0 0) (max (i1.getD p1 0) (i2.getD p2 0)))
    (q0 q1 q2 : Nat) (hq : (v = i0.getD p0 0 ∧ q0 = p0 + 1 ∧ q1 = p1 ∧ q2 = p2) ∨ (v = i1.getD p1 0 ∧ q0 = p0 ∧ q1 = p1 + 1 ∧ q2 = p2) ∨ (v = i2.getD p2 0 ∧ q0 = p0 ∧ q1 = p1 ∧ q2 = p2 + 1)) :
    BestOk i0 i1 i2 q0 q1 q2 (some (upd best (G - v, v))) := by
  refine ⟨fun b hb => ?_, fun j0 j1 j2 k0 k1 k2 hj => ⟨_, rfl, ?_⟩⟩
  · cases hb
    refine upd_choice h.1 ⟨p0, p1, p2, l0, l1, l2, ?_⟩
    have hv : v = min (i0.getD p0 0) (min (i1.getD p1 0) (i2.getD p2 0)) := by omega
    unfold at3 cand
    rw [← hv, ← hG]
  · by_cases hc : j0 < p0 ∨ j1 < p1 ∨ j2 < p2
    · obtain ⟨b, rfl, hle⟩ := h.2 j0 j1 j2 k0 k1 k2 hc
      exact upd_le_b hle
    · have g0 := getD_mono s0 (a := p0) (b := j0) (by omega) k0
      have g1 := getD_mono s1 (a := p1) (b := j1) (by omega) k1
      have g2 := getD_mono s2 (a := p2) (b := j2) (by omega) k2
      refine upd_le_c (cand_le ?_ ?_)
      · rcases hq with ⟨e, a, b, c⟩ | ⟨e, a, b, c⟩ | ⟨e, a, b, c⟩
        · have : j0 = p0 := by omega
          subst this
          omega
        · have : j1 = p1 := by omega
          subst this
          omega
        · have : j2 = p2 := by omega
          subst this
          omega
      · omega
theorem best_end {b : Int × Int} {q0 q1 q2 : Nat} (h : BestOk i0 i1 i2 q0 q1 q2 (some b)) (hq : q0 = i0.length ∨ q1 = i1.length ∨ q2 = i2.length) :
    (∃ j0 j1 j2, j0 < i0.length ∧ j1 < i1.length ∧ j2 < i2.length ∧ b = at3 i0 i1 i2 j0 j1 j2) ∧ ∀ j0 j1 j2, j0 < i0.length → j1 < i1.length → j2 < i2.length → pairLe b (at3 i0 i1 i2 j0 j1 j2) := by
  refine ⟨h.1 b rfl, fun j0 j1 j2 k0 k1 k2 => ?_⟩
  obtain ⟨b', e, hle⟩ := h.2 j0 j1 j2 k0 k1 k2 (by omega)
  cases e
  exact hle
end

/-- the choices, listed -/
theorem mem_ch1 {i0 i1 i2 : List Int} {q : Int × Int} : q ∈ ch1 i0 i1 i2 i0.length ↔ ∃ j0 j1 j2, j0 < i0.length ∧ j1 < i1.length ∧ j2 < i2.length ∧ q = at3 i0 i1 i2 j0 j1 j2 := by
  unfold ch1
  rw [List.take_length]
  simp only [List.mem_flatMap, List.mem_map]
  constructor
  · rintro ⟨a, ha, b, hb, c, hc, rfl⟩
    obtain ⟨j0, k0, rfl⟩ := List.mem_iff_getElem.mp ha
    obtain ⟨j1, k1, rfl⟩ := List.mem_iff_getElem.mp hb
    obtain ⟨j2, k2, rfl⟩ := List.mem_iff_getElem.mp hc
    exact ⟨j0, j1, j2, k0, k1, k2, by simp [at3, k0, k1, k2]⟩
  · rintro ⟨j0, j1, j2, k0, k1, k2, rfl⟩
    exact ⟨i0[j0], List.getElem_mem k0, i1[j1], List.getElem_mem k1, i2[j2], List.getElem_mem k2, by simp [at3, k0, k1, k2]⟩
/-- two least choices are one -/
theorem least_one {i0 i1 i2 : List Int} {b p : Int × Int} (hb : ∃ j0 j1 j2, j0 < i0.length ∧ j1 < i1.length ∧ j2 < i2.length ∧ b = at3 i0 i1 i2 j0 j1 j2)
    (hl : ∀ j0 j1 j2, j0 < i0.length → j1 < i1.length → j2 < i2.length → pairLe b (at3 i0 i1 i2 j0 j1 j2)) (hp : p ∈ ch1 i0 i1 i2 i0.length)
    (hm : ∀ q ∈ ch1 i0 i1 i2 i0.length, lexLt [q.1, q.2] [p.1, p.2] = false) : b = p := by
  have h1 := hm b (mem_ch1.mpr hb)
  obtain ⟨j0, j1, j2, k0, k1, k2, rfl⟩ := mem_ch1.mp hp
  have h2 := hl j0 j1 j2 k0 k1 k2
  rw [lex2] at h1
  simp only [decide_eq_false_iff_not] at h1
  unfold pairLe at h2
  have e1 : b.1 = (at3 i0 i1 i2 j0 j1 j2).1 := by omega
  have e2 : b.2 = (at3 i0 i1 i2 j0 j1 j2).2 := by omega
  exact Prod.ext e1 e2

/-- what went off is the sorted whole's beginning -/
theorem take_gone : ∀ (gone R S : List Int), gone.Pairwise (· ≤ ·) → (∀ x ∈ gone, ∀ y ∈ R, x ≤ y) → S.Pairwise (· ≤ ·) → S.Perm (gone ++ R) → S.take gone.length = gone
  | [], _, S, _, _, _, _ => by simp
  | g :: gone, R, S, hg, hR, hS, hp => by
    cases S with
    | nil => exact absurd hp.length_eq (by simp)
    | cons x S =>
      have hx : x ∈ g :: gone ++ R := hp.mem_iff.mp (List.mem_cons_self ..)
      have hgm : g ∈ x :: S := hp.mem_iff.mpr (by simp)
      have h1 : g ≤ x := by
        rcases List.mem_append.mp hx with h | h
        · rcases List.mem_cons.mp h with h | h
          · exact Int.le_of_eq h.symm
          · exact (List.pairwise_cons.mp hg).1 x h
        · exact hR g (List.mem_cons_self ..) x h
      have h2 : x ≤ g := by
        rcases List.mem_cons.mp hgm with h | h
        · exact Int.le_of_eq h.symm
        · exact (List.pairwise_cons.mp hS).1 g h
      have e : x = g := Int.le_antisymm h2 h1
      subst e
      have hp' : S.Perm (gone ++ R) := List.Perm.cons_inv hp
      rw [List.length_cons, List.take_succ_cons, take_gone gone R S (List.pairwise_cons.mp hg).2 (fun a ha => hR a (List.mem_cons_of_mem _ ha)) (List.pairwise_cons.mp hS).2 hp']
end Mine

-- part MgPlain2
namespace Mine
theorem startMgPlain2 : True := by
  w_top off
  exact True.intro

def sel {α : Type} (k : Nat) (x y z : α) : α := match k with
  | 0 => x
  | 1 => y
  | _ => z
def ent (i : List Int) (k : Nat) (p : Nat) : List Int := [i.getD p 0, (k : Int), (p : Int)]
def Arr (x y z a b c : List Int) : Prop :=
  (x = a ∧ y = b ∧ z = c) ∨ (x = a ∧ y = c ∧ z = b) ∨ (x = b ∧ y = a ∧ z = c) ∨ (x = b ∧ y = c ∧ z = a) ∨ (x = c ∧ y = a ∧ z = b) ∨ (x = c ∧ y = b ∧ z = a)

theorem lex3 {a b c d e f : Int} : lexLt [a, b, c] [d, e, f] = decide (a < d ∨ (a = d ∧ (b < e ∨ (b = e ∧ c < f)))) := by
  simp only [lexLt, List.length_nil]
  by_cases h : a = d
  · subst h
    by_cases h2 : b = e
    · subst h2
      by_cases h3 : c = f
      · subst h3; simp
      · simp [h3]
    · simp [h2]
  · simp [h]

theorem sift_all {α : Type} {R : α → List Int → Prop} {va vb vc : α} {a1 a2 a3 b1 b2 b3 c1 c2 c3 : Int} (ha : R va [a1, a2, a3]) (hb : R vb [b1, b2, b3]) (hc : R vc [c1, c2, c3]) :
    ∃ xa xb xc ta tb tc, sift3 [a1, a2, a3] [b1, b2, b3] [c1, c2, c3] va vb vc = [xa, xb, xc] ∧ R xa ta ∧ R xb tb ∧ R xc tc ∧ Arr ta tb tc [a1, a2, a3] [b1, b2, b3] [c1, c2, c3] ∧ lexLt tb ta = false ∧ lexLt tc ta = false := by
  unfold sift3
  simp only [lex3, decide_eq_true_eq]
  split
  · split
    · refine ⟨va, vb, vc, _, _, _, rfl, ha, hb, hc, .inl ⟨rfl, rfl, rfl⟩, ?_, ?_⟩ <;> rw [lex3] <;> simp only [decide_eq_false_iff_not] <;> omega
    · refine ⟨vb, va, vc, _, _, _, rfl, hb, ha, hc, .inr (.inr (.inl ⟨rfl, rfl, rfl⟩)), ?_, ?_⟩ <;> rw [lex3] <;> simp only [decide_eq_false_iff_not] <;> omega
  · split
    · refine ⟨va, vb, vc, _, _, _, rfl, ha, hb, hc, .inl ⟨rfl, rfl, rfl⟩, ?_, ?_⟩ <;> rw [lex3] <;> simp only [decide_eq_false_iff_not] <;> omega
    · refine ⟨vc, vb, va, _, _, _, rfl, hc, hb, ha, .inr (.inr (.inr (.inr (.inr ⟨rfl, rfl, rfl⟩)))), ?_, ?_⟩ <;> rw [lex3] <;> simp only [decide_eq_false_iff_not] <;> omega

def drops (i0 i1 i2 : List Int) (p0 p1 p2 : Nat) : List Int := i0.drop p0 ++ (i1.drop p1 ++ i2.drop p2)
def GoneOk (i0 i1 i2 : List Int) (p0 p1 p2 : Nat) (gone : List Int) : Prop :=
  gone.Pairwise (· ≤ ·) ∧ (gone ++ drops i0 i1 i2 p0 p1 p2).Perm (i0 ++ (i1 ++ i2)) ∧ ∀ x ∈ gone, ∀ y ∈ drops i0 i1 i2 p0 p1 p2, x ≤ y

theorem drop_le {i : List Int} (hs : i.Pairwise (· ≤ ·)) {p : Nat} {v : Int} (hv : v ≤ i.getD p 0) : ∀ y ∈ i.drop p, v ≤ y := by
  intro y hy
  obtain ⟨j, hj, rfl⟩ := List.mem_iff_getElem.mp hy
  rw [List.length_drop] at hj
  have h1 : p + j < i.length := by omega
  have h2 := getD_mono hs (a := p) (b := p + j) (by omega) h1
  have e : i.getD (p + j) 0 = (i.drop p)[j]'(by rw [List.length_drop]; omega) := by simp [h1]
  rw [← e]
  omega
theorem drop_head {i : List Int} {p : Nat} (h : p < i.length) : i.drop p = i.getD p 0 :: i.drop (p + 1) := by
  rw [List.drop_eq_getElem_cons h]
  congr 1
  simp [h]
theorem gone_step {i0 i1 i2 : List Int} {p0 p1 p2 : Nat} {gone : List Int} {v : Int} (s0 : i0.Pairwise (· ≤ ·)) (s1 : i1.Pairwise (· ≤ ·)) (s2 : i2.Pairwise (· ≤ ·)) (l0 : p0 < i0.length) (l1 : p1 < i1.length) (l2 : p2 < i2.length)
    (h : GoneOk i0 i1 i2 p0 p1 p2 gone) (m0 : v ≤ i0.getD p0 0) (m1 : v ≤ i1.getD p1 0) (m2 : v ≤ i2.getD p2 0)
    (q0 q1 q2 : Nat) (hq : (v = i0.getD p0 0 ∧ q0 = p0 + 1 ∧ q1 = p1 ∧ q2 = p2) ∨ (v = i1.getD p1 0 ∧ q0 = p0 ∧ q1 = p1 + 1 ∧ q2 = p2) ∨ (v = i2.getD p2 0 ∧ q0 = p0 ∧ q1 = p1 ∧ q2 = p2 + 1)) :
    GoneOk i0 i1 i2 q0 q1 q2 (gone ++ [v]) := by
  have hall : ∀ y ∈ drops i0 i1 i2 p0 p1 p2, v ≤ y := by
    intro y hy
    unfold drops at hy
    rcases List.mem_append.mp hy with hy | hy
    · exact drop_le s0 m0 y hy
    · rcases List.mem_append.mp hy with hy | hy
      · exact drop_le s1 m1 y hy
      · exact drop_le s2 m2 y hy
  have hP : (drops i0 i1 i2 p0 p1 p2).Perm (v :: drops i0 i1 i2 q0 q1 q2) := by
    unfold drops
    rcases hq with ⟨rfl, rfl, rfl, rfl⟩ | ⟨rfl, rfl, rfl, rfl⟩ | ⟨rfl, rfl, rfl, rfl⟩
    · rw [drop_head l0]; exact List.Perm.refl _
    · rw [drop_head l1]; exact List.perm_middle
    · rw [drop_head l2, ← List.append_assoc]
      exact List.perm_middle.trans (by rw [List.append_assoc])
  refine ⟨?_, ?_, ?_⟩
  · rw [List.pairwise_append]
    refine ⟨h.1, List.pairwise_singleton _ _, fun a ha b hb => ?_⟩
    rw [List.mem_singleton.mp hb]
    exact h.2.2 a ha v (hP.mem_iff.mpr (List.mem_cons_self ..))
  · rw [List.append_assoc]
    exact (List.Perm.append_left gone hP.symm).trans h.2.1
  · intro x hx y hy
    have hy' : y ∈ drops i0 i1 i2 p0 p1 p2 := hP.mem_iff.mpr (List.mem_cons_of_mem _ hy)
    rcases List.mem_append.mp hx with hx | hx
    · exact h.2.2 x hx y hy'
    · rw [List.mem_singleton.mp hx]; exact hall y hy'

structure StOk (i0 i1 i2 : List Int) (p0 p1 p2 : Nat) (ta tb tc : List Int) (G : Int) (best : Option (Int × Int)) (gone : List Int) : Prop where
  l0 : p0 < i0.length
  l1 : p1 < i1.length
  l2 : p2 < i2.length
  arr : Arr ta tb tc (ent i0 0 p0) (ent i1 1 p1) (ent i2 2 p2)
  mb : lexLt tb ta = false
  mc : lexLt tc ta = false
  hG : G = max (i0.getD p0 0) (max (i1.getD p1 0) (i2.getD p2 0))
  hb : BestOk i0 i1 i2 p0 p1 p2 best
  hg : GoneOk i0 i1 i2 p0 p1 p2 gone
def DoneOk (i0 i1 i2 : List Int) (b : Int × Int) (gone : List Int) : Prop :=
  (∃ j0 j1 j2, j0 < i0.length ∧ j1 < i1.length ∧ j2 < i2.length ∧ b = at3 i0 i1 i2 j0 j1 j2) ∧ (∀ j0 j1 j2, j0 < i0.length → j1 < i1.length → j2 < i2.length → pairLe b (at3 i0 i1 i2 j0 j1 j2)) ∧
  ∃ R, gone.Pairwise (· ≤ ·) ∧ (gone ++ R).Perm (i0 ++ (i1 ++ i2)) ∧ ∀ x ∈ gone, ∀ y ∈ R, x ≤ y

theorem st_top {i0 i1 i2 : List Int} {p0 p1 p2 : Nat} {ta tb tc : List Int} {G : Int} {best : Option (Int × Int)} {gone : List Int} (s0 : i0.Pairwise (· ≤ ·)) (s1 : i1.Pairwise (· ≤ ·)) (s2 : i2.Pairwise (· ≤ ·))
    (h : StOk i0 i1 i2 p0 p1 p2 ta tb tc G best gone) : ∃ k, k < 3 ∧ ta = ent (sel k i0 i1 i2) k (sel k p0 p1 p2) ∧ sel k p0 p1 p2 < (sel k i0 i1 i2).length ∧
      (sel k p0 p1 p2 + 1 = (sel k i0 i1 i2).length → DoneOk i0 i1 i2 (upd best (G - (sel k i0 i1 i2).getD (sel k p0 p1 p2) 0, (sel k i0 i1 i2).getD (sel k p0 p1 p2) 0)) (gone ++ [(sel k i0 i1 i2).getD (sel k p0 p1 p2) 0])) ∧
      (sel k p0 p1 p2 + 1 < (sel k i0 i1 i2).length → ∀ xa xb xc, Arr xa xb xc (ent (sel k i0 i1 i2) k (sel k p0 p1 p2 + 1)) tb tc → lexLt xb xa = false → lexLt xc xa = false →
        ∃ q0 q1 q2, q0 + q1 + q2 = p0 + p1 + p2 + 1 ∧ StOk i0 i1 i2 q0 q1 q2 xa xb xc (max G ((sel k i0 i1 i2).getD (sel k p0 p1 p2 + 1) 0))
          (some (upd best (G - (sel k i0 i1 i2).getD (sel k p0 p1 p2) 0, (sel k i0 i1 i2).getD (sel k p0 p1 p2) 0))) (gone ++ [(sel k i0 i1 i2).getD (sel k p0 p1 p2) 0])) := by
  obtain ⟨l0, l1, l2, arr, mb, mc, hG, hb, hg⟩ := h
  -- the rest of the heap, by which row is on top
  have core : ∀ (v : Int) (q0 q1 q2 : Nat), v ≤ i0.getD p0 0 → v ≤ i1.getD p1 0 → v ≤ i2.getD p2 0 →
      ((v = i0.getD p0 0 ∧ q0 = p0 + 1 ∧ q1 = p1 ∧ q2 = p2) ∨ (v = i1.getD p1 0 ∧ q0 = p0 ∧ q1 = p1 + 1 ∧ q2 = p2) ∨ (v = i2.getD p2 0 ∧ q0 = p0 ∧ q1 = p1 ∧ q2 = p2 + 1)) →
      BestOk i0 i1 i2 q0 q1 q2 (some (upd best (G - v, v))) ∧ GoneOk i0 i1 i2 q0 q1 q2 (gone ++ [v]) := fun v q0 q1 q2 m0 m1 m2 hq =>
    ⟨best_step s0 s1 s2 l0 l1 l2 hb m0 m1 m2 hG q0 q1 q2 hq, gone_step s0 s1 s2 l0 l1 l2 hg m0 m1 m2 q0 q1 q2 hq⟩
  have fin : ∀ (v : Int) (q0 q1 q2 : Nat), BestOk i0 i1 i2 q0 q1 q2 (some (upd best (G - v, v))) ∧ GoneOk i0 i1 i2 q0 q1 q2 (gone ++ [v]) → (q0 = i0.length ∨ q1 = i1.length ∨ q2 = i2.length) → DoneOk i0 i1 i2 (upd best (G - v, v)) (gone ++ [v]) :=
    fun v q0 q1 q2 c hq => ⟨(best_end c.1 hq).1, (best_end c.1 hq).2, _, c.2⟩
  have order : ∀ {x : List Int} {a b c d e f : Int}, x = [a, b, c] → lexLt x [d, e, f] = false → d ≤ a := fun hx hl => by
    subst hx
    rw [lex3] at hl
    simp only [decide_eq_false_iff_not] at hl
    omega
  have mono0 : p0 + 1 < i0.length → i0.getD p0 0 ≤ i0.getD (p0 + 1) 0 := fun h => getD_mono s0 (Nat.le_succ _) h
  have mono1 : p1 + 1 < i1.length → i1.getD p1 0 ≤ i1.getD (p1 + 1) 0 := fun h => getD_mono s1 (Nat.le_succ _) h
  have mono2 : p2 + 1 < i2.length → i2.getD p2 0 ≤ i2.getD (p2 + 1) 0 := fun h => getD_mono s2 (Nat.le_succ _) h
  have top0 : (tb = ent i1 1 p1 ∧ tc = ent i2 2 p2 ∨ tb = ent i2 2 p2 ∧ tc = ent i1 1 p1) → ta = ent i0 0 p0 → i0.getD p0 0 ≤ i1.getD p1 0 ∧ i0.getD p0 0 ≤ i2.getD p2 0 := by
    rintro (⟨rfl, rfl⟩ | ⟨rfl, rfl⟩) rfl
    · exact ⟨order rfl mb, order rfl mc⟩
    · exact ⟨order rfl mc, order rfl mb⟩
  have top1 : (tb = ent i0 0 p0 ∧ tc = ent i2 2 p2 ∨ tb = ent i2 2 p2 ∧ tc = ent i0 0 p0) → ta = ent i1 1 p1 → i1.getD p1 0 ≤ i0.getD p0 0 ∧ i1.getD p1 0 ≤ i2.getD p2 0 := by
    rintro (⟨rfl, rfl⟩ | ⟨rfl, rfl⟩) rfl
    · exact ⟨order rfl mb, order rfl mc⟩
    · exact ⟨order rfl mc, order rfl mb⟩
  have top2 : (tb = ent i0 0 p0 ∧ tc = ent i1 1 p1 ∨ tb = ent i1 1 p1 ∧ tc = ent i0 0 p0) → ta = ent i2 2 p2 → i2.getD p2 0 ≤ i0.getD p0 0 ∧ i2.getD p2 0 ≤ i1.getD p1 0 := by
    rintro (⟨rfl, rfl⟩ | ⟨rfl, rfl⟩) rfl
    · exact ⟨order rfl mb, order rfl mc⟩
    · exact ⟨order rfl mc, order rfl mb⟩
  have key : ((tb = ent i1 1 p1 ∧ tc = ent i2 2 p2 ∨ tb = ent i2 2 p2 ∧ tc = ent i1 1 p1) ∧ ta = ent i0 0 p0) ∨ ((tb = ent i0 0 p0 ∧ tc = ent i2 2 p2 ∨ tb = ent i2 2 p2 ∧ tc = ent i0 0 p0) ∧ ta = ent i1 1 p1) ∨ ((tb = ent i0 0 p0 ∧ tc = ent i1 1 p1 ∨ tb = ent i1 1 p1 ∧ tc = ent i0 0 p0) ∧ ta = ent i2 2 p2) := by
    rcases arr with ⟨a, b, c⟩ | ⟨a, b, c⟩ | ⟨a, b, c⟩ | ⟨a, b, c⟩ | ⟨a, b, c⟩ | ⟨a, b, c⟩
    · exact .inl ⟨.inl ⟨b, c⟩, a⟩
    · exact .inl ⟨.inr ⟨b, c⟩, a⟩
    · exact .inr (.inl ⟨.inl ⟨b, c⟩, a⟩)
    · exact .inr (.inl ⟨.inr ⟨b, c⟩, a⟩)
    · exact .inr (.inr ⟨.inl ⟨b, c⟩, a⟩)
    · exact .inr (.inr ⟨.inr ⟨b, c⟩, a⟩)
  rcases key with ⟨hr, ht⟩ | ⟨hr, ht⟩ | ⟨hr, ht⟩
  · obtain ⟨m1, m2⟩ := top0 hr ht
    have c := core (i0.getD p0 0) (p0 + 1) p1 p2 (Int.le_refl _) m1 m2 (.inl ⟨rfl, rfl, rfl, rfl⟩)
    refine ⟨0, by decide, ht, l0, fun he => fin _ _ _ _ c (.inl he), fun hlt xa xb xc ha hb' hc' => ⟨p0 + 1, p1, p2, by omega, hlt, l1, l2, ?_, hb', hc', ?_, c.1, c.2⟩⟩
    · rcases hr with ⟨rfl, rfl⟩ | ⟨rfl, rfl⟩
      · exact ha
      · unfold Arr at *
        simp only [sel] at ha
        rcases ha with h | h | h | h | h | h
        · exact .inr (.inl h)
        · exact .inl h
        · exact .inr (.inr (.inr (.inr (.inl h))))
        · exact .inr (.inr (.inr (.inr (.inr h))))
        · exact .inr (.inr (.inl h))
        · exact .inr (.inr (.inr (.inl h)))
    · have := mono0 hlt
      show max G (i0.getD (p0 + 1) 0) = _
      omega
  · obtain ⟨m1, m2⟩ := top1 hr ht
    have c := core (i1.getD p1 0) p0 (p1 + 1) p2 m1 (Int.le_refl _) m2 (.inr (.inl ⟨rfl, rfl, rfl, rfl⟩))
    refine ⟨1, by decide, ht, l1, fun he => fin _ _ _ _ c (.inr (.inl he)), fun hlt xa xb xc ha hb' hc' => ⟨p0, p1 + 1, p2, by omega, l0, hlt, l2, ?_, hb', hc', ?_, c.1, c.2⟩⟩
    · simp only [sel] at ha
      unfold Arr at *
      rcases hr with ⟨rfl, rfl⟩ | ⟨rfl, rfl⟩
      · rcases ha with h | h | h | h | h | h
        · exact .inr (.inr (.inl h))
        · exact .inr (.inr (.inr (.inl h)))
        · exact .inl h
        · exact .inr (.inl h)
        · exact .inr (.inr (.inr (.inr (.inr h))))
        · exact .inr (.inr (.inr (.inr (.inl h))))
      · rcases ha with h | h | h | h | h | h
        · exact .inr (.inr (.inr (.inl h)))
        · exact .inr (.inr (.inl h))
        · exact .inr (.inr (.inr (.inr (.inr h))))
        · exact .inr (.inr (.inr (.inr (.inl h))))
        · exact .inl h
        · exact .inr (.inl h)
    · have := mono1 hlt
      show max G (i1.getD (p1 + 1) 0) = _
      omega
  · obtain ⟨m1, m2⟩ := top2 hr ht
    have c := core (i2.getD p2 0) p0 p1 (p2 + 1) m1 m2 (Int.le_refl _) (.inr (.inr ⟨rfl, rfl, rfl, rfl⟩))
    refine ⟨2, by decide, ht, l2, fun he => fin _ _ _ _ c (.inr (.inr he)), fun hlt xa xb xc ha hb' hc' => ⟨p0, p1, p2 + 1, by omega, l0, l1, hlt, ?_, hb', hc', ?_, c.1, c.2⟩⟩
    · simp only [sel] at ha
      unfold Arr at *
      rcases hr with ⟨rfl, rfl⟩ | ⟨rfl, rfl⟩
      · rcases ha with h | h | h | h | h | h
        · exact .inr (.inr (.inr (.inr (.inl h))))
        · exact .inr (.inr (.inr (.inr (.inr h))))
        · exact .inr (.inl h)
        · exact .inl h
        · exact .inr (.inr (.inr (.inl h)))
        · exact .inr (.inr (.inl h))
      · rcases ha with h | h | h | h | h | h
        · exact .inr (.inr (.inr (.inr (.inr h))))
        · exact .inr (.inr (.inr (.inr (.inl h))))
        · exact .inr (.inr (.inr (.inl h)))
        · exact .inr (.inr (.inl h))
        · exact .inr (.inl h)
        · exact .inl h
    · have := mono2 hlt
      show max G (i2.getD (p2 + 1) 0) = _
      omega

theorem st_start {i0 i1 i2 : List Int} {ta tb tc : List Int} {G : Int} (e0 : 0 < i0.length) (e1 : 0 < i1.length) (e2 : 0 < i2.length)
    (arr : Arr ta tb tc (ent i0 0 0) (ent i1 1 0) (ent i2 2 0)) (mb : lexLt tb ta = false) (mc : lexLt tc ta = false) (hG : G = max (i0.getD 0 0) (max (i1.getD 0 0) (i2.getD 0 0))) :
    StOk i0 i1 i2 0 0 0 ta tb tc G none [] :=
  ⟨e0, e1, e2, arr, mb, mc, hG, ⟨fun b hb => (nomatch hb), fun j0 j1 j2 _ _ _ h => by omega⟩, List.Pairwise.nil, by simp [drops], fun x hx => (nomatch hx)⟩
end Mine

-- part MgWh
namespace Mine
theorem startMgWh : True := by
  w_top off
  exact True.intro

def hdParts : Option (List Stmt × Scope) := match (PySem.Challenge.pw_mg0009_01.main.body : List PySem.Stmt).drop 7 with
  | PySem.Stmt.FunctionDef _ _ b _ _ _ s _ _ _ :: _ => some (b, s)
  | _ => none

theorem news_sw1 {h₀ h : Heap} {L : Addr} {a b : Addr × Obj} {l : List (Addr × Obj)} (N : News h₀ L h (a :: b :: l)) : News h₀ L h (b :: a :: l) := fun p hp => N p (by
  simp only [List.mem_cons] at hp ⊢
  rcases hp with h | h | h
  · exact .inr (.inl h)
  · exact .inl h
  · exact .inr (.inr h))
theorem news_sw2 {h₀ h : Heap} {L : Addr} {a b c : Addr × Obj} {l : List (Addr × Obj)} (N : News h₀ L h (a :: b :: c :: l)) : News h₀ L h (c :: a :: b :: l) := fun p hp => N p (by
  simp only [List.mem_cons] at hp ⊢
  rcases hp with h | h | h | h
  · exact .inr (.inr (.inl h))
  · exact .inl h
  · exact .inr (.inl h)
  · exact .inr (.inr (.inr h)))
theorem news_sw3 {h₀ h : Heap} {L : Addr} {a b c d : Addr × Obj} {l : List (Addr × Obj)} (N : News h₀ L h (a :: b :: c :: d :: l)) : News h₀ L h (d :: a :: b :: c :: l) := fun p hp => N p (by
  simp only [List.mem_cons] at hp ⊢
  rcases hp with h | h | h | h | h
  · exact .inr (.inr (.inr (.inl h)))
  · exact .inl h
  · exact .inr (.inl h)
  · exact .inr (.inr (.inl h))
  · exact .inr (.inr (.inr (.inr h))))

section
variable {prog : Program} {w : World} {A : Around} {E : Value → Shared → Prop} {s : Shared} {h₀ : Heap} {L : Addr} {news : List (Addr × Obj)}
theorem item_at {value slice : PySem.Expr} {l : Addr} {its : Array Value} {c : Nat} {k : Int} {u : Tok} {v : Value} {Q : Value → Shared → Prop} (N : News h₀ L s.heap news) (hm : (l, listOf its c) ∈ news) (h0 : 0 ≤ k) (hhi : k < 2 ^ 63) (hx : its[k.toNat]? = some v) (h : Q v s)
    (hs : subscripted slice false (.ref l) (.int k u) = operate [.ref l, .int k u] (getItem (.ref l) (.int k u)) := by with_unfolding_all rfl) :
    wpAny (model prog w) A (subscriptTail value slice (.ref l) (.int k u)) Q E s :=
  tail_any (N.isList hm).typeIs slot_list_getitem.lookup (wpAny_getItem_list (N.isList hm) h0 hhi hx h) hs
end

local macro_rules | `(tactic| walk_at "subscriptTail Name Name ref int") => `(tactic| (k_here; (with_reducible show wpAny _ _ (subscriptTail _ _ (Value.ref _) (Value.int _ _)) _ _ _); k_dflt (refine' item_at ?k1 ?k2 ?k3 ?k4 ?k5 ?_ ?k6; (case k1 => k_asm); (case k5 => assumption); (case k2 => k_mem); (case k3 => omega); (case k4 => omega); (case k6 => with_unfolding_all rfl); k_whole)))
local macro_rules | `(tactic| walk_at "compareOp Lt ref ref") => `(tactic| (k_here; (with_reducible show wpAny _ _ (compareOp CmpOp.Lt (Value.ref _) (Value.ref _)) _ _ _); (refine cmp_ofLt ?_); k_dflt (refine' lt_tup ?k1 ?k2 ?k3 ?k4 ?k5 ?_; (case k1 => exact News.isTup (by k_asm) (by k_mem)); (case k2 => exact News.isTup (by k_asm) (by k_mem)); (case k3 => exact .cons _ _ (.cons _ _ .nil)); (case k4 => exact .cons _ _ (.cons _ _ .nil)); (case k5 => ktr_units); k_whole)))
local macro_rules | `(tactic| k_upd) => `(tactic| first | exact Upd.head (by assumption) | (refine' Upd.tail ?a ?b; (case a => k_ne); (case b => k_upd)))
local macro_rules | `(tactic| k_all) => `(tactic| assumption)
local macro_rules | `(tactic| walk_at "call builtin:list.append") => `(tactic| (k_here; (with_reducible show wpAny _ _ (call (Value.builtin _) [Value.ref _, _]) _ _ _); k_dflt (refine' append_K ?k1 ?k2 ?k3 ?_ ?z; (case k1 => k_asm); (case k2 => k_asm); (case k3 => k_upd); (case z => assumption); k_whole); intro h' F' N'))
local macro_rules | `(tactic| walk_at "call ref") => `(tactic| (k_here; (with_reducible show wpAny _ _ (call (Value.ref 21) _) _ _ _); refine Halt.of ?_))

def BestV (tups : List (Addr × Obj)) (bv : Value) (best : Option (Int × Int)) : Prop := (best = none ∧ bv = .none) ∨ ∃ b, best = some b ∧ TupIn tups bv [b.1, b.2]

section
variable {w : World} {mean : ExcName → Option Value} {mg mb : Str → Option Value} {dp un : Nat} {gd : Option (List Code)} {cn : Str} {cs : Scope} {a : Addr} {ccd : Value} {cl : List (Str × Addr)} {outer : List Env} {base h₀ g h : Heap} {L L' : Addr} {m m₀ : Str → Option Value} {s : Shared} {Q : Flow → Shared → Prop} {E : Value → Shared → Prop}
    {rw r0 r1 r2 hp gl : Addr} {v0 v1 v2 : List Value} {i0 i1 i2 : List Int} {n n0 n1 n2 : Nat} {o1 : Obj} {s0 s1 s2 s3 s4 s5 : Stmt} {sc : Scope}

abbrev fixL (L' : Addr) (o1 : Obj) (rw r0 r1 r2 : Addr) (v0 v1 v2 : List Value) (n n0 n1 n2 : Nat) (tups : List (Addr × Obj)) : List (Addr × Obj) :=
  (L' + 1, o1) :: (rw, listOf #[.ref r0, .ref r1, .ref r2] n) :: (r0, listOf v0.toArray n0) :: (r1, listOf v1.toArray n1) :: (r2, listOf v2.toArray n2) :: tups
structure WJ (L' : Addr) (o1 : Obj) (rw r0 r1 r2 hp gl : Addr) (v0 v1 v2 : List Value) (i0 i1 i2 : List Int) (n n0 n1 n2 : Nat) (nn : Nat) (m : Str → Option Value) (nx : List (Addr × Obj)) : Prop where
  ex : ∃ p0 p1 p2 va vb vc ta tb tc kh gvs kg gone G tG bv best tups, nn = i0.length + i1.length + i2.length - (p0 + p1 + p2) ∧ StOk i0 i1 i2 p0 p1 p2 ta tb tc G best gone ∧
    (∀ p ∈ [(Str.ofString "heap", Value.ref hp), (Str.ofString "gone", Value.ref gl), (Str.ofString "greatest", Value.int G tG), (Str.ofString "best", bv)], m p.1 = some p.2) ∧
    nx = (hp, listOf #[va, vb, vc] kh) :: (gl, listOf (List.toArray gvs) kg) :: fixL L' o1 rw r0 r1 r2 v0 v1 v2 n n0 n1 n2 tups ∧ IntsAre gvs gone ∧ TupIn tups va ta ∧ TupIn tups vb tb ∧ TupIn tups vc tc ∧ BestV tups bv best ∧
    (∀ p ∈ fixL L' o1 rw r0 r1 r2 v0 v1 v2 n n0 n1 n2 tups, p.1 ≠ hp) ∧ (∀ p ∈ fixL L' o1 rw r0 r1 r2 v0 v1 v2 n n0 n1 n2 tups, p.1 ≠ gl) ∧ hp ≠ gl

theorem sel_mem {tups : List (Addr × Obj)} {k : Nat} (hk : k < 3) : (sel k r0 r1 r2, listOf (sel k v0 v1 v2).toArray (sel k n0 n1 n2)) ∈ fixL L' o1 rw r0 r1 r2 v0 v1 v2 n n0 n1 n2 tups := by
  obtain rfl | rfl | rfl : k = 0 ∨ k = 1 ∨ k = 2 := by omega
  all_goals simp [fixL, sel]
theorem sel_ints {k : Nat} (j0 : IntsAre v0 i0) (j1 : IntsAre v1 i1) (j2 : IntsAre v2 i2) (hk : k < 3) : IntsAre (sel k v0 v1 v2) (sel k i0 i1 i2) := by
  obtain rfl | rfl | rfl : k = 0 ∨ k = 1 ∨ k = 2 := by omega
  · exact j0
  · exact j1
  · exact j2
theorem sel_item {k : Nat} (hk : k < 3) : (#[Value.ref r0, Value.ref r1, Value.ref r2] : Array Value)[(k : Int).toNat]? = some (Value.ref (sel k r0 r1 r2)) := by
  obtain rfl | rfl | rfl : k = 0 ∨ k = 1 ∨ k = 2 := by omega
  all_goals rfl

theorem st_lit {p0 p1 p2 : Nat} {ta tb tc : List Int} {G : Int} {best : Option (Int × Int)} {gone : List Int} (h : StOk i0 i1 i2 p0 p1 p2 ta tb tc G best gone) : (∃ b1 b2 b3, tb = [b1, b2, b3]) ∧ ∃ c1 c2 c3, tc = [c1, c2, c3] := by
  have ha := h.arr
  unfold Arr ent at ha
  rcases ha with ⟨-, b, c⟩ | ⟨-, b, c⟩ | ⟨-, b, c⟩ | ⟨-, b, c⟩ | ⟨-, b, c⟩ | ⟨-, b, c⟩
  all_goals exact ⟨⟨_, _, _, b⟩, _, _, _, c⟩

theorem off_cons {x : Addr × Obj} {l : List (Addr × Obj)} {d : Addr} (h1 : x.1 ≠ d) (h2 : ∀ p ∈ l, p.1 ≠ d) : ∀ p ∈ x :: l, p.1 ≠ d := by
  intro p hp
  rcases List.mem_cons.mp hp with rfl | hp
  · exact h1
  · exact h2 p hp

theorem wh_end {s₀ : Shared} {h' : Heap} {tk' : Nat} {m' : Str → Option Value} {nx tups tups' : List (Addr × Obj)} {p0 p1 p2 : Nat} {ta tb tc : List Int} {G G' : Int} {tG : Tok} {best : Option (Int × Int)} {b' : Int × Int} {gone gone' : List Int}
    {vd vb vc bv : Value} {id1 id2 id3 : Int} {n9 kg : Nat} {gvs : List Value}
    (FE : Fr g L' h' m') (NE : News g L' h' nx)
    (hm : ∀ p ∈ [(Str.ofString "heap", Value.ref hp), (Str.ofString "gone", Value.ref gl), (Str.ofString "greatest", Value.int G' tG), (Str.ofString "best", bv)], m' p.1 = some p.2)
    (hst : StOk i0 i1 i2 p0 p1 p2 ta tb tc G best gone)
    (hgo : ∀ xa xb xc, Arr xa xb xc [id1, id2, id3] tb tc → lexLt xb xa = false → lexLt xc xa = false → ∃ q0 q1 q2, q0 + q1 + q2 = p0 + p1 + p2 + 1 ∧ StOk i0 i1 i2 q0 q1 q2 xa xb xc G' (some b') gone')
    (tvd : TupIn tups' vd [id1, id2, id3]) (tvb : TupIn tups vb tb) (tvc : TupIn tups vc tc) (hbv : TupIn tups' bv [b'.1, b'.2]) (hgi : IntsAre gvs gone') (hsub : ∀ p ∈ tups, p ∈ tups')
    (hn : ∀ p ∈ (hp, listOf (sift3 [id1, id2, id3] tb tc vd vb vc).toArray n9) :: (gl, listOf gvs.toArray kg) :: fixL L' o1 rw r0 r1 r2 v0 v1 v2 n n0 n1 n2 tups', p ∈ nx)
    (oh : ∀ p ∈ fixL L' o1 rw r0 r1 r2 v0 v1 v2 n n0 n1 n2 tups', p.1 ≠ hp) (og : ∀ p ∈ fixL L' o1 rw r0 r1 r2 v0 v1 v2 n n0 n1 n2 tups', p.1 ≠ gl) (hpgl : hp ≠ gl) :
    WhileStep2 g L' s₀ (WJ L' o1 rw r0 r1 r2 hp gl v0 v1 v2 i0 i1 i2 n n0 n1 n2) Q (i0.length + i1.length + i2.length - (p0 + p1 + p2)) .next { s₀ with heap := h', toks := tk' } := by
  obtain ⟨⟨b1, b2, b3, rfl⟩, c1, c2, c3, rfl⟩ := st_lit hst
  obtain ⟨xa, xb, xc, ta', tb', tc', e, ra, rb, rc, harr, hb1, hb2⟩ := sift_all (R := TupIn tups') tvd (tvb.mono hsub) (tvc.mono hsub)
  obtain ⟨q0, q1, q2, hq, hst'⟩ := hgo _ _ _ harr hb1 hb2
  rw [e] at hn
  have l0 := hst.l0
  have l1 := hst.l1
  have l2 := hst.l2
  exact ⟨h', tk', m', _, _, rfl, FE, fun p hp' => NE p (hn p hp'), by omega, ⟨q0, q1, q2, xa, xb, xc, ta', tb', tc', n9, gvs, kg, gone', G', tG, bv, some b', tups', rfl, hst', hm, rfl, hgi, ra, rb, rc, .inr ⟨b', rfl, hbv⟩, oh, og, hpgl⟩⟩

theorem ret_new {h' : Heap} {D D1 : Addr} {xb gvs : List Value} {nb kg : Nat} {x3 : Addr × Obj} {rest : List (Addr × Obj)} (NZ : News g L' h' ((D, tupOf [.ref D1, .ref gl] 0) :: (D1, tupOf xb nb) :: x3 :: (gl, listOf gvs.toArray kg) :: rest))
    (hs : ∀ p ∈ [(rw, listOf #[.ref r0, .ref r1, .ref r2] n), (r0, listOf v0.toArray n0), (r1, listOf v1.toArray n1), (r2, listOf v2.toArray n2)], p ∈ rest) :
    News g L' h' [(D, tupOf [.ref D1, .ref gl] 0), (D1, tupOf xb nb), (gl, listOf gvs.toArray kg), (rw, listOf #[.ref r0, .ref r1, .ref r2] n), (r0, listOf v0.toArray n0), (r1, listOf v1.toArray n1), (r2, listOf v2.toArray n2)] := by
  intro p hp
  refine NZ p ?_
  rcases List.mem_cons.mp hp with e | hp
  · simp [e]
  · rcases List.mem_cons.mp hp with e | hp
    · simp [e]
    · rcases List.mem_cons.mp hp with e | hp
      · simp [e]
      · exact List.mem_cons_of_mem _ (List.mem_cons_of_mem _ (List.mem_cons_of_mem _ (List.mem_cons_of_mem _ (hs p hp))))
theorem rest_sub {x5 x6 x7 : Addr × Obj} {tups : List (Addr × Obj)} : ∀ p ∈ [(rw, listOf #[.ref r0, .ref r1, .ref r2] n), (r0, listOf v0.toArray n0), (r1, listOf v1.toArray n1), (r2, listOf v2.toArray n2)],
    p ∈ x5 :: x6 :: x7 :: (rw, listOf #[.ref r0, .ref r1, .ref r2] n) :: (r0, listOf v0.toArray n0) :: (r1, listOf v1.toArray n1) :: (r2, listOf v2.toArray n2) :: tups := by
  intro p hp
  simp only [List.mem_cons, List.not_mem_nil, or_false] at hp ⊢
  rcases hp with e | e | e | e
  · exact .inr (.inr (.inr (.inl e)))
  · exact .inr (.inr (.inr (.inr (.inl e))))
  · exact .inr (.inr (.inr (.inr (.inr (.inl e)))))
  · exact .inr (.inr (.inr (.inr (.inr (.inr (.inl e))))))

theorem ints3 {iK : List Int} {t1 t2 t3 : Tok} {k pk : Nat} : IntsAre [.int (iK.getD ((pk : Int) + 1).toNat 0) t1, .int (k : Int) t2, .int ((pk : Int) + 1) t3] [iK.getD (pk + 1) 0, (k : Int), ((pk + 1 : Nat) : Int)] := by
  have e1 : ((pk : Int) + 1).toNat = pk + 1 := by omega
  have e2 : ((pk + 1 : Nat) : Int) = (pk : Int) + 1 := by omega
  rw [e1, e2]
  exact .cons _ _ (.cons _ _ (.cons _ _ .nil))
theorem max_g {iK : List Int} {pk : Nat} {G : Int} : (if iK.getD ((pk : Int) + 1).toNat 0 > G then iK.getD ((pk : Int) + 1).toNat 0 else G) = max G (iK.getD (pk + 1) 0) := by
  have e1 : ((pk : Int) + 1).toNat = pk + 1 := by omega
  rw [e1]
  split <;> omega
theorem off_fix {d : Addr} {tups new : List (Addr × Obj)} (oh : ∀ p ∈ fixL L' o1 rw r0 r1 r2 v0 v1 v2 n n0 n1 n2 tups, p.1 ≠ d) (h : ∀ p ∈ new, p.1 ≠ d) : ∀ p ∈ fixL L' o1 rw r0 r1 r2 v0 v1 v2 n n0 n1 n2 (new ++ tups), p.1 ≠ d := by
  intro p hp
  simp only [fixL, List.mem_cons, List.mem_append] at hp oh
  rcases hp with e | e | e | e | e | e | e
  · exact oh p (.inl e)
  · exact oh p (.inr (.inl e))
  · exact oh p (.inr (.inr (.inl e)))
  · exact oh p (.inr (.inr (.inr (.inl e))))
  · exact oh p (.inr (.inr (.inr (.inr (.inl e)))))
  · exact h p e
  · exact oh p (.inr (.inr (.inr (.inr (.inr e)))))
theorem sub_A {x0 xh xd xe xg x5 x6 y1 y2 y3 y4 y5 : Addr × Obj} {tups : List (Addr × Obj)} : ∀ p ∈ xh :: xg :: y1 :: y2 :: y3 :: y4 :: y5 :: ([xd, xe] ++ tups), p ∈ x0 :: xh :: xd :: xe :: xg :: x5 :: x6 :: y1 :: y2 :: y3 :: y4 :: y5 :: tups := by
  intro p hp
  simp only [List.cons_append, List.nil_append, List.mem_cons] at hp ⊢
  rcases hp with e | e | e | e | e | e | e | e | e | e
  all_goals simp only [e, true_or, or_true]
theorem sub_B {x0 xh xd xe xt xg x5 x6 x7 y1 y2 y3 y4 y5 : Addr × Obj} {tups : List (Addr × Obj)} : ∀ p ∈ xh :: xg :: y1 :: y2 :: y3 :: y4 :: y5 :: ([xd, xe] ++ tups), p ∈ x0 :: xh :: xd :: xe :: xt :: xg :: x5 :: x6 :: x7 :: y1 :: y2 :: y3 :: y4 :: y5 :: tups := by
  intro p hp
  simp only [List.cons_append, List.nil_append, List.mem_cons] at hp ⊢
  rcases hp with e | e | e | e | e | e | e | e | e | e
  all_goals simp only [e, true_or, or_true]
theorem sub_C {x0 xh xd xt xg x5 x6 x7 y1 y2 y3 y4 y5 : Addr × Obj} {tups : List (Addr × Obj)} : ∀ p ∈ xh :: xg :: y1 :: y2 :: y3 :: y4 :: y5 :: ([xd] ++ tups), p ∈ x0 :: xh :: xd :: xt :: xg :: x5 :: x6 :: x7 :: y1 :: y2 :: y3 :: y4 :: y5 :: tups := by
  intro p hp
  simp only [List.cons_append, List.nil_append, List.mem_cons] at hp ⊢
  rcases hp with e | e | e | e | e | e | e | e | e
  all_goals simp only [e, true_or, or_true]
theorem news_sub {h' : Heap} {l l' : List (Addr × Obj)} (N : News g L' h' l) (h : ∀ p ∈ l', p ∈ l) : News g L' h' l' := fun p hp => N p (h p hp)
theorem news_ins {h' : Heap} {x1 x2 x3 x4 y : Addr × Obj} {l : List (Addr × Obj)} (N : News g L' h' (x1 :: x2 :: x3 :: x4 :: l)) (hy : y ∈ l) : News g L' h' (x1 :: x2 :: x3 :: x4 :: y :: l) := news_sub N fun p hp => by
  simp only [List.mem_cons] at hp ⊢
  rcases hp with e | e | e | e | e | e
  · exact .inl e
  · exact .inr (.inl e)
  · exact .inr (.inr (.inl e))
  · exact .inr (.inr (.inr (.inl e)))
  · exact .inr (.inr (.inr (.inr (e ▸ hy))))
  · exact .inr (.inr (.inr (.inr e)))
theorem news_d3 {h' : Heap} {x1 x2 x3 : Addr × Obj} {l : List (Addr × Obj)} (N : News g L' h' (x1 :: x2 :: x3 :: l)) : News g L' h' (x1 :: x2 :: l) := news_sub N fun p hp => by
  simp only [List.mem_cons] at hp ⊢
  rcases hp with e | e | e
  · exact .inl e
  · exact .inr (.inl e)
  · exact .inr (.inr (.inr e))
theorem news_c {h' : Heap} {x1 x2 x3 x4 x5 x6 x7 : Addr × Obj} {l : List (Addr × Obj)} (N : News g L' h' (x1 :: x2 :: x3 :: x4 :: x5 :: x6 :: x7 :: l)) : News g L' h' (x1 :: x7 :: x3 :: x4 :: x5 :: x6 :: l) := news_sub N fun p hp => by
  simp only [List.mem_cons] at hp ⊢
  rcases hp with e | e | e | e | e | e | e
  all_goals simp only [e, true_or, or_true]
theorem news_b {h' : Heap} {x1 x2 x3 x4 x5 x6 x7 x8 : Addr × Obj} {l : List (Addr × Obj)} (N : News g L' h' (x1 :: x2 :: x3 :: x4 :: x5 :: x6 :: x7 :: x8 :: l)) : News g L' h' (x1 :: x2 :: x4 :: x5 :: x6 :: x7 :: l) := news_sub N fun p hp => by
  simp only [List.mem_cons] at hp ⊢
  rcases hp with e | e | e | e | e | e | e
  all_goals simp only [e, true_or, or_true]
theorem upd_t {b c : Int × Int} (h : lexLt [c.1, c.2] [b.1, b.2] = true) : upd (some b) c = c := by
  show (if lexLt [c.1, c.2] [b.1, b.2] then c else b) = c
  rw [h]; rfl
theorem upd_f {b c : Int × Int} (h : lexLt [c.1, c.2] [b.1, b.2] = false) : upd (some b) c = b := by
  show (if lexLt [c.1, c.2] [b.1, b.2] then c else b) = b
  rw [h]; rfl

set_option maxRecDepth 100000 in
set_option maxHeartbeats 8000000 in
theorem while_c (hparts : hdParts = some ([s0, s1, s2, s3, s4, s5], sc))
    (FG : Fr h₀ L g m) (B : Below (ktrTop dp un gd cn cs L a ccd cl outer) base (envX cn cs L a ccd cl :: outer) g) (X : (hd.heap_39 w.params).In g) (T : Top hd.view_39 (looseW hd.view_39 []) mean mg mb g) (hk : cs.kind = .function)
    (dd : o1.data = .cell (some (.ref rw))) (F : Fr g L' s.heap m₀) {news : List (Addr × Obj)} (N : News g L' s.heap news) {nn : Nat} (hJ : WJ L' o1 rw r0 r1 r2 hp gl v0 v1 v2 i0 i1 i2 n n0 n1 n2 nn m₀ news)
    (j0 : IntsAre v0 i0) (j1 : IntsAre v1 i1) (j2 : IntsAre v2 i2) (b0 : i0.length + i1.length + i2.length ≤ 13) (so0 : i0.Pairwise (· ≤ ·)) (so1 : i1.Pairwise (· ≤ ·)) (so2 : i2.Pairwise (· ≤ ·))
    (hdp : dp + 5 < recursionLimit) (hun : un + 200 < cLine)
    (hret : ∀ h' tk' m' D bv b xb nb gvs kg gone, Fr g L' h' m' → News g L' h' [(D, tupOf [.ref bv, .ref gl] 0), (bv, tupOf xb nb), (gl, listOf (List.toArray gvs) kg), (rw, listOf #[.ref r0, .ref r1, .ref r2] n), (r0, listOf v0.toArray n0), (r1, listOf v1.toArray n1), (r2, listOf v2.toArray n2)] →
      IntsAre xb [b.1, b.2] → IntsAre gvs gone → DoneOk i0 i1 i2 b gone → Q (.ret (.ref D)) { s with heap := h', toks := tk' })
    (hE : PassesOwn (model Challenge.rw_mg0009_01.row.prog w) ((ktrTop dp un gd cn cs L a ccd cl outer).deeper (envOfC (Str.ofString "_law_heads") sc L' 52 (.ref 51))) (envOfC (Str.ofString "_law_heads") sc L' 52 (.ref 51)) E) :
    wpAny (model Challenge.rw_mg0009_01.row.prog w) ((ktrTop dp un gd cn cs L a ccd cl outer).deeper (envOfC (Str.ofString "_law_heads") sc L' 52 (.ref 51)))
      (exec s5 (envOfC (Str.ofString "_law_heads") sc L' 52 (.ref 51))) Q E s := by
  cases hparts
  (revert X; k_fill; intro X)
  refine While_inv2 (WJ L' o1 rw r0 r1 r2 hp gl v0 v1 v2 i0 i1 i2 n n0 n1 n2) F N hJ ?_ hE
  rintro nn m₁ nx h₁ tk₁ F₁ N₁ ⟨p0, p1, p2, va, vb, vc, ta, tb, tc, kh, gvs, kg, gone, G, tG, bv, best, tups, rfl, hst, hm, rfl, hgi, tva, tvb, tvc, hbv, oh, og, hpgl⟩
  have F₂ := fr_ps hm F₁
  clear F₁
  obtain ⟨k, hk3, hta, hlt, hend, hgo⟩ := st_top so0 so1 so2 hst
  obtain ⟨aa, xs, na, rfl, ma, ia⟩ := tva
  have mK := sel_mem (L' := L') (o1 := o1) (rw := rw) (r0 := r0) (r1 := r1) (r2 := r2) (v0 := v0) (v1 := v1) (v2 := v2) (n := n) (n0 := n0) (n1 := n1) (n2 := n2) (tups := tups) hk3
  have jK := sel_ints j0 j1 j2 hk3
  have xK := sel_item (r0 := r0) (r1 := r1) (r2 := r2) hk3
  have lK : (sel k i0 i1 i2).length ≤ 13 := by
    obtain rfl | rfl | rfl : k = 0 ∨ k = 1 ∨ k = 2 := by omega
    all_goals (simp only [sel]; omega)
  rw [hta] at ia
  unfold ent at ia hgo hta
  generalize sel k p0 p1 p2 = pk at *
  generalize sel k i0 i1 i2 = iK at *
  generalize sel k v0 v1 v2 = vK at *
  generalize sel k r0 r1 r2 = rK at *
  generalize sel k n0 n1 n2 = nK at *
  generalize hvv : iK.getD pk 0 = lst at *
  obtain ⟨t1, t2, t3, rfl⟩ : ∃ t1 t2 t3, xs = [.int lst t1, .int (k : Int) t2, .int (pk : Int) t3] := by
    cases ia with | cons _ t1 h1 => cases h1 with | cons _ t2 h2 => cases h2 with | cons _ t3 h3 => cases h3 with | nil => exact ⟨t1, t2, t3, rfl⟩
  have k0 : (0 : Int) ≤ (k : Int) := by omega
  have k63 : (k : Int) < 2 ^ 63 := by omega
  have gsz : gvs.toArray.size ≤ sizeLine := by
    have h1 := hst.hg.2.1.length_eq
    simp only [List.length_append] at h1
    rw [List.size_toArray, hgi.length, sizeLine_eq]; omega
  have N₃ : News g L' h₁ ((hp, listOf #[Value.ref aa, vb, vc] kh) :: (gl, listOf (List.toArray gvs) kg) :: (aa, tupOf [.int lst t1, .int (k : Int) t2, .int (pk : Int) t3] na) :: (rK, listOf vK.toArray nK) :: (L' + 1, o1) :: (rw, listOf #[.ref r0, .ref r1, .ref r2] n) :: (r0, listOf v0.toArray n0) :: (r1, listOf v1.toArray n1) :: (r2, listOf v2.toArray n2) :: tups) := by
    intro p hp'
    rcases List.mem_cons.mp hp' with e | hp'
    · exact N₁ p (e ▸ List.mem_cons_self ..)
    · rcases List.mem_cons.mp hp' with e | hp'
      · exact N₁ p (e ▸ List.mem_cons_of_mem _ (List.mem_cons_self ..))
      · rcases List.mem_cons.mp hp' with e | hp'
        · exact N₁ p (e ▸ by simp [ma])
        · rcases List.mem_cons.mp hp' with e | hp'
          · exact N₁ p (e ▸ List.mem_cons_of_mem _ (List.mem_cons_of_mem _ mK))
          · exact N₁ p (List.mem_cons_of_mem _ (List.mem_cons_of_mem _ hp'))
  have og2 : ∀ p ∈ (aa, tupOf [.int lst t1, .int (k : Int) t2, .int (pk : Int) t3] na) :: (rK, listOf vK.toArray nK) :: (L' + 1, o1) :: (rw, listOf #[.ref r0, .ref r1, .ref r2] n) :: (r0, listOf v0.toArray n0) :: (r1, listOf v1.toArray n1) :: (r2, listOf v2.toArray n2) :: tups, p.1 ≠ gl := by
    intro p hp'
    rcases List.mem_cons.mp hp' with e | hp'
    · exact og p (e ▸ by simp [ma])
    · rcases List.mem_cons.mp hp' with e | hp'
      · exact og p (e ▸ mK)
      · exact og p hp'
  have oh2 : ∀ p ∈ (aa, tupOf [.int lst t1, .int (k : Int) t2, .int (pk : Int) t3] na) :: (rK, listOf vK.toArray nK) :: (L' + 1, o1) :: (rw, listOf #[.ref r0, .ref r1, .ref r2] n) :: (r0, listOf v0.toArray n0) :: (r1, listOf v1.toArray n1) :: (r2, listOf v2.toArray n2) :: tups, p.1 ≠ hp := by
    intro p hp'
    rcases List.mem_cons.mp hp' with e | hp'
    · exact oh p (e ▸ by simp [ma])
    · rcases List.mem_cons.mp hp' with e | hp'
      · exact oh p (e ▸ mK)
      · exact oh p hp'
  clear N₁
  rcases hbv with ⟨rfl, rfl⟩ | ⟨b, rfl, ab, xb, nb, rfl, mab, iab⟩
  · k_steps
    · (rename News g L' _ _ => NZ)
      (rename Fr g L' _ _ => FZ)
      exact hret _ _ _ _ _ (G - lst, lst) _ _ _ _ _ FZ (ret_new NZ rest_sub) (.cons _ _ (.cons _ _ .nil)) (ksk_snoc hgi) (hend (by omega))
    · show wpAny _ _ _ _ _ _
      (rename News g L' _ _ => NZ)
      have NZ2 := news_sw2 NZ
      clear NZ
      rename_i D1 _ lt1 _ _ hne _ tx D0 _ lt0 _ FZ
      have d0h : D0 ≠ hp := Nat.ne_of_gt lt0.2.1
      have d1h : D1 ≠ hp := Nat.ne_of_gt lt1.1
      have d0g : D0 ≠ gl := Nat.ne_of_gt lt0.2.2.1
      have d1g : D1 ≠ gl := Nat.ne_of_gt lt1.2.1
      have hgo' := hgo (by omega)
      k_dflt (refine' heapreplace_c (va := .ref aa) (vb := vb) (vc := vc) (ia := [lst, (k : Int), (pk : Int)]) (ib := tb) (ic := tc) (id := [iK.getD (pk + 1) 0, (k : Int), ((pk + 1 : Nat) : Int)]) ?k1 ?k2 ?k3 ?k4 ?k5 ?kK ?ko ?ta ?tb ?tc ?td ?kd ?ku ?_; (case k4 => exact NZ2); (case k1 => k_asm); (case k2 => k_asm); (case k3 => k_asm); (case k5 => k_asm); (case kK => exact rfl); (case kd => ktr_room); (case ku => ktr_units); k_whole)
      case ko => exact off_cons d0h (off_cons d1h (off_cons (Ne.symm hpgl) oh2))
      case ta => exact ⟨aa, _, na, rfl, by simp, ia⟩
      case tb => exact tvb.mono fun p hp' => by simp [hp']
      case tc => exact tvc.mono fun p hp' => by simp [hp']
      case td => exact ⟨D0, _, 0, rfl, List.mem_cons_self .., ints3⟩
      intro h9 tk9 n9 F9 N9
      (try dsimp only)
      (try k_fold)
      k_steps
      (rename News g L' _ _ => NE)
      (rename Fr g L' _ _ => FE)
      exact wh_end (tups' := [_, _] ++ tups) (b' := (G - lst, lst)) FE NE (List.forall_mem_cons.mpr ⟨rfl, List.forall_mem_cons.mpr ⟨rfl, List.forall_mem_cons.mpr ⟨rfl, List.forall_mem_cons.mpr ⟨rfl, List.forall_mem_nil _⟩⟩⟩⟩) hst
        (fun xa xb xc h1 h2 h3 => by rw [max_g]; exact hgo' xa xb xc h1 h2 h3) ⟨D0, _, 0, rfl, List.mem_cons_self .., ints3⟩ tvb tvc ⟨D1, _, 0, rfl, List.mem_cons_of_mem _ (List.mem_cons_self ..), .cons _ _ (.cons _ _ .nil)⟩ (ksk_snoc hgi) (fun p hp' => List.mem_append_right _ hp') sub_A
        (off_fix oh (off_cons d0h (off_cons d1h (List.forall_mem_nil _)))) (off_fix og (off_cons d0g (off_cons d1g (List.forall_mem_nil _)))) hpgl
  · obtain ⟨t4, t5, rfl⟩ : ∃ t4 t5, xb = [.int b.1 t4, .int b.2 t5] := by
      cases iab with | cons _ t4 h1 => cases h1 with | cons _ t5 h2 => cases h2 with | nil => exact ⟨t4, t5, rfl⟩
    have N₄ := news_ins (y := (ab, tupOf [.int b.1 t4, .int b.2 t5] nb)) N₃ (by simp [mab])
    have og3 := off_cons (x := (aa, tupOf [.int lst t1, .int (k : Int) t2, .int (pk : Int) t3] na)) (og _ (by simp [ma])) (off_cons (x := (rK, listOf vK.toArray nK)) (og _ mK) (off_cons (x := (ab, tupOf [.int b.1 t4, .int b.2 t5] nb)) (og _ (by simp [mab])) og))
    have oh3 := off_cons (x := (aa, tupOf [.int lst t1, .int (k : Int) t2, .int (pk : Int) t3] na)) (oh _ (by simp [ma])) (off_cons (x := (rK, listOf vK.toArray nK)) (oh _ mK) (off_cons (x := (ab, tupOf [.int b.1 t4, .int b.2 t5] nb)) (oh _ (by simp [mab])) oh))
    clear N₃
    k_steps
    · (rename News g L' _ _ => NZ)
      (rename Fr g L' _ _ => FZ)
      (rename lexLt _ _ = _ => hl)
      have hend' := hend (by omega)
      rw [upd_t (c := (G - lst, lst)) hl] at hend'
      exact hret _ _ _ _ _ (G - lst, lst) _ _ _ _ _ FZ (ret_new (news_b NZ) rest_sub) (.cons _ _ (.cons _ _ .nil)) (ksk_snoc hgi) hend'
    · show wpAny _ _ _ _ _ _
      (rename News g L' _ _ => NZ)
      have NZ2 := news_sw3 NZ
      clear NZ
      rename_i Dt _ ltt hl _ D1 _ lt1 _ _ hne _ tx D0 _ lt0 _ FZ
      have d0h : D0 ≠ hp := Nat.ne_of_gt lt0.2.2.1
      have d1h : D1 ≠ hp := Nat.ne_of_gt lt1.2.1
      have dth : Dt ≠ hp := Nat.ne_of_gt ltt.1
      have d0g : D0 ≠ gl := Nat.ne_of_gt lt0.2.2.2.1
      have d1g : D1 ≠ gl := Nat.ne_of_gt lt1.2.2.1
      have hgo' := hgo (by omega)
      rw [upd_t (c := (G - lst, lst)) hl] at hgo'
      k_dflt (refine' heapreplace_c (va := .ref aa) (vb := vb) (vc := vc) (ia := [lst, (k : Int), (pk : Int)]) (ib := tb) (ic := tc) (id := [iK.getD (pk + 1) 0, (k : Int), ((pk + 1 : Nat) : Int)]) ?k1 ?k2 ?k3 ?k4 ?k5 ?kK ?ko ?ta ?tb ?tc ?td ?kd ?ku ?_; (case k4 => exact NZ2); (case k1 => k_asm); (case k2 => k_asm); (case k3 => k_asm); (case k5 => k_asm); (case kK => exact rfl); (case kd => ktr_room); (case ku => ktr_units); k_whole)
      case ko => exact off_cons d0h (off_cons d1h (off_cons dth (off_cons (Ne.symm hpgl) oh3)))
      case ta => exact ⟨aa, _, na, rfl, by simp, ia⟩
      case tb => exact tvb.mono fun p hp' => by simp [hp']
      case tc => exact tvc.mono fun p hp' => by simp [hp']
      case td => exact ⟨D0, _, 0, rfl, List.mem_cons_self .., ints3⟩
      intro h9 tk9 n9 F9 N9
      (try dsimp only)
      (try k_fold)
      k_steps
      (rename News g L' _ _ => NE)
      (rename Fr g L' _ _ => FE)
      exact wh_end (tups' := [_, _] ++ tups) (b' := (G - lst, lst)) FE NE (List.forall_mem_cons.mpr ⟨rfl, List.forall_mem_cons.mpr ⟨rfl, List.forall_mem_cons.mpr ⟨rfl, List.forall_mem_cons.mpr ⟨rfl, List.forall_mem_nil _⟩⟩⟩⟩) hst
        (fun xa xb xc h1 h2 h3 => by rw [max_g]; exact hgo' xa xb xc h1 h2 h3) ⟨D0, _, 0, rfl, List.mem_cons_self .., ints3⟩ tvb tvc ⟨D1, _, 0, rfl, List.mem_cons_of_mem _ (List.mem_cons_self ..), .cons _ _ (.cons _ _ .nil)⟩ (ksk_snoc hgi) (fun p hp' => List.mem_append_right _ hp') sub_B
        (off_fix oh (off_cons d0h (off_cons d1h (List.forall_mem_nil _)))) (off_fix og (off_cons d0g (off_cons d1g (List.forall_mem_nil _)))) hpgl
    · (rename News g L' _ _ => NZ)
      (rename Fr g L' _ _ => FZ)
      (rename lexLt _ _ = _ => hl)
      have hend' := hend (by omega)
      rw [upd_f (c := (G - lst, lst)) hl] at hend'
      exact hret _ _ _ _ _ b _ _ _ _ _ FZ (ret_new (news_c NZ) rest_sub) (.cons _ _ (.cons _ _ .nil)) (ksk_snoc hgi) hend'
    · show wpAny _ _ _ _ _ _
      (rename News g L' _ _ => NZ)
      have NZ2 := news_sw2 NZ
      clear NZ
      rename_i Dt _ ltt hl _ hne _ tx D0 _ lt0 _ FZ
      have d0h : D0 ≠ hp := Nat.ne_of_gt lt0.2.1
      have dth : Dt ≠ hp := Nat.ne_of_gt ltt.1
      have d0g : D0 ≠ gl := Nat.ne_of_gt lt0.2.2.1
      have hgo' := hgo (by omega)
      rw [upd_f (c := (G - lst, lst)) hl] at hgo'
      k_dflt (refine' heapreplace_c (va := .ref aa) (vb := vb) (vc := vc) (ia := [lst, (k : Int), (pk : Int)]) (ib := tb) (ic := tc) (id := [iK.getD (pk + 1) 0, (k : Int), ((pk + 1 : Nat) : Int)]) ?k1 ?k2 ?k3 ?k4 ?k5 ?kK ?ko ?ta ?tb ?tc ?td ?kd ?ku ?_; (case k4 => exact NZ2); (case k1 => k_asm); (case k2 => k_asm); (case k3 => k_asm); (case k5 => k_asm); (case kK => exact rfl); (case kd => ktr_room); (case ku => ktr_units); k_whole)
      case ko => exact off_cons d0h (off_cons dth (off_cons (Ne.symm hpgl) oh3))
      case ta => exact ⟨aa, _, na, rfl, by simp, ia⟩
      case tb => exact tvb.mono fun p hp' => by simp [hp']
      case tc => exact tvc.mono fun p hp' => by simp [hp']
      case td => exact ⟨D0, _, 0, rfl, List.mem_cons_self .., ints3⟩
      intro h9 tk9 n9 F9 N9
      (try dsimp only)
      (try k_fold)
      k_steps
      (rename News g L' _ _ => NE)
      (rename Fr g L' _ _ => FE)
      exact wh_end (tups' := [_] ++ tups) (b' := b) FE NE (List.forall_mem_cons.mpr ⟨rfl, List.forall_mem_cons.mpr ⟨rfl, List.forall_mem_cons.mpr ⟨rfl, List.forall_mem_cons.mpr ⟨rfl, List.forall_mem_nil _⟩⟩⟩⟩) hst
        (fun xa xb xc h1 h2 h3 => by rw [max_g]; exact hgo' xa xb xc h1 h2 h3) ⟨D0, _, 0, rfl, List.mem_cons_self .., ints3⟩ tvb tvc ⟨ab, _, nb, rfl, List.mem_cons_of_mem _ mab, iab⟩ (ksk_snoc hgi) (fun p hp' => List.mem_append_right _ hp') sub_C
        (off_fix oh (off_cons d0h (List.forall_mem_nil _))) (off_fix og (off_cons d0g (List.forall_mem_nil _))) hpgl
end
end Mine

-- part MgS0
namespace Mine
theorem startMgS0 : True := by
  w_top off
  exact True.intro
local macro_rules | `(tactic| walk_at "CompSrc") => `(tactic| (k_here; k_dflt (first
  | (refine LCg.CompSrc.ledger (by rfl) (by k_asm) (by k_asm) (by k_mem) (by first | size_fits | exact Nat.le_of_ble_eq_true rfl) ?_; intro g'; lcg_lit)
  | (refine LCg.CompSrc.range (by rfl) (by k_asm) (by k_asm) (by assumption) (by first | decide | rfl) (by first | rfl | decide) (by first | size_fits | exact Nat.le_of_ble_eq_true rfl) ?_; intro g'; lcg_lit))))
theorem compEnd1 {h₀ : Heap} {L I C D D' : Addr} {m : Str → Option Value} {s₁ : Shared} {oI oC oD o' : Obj} {S : List (Addr × Obj) → Prop} {rest : Value → List (Addr × Obj) → Prop} {y : Value} {h' : Heap} {tk : Nat} {news : List (Addr × Obj)} {R : Prop}
    (F : Fr h₀ L h' m) (N : News h₀ L h' ((D', o') :: (I, oI) :: (C, oC) :: (D, oD) :: news)) (off : LCg.Off3 I C D news) (lt : I < D' ∧ C < D' ∧ D < D' ∧ R) (hS : S ((D', o') :: news)) (r : rest y ((D', o') :: news)) :
    LCg.CompEnd h₀ L m s₁ I oI C oC D oD S rest y { s₁ with heap := h', toks := tk } := by
  refine LCg.CompEnd.intro F N ((D', o') :: news) (fun p hp => ?_) ⟨⟨Nat.ne_of_gt lt.1, Nat.ne_of_gt lt.2.1, Nat.ne_of_gt lt.2.2.1⟩, off⟩ hS r
  simp only [List.mem_cons] at hp ⊢
  rcases hp with e | e | e | e | e
  all_goals simp only [e, true_or, or_true]
local macro_rules | `(tactic| walk_at "CompEnd") => `(tactic| (refine compEnd1 (by assumption) (by assumption) ?off (by assumption) ?hS ?_; (case off => ((simp only [LCg.Off3, and_true]); assumption)); (case hS => exact True.intro)))
theorem it3a {a b c : Value} : (#[a, b, c] : Array Value)[((0 : Int) + ((0 : Nat) : Int)).toNat]? = some a := rfl
theorem it3b {a b c : Value} : (#[a, b, c] : Array Value)[((0 : Int) + ((0 + 1 : Nat) : Int)).toNat]? = some b := rfl
theorem it3c {a b c : Value} : (#[a, b, c] : Array Value)[((0 : Int) + ((0 + 1 + 1 : Nat) : Int)).toNat]? = some c := rfl
theorem itl {a : Value} {l : List Value} : (List.toArray (a :: l))[(0 : Int).toNat]? = some a := by simp
local macro_rules | `(tactic| walk_at "subscriptTail") => `(tactic| (k_here; (with_reducible show wpAny _ _ (subscriptTail _ _ (Value.ref _) (Value.int _ _)) _ _ _); k_dflt (refine' item_at ?k1 ?k2 ?k3 ?k4 ?k5 ?_ ?k6; (case k1 => k_asm); (case k2 => k_mem); (case k3 => decide); (case k4 => decide); (case k5 => first | exact it3a | exact it3b | exact it3c | exact itl); (case k6 => with_unfolding_all rfl); k_whole)))
section
variable {w : World} {mean : ExcName → Option Value} {mg mb : Str → Option Value} {dp un : Nat} {gd : Option (List Code)} {cn : Str} {cs : Scope} {a : Addr} {ccd : Value} {cl : List (Str × Addr)} {outer : List Env} {base h₀ g h : Heap} {L L' : Addr} {m m₀ : Str → Option Value} {s : Shared} {Q : Flow → Shared → Prop} {E : Value → Shared → Prop}
    {rw r0 r1 r2 hp gl : Addr} {v0 v1 v2 : List Value} {i0 i1 i2 : List Int} {n n0 n1 n2 : Nat} {o1 : Obj} {s0 s1 s2 s3 s4 s5 : Stmt} {sc : Scope}

set_option maxRecDepth 100000 in
set_option maxHeartbeats 8000000 in
theorem s0_c (hparts : hdParts = some ([s0, s1, s2, s3, s4, s5], sc))
    (FG : Fr h₀ L g m) (B : Below (ktrTop dp un gd cn cs L a ccd cl outer) base (envX cn cs L a ccd cl :: outer) g) (X : (hd.heap_39 w.params).In g) (T : Top hd.view_39 (looseW hd.view_39 []) mean mg mb g) (hk : cs.kind = .function)
    (dd : o1.data = .cell (some (.ref rw))) (F : Fr g L' s.heap m₀) (N : News g L' s.heap [(L' + 1, o1), (rw, listOf #[.ref r0, .ref r1, .ref r2] n), (r0, listOf v0.toArray n0), (r1, listOf v1.toArray n1), (r2, listOf v2.toArray n2)])
    (j0 : IntsAre v0 i0) (j1 : IntsAre v1 i1) (j2 : IntsAre v2 i2) (b0 : i0.length + i1.length + i2.length ≤ 13) (e0 : 0 < i0.length) (e1 : 0 < i1.length) (e2 : 0 < i2.length)
    (hdp : dp + 5 < recursionLimit) (hun : un + 200 < cLine)
    (hret : ∀ h' tk' hp d0 d1 d2 y0 y1 y2, Fr g L' h' (fun z => if z = Str.ofString "heap" then some (.ref hp) else m₀ z) →
      News g L' h' [(hp, listOf #[.ref d0, .ref d1, .ref d2] 3), (d2, tupOf y2 0), (d1, tupOf y1 0), (d0, tupOf y0 0), (L' + 1, o1), (rw, listOf #[.ref r0, .ref r1, .ref r2] n), (r0, listOf v0.toArray n0), (r1, listOf v1.toArray n1), (r2, listOf v2.toArray n2)] →
      IntsAre y0 (ent i0 0 0) → IntsAre y1 (ent i1 1 0) → IntsAre y2 (ent i2 2 0) → (d2 ≠ hp ∧ d1 ≠ hp ∧ d0 ≠ hp ∧ L' + 1 ≠ hp ∧ rw ≠ hp ∧ r0 ≠ hp ∧ r1 ≠ hp ∧ r2 ≠ hp) → Q .next { s with heap := h', toks := tk' }) :
    wpAny (model Challenge.rw_mg0009_01.row.prog w) ((ktrTop dp un gd cn cs L a ccd cl outer).deeper (envOfC (Str.ofString "_law_heads") sc L' 52 (.ref 51)))
      (exec s0 (envOfC (Str.ofString "_law_heads") sc L' 52 (.ref 51))) Q E s := by
  cases hparts
  obtain ⟨x0, t0, u0, k0, rfl, rfl⟩ : ∃ x0 t0 u0 k0, v0 = .int x0 t0 :: u0 ∧ i0 = x0 :: k0 := by
    cases j0 with
    | nil => cases e0
    | cons x0 t0 _ => exact ⟨_, _, _, _, rfl, rfl⟩
  obtain ⟨x1, t1, u1, k1, rfl, rfl⟩ : ∃ x1 t1 u1 k1, v1 = .int x1 t1 :: u1 ∧ i1 = x1 :: k1 := by
    cases j1 with
    | nil => cases e1
    | cons x0 t0 _ => exact ⟨_, _, _, _, rfl, rfl⟩
  obtain ⟨x2, t2, u2, k2, rfl, rfl⟩ : ∃ x2 t2 u2 k2, v2 = .int x2 t2 :: u2 ∧ i2 = x2 :: k2 := by
    cases j2 with
    | nil => cases e2
    | cons x0 t0 _ => exact ⟨_, _, _, _, rfl, rfl⟩
  clear j0 j1 j2 e0 e1 e2 b0
  (revert X; k_fill; intro X)
  show wpAny _ _ _ (fun fl s' => Halt (Q fl s')) E s
  k_dflt (refine LCg.Assign_ListComp_U (F₀ := by k_asm) (by rfl) (by with_unfolding_all rfl) (by with_unfolding_all rfl) (by decide) (by rfl) (by decide) (by rfl) (by rfl) (by rfl) ?_)
  k_dflt lcg_toSrc
  k_steps
  (rename News g L' _ _ => NZ)
  (rename Fr g L' _ _ => FZ)
  rename_i oZ
  exact hret _ _ _ _ _ _ _ _ _ FZ NZ (.cons _ _ (.cons _ _ (.cons _ _ .nil))) (.cons _ _ (.cons _ _ (.cons _ _ .nil))) (.cons _ _ (.cons _ _ (.cons _ _ .nil))) oZ
end
end Mine

-- part MgS1
namespace Mine
theorem startMgS1 : True := by
  w_top off
  exact True.intro
local macro_rules | `(tactic| walk_at "CompSrc") => `(tactic| (k_here; k_dflt (first
  | (refine LCg.CompSrc.ledger (by rfl) (by k_asm) (by k_asm) (by k_mem) (by first | size_fits | exact Nat.le_of_ble_eq_true rfl) ?_; intro g'; lcg_lit)
  | (refine LCg.CompSrc.range (by rfl) (by k_asm) (by k_asm) (by assumption) (by first | decide | rfl) (by first | rfl | decide) (by first | size_fits | exact Nat.le_of_ble_eq_true rfl) ?_; intro g'; lcg_lit))))
theorem max_of3 {M x0 x1 x2 : Int} (a : M = x0 ∨ M = x1 ∨ M = x2) (b : x0 ≤ M ∧ x1 ≤ M ∧ x2 ≤ M) : M = max x0 (max x1 x2) := by omega
theorem compEnd0 {h₀ : Heap} {L I C D : Addr} {m : Str → Option Value} {s₁ : Shared} {oI oC oD : Obj} {S : List (Addr × Obj) → Prop} {rest : Value → List (Addr × Obj) → Prop} {y : Value} {h' : Heap} {tk : Nat} {news : List (Addr × Obj)}
    (F : Fr h₀ L h' m) (N : News h₀ L h' ((I, oI) :: (C, oC) :: (D, oD) :: news)) (off : LCg.Off3 I C D news) (hS : S news) (r : rest y news) :
    LCg.CompEnd h₀ L m s₁ I oI C oC D oD S rest y { s₁ with heap := h', toks := tk } := LCg.CompEnd.intro F N news (fun _ hp => hp) off hS r
local macro_rules | `(tactic| walk_at "eval ListComp") => `(tactic| (k_here; k_dflt (refine LCg.ListComp_U (F₀ := by k_asm) (by rfl) (by decide) (by rfl) (by decide) (by rfl) ?_); k_dflt lcg_toSrc))
local macro_rules | `(tactic| walk_at "CompEnd") => `(tactic| (refine compEnd0 (by assumption) (by assumption) ?off ?hS ?_; (case off => ((simp only [LCg.Off3, and_true]); assumption)); (case hS => first | exact True.intro | exact Or.inr ⟨_, by k_mem, rfl, _, rfl⟩)))
local macro_rules | `(tactic| walk_at "subscriptTail") => `(tactic| (k_here; (with_reducible show wpAny _ _ (subscriptTail _ _ (Value.ref _) (Value.int _ _)) _ _ _); k_dflt (refine' item_at ?k1 ?k2 ?k3 ?k4 ?k5 ?_ ?k6; (case k1 => k_asm); (case k2 => k_mem); (case k3 => decide); (case k4 => decide); (case k5 => first | exact it3a | exact it3b | exact it3c | exact itl); (case k6 => with_unfolding_all rfl); k_whole)))
section
variable {w : World} {mean : ExcName → Option Value} {mg mb : Str → Option Value} {dp un : Nat} {gd : Option (List Code)} {cn : Str} {cs : Scope} {a : Addr} {ccd : Value} {cl : List (Str × Addr)} {outer : List Env} {base h₀ g h : Heap} {L L' : Addr} {m m₀ : Str → Option Value} {s : Shared} {Q : Flow → Shared → Prop} {E : Value → Shared → Prop}
    {rw r0 r1 r2 hp gl : Addr} {v0 v1 v2 : List Value} {i0 i1 i2 : List Int} {n n0 n1 n2 : Nat} {o1 : Obj} {s0 s1 s2 s3 s4 s5 : Stmt} {sc : Scope}

set_option maxRecDepth 100000 in
set_option maxHeartbeats 8000000 in
theorem s1_c (hparts : hdParts = some ([s0, s1, s2, s3, s4, s5], sc))
    (B : Below (ktrTop dp un gd cn cs L a ccd cl outer) base (envX cn cs L a ccd cl :: outer) g) (X : (hd.heap_39 w.params).In g) (T : Top hd.view_39 (looseW hd.view_39 []) mean mg mb g)
    (dd : o1.data = .cell (some (.ref rw))) (F : Fr g L' s.heap m₀) {tl : List (Addr × Obj)} (N : News g L' s.heap ((L' + 1, o1) :: (rw, listOf #[.ref r0, .ref r1, .ref r2] n) :: (r0, listOf v0.toArray n0) :: (r1, listOf v1.toArray n1) :: (r2, listOf v2.toArray n2) :: tl))
    (j0 : IntsAre v0 i0) (j1 : IntsAre v1 i1) (j2 : IntsAre v2 i2) (e0 : 0 < i0.length) (e1 : 0 < i1.length) (e2 : 0 < i2.length)
    (hdp : dp + 5 < recursionLimit) (hun : un + 200 < cLine)
    (hret : ∀ h' tk' G tG, Fr g L' h' (fun z => if z = Str.ofString "greatest" then some (.int G tG) else m₀ z) →
      News g L' h' ((L' + 1, o1) :: (rw, listOf #[.ref r0, .ref r1, .ref r2] n) :: (r0, listOf v0.toArray n0) :: (r1, listOf v1.toArray n1) :: (r2, listOf v2.toArray n2) :: tl) →
      G = max (i0.getD 0 0) (max (i1.getD 0 0) (i2.getD 0 0)) → Q .next { s with heap := h', toks := tk' }) :
    wpAny (model Challenge.rw_mg0009_01.row.prog w) ((ktrTop dp un gd cn cs L a ccd cl outer).deeper (envOfC (Str.ofString "_law_heads") sc L' 52 (.ref 51)))
      (exec s1 (envOfC (Str.ofString "_law_heads") sc L' 52 (.ref 51))) Q E s := by
  cases hparts
  obtain ⟨x0, t0, u0, k0, rfl, rfl⟩ : ∃ x0 t0 u0 k0, v0 = .int x0 t0 :: u0 ∧ i0 = x0 :: k0 := by
    cases j0 with
    | nil => cases e0
    | cons x0 t0 _ => exact ⟨_, _, _, _, rfl, rfl⟩
  obtain ⟨x1, t1, u1, k1, rfl, rfl⟩ : ∃ x1 t1 u1 k1, v1 = .int x1 t1 :: u1 ∧ i1 = x1 :: k1 := by
    cases j1 with
    | nil => cases e1
    | cons x0 t0 _ => exact ⟨_, _, _, _, rfl, rfl⟩
  obtain ⟨x2, t2, u2, k2, rfl, rfl⟩ : ∃ x2 t2 u2 k2, v2 = .int x2 t2 :: u2 ∧ i2 = x2 :: k2 := by
    cases j2 with
    | nil => cases e2
    | cons x0 t0 _ => exact ⟨_, _, _, _, rfl, rfl⟩
  clear j0 j1 j2 e0 e1 e2
  (revert X; k_fill; intro X)
  show wpAny _ _ _ (fun fl s' => Halt (Q fl s')) E s
  k_steps
  rename_i a9 b9 h9 F9 N9
  exact hret _ _ _ _ F9 (fun p hp' => N9 p (List.mem_cons_of_mem _ hp')) (max_of3 a9 b9)
end
end Mine

-- part MgHd
namespace Mine
theorem startMgHd : True := by
  w_top off
  exact True.intro
local macro_rules | `(tactic| walk_at "exec While") => `(tactic| (k_here; (with_reducible show wpAny _ _ (exec (Stmt.While _ _ _ _) _) _ _ _); refine Halt.of ?_))
local macro_rules | `(tactic| walk_at "call ref") => `(tactic| (k_here; (with_reducible show wpAny _ _ (call (Value.ref 28) _) _ _ _); refine Halt.of ?_))

theorem news_rot {h₀ h : Heap} {L : Addr} {x1 x2 x3 x4 y1 y2 y3 y4 y5 : Addr × Obj} (N : News h₀ L h [x1, x2, x3, x4, y1, y2, y3, y4, y5]) : News h₀ L h (y1 :: y2 :: y3 :: y4 :: y5 :: [x1, x2, x3, x4]) := news_sub N fun p hp => by
  simp only [List.mem_cons, List.not_mem_nil, or_false] at hp ⊢
  rcases hp with e | e | e | e | e | e | e | e | e
  all_goals simp only [e, true_or, or_true]
theorem news_back {h₀ h : Heap} {L : Addr} {x1 x2 x3 x4 y1 y2 y3 y4 y5 : Addr × Obj} (N : News h₀ L h (y1 :: y2 :: y3 :: y4 :: y5 :: [x1, x2, x3, x4])) : News h₀ L h [x1, y1, y2, y3, y4, y5, x2, x3, x4] := news_sub N fun p hp => by
  simp only [List.mem_cons, List.not_mem_nil, or_false] at hp ⊢
  rcases hp with e | e | e | e | e | e | e | e | e
  all_goals simp only [e, true_or, or_true]

section
variable {w : World} {mean : ExcName → Option Value} {mg mb : Str → Option Value} {dp un : Nat} {gd : Option (List Code)} {cn : Str} {cs : Scope} {a : Addr} {ccd : Value} {cl : List (Str × Addr)} {outer : List Env} {A₀ : Around} {base h₀ : Heap} {L : Addr} {m : Str → Option Value} {s : Shared} {Q E : Value → Shared → Prop}
    {rw r0 r1 r2 : Addr} {v0 v1 v2 : List Value} {i0 i1 i2 : List Int} {n n0 n1 n2 : Nat}

set_option maxRecDepth 100000 in
set_option maxHeartbeats 8000000 in
theorem heads_c
    (B : Below A₀ base outer h₀) (F : Fr h₀ L s.heap m) (X : (hd.heap_39 w.params).In h₀) (N : News h₀ L s.heap [(rw, listOf #[.ref r0, .ref r1, .ref r2] n), (r0, listOf v0.toArray n0), (r1, listOf v1.toArray n1), (r2, listOf v2.toArray n2)]) (T : Top hd.view_39 (looseW hd.view_39 []) mean mg mb h₀) (hk : cs.kind = .function)
    (j0 : IntsAre v0 i0) (j1 : IntsAre v1 i1) (j2 : IntsAre v2 i2) (b0 : i0.length + i1.length + i2.length ≤ 13) (e0 : 0 < i0.length) (e1 : 0 < i1.length) (e2 : 0 < i2.length)
    (so0 : i0.Pairwise (· ≤ ·)) (so1 : i1.Pairwise (· ≤ ·)) (so2 : i2.Pairwise (· ≤ ·))
    (hdp : dp + 6 < recursionLimit) (hun : un + 240 < cLine)
    (hret : ∀ h' tk' D bv gl b xb nb gvs kg gone, Fr h₀ L h' m → News h₀ L h' [(D, tupOf [.ref bv, .ref gl] 0), (bv, tupOf xb nb), (gl, listOf (List.toArray gvs) kg), (rw, listOf #[.ref r0, .ref r1, .ref r2] n), (r0, listOf v0.toArray n0), (r1, listOf v1.toArray n1), (r2, listOf v2.toArray n2)] →
      IntsAre xb [b.1, b.2] → IntsAre gvs gone → DoneOk i0 i1 i2 b gone → Q (.ref D) { s with heap := h', toks := tk' }) :
    wpAny (model Challenge.rw_mg0009_01.row.prog w) (ktrTop dp un gd cn cs L a ccd cl outer) (call (.ref 52) [.ref rw]) Q E s := by
  (revert X; k_fill; intro X)
  refine wpAny_call ?_
  k_dflt (refine' code_defC ?k1 ?k2 ?k3 ?k4 ?k5 ?kA ?kF ?kK ?k6 ?k7 ?k8 ?k9 ?kB ?kD ?_ ?c2 ?c3 ?c4; (case kA => exact rfl); (case kF => exact rfl); (case kK => assumption); (case k1 => k_asm); (case k2 => k_asm); (case k3 => k_asm); (case k4 => k_asm); (case k5 => k_asm); (case k6 => k_is); (case k7 => k_is); (case k8 => ktr_room); (case k9 => exact BindsTo.of_eq rfl); (case kB => exact rfl); (case kD => decide +kernel); (case c2 => exact rfl); (case c3 => exact rfl); (case c4 => exact rfl); k_whole; intro g' L' h' tk' cells' FG' F' N' Y' B' X' T' l1; (try k_lt l1); k_cells Y'; (try simp only [List.cons_append, List.nil_append] at N'); (try dsimp only))
  rename_i o1 d1
  have dd : o1.data = .cell (some (.ref rw)) := d1
  clear d1
  obtain ⟨mm, FF⟩ : ∃ mm, Fr g' L' h' mm := ⟨_, F'⟩
  clear F'
  refine wpAny_execs_cons ?_
  refine s0_c rfl FG' B' X' T' hk dd FF N' j0 j1 j2 b0 e0 e1 e2 (by omega) (by omega) ?_
  intro h1 tk1 hp d0 d1 d2 y0 y1 y2 F1 N1 q0 q1 q2 oZ
  show wpAny _ _ (execs _ _) _ _ _
  refine wpAny_execs_cons ?_
  refine s1_c rfl B' X' T' dd F1 (news_rot N1) j0 j1 j2 e0 e1 e2 (by omega) (by omega) ?_
  intro h2 tk2 G tG F2 N2 hG
  show wpAny _ _ (execs _ _) _ _ _
  have N3 := news_back N2
  clear N2 N1 F1 N' FF
  show wpAny _ _ _ _ _ _
  (try k_fold)
  k_steps
  show wpAny _ _ _ _ _ _
  obtain ⟨oa, ob, oc, oL, orw, or0, or1, or2⟩ := oZ
  have td0 : TupIn [(d2, tupOf y2 0), (d1, tupOf y1 0), (d0, tupOf y0 0)] (.ref d0) (ent i0 0 0) := ⟨d0, y0, 0, rfl, .tail _ (.tail _ (.head _)), q0⟩
  have td1 : TupIn [(d2, tupOf y2 0), (d1, tupOf y1 0), (d0, tupOf y0 0)] (.ref d1) (ent i1 1 0) := ⟨d1, y1, 0, rfl, .tail _ (.head _), q1⟩
  have td2 : TupIn [(d2, tupOf y2 0), (d1, tupOf y1 0), (d0, tupOf y0 0)] (.ref d2) (ent i2 2 0) := ⟨d2, y2, 0, rfl, .head _, q2⟩
  have hoff : ∀ p ∈ fixL L' o1 rw r0 r1 r2 v0 v1 v2 n n0 n1 n2 [(d2, tupOf y2 0), (d1, tupOf y1 0), (d0, tupOf y0 0)], p.1 ≠ hp :=
    off_cons oL (off_cons orw (off_cons or0 (off_cons or1 (off_cons or2 (off_cons oa (off_cons ob (off_cons oc (List.forall_mem_nil _))))))))
  have fsub : ∀ p ∈ [(d2, tupOf y2 0), (d1, tupOf y1 0), (d0, tupOf y0 0)], p ∈ fixL L' o1 rw r0 r1 r2 v0 v1 v2 n n0 n1 n2 [(d2, tupOf y2 0), (d1, tupOf y1 0), (d0, tupOf y0 0)] :=
    fun p hp' => .tail _ (.tail _ (.tail _ (.tail _ (.tail _ hp'))))
  obtain ⟨xa, xb, xc, ta, tb, tc, es, ra, rb, rc, harr, hb1, hb2⟩ := sift_all (R := TupIn [(d2, tupOf y2 0), (d1, tupOf y1 0), (d0, tupOf y0 0)]) td0 td1 td2
  k_dflt (refine' heapify_c (va := .ref d0) (vb := .ref d1) (vc := .ref d2) (ia := ent i0 0 0) (ib := ent i1 1 0) (ic := ent i2 2 0) ?k1 ?k2 ?k3 ?k4 ?k5 ?kK ?ko ?ta ?tb ?tc ?kd ?ku ?_; (case k4 => exact N3); (case k1 => k_asm); (case k2 => k_asm); (case k3 => k_asm); (case k5 => k_asm); (case kK => exact rfl); (case ko => exact hoff); (case ta => exact td0.mono fsub); (case tb => exact td1.mono fsub); (case tc => exact td2.mono fsub); (case kd => ktr_room); (case ku => ktr_units); k_whole)
  intro h9 tk9 n9 F9 N9
  rw [show sift3 (ent i0 0 0) (ent i1 1 0) (ent i2 2 0) (Value.ref d0) (Value.ref d1) (Value.ref d2) = [xa, xb, xc] from es] at N9
  (try dsimp only)
  (try k_fold)
  clear N3 F2
  k_steps
  show wpAny _ _ _ _ _ _
  (rename News g' L' _ _ => NW)
  (rename Fr g' L' _ _ => FW)
  rename_i gl _ lg _
  refine while_c rfl FG' B' X' T' hk dd FW (news_sw1 NW) (gl := gl) (nn := i0.length + i1.length + i2.length - (0 + 0 + 0)) ⟨0, 0, 0, xa, xb, xc, ta, tb, tc, n9, [], 0, [], G, tG, .none, none, [(d2, tupOf y2 0), (d1, tupOf y1 0), (d0, tupOf y0 0)], rfl, st_start e0 e1 e2 harr hb1 hb2 hG,
    List.forall_mem_cons.mpr ⟨rfl, List.forall_mem_cons.mpr ⟨rfl, List.forall_mem_cons.mpr ⟨rfl, List.forall_mem_cons.mpr ⟨rfl, List.forall_mem_nil _⟩⟩⟩⟩, rfl, .nil, ra, rb, rc, .inl ⟨rfl, rfl⟩, hoff, ?og, Nat.ne_of_lt lg.1⟩ j0 j1 j2 b0 so0 so1 so2 (by omega) (by omega) ?ret ?hE
  case og =>
    obtain ⟨g0, g1, g2, g3, g4, g5, g6, g7, g8⟩ := lg
    exact off_cons (Nat.ne_of_lt g1) (off_cons (Nat.ne_of_lt g2) (off_cons (Nat.ne_of_lt g3) (off_cons (Nat.ne_of_lt g4) (off_cons (Nat.ne_of_lt g5) (off_cons (Nat.ne_of_lt g6) (off_cons (Nat.ne_of_lt g7) (off_cons (Nat.ne_of_lt g8) (List.forall_mem_nil _))))))))
  case ret =>
    intro hz tkz mz D bv b xb nb gvs kg gone FZ NZ z1 z2 z3
    show LeaveK h₀ L m g' _ (Value.ref D) _
    exact leaveK_ FZ NZ fun F8 N8 => hret _ _ _ _ _ _ _ _ _ _ _ F8 N8 z1 z2 z3
  case hE => passes_own
end
end Mine

-- part MgLaw
namespace Mine
theorem startMgLaw : True := by
  w_top off
  exact True.intro
theorem news_rot3 {h₀ h : Heap} {L : Addr} {x1 x2 x3 y1 y2 y3 y4 : Addr × Obj} (N : News h₀ L h [x1, x2, x3, y1, y2, y3, y4]) : News h₀ L h (y1 :: y2 :: y3 :: y4 :: [x1, x2, x3]) := news_sub N fun p hp => by
  simp only [List.mem_cons, List.not_mem_nil, or_false] at hp ⊢
  rcases hp with e | e | e | e | e | e | e
  all_goals simp only [e, true_or, or_true]
local macro_rules | `(tactic| walk_at "call ref") => `(tactic| (k_here; (first | (with_reducible show wpAny _ _ (call (Value.ref 47) _) _ _ _) | (with_reducible show wpAny _ _ (call (Value.ref 52) _) _ _ _) | (with_reducible show wpAny _ _ (call (Value.ref 59) _) _ _ _)); refine Halt.of ?_))
set_option maxRecDepth 100000 in
set_option maxHeartbeats 8000000 in
theorem law_w : PySem.Challenge.rw_mg0009_01.Holds := hd (by
  k_go0
  all_goals (try k_fold)
  k_steps
  show wpAny _ _ _ _ _ _
  k_dflt (refine' rows_c ?k1 ?k2 ?k3 ?k4 ?k5 ?kK ?hl ?hi ?hlen ?kd ?ku ?_; (case k1 => k_asm); (case k2 => k_asm); (case k3 => k_asm); (case k4 => k_asm); (case k5 => k_asm); (case kK => exact rfl); (case hl => assumption); (case hi => assumption); (case hlen => omega); (case kd => ktr_room); (case ku => ktr_units); k_whole)
  intro h1 tk1 rw r0 r1 r2 n v0 v1 v2 n0 n1 n2 i0 i1 i2 F1 N1 j0 j1 j2 so0 so1 so2 e0 e1 e2 b0
  (try dsimp only)
  (try k_fold)
  k_steps
  show wpAny _ _ _ _ _ _
  k_dflt (refine' heads_c ?k1 ?k2 ?k3 ?k4 ?k5 ?kK j0 j1 j2 b0 e0 e1 e2 so0 so1 so2 ?kd ?ku ?_; (case k1 => k_asm); (case k2 => k_asm); (case k3 => k_asm); (case k4 => k_asm); (case k5 => k_asm); (case kK => exact rfl); (case kd => ktr_room); (case ku => ktr_units); k_whole)
  intro h2 tk2 D bv gl b xb nb gvs kg gone F2 N2 z1 z2 z3
  obtain ⟨t4, t5, rfl⟩ : ∃ t4 t5, xb = [.int b.1 t4, .int b.2 t5] := by
    cases z1 with | cons _ t4 h1 => cases h1 with | cons _ t5 h2 => cases h2 with | nil => exact ⟨t4, t5, rfl⟩
  have N3 := news_rot3 N2
  clear N2
  (try dsimp only)
  (try k_fold)
  k_steps
  show wpAny _ _ _ _ _ _
  k_dflt (refine' narrow_c (i0 := i0) (i1 := i1) (i2 := i2) ?k1 ?k2 ?k3 ?k4 ?k5 ?kK j0 j1 j2 ?b0 ?b1 ?b2 ?kd ?ku e0 e1 e2 ?_; (case k1 => k_asm); (case k2 => k_asm); (case k3 => k_asm); (case k4 => k_asm); (case k5 => k_asm); (case kK => exact rfl); (case b0 => omega); (case b1 => omega); (case b2 => omega); (case kd => ktr_room); (case ku => ktr_units); k_whole)
  intro h3 tk3 a3 x3 k3 p F3 N4 w1 w2 w3
  have ebp : b = p := least_one z3.1 z3.2.1 w2 w3
  subst ebp
  obtain ⟨t6, t7, rfl⟩ : ∃ t6 t7, x3 = [.int b.1 t6, .int b.2 t7] := by
    cases w1 with | cons _ t4 h1 => cases h1 with | cons _ t5 h2 => cases h2 with | nil => exact ⟨t4, t5, rfl⟩
  obtain ⟨R, hg1, hg2, hg3⟩ := z3.2.2
  have s0 : v0.toArray.size ≤ 13 := by rw [List.size_toArray, j0.length]; omega
  have s1 : v1.toArray.size ≤ 13 := by rw [List.size_toArray, j1.length]; omega
  have s2 : v2.toArray.size ≤ 13 := by rw [List.size_toArray, j2.length]; omega
  have lg : gone.length ≤ 13 := by
    have := hg2.length_eq
    simp only [List.length_append] at this
    omega
  clear w1 w2 w3 z3
  (try dsimp only)
  (try k_fold)
  k_steps
  rename_i n9 c9 h9 i9 e9 p9 o9 x1 x2 x3 x4 x5 x6 x7 x8 x9 y1 y2 y3
  have hfin : gone = List.take ((gone.length : Nat) : Int).toNat n9 := by
    rw [Int.toNat_natCast]
    refine (take_gone gone R n9 hg1 hg3 o9 (p9.trans ?_)).symm
    rw [List.append_assoc]
    exact hg2.symm
  rw [decide_eq_true hfin]
  k_steps)
end Mine

theorem PySem.Challenge.cw_mg0009_01_holds : PySem.Challenge.rw_mg0009_01.Holds := by
  exact Mine.law_w

import PyProof.Rows.All
import Wide.All
import OpenK.AllK
import Wide.FinOn
import Lean
import PySem.Challenge.RW_xg0014_01
set_option Elab.async false
set_option maxRecDepth 100000

section
open PySem PySem.W PyProof.Rows
namespace Mine
set_option maxRecDepth 100000 in
set_option maxHeartbeats 8000000 in
open_top hd for PySem.Challenge.rw_xg0014_01
end Mine
end

section
open PySem PySem.W PyProof.Rows
namespace Mine
abbrev PP : Program := PySem.Challenge.rw_xg0014_01.row.prog
/-- what a call of a def of the text gives back, told over any caller -/
noncomputable def Ctr (w : World) (f : Addr) (vs : List Value) (Pre : List (Addr × Obj) → Prop) (Out : List (Addr × Obj) → Value → Prop) : Prop :=
  ∀ (p : Program) (loose : List Str) (mean : ExcName → Option Value) (mg mb : Str → Option Value) (dp un : Nat) (gd : Option (List Code)) (cn : Str) (cs : Scope) (a : Addr) (ccd : Value) (cl : List (Str × Addr)) (outer : List Env) (A₀ : Around) (base h₀ : Heap) (L : Addr) (m : Str → Option Value) (news : List (Addr × Obj)) (s : Shared)
    (Q E : Value → Shared → Prop),
    Below A₀ base outer h₀ → Fr h₀ L s.heap m → (Mine.hd.heap_39 w.params).In h₀ → News h₀ L s.heap news → Top p loose mean mg mb h₀ → cs.kind = .function → Pre news → dp + 10 < recursionLimit → un + 400 < cLine →
    (∀ r tl h' tk', Fr h₀ L h' m → News h₀ L h' (tl ++ news) → (∀ q ∈ news, ∀ p ∈ tl, q.1 < p.1) → Out tl r → Q r { s with heap := h', toks := tk' }) →
    wpAny (model PySem.Challenge.rw_xg0014_01.row.prog w) (ktrTop dp un gd cn cs L a ccd cl outer) (call (.ref f) vs) Q E s
end Mine
end

section
open PySem PySem.W PyProof.Rows
namespace Mine
noncomputable def costOf (a b : Str) : Int := if a = b then 0 else if Txt.lower a = Txt.lower b then 1 else 2
theorem cost0 {a b : Str} (h : (a == b) = true) : (0 : Int) = costOf a b := by rw [costOf, if_pos (eq_of_beq h)]
theorem cost1 {a b : Str} (h : (a == b) = false) (h' : (Txt.lower a == Txt.lower b) = true) : (1 : Int) = costOf a b := by
  rw [costOf, if_neg (beq_eq_false_iff_ne.mp h), if_pos (eq_of_beq h')]
theorem cost2 {a b : Str} (h : (a == b) = false) (h' : (Txt.lower a == Txt.lower b) = false) : (2 : Int) = costOf a b := by
  rw [costOf, if_neg (beq_eq_false_iff_ne.mp h), if_neg (beq_eq_false_iff_ne.mp h')]
set_option maxHeartbeats 4000000 in
theorem cost_ctr (w : World) (a b : Str) (ta tb : Tok) (ha : a.length ≤ 8) (hb : b.length ≤ 8) : Ctr w 93 [.str a ta, .str b tb] (fun _ => True) (fun tl r => tl = [] ∧ ∃ t, r = .int (costOf a b) t) := by
  k_with_none
  w_top off
  unfold Ctr
  k_fill
  intro p loose mean mg mb dp un gd cn cs ca ccd cl outer A₀ base h₀ L m news s Q E B F X N T hk hpre hd hu hret
  refine wpAny_call ?_
  k_dflt ktr_enter
  k_steps
  · exact hret _ [] _ _ (by assumption) (by assumption) (fun _ _ _ h => nomatch h) ⟨rfl, _, by rw [cost0 (a := a) (b := b) (by assumption)]⟩
  · exact hret _ [] _ _ (by assumption) (by assumption) (fun _ _ _ h => nomatch h) ⟨rfl, _, by rw [cost1 (a := a) (b := b) (by assumption) (by assumption)]⟩
  · exact hret _ [] _ _ (by assumption) (by assumption) (fun _ _ _ h => nomatch h) ⟨rfl, _, by rw [cost2 (a := a) (b := b) (by assumption) (by assumption)]⟩
theorem pair_dec : ∀ k : Fin 3, costOf (Txt.item (Str.ofString "mno") (k.val : Int)) (Txt.upper (Txt.item (Str.ofString "mno") (k.val : Int))) = 1 ∧ costOf (Txt.upper (Txt.item (Str.ofString "mno") (k.val : Int))) (Txt.item (Str.ofString "mno") (k.val : Int)) = 1 ∧
   costOf (Txt.item (Str.ofString "mno") (k.val : Int)) (Txt.item (Str.ofString "nom") (k.val : Int)) = 2 ∧ costOf (Txt.upper (Txt.item (Str.ofString "mno") (k.val : Int))) (Txt.item (Str.ofString "nom") (k.val : Int)) = 2 := by decide +kernel
theorem pair_costs (n : Int) : costOf (Txt.item (Str.ofString "mno") (n.fmod 3)) (Txt.upper (Txt.item (Str.ofString "mno") (n.fmod 3))) = 1 ∧ costOf (Txt.upper (Txt.item (Str.ofString "mno") (n.fmod 3))) (Txt.item (Str.ofString "mno") (n.fmod 3)) = 1 ∧
   costOf (Txt.item (Str.ofString "mno") (n.fmod 3)) (Txt.item (Str.ofString "nom") (n.fmod 3)) = 2 ∧ costOf (Txt.upper (Txt.item (Str.ofString "mno") (n.fmod 3))) (Txt.item (Str.ofString "nom") (n.fmod 3)) = 2 := by
  have h0 := Int.fmod_eq_emod_of_nonneg n (b := 3) (by decide)
  obtain ⟨k, hk⟩ : ∃ k : Nat, n.fmod 3 = (k : Int) := ⟨(n.fmod 3).toNat, by omega⟩
  rw [hk]
  exact pair_dec ⟨k, by omega⟩
noncomputable def PairOut (tl : List (Addr × Obj)) (r : Value) : Prop := ∃ q x y c t1 t2 t3, tl = [(q, ({ cls := .type "tuple", data := .seq #[.str x t1, .str y t2, .int c t3] } : Obj))] ∧ r = .ref q ∧ x.length ≤ 8 ∧ y.length ≤ 8 ∧ costOf x y = c ∧ (c = 1 ∨ c = 2)
theorem PairOut.mk {q x y t1 t2 c t3} (h1 : x.length ≤ 8) (h2 : y.length ≤ 8) (h3 : costOf x y = c) (h4 : c = 1 ∨ c = 2) : PairOut [(q, ({ cls := .type "tuple", data := .seq #[.str x t1, .str y t2, .int c t3] } : Obj))] (.ref q) := ⟨q, x, y, c, t1, t2, t3, rfl, rfl, h1, h2, h3, h4⟩
theorem le8 {x : Str} (h : x.length = 1) : x.length ≤ 8 := by omega
theorem le8u {x y : Str} (h : y.length ≤ 3 * x.length) (h' : x.length = 1) : y.length ≤ 8 := by omega
theorem one_lt {news : List (Addr × Obj)} {d : Addr} {o : Obj} (h : ∀ p ∈ news, p.1 < d) : ∀ q ∈ news, ∀ p ∈ [(d, o)], q.1 < p.1 := fun q hq p hp => by rw [List.mem_singleton.mp hp]; exact h q hq
set_option maxHeartbeats 4000000 in
theorem pair_ctr (w : World) (n : Int) (t : Tok) : Ctr w 100 [.int n t] (fun _ => True) PairOut := by
  k_with_none
  w_top off
  unfold Ctr
  k_fill
  intro p loose mean mg mb dp un gd cn cs ca ccd cl outer A₀ base h₀ L m news s Q E B F X N T hk hpre hd hu hret
  refine wpAny_call ?_
  k_dflt ktr_enter
  k_steps
  · exact hret _ [_] _ _ (by assumption) (by assumption) (one_lt (by assumption)) (PairOut.mk (le8 (by assumption)) (le8u (by assumption) (by assumption)) (pair_costs n).1 (.inl rfl))
  · exact hret _ [_] _ _ (by assumption) (by assumption) (one_lt (by assumption)) (PairOut.mk (le8u (by assumption) (by assumption)) (le8 (by assumption)) (pair_costs n).2.1 (.inl rfl))
  · exact hret _ [_] _ _ (by assumption) (by assumption) (one_lt (by assumption)) (PairOut.mk (le8 (by assumption)) (le8 (by assumption)) (pair_costs n).2.2.1 (.inr rfl))
  · exact hret _ [_] _ _ (by assumption) (by assumption) (one_lt (by assumption)) (PairOut.mk (le8u (by assumption) (by assumption)) (le8 (by assumption)) (pair_costs n).2.2.2 (.inr rfl))
end Mine
end

section
open PySem PySem.W PyProof.Rows
namespace Mine
theorem f3 (a : Int) : 0 ≤ a.fmod 3 ∧ a.fmod 3 < 3 := by
  have h0 := Int.fmod_eq_emod_of_nonneg a (b := 3) (by decide)
  omega
theorem mul3 {x : Str} (h : x.length = 1) : (Txt.mul x 3).length = 3 := by
  have h' : x.cps.size = 1 := h
  unfold Txt.mul
  rw [if_neg (by decide), if_neg (by simp [h])]
  simp [PySem.Str.length, List.replicate, h']
noncomputable def Small (n : Nat) (x : Str) : Prop := x.length ≤ n
theorem small_lit (s : String) : Small (Str.ofString s).length (Str.ofString s) := Nat.le_refl _
theorem small_app {m n : Nat} {a b : Str} (h1 : Small m a) (h2 : Small n b) : Small (m + n) (a ++ b) := by
  show (a.cps ++ b.cps).size ≤ m + n
  rw [Array.size_append]
  exact Nat.add_le_add h1 h2
theorem add_small {prog : Program} {w : World} {A : Around} {E : Value → Shared → Prop} {s : Shared} {m n : Nat} {x y : Str} {t u : Tok} {Q : Value → Shared → Prop} (h1 : Small m x) (h2 : Small n y) (h3 : Nat.ble (m + n) 16777216 = true) (h : ∀ t' tk, Q (.str (x ++ y) t') { s with toks := tk }) :
    wpAny (model prog w) A (binaryOp .Add (.str x t) (.str y u)) Q E s :=
  PyProof.Rows.add_str h (by rw [sizeLine_eq]; exact Nat.le_trans (Nat.add_le_add h1 h2) (Nat.le_of_ble_eq_true h3))
theorem small_dec : ∀ k : Fin 10, (Str.ofString (toString ((k.val : Nat) : Int))).length ≤ 1 ∧ (Txt.mul (Str.ofString "0") (((k.val : Nat) : Int).fmod 3)).length ≤ 2 := by decide +kernel
theorem small_num {k : Int} (h1 : 0 ≤ k) (h2 : k ≤ 9) : Small 1 (Str.ofString (toString k)) ∧ Small 2 (Txt.mul (Str.ofString "0") (k.fmod 3)) := by
  obtain ⟨n, rfl⟩ := Int.eq_ofNat_of_zero_le h1
  exact small_dec ⟨n, by omega⟩
local macro_rules | `(tactic| walk_at "binaryOp Add str str") => `(tactic| (k_here; (with_reducible show wpAny _ _ (binaryOp Operator.Add (Value.str _ _) (Value.str _ _)) _ _ _); k_dflt (refine add_small (by (repeat' (first | (with_reducible assumption) | (with_reducible exact small_lit _) | (with_reducible apply small_app)))) (by (repeat' (first | (with_reducible assumption) | (with_reducible exact small_lit _) | (with_reducible apply small_app)))) (by decide +kernel) ?_); intro t' tk'))
noncomputable def replyOf (mk : Str) (pile take : Int) : Str := Str.ofString "229 Taken (" ++ (mk ++ Str.ofString (toString pile) ++ mk ++ Str.ofString "1" ++ mk ++ Txt.mul (Str.ofString "0") (take.fmod 3) ++ Str.ofString (toString take) ++ mk) ++ Str.ofString ") (" ++ Txt.mul mk 3 ++ Str.ofString "9" ++ mk ++ Str.ofString ")"
set_option maxHeartbeats 4000000 in
theorem reply_ctr (w : World) (mk : Str) (t t1 t2 : Tok) (pile take : Int) (h1 : mk.length = 1) (h2 : 0 ≤ pile) (h3 : pile ≤ 9) (h4 : 0 ≤ take) (h5 : take ≤ 9) : Ctr w 107 [.str mk t, .int pile t1, .int take t2] (fun _ => True) (fun tl r => tl = [] ∧ ∃ t, r = .str (replyOf mk pile take) t) := by
  k_with_none
  w_top off
  unfold Ctr
  k_fill
  intro p loose mean mg mb dp un gd cn cs ca ccd cl outer A₀ base h₀ L m news s Q E B F X N T hk hpre hd hu hret
  refine wpAny_call ?_
  k_dflt ktr_enter
  obtain ⟨hf1, hf2⟩ := f3 take
  have hm3 := mul3 h1
  have hs1 : Small 1 mk := Nat.le_of_eq h1
  have hs3 : Small 3 (Txt.mul mk 3) := Nat.le_of_eq hm3
  obtain ⟨hsp, _⟩ := small_num h2 h3
  obtain ⟨hst, hsz⟩ := small_num h4 h5
  k_steps
  exact hret _ [] _ _ (by assumption) (by assumption) (fun _ _ _ h => nomatch h) ⟨rfl, _, rfl⟩
end Mine
end

section
open PySem PySem.W PyProof.Rows
namespace Mine
local macro_rules | `(tactic| k_mem) => `(tactic| first | exact List.Mem.head _ | ktr_member | (refine' List.mem_cons_of_mem _ ?_; k_mem))
section
variable {prog : Program} {w : World} {A : Around} {E : Value → Shared → Prop} {s : Shared} {h₀ : Heap} {L : Addr} {m : Str → Option Value} {news : List (Addr × Obj)}
theorem applied_two {sl : Addr} {u : Tok} {Q : Int × Int × Nat → Shared → Prop} (hs : s.heap.IsSliceOf sl .none (.int 2 u) .none) (h : Q (0, 1, 2) s) :
    wpAny (model prog w) A (Builtin.Slice.sliceApplied (.ref sl) (pure 3)) Q E s := by
  obtain ⟨os, hos, hcs, hds⟩ := id hs
  unfold Builtin.Slice.sliceApplied Builtin.Slice.sliceFields
  refine wpAny_bind (wpAny_bind (wpAny_field hos hds (x := .none) rfl (wpAny_bind (wpAny_field hos hds (x := .int 2 u) rfl (wpAny_bind (wpAny_field hos hds (x := .none) rfl (wpAny_pure ?_)))))))
  refine wpAny_bind (slicePart_none ?_)
  show wpAny _ _ (if ((1 : Int) == 0) = true then _ else _) _ _ s
  rw [if_neg (by decide)]
  refine wpAny_bind (slicePart_none (wpAny_bind (slicePart_int (wpAny_bind (wpAny_pure ?_)))))
  exact wpAny_pure h
theorem get_two {t sl : Addr} {a b c : Value} {u : Tok} {Q : Value → Shared → Prop} (ht : IsTup s.heap t #[a, b, c]) (hs : s.heap.IsSliceOf sl .none (.int 2 u) .none)
    (h : Q (.ref s.heap.objs.size) { s with heap := s.heap.push { cls := .type "tuple", data := .seq #[a, b] } }) : wpAny (model prog w) A (getItem (.ref t) (.ref sl)) Q E s := by
  obtain ⟨os, hos, hcs, hds⟩ := id hs
  have hTs : s.TypeIs (.ref sl) "slice" := ⟨os, hos, hcs⟩
  unfold getItem
  try with_reducible refine wpAny_holding ?_
  first | refine wpAny_bind (wpAny_pure ?_) | skip
  refine wpAny_bind (wpAny_sequenceKey ht.typeIs (by decide) ?_)
  refine wpAny_bind (wpAny_callSpecial?_slot (name := Str.ofString "__getitem__") ht.typeIs slot_tuple_getitem
    (wpAny_call_entry slot_tuple_getitem ht.typeIs entry_tuple_getitem ?_ (args_tuple_getitem _ _)))
  show wpAny _ _ (Builtin.Tuple.tupleItemsOf (.ref t) >>= _) _ _ s
  refine wpAny_bind (tupleItemsOf_ ht ?_)
  refine wpAny_bind (wpAny_typeOf hTs ?_)
  rw [if_pos (by decide)]
  refine wpAny_bind (applied_two hs ?_)
  have hdrop : sizeOk (.seq #[a, b]) := by
    show 2 ≤ sizeLine
    decide
  first
    | exact wpAny_bind (m := Builtin.Tuple.tupleExact _) (wpAny_newObj_type (wpAny_pure ⟨_, rfl, wpAny_pure h⟩) hdrop)
    | exact wpAny_bind (m := Builtin.Tuple.tupleExact _) (wpAny_newObj_type (wpAny_bind (wpAny_pure (wpAny_pure ⟨_, rfl, wpAny_pure h⟩))) hdrop)
    | exact wpAny_bind (wpAny_bind (m := Builtin.Tuple.tupleExact _) (wpAny_newObj_type (wpAny_pure (wpAny_pure ⟨_, rfl, wpAny_pure h⟩)) hdrop))
    | exact wpAny_bind (wpAny_bind (m := Builtin.Tuple.tupleExact _) (wpAny_newObj_type (wpAny_pure ⟨_, rfl, wpAny_pure h⟩) hdrop))
theorem slice_two {value slice : Expr} {t : Addr} {a b c : Value} {u : Tok} {Q : Value → Shared → Prop}
    (F : Fr h₀ L s.heap m) (N : News h₀ L s.heap news) (ht : IsTup s.heap t #[a, b, c])
    (h : ∀ D h', Fr h₀ L h' m → News h₀ L h' ((D, { cls := .type "tuple", data := .seq #[a, b] }) :: news) → (∀ p ∈ news, p.1 < D) → Q (.ref D) { s with heap := h' })
    (hs : subscripted slice false (.ref t) (.ref s.heap.objs.size) = operate [.ref s.heap.objs.size, .ref t] (getItem (.ref t) (.ref s.heap.objs.size)))
    (hg : ∀ r, letTemporaryGo value (.ref t) r = pure ()) :
    wpAny (model prog w) A (subscriptTail value slice (.ref t) (.ref s.heap.objs.size)) Q E { s with heap := s.heap.push { cls := .type "slice", data := .fields #[.none, .int 2 u, .none] } } := by
  have ht' : IsTup (s.heap.push { cls := .type "slice", data := .fields #[.none, .int 2 u, .none] }) t #[a, b, c] := ht.keeps fun _ _ e => Heap.get?_push_of_some _ e
  refine subscriptTail_ops (s := { s with heap := s.heap.push { cls := .type "slice", data := .fields #[.none, .int 2 u, .none] } }) ht'.typeIs slot_tuple_getitem.lookup
    (get_two ht' (Heap.IsSliceOf.new ..) ?_) hs hg
  have N1 := News.push (F.push { cls := .type "slice", data := .fields #[.none, .int 2 u, .none] }) (N.grown fun _ _ e => Heap.get?_push_of_some _ e) { cls := .type "tuple", data := .seq #[a, b] }
  rw [Heap.size_push] at N1
  show Q (.ref (s.heap.push _).objs.size) _
  rw [Heap.size_push]
  exact h _ _ ((F.push _).push _) N1 fun p hp => Nat.lt_succ_of_lt (Heap.lt_size (N p hp).1)
theorem News.mono_tail {a b : Addr × Obj} {h : Heap} (N : News h₀ L h (a :: b :: news)) : News h₀ L h news := fun p hp => N p (.tail _ (.tail _ hp))
theorem two_ne {a b : Addr} {x : Str} {t1 t2 t3 t4 : Tok} {take : Int} {Q : Value → Shared → Prop} (N : News h₀ L s.heap news) (ma : (a, ({ cls := .type "tuple", data := .seq #[.str x t1, .int take t2] } : Obj)) ∈ news)
    (mb : (b, ({ cls := .type "tuple", data := .seq #[.str (Str.ofString "~") t3, .int 0 t4] } : Obj)) ∈ news) (hx : PyData.strOk x = true) (ht : 1 ≤ take) (hu : A.units + 64 < cLine) (h : Q (.bool false) s) : wpAny (model prog w) A (compareOp .Eq (.ref a) (.ref b)) Q E s := by
  have ra : Reads s.heap (.ref a) (.tuple [.str x, .int take]) _ := reads_tuple_at (N.get ma) rfl rfl (.cons (.str _ _) (.cons (.int _ _) .nil))
  have rb : Reads s.heap (.ref b) (.tuple [.str (Str.ofString "~"), .int 0]) _ := reads_tuple_at (N.get mb) rfl rfl (.cons (.str _ _) (.cons (.int _ _) .nil))
  refine eq_dataH ra rb ?_ ?_ hu ?_
  · simp [SeqAt.shaped, PyData.canLay0, PyData.canLayAll0, PyData.depth, PyData.depthAll, hx]
  · decide +kernel
  · have e : (take == 0) = false := beq_eq_false_iff_ne.mpr (by omega)
    have e2 : PyData.eqv (.tuple [.str x, .int take]) (.tuple [.str (Str.ofString "~"), .int 0]) = false := by
      simp [PyData.eqv, PyData.eqvAll, e]
    rw [e2]; exact h
end
set_option maxHeartbeats 4000000 in
theorem fstd_ctr (w : World) (x y : Str) (q : Addr) (t1 t2 t3 : Tok) (take : Int) (h1 : x.length ≤ 20) (hs : PyData.strOk x = true) (h2 : y.length ≤ 20) (h4 : 1 ≤ take) (h5 : take ≤ 9) : Ctr w 21 [.ref q] (fun news => (q, ({ cls := .type "tuple", data := .seq #[.str x t1, .int take t2, .str y t3] } : Obj)) ∈ news) (fun tl r => tl = [] ∧ ∃ t, r = .str (x ++ Str.ofString ":" ++ Str.ofString (toString take) ++ Str.ofString "(" ++ y ++ Str.ofString ")") t) := by
  k_with_none
  w_top off
  unfold Ctr
  k_fill
  intro p loose mean mg mb dp un gd cn cs ca ccd cl outer A₀ base h₀ L m news s Q E B F X N T hk hpre hd hu hret
  replace hpre : (q, ({ cls := .type "tuple", data := .seq #[.str x t1, .int take t2, .str y t3] } : Obj)) ∈ news := hpre
  refine wpAny_call ?_
  k_dflt ktr_enter
  k_steps
  k_dflt (refine' slice_two ?F ?N ?t ?_ ?s ?g; (case F => k_asm); (case N => k_asm); (case t => exact News.isTup (by k_asm) hpre); (case s => with_unfolding_all rfl); (case g => intro _; with_unfolding_all rfl))
  intro D' h' F' N' l1
  k_steps
  refine two_ne (by assumption) (.tail _ (.head _)) (.head _) hs h4 ?_ ?_
  · ktr_units
  k_steps
  exact hret _ [] _ _ (by assumption) (News.mono_tail (by assumption)) (fun _ _ _ h => nomatch h) ⟨rfl, _, rfl⟩
end Mine
end

section
open PySem PySem.W PyProof.Rows
namespace Mine
local macro_rules | `(tactic| k_mem) => `(tactic| first | exact List.Mem.head _ | ktr_member | (refine' List.mem_cons_of_mem _ ?_; k_mem))
theorem drop1 {h₀ h : Heap} {L : Addr} {a : Addr × Obj} {news : List (Addr × Obj)} (N : News h₀ L h (a :: news)) : News h₀ L h news := fun p hp => N p (.tail _ hp)
theorem drop2 {h₀ h : Heap} {L : Addr} {a b : Addr × Obj} {news : List (Addr × Obj)} (N : News h₀ L h (a :: b :: news)) : News h₀ L h ([a] ++ news) := fun p hp => (List.mem_cons.mp hp).elim (fun e => N p (e ▸ .head _)) fun e => N p (.tail _ (.tail _ e))
theorem one_lt2 {news : List (Addr × Obj)} {b d : Addr} {o : Obj} (h : b < d ∧ AllLt d news) : ∀ q ∈ news, ∀ p ∈ [(d, o)], q.1 < p.1 := fun q hq p hp => by rw [List.mem_singleton.mp hp]; exact ktn_ltOf h.2 q hq
theorem len5 {l : List (Str × Tok)} {z : List Str} {a0 a1 a2 a3 a4 : Str} (h : l.map (fun x => x.1) = z) (hz : z = [a0, a1, a2, a3, a4]) (hn : (l.length : Int) ≠ 5) : False := by
  have e := congrArg List.length (h.trans hz)
  rw [List.length_map] at e
  exact hn (by rw [e]; rfl)
theorem third {l : List (Str × Tok)} {z : List Str} {a0 a1 a2 a3 a4 b : Str} (h : l.map (fun x => x.1) = z) (hz : z = [a0, a1, a2, a3, a4]) (h3 : (l.map (fun x => x.1))[Int.toNat 3]? = some b) : a3 = b := by
  rw [h.trans hz] at h3
  exact Option.some.inj h3
noncomputable def PairTup (host : Str) (take : Int) (tl : List (Addr × Obj)) (r : Value) : Prop := ∃ q t1 t2, tl = [(q, ({ cls := .type "tuple", data := .seq #[.str host t1, .int take t2] } : Obj))] ∧ r = .ref q
set_option maxHeartbeats 4000000 in
theorem parse_ctr (w : World) (x y : Str) (q : Addr) (t1 t2 t3 : Tok) (u take : Int) (n : Nat) (hx : x.length = n) (hn : n ≤ 60) (R : Int) (h3 : Txt.slice x none (some 3) = Str.ofString "229")
  (hL : Txt.find x (Str.ofString "(") = 10) (hR : Txt.find3 x (Str.ofString ")") (Txt.find x (Str.ofString "(") + 1) = R) (hR1 : 12 < R) (hR2 : R < n) (hM : Txt.item x (Txt.find x (Str.ofString "(") + 1) = Txt.item x (Txt.find3 x (Str.ofString ")") (Txt.find x (Str.ofString "(") + 1) - 1))
   (a0 a1 a2 a3 a4 : Str) (hS : Txt.split (Txt.slice x (some (Txt.find x (Str.ofString "(") + 1)) (some (Txt.find3 x (Str.ofString ")") (Txt.find x (Str.ofString "(") + 1)))) (Txt.item x (Txt.find x (Str.ofString "(") + 1)) = [a0, a1, a2, a3, a4])
   (h1 : y.length ≤ 20) (hT : PySem.intText? a3 = some take) (ha3 : a3.length ≤ 640) : Ctr w 79 [.str x t1, .ref q] (fun news => (q, ({ cls := .type "tuple", data := .seq #[.str y t2, .int u t3] } : Obj)) ∈ news) (PairTup y take) := by
  k_with_none
  w_top off
  unfold Ctr
  k_fill
  intro p loose mean mg mb dp un gd cn cs ca ccd cl outer A₀ base h₀ L m news s Q E B F X N T hk hpre hd hu hret
  replace hpre : (q, ({ cls := .type "tuple", data := .seq #[.str y t2, .int u t3] } : Obj)) ∈ news := hpre
  refine wpAny_call ?_
  k_dflt ktr_enter
  k_steps
  · exfalso
    rename_i h _ _ _ _ _ _ _
    rw [h3] at h
    exact absurd h (by decide)
  · exfalso
    simp only [hM, bne_self_eq_false, Bool.false_eq_true] at *
  · exact (len5 (by assumption) hS (by assumption)).elim
  · have e := third (by assumption) hS (by assumption)
    subst e
    refine KIN.call_text hT ha3 ?_
    k_steps
    exact hret _ [_] _ _ (by assumption) (drop2 (by assumption)) (one_lt2 (by assumption)) ⟨_, _, _, rfl, rfl⟩
end Mine
end

section
open PySem PySem.W PyProof.Rows
namespace Mine
local macro_rules | `(tactic| k_mem) => `(tactic| first | exact List.Mem.head _ | ktr_member | (refine' List.mem_cons_of_mem _ ?_; k_mem))
section
variable {x : Str} {take l k r n aa k0 : Int}
theorem st0 (hA : Txt.item x aa ≠ Str.ofString " ") (h1 : 0 ≤ l) (h2 : l ≤ aa) (h3 : k = take - l) (h4 : 0 ≤ k) (h5 : k ≠ 0) (h6 : (Txt.item x l == Str.ofString " ") = true) :
    0 ≤ l + 1 ∧ l + 1 ≤ aa ∧ k - 1 = take - (l + 1) ∧ 0 ≤ k - 1 := by
  have : l ≠ aa := fun e => hA (by rw [← e]; exact eq_of_beq h6)
  omega
theorem at_aa (hB : ∀ i : Int, 0 ≤ i → i < n → i ≠ aa → Txt.item x i = Str.ofString " ") (h1 : 0 ≤ l) (hl : l < n) (h6 : (Txt.item x l == Str.ofString " ") = false) : l = aa := by
  by_cases e : l = aa
  · exact e
  · rw [hB l h1 hl e] at h6; simp at h6
noncomputable def D2 (take aa n r k : Int) : Prop := 0 ≤ k ∧ ((take ≤ aa ∧ k = 0 ∧ r = n - 1) ∨ (aa < take ∧ k ≤ take - aa ∧ r = n - 1 - (take - aa - k)))
abbrev P2 (take aa n r k : Int) : Prop := 0 ≤ k ∧ 0 ≤ r ∧ r < n ∧ D2 take aa n r k
theorem st1 (hB : ∀ i : Int, 0 ≤ i → i < n → i ≠ aa → Txt.item x i = Str.ofString " ") (ha : aa < n) (h3 : k = take - l) (h1 : 0 ≤ l) (h2 : l ≤ aa) (h4 : 0 ≤ k) (_ : k ≠ 0) (h6 : (Txt.item x l == Str.ofString " ") = false) :
    P2 take aa n (n - 1) k := by
  have e := at_aa hB h1 (Int.lt_of_le_of_lt h2 ha) h6
  subst e
  have hn : 0 ≤ n - 1 := Int.sub_nonneg.mpr (Int.le_trans (Int.add_le_add_right h1 1) ha)
  exact ⟨h4, hn, Int.sub_lt_self n (by decide), h4, .inr ⟨by omega, Int.le_of_eq h3, by rw [h3, Int.sub_self, Int.sub_zero]⟩⟩
theorem st2 (h3 : k = take - l) (_ : 0 ≤ l) (h2 : l ≤ aa) (h5 : k = 0) (ha : aa < n) : P2 take aa n (n - 1) k := by
  rename 0 ≤ l => h0
  have hn : 0 ≤ n - 1 := Int.sub_nonneg.mpr (Int.le_trans (Int.add_le_add_right (Int.le_trans h0 h2) 1) ha)
  have hk : 0 ≤ k := Int.le_of_eq h5.symm
  have ht : take ≤ aa := by rw [h5] at h3; exact Int.le_trans (Int.le_of_eq (Int.sub_eq_zero.mp h3.symm)) h2
  exact ⟨hk, hn, Int.sub_lt_self n (by decide), hk, .inl ⟨ht, h5, rfl⟩⟩
theorem st3 (h : D2 take aa n r k) (h5 : k ≠ 0) (ha : aa < n) (ha0 : 0 ≤ aa) (ht : take < n) : P2 take aa n (r - 1) (k - 1) := by
  obtain ⟨h0, ⟨_, h1, _⟩ | ⟨h1, h2, h3⟩⟩ := h
  · exact absurd h1 h5
  · have q1 : 0 ≤ k - 1 := by omega
    have q2 : r - 1 = n - 1 - (take - aa - (k - 1)) := by rw [h3]; omega
    have q3 : 0 ≤ r - 1 := by omega
    have q4 : r - 1 < n := by clear q2 q3; omega
    exact ⟨q1, q3, q4, q1, .inr ⟨h1, by omega, q2⟩⟩
noncomputable def loOf (take aa : Int) : Int := if take ≤ aa then take else aa
noncomputable def hiOf (take aa n : Int) : Int := if take ≤ aa then n else n - (take - aa)
theorem fin1 (hB : ∀ i : Int, 0 ≤ i → i < n → i ≠ aa → Txt.item x i = Str.ofString " ") (ha : aa < n) (h3 : k0 = take - l) (h1 : 0 ≤ l) (h2 : l ≤ aa) (_ : k0 ≠ 0) (h6 : (Txt.item x l == Str.ofString " ") = false) (hp : 0 ≤ k0)
    (h : D2 take aa n r k) (hk : k = 0) : Txt.slice x (some l) (some (r + 1)) = Txt.slice x (some (loOf take aa)) (some (hiOf take aa n)) := by
  have e := at_aa hB h1 (Int.lt_of_le_of_lt h2 ha) h6
  subst e
  obtain ⟨_, ⟨_, _, _⟩ | ⟨h7, _, h8⟩⟩ := h
  · rename take ≤ l => h7
    exact absurd (Int.le_antisymm (by rw [h3]; exact Int.sub_nonpos_of_le h7) hp) (by assumption)
  · have ht := Int.not_le.mpr h7
    have e2 : r + 1 = n - (take - l) := by rw [h8, hk]; clear h3 h6 hB; omega
    unfold loOf hiOf
    rw [if_neg ht, if_neg ht, e2]
theorem fin2 (h3 : k0 = take - l) (_ : 0 ≤ l) (h2 : l ≤ aa) (h5 : k0 = 0)
    (h : D2 take aa n r k) (_ : k = 0) : Txt.slice x (some l) (some (r + 1)) = Txt.slice x (some (loOf take aa)) (some (hiOf take aa n)) := by
  have ht : take = l := Int.sub_eq_zero.mp (h3.symm.trans h5)
  subst ht
  obtain ⟨_, ⟨_, _, h8⟩ | ⟨h7, _, _⟩⟩ := h
  · have e2 : r + 1 = n := by rw [h8]; exact Int.sub_add_cancel n 1
    unfold loOf hiOf
    rw [if_pos h2, if_pos h2, e2]
  · exact absurd h2 (Int.not_le.mpr h7)
theorem no3 (hB : ∀ i : Int, 0 ≤ i → i < n → i ≠ aa → Txt.item x i = Str.ofString " ") (ht : take < n) (ha : 0 ≤ aa) (h : D2 take aa n r k) (hk : k ≠ 0) (h6 : (Txt.item x r == Str.ofString " ") = false) : False := by
  unfold D2 at h
  rw [hB r (by omega) (by omega) (by omega)] at h6
  simp at h6
end
set_option maxHeartbeats 4000000 in
theorem strip_ctr (w : World) (x : Str) (t1 t2 : Tok) (take : Int) (aa n : Int) (hx : (x.length : Int) = n) (hn : n ≤ 20) (h4 : 0 ≤ take) (h5 : take < n) (ha0 : 0 ≤ aa) (ha : aa < n) (hA : Txt.item x aa ≠ Str.ofString " ") (hB : ∀ i : Int, 0 ≤ i → i < n → i ≠ aa → Txt.item x i = Str.ofString " ") :
    Ctr w 86 [.str x t1, .int take t2] (fun _ => True) (fun tl r => tl = [] ∧ ∃ t, r = .str (Txt.slice x (some (loOf take aa)) (some (hiOf take aa n))) t) := by
  k_with_none
  w_top off
  unfold Ctr
  k_fill
  intro p loose mean mg mb dp un gd cn cs ca ccd cl outer A₀ base h₀ L m news s Q E B F X N T hk hpre hd hu hret
  refine wpAny_call ?_
  k_dflt ktr_enter
  k_with "exec While BoolOp cons nil" => k_while (fun _ l k => 0 ≤ l ∧ l ≤ aa ∧ k = take - l ∧ 0 ≤ k) (fun _ _ k => k.toNat) "lpos" "amount"
  k_with "exec While BoolOp cons nil" => k_while (fun _ r k => P2 take aa n r k) (fun _ _ k => k.toNat) "rpos" "amount"
  k_with "state" => first | exact st0 hA (by assumption) (by assumption) (by assumption) (by assumption) (by assumption) (by assumption) | exact st3 (by assumption) (by assumption) ha ha0 h5 | (simp only [hx]; exact st1 hB ha (by assumption) (by assumption) (by assumption) (by assumption) (by assumption) (by assumption)) | (simp only [hx]; exact st2 (by assumption) (by assumption) (by assumption) (by assumption) ha)
  k_steps
  · exact (no3 hB h5 ha0 (by assumption) (by assumption) (by assumption)).elim
  · exact hret _ [] _ _ (by assumption) (by assumption) (fun _ _ _ h => nomatch h) ⟨rfl, _, by rw [fin1 hB ha (by assumption) (by assumption) (by assumption) (by assumption) (by assumption) (by assumption) (by assumption) (by assumption)]⟩
  · exact (no3 hB h5 ha0 (by assumption) (by assumption) (by assumption)).elim
  · exact hret _ [] _ _ (by assumption) (by assumption) (fun _ _ _ h => nomatch h) ⟨rfl, _, by rw [fin2 (by assumption) (by assumption) (by assumption) (by assumption) (by assumption) (by assumption)]⟩
end Mine
end

section
open PySem PySem.W PyProof.Rows
namespace Mine
local macro_rules | `(tactic| k_mem) => `(tactic| first | exact List.Mem.head _ | ktr_member | (refine' List.mem_cons_of_mem _ ?_; k_mem))
set_option maxHeartbeats 4000000 in
theorem fover_ctr (w : World) (q : Addr) (t1 t2 t3 : Tok) : Ctr w 21 [.ref q] (fun news => (q, ({ cls := .type "tuple", data := .seq #[.str (Str.ofString "~") t1, .int 0 t2, .str (Str.ofString "<over>") t3] } : Obj)) ∈ news) (fun tl r => tl = [] ∧ ∃ t, r = .str (Str.ofString "{over}") t) := by
  k_with_none
  w_top off
  unfold Ctr
  k_fill
  intro p loose mean mg mb dp un gd cn cs ca ccd cl outer A₀ base h₀ L m news s Q E B F X N T hk hpre hd hu hret
  replace hpre : (q, ({ cls := .type "tuple", data := .seq #[.str (Str.ofString "~") t1, .int 0 t2, .str (Str.ofString "<over>") t3] } : Obj)) ∈ news := hpre
  refine wpAny_call ?_
  k_dflt ktr_enter
  k_steps
  k_dflt (refine' slice_two ?F ?N ?t ?_ ?s ?g; (case F => k_asm); (case N => k_asm); (case t => exact News.isTup (by k_asm) hpre); (case s => with_unfolding_all rfl); (case g => intro _; with_unfolding_all rfl))
  intro D' h' F' N' l1
  k_steps
  exact hret _ [] _ _ (by assumption) (News.mono_tail (by assumption)) (fun _ _ _ h => nomatch h) ⟨rfl, _, rfl⟩
end Mine
end

section
open PySem PySem.W PyProof.Rows PyProof.V PySem.Spec
namespace Mine
/-- a word at which the walk stands still: stop_here lays it, go_on takes it off -/
structure Still (p : Prop) : Prop where
  on : p
theorem stop_here {p : Prop} (h : Still p) : p := h.on
theorem go_on {p : Prop} (h : p) : Still p := ⟨h⟩
section
variable {prog : Program} {w : World} {A : Around} {E : Value → Shared → Prop} {s : Shared} {env : Env} {h₀ : Heap} {x : Str} {body : List Stmt} {Q : Flow → Shared → Prop}
/-- a for whose iterator I reads some made objects of the ledger (held) and writes itself alone -/
theorem loop_held {I : Addr} {held : List (Addr × Obj)} {n : Nat} {P : Nat → Value → Prop} {St : Nat → Heap → Prop} {m₀ : Str → Option Value} {news : List (Addr × Obj)} (J : Nat → (Str → Option Value) → List (Addr × Obj) → Prop)
    (W : Walks prog w A I (I :: held.map (·.1)) [I] n P St) (hI : ∀ i h, St i h → ∃ o, h.get? I = some o) (hL : ∀ q ∈ held, q.1 ≠ env.locals) (hIL : I ≠ env.locals) (hI0 : h₀.get? I = none) (hIn : ∀ p ∈ news, p.1 ≠ I) (hst : St 0 s.heap)
    (F : Fr h₀ env.locals s.heap m₀) (N : News h₀ env.locals s.heap news) (hj : J 0 m₀ news) (hh : ∀ i m nx, J i m nx → ∀ q ∈ held, q ∈ nx)
    (turn : ∀ i v m₁ nx h tk own, i < n → P i v → own ≠ [] → OwnOff own (nx.map (·.1)) → J i m₁ nx → Fr h₀ env.locals h (fun y => if y = x then some v else m₁ y) → News h₀ env.locals h (nx ++ own) →
      wpAny (model prog w) A (execs body env) (InvPostG h₀ env.locals (J (i + 1)) own { s with heap := h, toks := tk } Q) E { s with heap := h, toks := tk })
    (done : ∀ m₁ nx h tk, J n m₁ nx → Fr h₀ env.locals h m₁ → News h₀ env.locals h nx → Q .next { s with heap := h, toks := tk }) :
    LoopAtV prog w A h₀ env x body Q E (.ref I) s := by
  refine ⟨I, _, _, n, P, St, m₀, news, J, rfl, W, ?_, ?_, ?_, hst, F, N, hj, ?_, ?_⟩
  · intro hm
    rcases List.mem_cons.mp hm with e | e
    · exact hIL e.symm
    · obtain ⟨q, hq, e⟩ := List.mem_map.mp e
      exact hL q hq e
  · intro b hb
    rw [List.mem_singleton.mp hb]; exact hI0
  · intro p hp hb
    exact hIn p hp (List.mem_singleton.mp hb)
  · rintro i v m₁ nx s₁ own ⟨hh', tk', rfl⟩ hin hP hJ hoff hown hget hall hst₁ F₁ N₁
    obtain ⟨oI, hoI⟩ := hI _ _ hst₁
    have hIm : (I, oI) ∈ own.filter fun p => decide (p.1 = I) := List.mem_filter.mpr ⟨hall _ (.head _) hI0 _ hoI, by simp⟩
    have hsep : OwnOff (own.filter fun p => decide (p.1 = I)) (nx.map (·.1)) := by
      intro p hp b hb e
      obtain ⟨q, hq, rfl⟩ := List.mem_map.mp hb
      have h1 : p.1 = I := by simpa using (List.mem_filter.mp hp).2
      exact hoff q hq (List.mem_singleton.mpr (e ▸ h1))
    have N₂ : News h₀ env.locals hh' (nx ++ own.filter fun p => decide (p.1 = I)) := fun p hp => N₁ p ((List.mem_append.mp hp).elim (fun h => List.mem_append.mpr (.inr h)) fun h => List.mem_append.mpr (.inl (List.mem_filter.mp h).1))
    refine wpAny_mono (turn i v m₁ nx hh' tk' _ hin hP (List.ne_nil_of_mem hIm) hsep hJ F₁ N₂) (fun f s₂ p => ?_) fun _ _ e => e
    have fin : InvEndG h₀ env.locals (J (i + 1)) (own.filter fun p => decide (p.1 = I)) { s with heap := hh', toks := tk' } s₂ → LoopStepU h₀ env.locals [I] own (J (i + 1)) { s with heap := hh', toks := tk' } .next s₂ := by
      rintro ⟨h', tk, m', news', nx', e, F', N', hn, ho, ha, hm⟩
      refine ⟨rfl, h', tk, m', nx', e, F', fun p hp => ?_, fun p hp hq => ?_, hm⟩
      · rcases List.mem_append.mp hp with h | h
        · by_cases hI : p.1 = I
          · exact N' p (ho p (List.mem_filter.mpr ⟨h, by simpa using hI⟩))
          · rcases List.mem_cons.mp (hown p h) with h2 | h2
            · exact absurd h2 hI
            · obtain ⟨q, hq, e2⟩ := List.mem_map.mp h2
              have h3 := (N₁ q (List.mem_append.mpr (.inr (hh _ _ _ hJ q hq)))).1
              have h4 : hh'.get? p.1 = some p.2 := hget p h
              have h3' : hh'.get? p.1 = some q.2 := by rw [← e2]; exact h3
              rw [h4] at h3'
              have h5 : p = q := Prod.ext e2.symm (Option.some.inj h3')
              rw [h5]
              exact N' q (hn q (hh _ _ _ hm q hq))
        · exact N' p (hn p h)
      · exact ha _ hIm p.1 (List.mem_map.mpr ⟨p, hp, rfl⟩) (List.mem_singleton.mp hq).symm
    cases f with
    | ret v => exact .ret p
    | brk => exact .brk p
    | next => exact .next (fin p)
    | cont => exact .cont (fin p)
  · rintro h' tk m' news' F' N' _ hJ
    exact done m' news' h' tk hJ F' N'
theorem mem_ne {news : List (Addr × Obj)} {L : Addr} {h : Heap} (N : News h₀ L h news) : ∀ p ∈ news, p.1 ≠ h.objs.size := fun p hp e => absurd (Heap.lt_size (N p hp).1) (by rw [e]; exact Nat.lt_irrefl _)
/-- for v in d.values(), the view in hand -/
theorem for_values {K : Type} [DecidableEq K] {knd : KeyKind prog w K} {vw d : Addr} {o : Obj} {kvs : List (K × Value)} {m₀ : Str → Option Value} {news : List (Addr × Obj)} (J : Nat → (Str → Option Value) → List (Addr × Obj) → Prop)
    (hh : A.handled = none) (hv : (vw, ({ cls := .type "dict_values", data := .fields #[.ref d] } : Obj)) ∈ news) (hd : (d, o) ∈ news) (ho : o.IsDictOf knd kvs) (F : Fr h₀ env.locals s.heap m₀) (N : News h₀ env.locals s.heap news) (hj : J 0 m₀ news)
    (hk : ∀ i m nx, J i m nx → (d, o) ∈ nx)
    (turn : ∀ i k v m₁ nx h tk own, kvs[i]? = some (k, v) → own ≠ [] → OwnOff own (nx.map (·.1)) → J i m₁ nx → Fr h₀ env.locals h (fun y => if y = x then some v else m₁ y) → News h₀ env.locals h (nx ++ own) →
      wpAny (model prog w) A (execs body env) (InvPostG h₀ env.locals (J (i + 1)) own { s with heap := h, toks := tk } Q) E { s with heap := h, toks := tk })
    (done : ∀ m₁ nx h tk, J kvs.length m₁ nx → Fr h₀ env.locals h m₁ → News h₀ env.locals h nx → Q .next { s with heap := h, toks := tk }) :
    wpAny (model prog w) A (pyIter (.ref vw)) (fun it s₂ => LoopAtV prog w A h₀ env x body Q E it s₂) E s := by
  obtain ⟨ep, hat⟩ := (Heap.dictOf_iff.mpr ⟨o, (N _ hd).1, ho⟩).dictAt
  refine wpAny_pyIter_values ⟨_, (N _ hv).1, rfl, rfl⟩ hat ?_
  have hne : d ≠ s.heap.objs.size := mem_ne N _ hd
  have W := Walks.dictValues (prog := prog) (w := w) (A := A) (knd := knd) hh s.heap.objs.size d hne kvs ep
  refine loop_held (held := [(d, o)]) J W (fun i h st => let ⟨o, ho, _⟩ := st.1; ⟨o, ho⟩) ?_ ?_ (next_is_new F) (mem_ne N) ⟨⟨_, Heap.get?_push_size _ rfl, rfl, rfl⟩, hat.push _⟩ (F.push _) (fun p hp => ⟨Heap.get?_push_of_some _ (N p hp).1, (N p hp).2⟩) hj ?_ ?_ done
  · intro q hq; rw [List.mem_singleton.mp hq]; exact (N _ hd).2.1
  · intro e; exact absurd F.ns.lt (e ▸ Nat.lt_irrefl _)
  · intro i m nx hJ q hq; rw [List.mem_singleton.mp hq]; exact hk i m nx hJ
  · rintro i v m₁ nx h tk own hi ⟨k, hx⟩ h1 h2 h3 F₁ N₁
    exact turn i k v m₁ nx h tk own hx h1 h2 h3 F₁ N₁
/-- for v in range(..), the range in hand -/
theorem for_range {r : Addr} {a₀ b₀ : Int} {t₀ u₀ v₀ : Tok} {n : Nat} {m₀ : Str → Option Value} {news : List (Addr × Obj)} (J : Nat → (Str → Option Value) → List (Addr × Obj) → Prop)
    (hh : A.handled = none) (hr : IsRange s.heap r a₀ b₀ 1 t₀ u₀ v₀) (hsmall : Builtin.Range.small a₀ b₀ 1 = true) (hn : Builtin.Range.rangeSize a₀ b₀ 1 = (n : Int)) (F : Fr h₀ env.locals s.heap m₀) (N : News h₀ env.locals s.heap news) (hj : J 0 m₀ news)
    (turn : ∀ i t m₁ nx h tk own, i < n → own ≠ [] → OwnOff own (nx.map (·.1)) → J i m₁ nx → Fr h₀ env.locals h (fun y => if y = x then some (.int (a₀ + (i : Int)) t) else m₁ y) → News h₀ env.locals h (nx ++ own) →
      wpAny (model prog w) A (execs body env) (InvPostG h₀ env.locals (J (i + 1)) own { s with heap := h, toks := tk } Q) E { s with heap := h, toks := tk })
    (done : ∀ m₁ nx h tk, J n m₁ nx → Fr h₀ env.locals h m₁ → News h₀ env.locals h nx → Q .next { s with heap := h, toks := tk }) :
    wpAny (model prog w) A (pyIter (.ref r)) (fun it s₂ => LoopAtV prog w A h₀ env x body Q E it s₂) E s := by
  refine wpAny_pyIter_range hr hsmall ?_
  have W : Walks prog w A s.heap.objs.size [s.heap.objs.size] [s.heap.objs.size] n (fun i v => i < n ∧ ∃ t, v = .int (a₀ + i * 1) t)
      (fun i h => IsRangeIter h s.heap.objs.size (a₀ + (i : Nat) * 1) ((n : Int) - (i : Nat)) 1) := (Walks.range hh _ a₀ 1 n).bound
  refine loop_held (held := []) J W (fun i h st => ⟨_, st⟩) (fun _ h => nomatch h) ?_ (next_is_new F) (mem_ne N) (by show IsRangeIter _ _ _ _ _; rw [hn]; simpa using Heap.get?_push_size _ rfl) (F.push _) (fun p hp => ⟨Heap.get?_push_of_some _ (N p hp).1, (N p hp).2⟩) hj (fun _ _ _ _ _ h => nomatch h) ?_ done
  · intro e; exact absurd F.ns.lt (e ▸ Nat.lt_irrefl _)
  · rintro i v m₁ nx h tk own hi ⟨_, t, rfl⟩ h1 h2 h3 F₁ N₁
    have e1 : a₀ + (i : Int) * 1 = a₀ + (i : Int) := by omega
    rw [e1] at F₁
    exact turn i t m₁ nx h tk own hi h1 h2 h3 F₁ N₁
theorem endG {L : Addr} {J : (Str → Option Value) → List (Addr × Obj) → Prop} {m' : Str → Option Value} {own news' : List (Addr × Obj)} {s₁ : Shared} {h' : Heap} {tk : Nat} (nx : List (Addr × Obj)) (F : Fr h₀ L h' m') (N : News h₀ L h' news')
    (hn : ∀ p ∈ nx, p ∈ news') (ho : ∀ p ∈ own, p ∈ news') (ha : OwnOff own (nx.map (·.1))) (hj : J m' nx) : InvEndG h₀ L J own s₁ { s₁ with heap := h', toks := tk } := ⟨h', tk, m', news', nx, rfl, F, N, hn, ho, ha, hj⟩
/-- what stands at the start of turn i: some c, its ledger, its names, its word -/
noncomputable def St {σ : Type} (Led : σ → List (Addr × Obj)) (ps : σ → List (Str × Value)) (stored : List Str) (x : Str) (m₀ : Str → Option Value) (P : Nat → σ → Prop) (i : Nat) (m : Str → Option Value) (nx : List (Addr × Obj)) : Prop :=
  ∃ c : σ, nx = Led c ∧ P i c ∧ (∀ p ∈ ps c, m p.1 = some p.2) ∧ (∀ z, z ≠ x → (∀ p ∈ ps c, z ≠ p.1) → stored.contains z = false → m z = m₀ z)
theorem st_end {σ : Type} {Led : σ → List (Addr × Obj)} {ps : σ → List (Str × Value)} {stored : List Str} {m₀ m' : Str → Option Value} {P : Nat → σ → Prop} {i : Nat} (c : σ) {L : Addr} {own news' : List (Addr × Obj)} {s₁ : Shared} {h' : Heap} {tk : Nat}
    (F : Fr h₀ L h' m') (N : News h₀ L h' news') (hn : ∀ p ∈ Led c, p ∈ news') (ho : ∀ p ∈ own, p ∈ news') (ha : OwnOff own ((Led c).map (·.1))) (hk : ∀ p ∈ ps c, m' p.1 = some p.2)
    (hr : ∀ z, z ≠ x → (∀ p ∈ ps c, z ≠ p.1) → stored.contains z = false → m' z = m₀ z) (hp : P i c) :
    InvEndG h₀ L (St Led ps stored x m₀ P i) own s₁ { s₁ with heap := h', toks := tk } := endG (Led c) F N hn ho ha ⟨c, rfl, hp, hk, hr⟩
theorem values_st {σ : Type} {K : Type} [DecidableEq K] {knd : KeyKind prog w K} {vw d : Addr} {o : Obj} {kvs : List (K × Value)} {m₀ : Str → Option Value} (Led : σ → List (Addr × Obj)) (ps : σ → List (Str × Value)) (stored : List Str) (P : Nat → σ → Prop) (c₀ : σ)
    (hh : A.handled = none) (F : Fr h₀ env.locals s.heap m₀) (N : News h₀ env.locals s.heap (Led c₀)) (hv : (vw, ({ cls := .type "dict_values", data := .fields #[.ref d] } : Obj)) ∈ Led c₀) (hd : ∀ c, (d, o) ∈ Led c) (ho : o.IsDictOf knd kvs) (hk : ∀ p ∈ ps c₀, m₀ p.1 = some p.2) (hp : P 0 c₀)
    (turn : ∀ c i k v (u : Str → Option Value) h tk own, kvs[i]? = some (k, v) → own ≠ [] → OwnOff own ((Led c).map (·.1)) → P i c → Fr h₀ env.locals h (fun y => if y = x then some v else kstB (fun z => if stored.contains z then u z else m₀ z) (ps c) y) → News h₀ env.locals h (Led c ++ own) →
      wpAny (model prog w) A (execs body env) (InvPostG h₀ env.locals (St Led ps stored x m₀ P (i + 1)) own { s with heap := h, toks := tk } Q) E { s with heap := h, toks := tk })
    (done : ∀ c (u : Str → Option Value) h tk, P kvs.length c → Fr h₀ env.locals h (fun y => if y = x then u y else kstB (fun z => if stored.contains z then u z else m₀ z) (ps c) y) → News h₀ env.locals h (Led c) → Q .next { s with heap := h, toks := tk }) :
    wpAny (model prog w) A (pyIter (.ref vw)) (fun it s₂ => LoopAtV prog w A h₀ env x body Q E it s₂) E s := by
  refine for_values (St Led ps stored x m₀ P) hh hv (hd c₀) ho F N ⟨c₀, rfl, hp, hk, fun _ _ _ _ => rfl⟩ ?_ ?_ ?_
  · rintro i m nx ⟨c, rfl, _⟩; exact hd c
  · rintro i k v m₁ nx h tk own hx h1 h2 ⟨c, rfl, hp', h3, h4⟩ F₁ N₁
    exact turn c i k v m₁ h tk own hx h1 h2 hp' (kst_fr h3 h4 F₁) N₁
  · rintro m₁ nx h tk ⟨c, rfl, hp', h3, h4⟩ F₁ N₁
    exact done c m₁ h tk hp' (kst_frOut h3 h4 F₁) N₁
theorem range_st {σ : Type} {r : Addr} {a₀ b₀ : Int} {t₀ u₀ v₀ : Tok} {m₀ : Str → Option Value} (n : Nat) (Led : σ → List (Addr × Obj)) (ps : σ → List (Str × Value)) (stored : List Str) (P : Nat → σ → Prop) (c₀ : σ)
    (hh : A.handled = none) (hr : IsRange s.heap r a₀ b₀ 1 t₀ u₀ v₀) (hsmall : Builtin.Range.small a₀ b₀ 1 = true) (hn : Builtin.Range.rangeSize a₀ b₀ 1 = (n : Int)) (F : Fr h₀ env.locals s.heap m₀) (N : News h₀ env.locals s.heap (Led c₀)) (hk : ∀ p ∈ ps c₀, m₀ p.1 = some p.2) (hp : P 0 c₀)
    (turn : ∀ c i t (u : Str → Option Value) h tk own, i < n → own ≠ [] → OwnOff own ((Led c).map (·.1)) → P i c → Fr h₀ env.locals h (fun y => if y = x then some (.int (a₀ + (i : Int)) t) else kstB (fun z => if stored.contains z then u z else m₀ z) (ps c) y) → News h₀ env.locals h (Led c ++ own) →
      wpAny (model prog w) A (execs body env) (InvPostG h₀ env.locals (St Led ps stored x m₀ P (i + 1)) own { s with heap := h, toks := tk } Q) E { s with heap := h, toks := tk })
    (done : ∀ c (u : Str → Option Value) h tk, P n c → Fr h₀ env.locals h (fun y => if y = x then u y else kstB (fun z => if stored.contains z then u z else m₀ z) (ps c) y) → News h₀ env.locals h (Led c) → Q .next { s with heap := h, toks := tk }) :
    wpAny (model prog w) A (pyIter (.ref r)) (fun it s₂ => LoopAtV prog w A h₀ env x body Q E it s₂) E s := by
  refine for_range (St Led ps stored x m₀ P) hh hr hsmall hn F N ⟨c₀, rfl, hp, hk, fun _ _ _ _ => rfl⟩ ?_ ?_
  · rintro i t m₁ nx h tk own hx h1 h2 ⟨c, rfl, hp', h3, h4⟩ F₁ N₁
    exact turn c i t m₁ h tk own hx h1 h2 hp' (kst_fr h3 h4 F₁) N₁
  · rintro m₁ nx h tk ⟨c, rfl, hp', h3, h4⟩ F₁ N₁
    exact done c m₁ h tk hp' (kst_frOut h3 h4 F₁) N₁
end
end Mine
end

section
open PySem PySem.W PyProof.Rows
namespace Mine
local macro_rules | `(tactic| k_mem) => `(tactic| first | exact List.Mem.head _ | ktr_member | (refine' List.mem_cons_of_mem _ ?_; k_mem))
/-- the ledger bears at d the dict of texts and ints c -/
noncomputable def Book (w : World) (news : List (Addr × Obj)) (d : Addr) (c : List (Str × Int)) : Prop :=
  ∃ o kvs, (d, o) ∈ news ∧ (d == sysModules) = false ∧ o.IsDictOf (strKind PySem.Challenge.rw_xg0014_01.row.prog w) kvs ∧ PyProof.V.FlatPairs PyData.str kvs (kdpD c)
theorem kdp_at {c : List (Str × Int)} {i : Nat} {k : PyData} {dv : PyData} (h : (kdpD c)[i]? = some (k, dv)) : ∃ q, c[i]? = some q ∧ dv = .int q.2 := by
  unfold kdpD at h
  rw [List.getElem?_map] at h
  cases hq : c[i]? with
  | none => rw [hq] at h; cases h
  | some q => rw [hq] at h; cases h; exact ⟨q, rfl, rfl⟩
theorem sum_take {c : List (Str × Int)} {i : Nat} {q : Str × Int} (h : c[i]? = some q) : ((c.take (i + 1)).map (·.2)).sum = ((c.take i).map (·.2)).sum + q.2 := by
  rw [List.take_add_one, h]; simp
set_option maxHeartbeats 4000000 in
theorem count_ctr (w : World) (d : Addr) (c : List (Str × Int)) (hc : c.length ≤ 1000) : Ctr w 35 [.ref d] (fun news => Book w news d c) (fun tl r => tl = [] ∧ ∃ t, r = .int (c.map (·.2)).sum t) := by
  k_with_none
  w_top off
  unfold Ctr
  k_fill
  intro p loose mean mg mb dp un gd cn cs ca ccd cl outer A₀ base h₀ L m news s Q E B F X N T hk hpre hd hu hret
  obtain ⟨o, kvs, hb, hlo, hb2, hb3⟩ := hpre
  refine wpAny_call ?_
  k_dflt ktr_enter
  k_steps
  rename_i D' _ F' N' l1
  refine' values_st (σ := Int × Tok) (fun _ => (D', _) :: news) (fun c => [(Str.ofString "nc", .int c.1 c.2)]) [] (fun i s => s.1 = ((c.take i).map (·.2)).sum) (0, ?tk0) rfl F' N' (.head _) (fun _ => .tail _ hb) hb2 ?hk rfl ?turn ?done
  case hk => kst_all
  case turn =>
    rintro ⟨nc, tnc⟩ i k v u h tk own hx hne hoff hp F' N'
    dsimp only [kstB] at F'
    obtain ⟨dv, hD, hfl⟩ := hb3.at hx
    obtain ⟨q, hq, e⟩ := kdp_at hD
    subst e
    obtain ⟨tq, rfl⟩ := PyProof.V.Flat.int_inv hfl
    try k_fold
    k_steps
    refine' st_end (nc + q.2, ?tk1) (by assumption) (by assumption) ?a ?b hoff ?c (by kst_same) ?d
    case c => kst_all
    case a => exact fun p hp => List.mem_append.mpr (.inl hp)
    case b => exact fun p hp => List.mem_append.mpr (.inr hp)
    case d => show nc + q.2 = _; rw [sum_take hq, ← hp]
  case done =>
    rintro ⟨nc, tnc⟩ u h tk hp F' N'
    dsimp only [kstB] at F'
    try k_fold
    k_steps
    have hl : kvs.length = c.length := by rw [← hb3.length, kdpD_length]
    replace hp : nc = ((c.take kvs.length).map (·.2)).sum := hp
    rw [hl, List.take_length] at hp
    subst hp
    exact hret _ [] _ _ (by assumption) (cb_drop (by assumption) fun p hp => .tail _ hp) (fun _ _ _ h => nomatch h) ⟨rfl, _, rfl⟩
end Mine
end

section
open PySem PySem.W PyProof.Rows PyProof.V PySem.Spec
namespace Mine
theorem entry_items_iter : entryFor table "dict_itemiterator.__iter__" = some Builtin.«dict_keyiterator.__iter__» :=
  entryFor_alias (id' := "dict_keyiterator.__iter__") (by kernel_rfl) rfl (by decide +kernel) (by kernel_rfl)
section
variable {prog : Program} {w : World} {A : Around} {E : Value → Shared → Prop} {s : Shared} {env : Env} {h₀ : Heap} {xk xv : Str} {body : List Stmt} {Q : Flow → Shared → Prop}
theorem iter_itemiter {it d : Addr} {i n ep : Nat} {ok ov : Value} {Q : Value → Shared → Prop} (hit : IsItemIter s.heap it d i n ep ok ov) (h : Q (.ref it) s) : wpAny (model prog w) A (pyIter (.ref it)) Q E s := by
  have hT : s.TypeIs (.ref it) "dict_itemiterator" := ⟨_, hit, rfl⟩
  refine wpAny_pyIter_slot hT PySem.F.slot_dict_itemiterator_iter (wpAny_call_entry PySem.F.slot_dict_itemiterator_iter hT entry_items_iter ?_ (PySem.F.args_dict_itemiterator_iter_1 _))
  show wpAny _ _ (ret (.ref it)) _ _ s
  exact wpAny_pure ⟨_, rfl, "dict_itemiterator", _, hT, PySem.F.slot_dict_itemiterator_next.lookup, h⟩
theorem walk_items {K : Type} [DecidableEq K] {knd : KeyKind prog w K} (hh : A.handled = none) (I d : Addr) (hne : d ≠ I) (kvs : List (K × Value)) (ep : Nat) :
    WalksT prog w A I [I, d] [I] kvs.length (fun i vals => ∃ k key v, kvs[i]? = some (k, v) ∧ knd.is k key = true ∧ vals = #[key, v])
      (fun i h => (∃ ok ov, IsItemIter h I d i kvs.length ep ok ov) ∧ h.DictAt knd d kvs ep)
      (fun i T h => (∃ ok ov, IsItemIterOut h I d (i + 1) kvs.length ep ok ov T) ∧ h.DictAt knd d kvs ep ∧ T ≠ I) where
  sub := fun b hb => by simp at hb; simp [hb]
  frame := fun i h h' st hk => by
    obtain ⟨⟨ok, ov, hi⟩, hd⟩ := st
    exact ⟨⟨ok, ov, hk I (by simp) _ hi⟩, hd.at' fun o e => hk d (by simp) o e⟩
  item := fun i s Q E hi st hQ => by
    obtain ⟨⟨ok, ov, hit⟩, hd⟩ := st
    obtain ⟨⟨k, x⟩, hx⟩ : ∃ p, kvs[i]? = some p := ⟨kvs[i], by simp [hi]⟩
    refine wpAny_pyNext_items_item hit hd hx fun key h' hkey ho hT hsz hk => ?_
    exact hQ s.heap.objs.size #[key, x] h' s.toks ⟨k, key, x, hx, hkey, rfl⟩ (Nat.le_refl _) ⟨_, hT, rfl, _, rfl⟩ ⟨⟨_, _, ho⟩, hd.at' fun o e => hk d o hne e, Nat.ne_of_gt (Heap.lt_size hit)⟩ fun b o hb e => hk b o (fun q => hb (by simp [q])) e
  go := fun elts k pos i T s Q E hm hQ => by
    obtain ⟨⟨ok, ov, ho⟩, hd, hT⟩ := hm
    exact wpAny_letOwnedTupleGo_items ho fun h' hi' hs' => hQ h' ⟨⟨ok, ov, hi'⟩, hd.at' fun o e => (hs'.2 d hne).trans e⟩ fun b o hb e => (hs'.2 b fun q => hb (by simp [q])).trans e
  apart := fun i T h hm hT => hm.2.2 (List.mem_singleton.mp hT)
  done := fun s Q E st hQ => by
    obtain ⟨⟨ok, ov, hit⟩, hd⟩ := st
    exact wpAny_pyNext_items_end hh hit hd (by simp) fun h' he' => hQ h' s.toks fun b o hb e => he' b o (fun h => hb (by simp [h])) e
  self := fun i s Q E st hQ => by
    obtain ⟨⟨ok, ov, hit⟩, _⟩ := st
    exact iter_itemiter hit hQ
/-- for k, v in d.items(), the view in hand; what the ledger holds keeps its addresses -/
theorem items_st {σ : Type} {K : Type} [DecidableEq K] {knd : KeyKind prog w K} {vw d : Addr} {o : Obj} {kvs : List (K × Value)} {m₀ : Str → Option Value} (Led : σ → List (Addr × Obj)) (P : Nat → σ → Prop) (c₀ : σ)
    (hh : A.handled = none) (F : Fr h₀ env.locals s.heap m₀) (N : News h₀ env.locals s.heap (Led c₀)) (hv : (vw, ({ cls := .type "dict_items", data := .fields #[.ref d] } : Obj)) ∈ Led c₀) (hd : ∀ c, (d, o) ∈ Led c) (hadr : ∀ c, (Led c).map (·.1) = (Led c₀).map (·.1)) (ho : o.IsDictOf knd kvs) (hp : P 0 c₀)
    (turn : ∀ c i k key v (u : Str → Option Value) h tk own, kvs[i]? = some (k, v) → knd.is k key = true → OwnOff own ((Led c).map (·.1)) → P i c → (∀ z, z ≠ xk → z ≠ xv → u z = m₀ z) → Fr h₀ env.locals h (fun y => if y = xv then some v else if y = xk then some key else m₀ y) → News h₀ env.locals h (Led c ++ own) →
      wpAny (model prog w) A (execs body env) (InvPostG h₀ env.locals (fun m nx => ∃ c', nx = Led c' ∧ P (i + 1) c' ∧ ∀ z, z ≠ xk → z ≠ xv → m z = m₀ z) own { s with heap := h, toks := tk } Q) E { s with heap := h, toks := tk })
    (done : ∀ c (u : Str → Option Value) h tk, P kvs.length c → Fr h₀ env.locals h (fun y => if y = xv then u y else if y = xk then u y else m₀ y) → News h₀ env.locals h (Led c) → Q .next { s with heap := h, toks := tk }) :
    wpAny (model prog w) A (pyIter (.ref vw)) (fun it s₂ => PairAt3 prog w A h₀ env xk xv body Q E it s₂) E s := by
  obtain ⟨ep, hat⟩ := (Heap.dictOf_iff.mpr ⟨o, (N _ (hd c₀)).1, ho⟩).dictAt
  refine wpAny_pyIter_items ⟨_, (N _ hv).1, rfl, rfl⟩ hat ?_
  have hne : d ≠ s.heap.objs.size := mem_ne N _ (hd c₀)
  have same : ∀ m₁ : Str → Option Value, (∀ z, z ≠ xk → z ≠ xv → m₁ z = m₀ z) → ∀ (key v : Value), (fun y => if y = xv then some v else if y = xk then some key else m₁ y) = fun y => if y = xv then some v else if y = xk then some key else m₀ y := by
    intro m₁ h key v
    funext z
    by_cases h1 : z = xv
    · simp [h1]
    · by_cases h2 : z = xk
      · simp [h2]
      · simp only [if_neg h1, if_neg h2]; exact h z h2 h1
  have W := walk_items (prog := prog) (w := w) (A := A) (knd := knd) hh s.heap.objs.size d hne kvs ep
  refine ⟨s.heap.objs.size, _, _, kvs.length, _, _, _, (fun i v0 v1 => ∃ k, kvs[i]? = some (k, v1) ∧ knd.is k v0 = true), m₀, Led c₀, (fun i m nx => ∃ c', nx = Led c' ∧ P i c' ∧ ∀ z, z ≠ xk → z ≠ xv → m z = m₀ z), rfl, W, ?_, ?_, ?_, ?_, ⟨⟨_, _, Heap.get?_push_size _ rfl⟩, hat.push _⟩, F.push _, (fun p hp => ⟨Heap.get?_push_of_some _ (N p hp).1, (N p hp).2⟩), ⟨c₀, rfl, hp, fun _ _ _ => rfl⟩, ?_, ?_⟩
  · rintro i vals ⟨k, key, v, h1, h2, rfl⟩
    exact ⟨key, v, rfl, k, h1, h2⟩
  · intro hm
    rcases List.mem_cons.mp hm with e | e
    · exact absurd F.ns.lt (e ▸ Nat.lt_irrefl _)
    · exact (N _ (hd c₀)).2.1 (List.mem_singleton.mp e).symm
  · intro b hb
    rw [List.mem_singleton.mp hb]; exact next_is_new F
  · intro p hp hb
    exact mem_ne N p hp (List.mem_singleton.mp hb)
  · rintro i v0 v1 m₁ nx s₁ own ⟨hh', tk', rfl⟩ hi ⟨k, hx, hkey⟩ ⟨c, rfl, hp', hm⟩ ha hown F₁ N₁
    have hsep : OwnOff (own.filter fun p => decide (p.1 = s.heap.objs.size)) ((Led c).map (·.1)) := by
      intro p hp b hb e
      rw [ha] at hb
      obtain ⟨q, hq, rfl⟩ := List.mem_map.mp hb
      have h1 : p.1 = s.heap.objs.size := by simpa using (List.mem_filter.mp hp).2
      exact mem_ne N q hq (e ▸ h1)
    have N₂ : News h₀ env.locals hh' (Led c ++ own.filter fun p => decide (p.1 = s.heap.objs.size)) := fun p hp => N₁ p ((List.mem_append.mp hp).elim (fun h => List.mem_append.mpr (.inr h)) fun h => List.mem_append.mpr (.inl (List.mem_filter.mp h).1))
    rw [same m₁ hm] at F₁
    refine wpAny_mono (turn c i k v0 v1 m₁ hh' tk' _ hx hkey hsep hp' hm F₁ N₂) (fun f s₂ p => ?_) fun _ _ e => e
    have fin : InvEndG h₀ env.locals (fun m nx => ∃ c', nx = Led c' ∧ P (i + 1) c' ∧ ∀ z, z ≠ xk → z ≠ xv → m z = m₀ z) (own.filter fun p => decide (p.1 = s.heap.objs.size)) { s with heap := hh', toks := tk' } s₂ →
        LoopStep2 h₀ env.locals own (Led c) (fun m nx => ∃ c', nx = Led c' ∧ P (i + 1) c' ∧ ∀ z, z ≠ xk → z ≠ xv → m z = m₀ z) { s with heap := hh', toks := tk' } .next s₂ := by
      rintro ⟨h', tk, m', news', nx', e, F', N', hn, ho, _, ⟨c', rfl, hc', hm'⟩⟩
      refine ⟨rfl, h', tk, m', Led c', e, F', fun p hp => ?_, (hadr c').trans (hadr c).symm, c', rfl, hc', hm'⟩
      rcases List.mem_append.mp hp with h | h
      · by_cases hI : p.1 = s.heap.objs.size
        · exact N' p (ho p (List.mem_filter.mpr ⟨h, by simpa using hI⟩))
        · rcases List.mem_cons.mp (hown p h) with h2 | h2
          · exact absurd h2 hI
          · have h3 := (N₁ _ (List.mem_append.mpr (.inr (hd c)))).1
            have h4 := (N₁ p (List.mem_append.mpr (.inl h))).1
            have h2' := List.mem_singleton.mp h2
            rw [h2', h3] at h4
            have h5 : p = (d, o) := Prod.ext h2' (Option.some.inj h4).symm
            rw [h5]
            exact N' _ (hn _ (hd c'))
      · exact N' p (hn p h)
    cases f with
    | ret v => exact p
    | brk => exact p
    | next => exact fin p
    | cont => exact fin p
  · rintro h' tk m' nx F' N' ha ⟨c, rfl, hc, hm⟩
    refine done c m' h' tk hc ?_ N'
    have e : (fun y => if y = xv then m' y else if y = xk then m' y else m₀ y) = m' := by
      funext z
      by_cases h1 : z = xv
      · simp [h1]
      · by_cases h2 : z = xk
        · simp [h2]
        · simp only [if_neg h1, if_neg h2]; exact (hm z h2 h1).symm
    rw [e]; exact F'
theorem items_one {K : Type} [DecidableEq K] {knd : KeyKind prog w K} {vw d n : Addr} {o o' : Obj} {kvs : List (K × Value)} {m₀ : Str → Option Value} {news : List (Addr × Obj)} (P : Nat → Obj → Prop)
    (hh : A.handled = none) (F : Fr h₀ env.locals s.heap m₀) (N : News h₀ env.locals s.heap ((vw, ({ cls := .type "dict_items", data := .fields #[.ref d] } : Obj)) :: (n, o') :: news)) (hd : (d, o) ∈ news) (ho : o.IsDictOf knd kvs) (hp : P 0 o')
    (turn : ∀ o1 i k key v h tk own, kvs[i]? = some (k, v) → knd.is k key = true → OwnOff own (vw :: n :: news.map (·.1)) → P i o1 → Fr h₀ env.locals h (fun y => if y = xv then some v else if y = xk then some key else m₀ y) →
      News h₀ env.locals h ((vw, ({ cls := .type "dict_items", data := .fields #[.ref d] } : Obj)) :: (n, o1) :: (news ++ own)) →
      wpAny (model prog w) A (execs body env) (InvPostG h₀ env.locals (fun m nx => ∃ o2, nx = (vw, ({ cls := .type "dict_items", data := .fields #[.ref d] } : Obj)) :: (n, o2) :: news ∧ P (i + 1) o2 ∧ ∀ z, z ≠ xk → z ≠ xv → m z = m₀ z) own { s with heap := h, toks := tk } Q) E { s with heap := h, toks := tk })
    (done : ∀ o1 (u : Str → Option Value) h tk, P kvs.length o1 → Fr h₀ env.locals h (fun y => if y = xv then u y else if y = xk then u y else m₀ y) → News h₀ env.locals h ((n, o1) :: news) → Q .next { s with heap := h, toks := tk }) :
    wpAny (model prog w) A (pyIter (.ref vw)) (fun it s₂ => PairAt3 prog w A h₀ env xk xv body Q E it s₂) E s :=
  items_st (σ := Obj) (fun c => (vw, ({ cls := .type "dict_items", data := .fields #[.ref d] } : Obj)) :: (n, c) :: news) P o' hh F N (.head _) (fun _ => .tail _ (.tail _ hd)) (fun _ => rfl) ho hp
    (fun c i k key v _ h tk own hx hkey hoff hP _ F₁ N₁ => turn c i k key v h tk own hx hkey hoff hP F₁ N₁)
    (fun c u h tk hP F₁ N₁ => done c u h tk hP F₁ fun p hp => N₁ p (.tail _ hp))
theorem one_end {vw d n : Addr} {o2 : Obj} {L : Addr} {m' m₀ : Str → Option Value} {news own news' : List (Addr × Obj)} {P : Nat → Obj → Prop} {i : Nat} {s₁ : Shared} {h' : Heap} {tk : Nat} (F : Fr h₀ L h' m')
    (N : News h₀ L h' news') (h1 : (vw, ({ cls := .type "dict_items", data := .fields #[.ref d] } : Obj)) ∈ news') (h2 : (n, o2) ∈ news') (h3 : ∀ p ∈ news ++ own, p ∈ news') (hoff : OwnOff own (vw :: n :: news.map (·.1))) (hp : P i o2) (hm : ∀ z, z ≠ xk → z ≠ xv → m' z = m₀ z) :
    InvEndG h₀ L (fun m nx => ∃ o2, nx = (vw, ({ cls := .type "dict_items", data := .fields #[.ref d] } : Obj)) :: (n, o2) :: news ∧ P i o2 ∧ ∀ z, z ≠ xk → z ≠ xv → m z = m₀ z) own s₁ { s₁ with heap := h', toks := tk } :=
  endG ((vw, _) :: (n, o2) :: news) F N (fun p hp => by
    rcases List.mem_cons.mp hp with rfl | hp
    · exact h1
    · rcases List.mem_cons.mp hp with rfl | hp
      · exact h2
      · exact h3 p (List.mem_append.mpr (.inl hp))) (fun p hp => h3 p (List.mem_append.mpr (.inr hp))) hoff ⟨o2, rfl, hp, hm⟩
end
end Mine
end

section
open PySem PySem.W PyProof.Rows
namespace Mine
local macro_rules | `(tactic| k_mem) => `(tactic| first | exact List.Mem.head _ | ktr_member | (refine' List.mem_cons_of_mem _ ?_; k_mem))
theorem kdp_at2 {c : List (Str × Int)} {i : Nat} {k : Str} {dv : PyData} (h : (kdpD c)[i]? = some (PyData.str k, dv)) : ∃ q, c[i]? = some q ∧ dv = .int q.2 ∧ k = q.1 := by
  unfold kdpD at h
  rw [List.getElem?_map] at h
  cases hq : c[i]? with
  | none => rw [hq] at h; cases h
  | some q => rw [hq] at h; cases h; exact ⟨q, rfl, rfl, rfl⟩
theorem keys_of : ∀ {kvs : List (Str × Value)} {c : List (Str × Int)}, PyProof.V.FlatPairs PyData.str kvs (kdpD c) → c.map (·.1) = kvs.map (·.1)
  | [], [], _ => rfl
  | [], _ :: _, h => by cases h
  | _ :: _, [], h => by cases h
  | _ :: _, q :: c, h => by
    cases h with
    | cons _ r => simp [keys_of r]
theorem nodup_of {w : World} {o : Obj} {kvs : List (Str × Value)} {c : List (Str × Int)} (h : o.IsDictOf (strKind PySem.Challenge.rw_xg0014_01.row.prog w) kvs) (hf : PyProof.V.FlatPairs PyData.str kvs (kdpD c)) : (c.map (·.1)).Nodup := by
  obtain ⟨_, _, _, _, _, _, hn⟩ := h
  rw [keys_of hf]; exact hn
theorem kdp_new {c : List (Str × Int)} {k : Str} {v : Int} (h : k ∉ c.map (·.1)) : kdpPut c k v = c ++ [(k, v)] := by
  unfold kdpPut
  rw [if_neg]
  intro hc
  obtain ⟨p, hp, e⟩ := List.any_eq_true.mp hc
  exact h (List.mem_map.mpr ⟨p, hp, of_decide_eq_true e⟩)
theorem put_take {c : List (Str × Int)} {i : Nat} {q : Str × Int} (hn : (c.map (·.1)).Nodup) (h : c[i]? = some q) : kdpPut (c.take i) q.1 q.2 = c.take (i + 1) := by
  have hi : i < c.length := (List.getElem?_eq_some_iff.mp h).1
  have e : c.take (i + 1) = c.take i ++ [q] := by rw [List.take_add_one, h]; rfl
  rw [e, kdp_new]
  intro hm
  have e2 : (c.map (·.1)).take (i + 1) = (c.take i).map (·.1) ++ [q.1] := by rw [← List.map_take, e]; simp
  have hn2 := hn.sublist (List.take_sublist (i + 1) _)
  rw [e2, List.nodup_append] at hn2
  exact hn2.2.2 q.1 hm q.1 (.head _) rfl
noncomputable def addOne (c : List (Str × Int)) (k : Str) (v : Int) : List (Str × Int) := if kdpHas c k = true then kdpPut c k (kdpLook c k 0 + v) else kdpPut c k v
theorem look_sum : ∀ {c : List (Str × Int)} {k : Str} {v : Int}, (c.map (·.1)).Nodup → kdpHas c k = true → ((c.map fun p => if decide (p.1 = k) then (p.1, kdpLook c k 0 + v) else p).map (·.2)).sum = (c.map (·.2)).sum + v
  | [], _, _, _, h => by simp [kdpHas] at h
  | q :: c, k, v, hn, h => by
    rw [List.map_cons, List.nodup_cons] at hn
    by_cases e : q.1 = k
    · have hl : kdpLook (q :: c) k 0 = q.2 := by unfold kdpLook; rw [List.find?_cons]; simp [e]
      have hr : (c.map fun p => if decide (p.1 = k) then (p.1, kdpLook (q :: c) k 0 + v) else p) = c := by
        have : ∀ p ∈ c, (if decide (p.1 = k) then (p.1, kdpLook (q :: c) k 0 + v) else p) = p := fun p hp => by
          rw [if_neg]
          intro ep
          exact hn.1 (List.mem_map.mpr ⟨p, hp, (of_decide_eq_true ep).trans e.symm⟩)
        rw [List.map_congr_left this, List.map_id']
      rw [List.map_cons, hr]
      simp [e, hl]; omega
    · have hh : kdpHas c k = true := by
        unfold kdpHas at h ⊢
        rw [List.any_cons] at h
        simpa [e] using h
      have hl : kdpLook (q :: c) k 0 = kdpLook c k 0 := by unfold kdpLook; rw [List.find?_cons]; simp [e]
      have ih := look_sum (v := v) hn.2 hh
      rw [List.map_cons, hl]
      simp only [List.map_cons, List.sum_cons]
      rw [ih]
      simp [e]; omega
theorem sum_addOne {c : List (Str × Int)} {k : Str} {v : Int} (hn : (c.map (·.1)).Nodup) : ((addOne c k v).map (·.2)).sum = (c.map (·.2)).sum + v := by
  unfold addOne
  cases h : kdpHas c k with
  | true =>
    simp only [if_true]
    unfold kdpPut
    rw [if_pos (show (c.any fun p => decide (p.1 = k)) = true from h)]
    exact look_sum hn h
  | false =>
    simp only [Bool.false_eq_true, if_false]
    unfold kdpPut
    rw [if_neg (by rw [show (c.any fun p => decide (p.1 = k)) = false from h]; exact Bool.false_ne_true)]
    simp
theorem len_addOne (c : List (Str × Int)) (k : Str) (v : Int) : (addOne c k v).length ≤ c.length + 1 := by
  unfold addOne; split <;> exact kdpPut_len _ _ _
noncomputable def NewBook (w : World) (c : List (Str × Int)) (tl : List (Addr × Obj)) (r : Value) : Prop := ∃ q o kv, tl = [(q, o)] ∧ r = .ref q ∧ (q == sysModules) = false ∧ o.IsDictOf (strKind PySem.Challenge.rw_xg0014_01.row.prog w) kv ∧ PyProof.V.FlatPairs PyData.str kv (kdpD c)
theorem addOne_has {c : List (Str × Int)} {k : Str} {v : Int} (h : kdpHas c k = true) : addOne c k v = kdpPut c k (kdpLook c k 0 + v) := by unfold addOne; rw [if_pos h]
theorem addOne_not {c : List (Str × Int)} {k : Str} {v : Int} (h : kdpHas c k = false) : addOne c k v = kdpPut c k v := by unfold addOne; rw [if_neg (by rw [h]; exact Bool.false_ne_true)]
noncomputable def Grown (w : World) (f : Nat → List (Str × Int)) (i : Nat) (q : Obj) : Prop := ∃ kv1 c1, q.IsDictOf (strKind PySem.Challenge.rw_xg0014_01.row.prog w) kv1 ∧ PyProof.V.FlatPairs PyData.str kv1 (kdpD c1) ∧ c1 = f i
theorem lt_use {news : List (Addr × Obj)} {d : Addr} (h : ∀ p ∈ news, p.1 < d) {p : Addr × Obj} (hp : p ∈ news) : p.1 ≠ d := Nat.ne_of_lt (h p hp)
local macro_rules | `(tactic| k_all) => `(tactic| first | (refine List.forall_mem_append.mpr ⟨?_, ?_⟩ <;> k_all) | exact fun p hp => lt_use (by assumption) hp)
set_option maxHeartbeats 4000000 in
theorem add_ctr (w : World) (d e : Addr) (c : List (Str × Int)) (k : Str) (v : Int) (hc : c.length ≤ 1000) : Ctr w 28 [.ref d, .ref e] (fun news => Book w news d c ∧ Book w news e [(k, v)]) (NewBook w (addOne c k v)) := by
  k_with_none
  w_top off
  unfold Ctr
  k_fill
  intro p loose mean mg mb dp un gd cn cs ca ccd cl outer A₀ base h₀ L m news s Q E B F X N T hk hpre hd hu hret
  obtain ⟨⟨o, kvs, hb, hlo, hb2, hb3⟩, ⟨o2, kvs2, hg, hlo2, hg2, hg3⟩⟩ := hpre
  refine wpAny_call ?_
  k_dflt ktr_enter
  k_steps
  k_dflt (refine' For_pair3F (by assumption) rfl rfl rfl rfl ?_ (by intro _; rfl))
  k_steps
  rename Obj.IsDictOf (strKind _ _) _ [] => hs'
  rename PyProof.V.FlatPairs PyData.str [] [] => fs'
  rename Fr _ _ _ _ => lF'
  rename News _ _ _ _ => lN'
  refine' items_one (Grown w fun i => c.take i) rfl lF' lN' hb hb2 ⟨[], [], hs', fs', rfl⟩ ?turn ?done
  case turn =>
    rintro o1 i k0 key v0 h tk own hx hkey hoff ⟨kv1, c1, p1, p2, p3⟩ F' N'
    clear lF' lN'
    obtain ⟨tk1, rfl⟩ := Value.isStrOf_shape hkey
    obtain ⟨dv, hD, hfl⟩ := hb3.at hx
    obtain ⟨q, hq, e, e2⟩ := kdp_at2 hD
    subst e e2
    obtain ⟨tq, rfl⟩ := PyProof.V.Flat.int_inv hfl
    have hcl : c1.length ≤ 1000 := by rw [p3, List.length_take]; omega
    try k_fold
    k_steps
    exact one_end (by assumption) (by assumption) (.head _) (.tail _ (.head _)) (fun p hp => .tail _ (.tail _ hp)) hoff ⟨_, _, by assumption, by assumption, by rw [p3, put_take (nodup_of hb2 hb3) hq]⟩ (by intro z h1 h2; simp [h1, h2])
  case done =>
    rintro o1 u h tk ⟨kv1, c1, p1, p2, p3⟩ F' N'
    clear lF' lN'
    have hcl : kvs.length = c.length := by rw [← hb3.length, kdpD_length]
    rw [hcl] at p3
    replace p3 : c1 = c := p3.trans (List.take_length ..)
    subst p3
    try k_fold
    k_steps
    k_dflt (refine' For_pair3F (by assumption) rfl rfl rfl rfl ?_ (by intro _; rfl))
    k_steps
    rename Fr _ _ _ _ => lF'
    rename News _ _ _ _ => lN'
    refine' items_one (Grown w fun i => if i = 0 then c1 else addOne c1 k v) rfl lF' lN' hg hg2 ⟨kv1, c1, p1, p2, rfl⟩ ?turn ?done
    case turn =>
      rintro o3 i k0 key v0 h tk own hx hkey hoff ⟨kv3, c3, q1, q2, q3⟩ F' N'
      clear lF' lN'
      obtain ⟨tk1, rfl⟩ := Value.isStrOf_shape hkey
      obtain ⟨dv, hD, hfl⟩ := hg3.at hx
      obtain ⟨q, hq, e, e2⟩ := kdp_at2 hD
      have hi : i = 0 := by
        have := (List.getElem?_eq_some_iff.mp hq).1
        simpa using this
      subst hi
      have hq' : q = (k, v) := by simpa using hq.symm
      subst hq'
      subst e e2
      obtain ⟨tq, rfl⟩ := PyProof.V.Flat.int_inv hfl
      replace q3 : c3 = c1 := q3
      subst q3
      try k_fold
      k_steps
      · exact one_end (by assumption) (by assumption) (.head _) (.tail _ (.head _)) (fun p hp => .tail _ (.tail _ hp)) hoff ⟨_, _, by assumption, by assumption, (addOne_has (by assumption)).symm⟩ (by intro z h1 h2; simp [h1, h2])
      · exact one_end (by assumption) (by assumption) (.head _) (.tail _ (.head _)) (fun p hp => .tail _ (.tail _ hp)) hoff ⟨_, _, by assumption, by assumption, (addOne_not (by assumption)).symm⟩ (by intro z h1 h2; simp [h1, h2])
    case done =>
      rintro o3 u h tk ⟨kv3, c3, q1, q2, q3⟩ F' N'
      clear lF' lN'
      try k_fold
      k_steps
      have hk1 : kvs2.length = 1 := by rw [← hg3.length]; rfl
      rw [hk1] at q3
      replace q3 : c3 = addOne c1 k v := q3
      subst q3
      exact hret _ [_] _ _ (by assumption) (by assumption) (one_lt (by assumption)) ⟨_, _, _, rfl, rfl, by assumption, q1, q2⟩
end Mine
end

section
open PySem PySem.W PyProof.Rows
namespace Mine
local macro_rules | `(tactic| k_mem) => `(tactic| first | exact List.Mem.head _ | ktr_member | (refine' List.mem_cons_of_mem _ ?_; k_mem))
theorem lt_all {news : List (Addr × Obj)} {d e : Addr} (h : ∀ p ∈ news, p.1 < d) (hd : @LE.le Nat _ d e) : ∀ p ∈ news, p.1 ≠ e := fun p hp => Nat.ne_of_lt (Nat.lt_of_lt_of_le (h p hp) hd)
local macro_rules | `(tactic| k_all) => `(tactic| first | (refine List.forall_mem_append.mpr ⟨?_, ?_⟩ <;> k_all) | (refine' lt_all ?h9 ?d9; (case h9 => assumption); (case d9 => omega)) | fail "no order")
section
variable {prog : Program} {w : World} {A : Around} {E : Value → Shared → Prop} {Q : Flow → Shared → Prop} {s : Shared} {env : Env} {h₀ : Heap} {L : Addr}
/-- a while that turns one list of ints -/
theorem while_list {test : Expr} {body : List Stmt} {pos : Pos} {m₀ : Str → Option Value} {l : Addr} {rest : List (Addr × Obj)} {vs₀ : List Value} {n₀ : Nat} {ns₀ : List Int} (stored : List Str) (P : List Int → Prop) (μ : List Int → Nat)
    (F : Fr h₀ L s.heap m₀) (N : News h₀ L s.heap ((l, listOf vs₀.toArray n₀) :: rest)) (hi : IntsAre vs₀ ns₀) (hp : P ns₀)
    (turn : ∀ vs ns n (u : Str → Option Value) h tk, IntsAre vs ns → P ns → Fr h₀ L h (fun z => if stored.contains z then u z else m₀ z) → News h₀ L h ((l, listOf vs.toArray n) :: rest) →
      wpAny (model prog w) A (isTrue test env (eval test env)) (fun b s₂ =>
        if b = true then wpAny (model prog w) A (execs body env) (KswPost h₀ L s (fun c : List Value × List Int × Nat => (l, listOf c.1.toArray c.2.2) :: rest) (fun _ => []) (fun c => IntsAre c.1 c.2.1) stored m₀ (fun c => P c.2.1) (fun c => μ c.2.1) Q (vs, ns, n)) E s₂ else Q .next s₂) E { s with heap := h, toks := tk })
    (hE : PassesOwn (model prog w) A env E := by passes_own) :
    wpAny (model prog w) A (exec (.While test body [] pos) env) Q E s :=
  ksw_while (σ := List Value × List Int × Nat) (fun c => (l, listOf c.1.toArray c.2.2) :: rest) (fun _ => []) (fun c => IntsAre c.1 c.2.1) stored (fun c => P c.2.1) (fun c => μ c.2.1) (vs₀, ns₀, n₀) F N hi (fun _ h => nomatch h) hp
    (fun c u h tk hf hp F₁ N₁ => turn c.1 c.2.1 c.2.2 u h tk hf hp F₁ N₁) hE
end
noncomputable def lastOf (ss : List Int) : Int := ss.getD (-1 + (ss.length : Int)).toNat 0
noncomputable def pickG (ps : List Int) (a : Int) (l : List Int) (k : Int) : List Int := if a ≤ ps.getD k.toNat 0 then l ++ [k] else l
theorem pick_yes {ps ss l : List Int} {k : Int} (h : ss.getD (-1 + (ss.length : Int)).toNat 0 ≤ ps.getD k.toNat 0) : pickG ps (lastOf ss) l k = l ++ [k] := if_pos h
theorem pick_no {ps ss l : List Int} {k : Int} (h : ¬ ss.getD (-1 + (ss.length : Int)).toNat 0 ≤ ps.getD k.toNat 0) : pickG ps (lastOf ss) l k = l := if_neg h
theorem pick_grows (ps : List Int) (a : Int) : KPfGrows (pickG ps a) := by
  intro l k
  unfold pickG
  split <;> simp
noncomputable def pick (ps ss : List Int) : List Int := ss.filter fun k => decide (lastOf ss ≤ ps.getD k.toNat 0)
theorem pick_fold (ps ss : List Int) : ss.foldl (pickG ps (lastOf ss)) [] = pick ps ss := by
  unfold pick
  generalize lastOf ss = a
  have key : ∀ l, ss.foldl (pickG ps a) l = l ++ ss.filter fun k => decide (a ≤ ps.getD k.toNat 0) := by
    induction ss with
    | nil => simp
    | cons k ss ih =>
      intro l
      rw [List.foldl_cons, ih]
      unfold pickG
      by_cases h : a ≤ ps.getD k.toNat 0
      · rw [if_pos h, List.filter_cons, if_pos (by simpa using h)]; simp
      · rw [if_neg h, List.filter_cons, if_neg (by simpa using h)]
  simpa using key []
theorem lastOf_mem {ss : List Int} (h : 1 ≤ ss.length) : lastOf ss ∈ ss := by
  unfold lastOf
  have e : (-1 + (ss.length : Int)).toNat < ss.length := by omega
  rw [List.getD_eq_getElem?_getD, List.getElem?_eq_getElem e]
  exact List.getElem_mem e
theorem lastOf_app (ss : List Int) (a : Int) : lastOf (ss ++ [a]) = a := by
  unfold lastOf
  have e : (-1 + ((ss ++ [a]).length : Int)).toNat = ss.length := by simp; omega
  rw [e]; simp
theorem pick_pos {ps ss : List Int} {size : Int} (h : 1 ≤ ss.length) (h3 : ∀ k ∈ ss, 1 ≤ k ∧ k ≤ size) (hf : ∀ k, 1 ≤ k → k ≤ size → k ≤ ps.getD k.toNat 0) : 0 < (pick ps ss).length := by
  have hm := lastOf_mem h
  obtain ⟨a, b⟩ := h3 _ hm
  have : lastOf ss ∈ pick ps ss := List.mem_filter.mpr ⟨hm, by simpa using hf _ a b⟩
  exact List.length_pos_of_mem this
noncomputable def nextOf (ps ss : List Int) : Int := lastOf ss + (pick ps ss).min?.getD 0
theorem nextOf_eq {ps ss : List Int} {M : Int} (h : M ∈ pick ps ss) (hm : ∀ a, a ∈ pick ps ss → M ≤ a) : nextOf ps ss = lastOf ss + M := by
  unfold nextOf
  rw [List.min?_eq_some_iff.mpr ⟨h, hm⟩]; rfl
noncomputable def stepsF (ps : List Int) (size : Int) : Nat → List Int → List Int
  | 0, ss => ss
  | f + 1, ss => if size < nextOf ps ss then ss else stepsF ps size f (ss ++ [nextOf ps ss])
noncomputable def StepI (ps : List Int) (size : Int) (ss : List Int) : Prop := 1 ≤ ss.length ∧ ss.length ≤ 10 ∧ (∀ k ∈ ss, 1 ≤ k ∧ k ≤ size) ∧ (ss.length : Int) ≤ lastOf ss ∧ stepsF ps size (20 - ss.length) ss = stepsF ps size 19 [1]
theorem stepI_end {ps ss : List Int} {size M : Int} (h : StepI ps size ss) (hM : M ∈ pick ps ss) (hm : ∀ a, a ∈ pick ps ss → M ≤ a) (hs : size < ss.getD (-1 + (ss.length : Int)).toNat 0 + M) : stepsF ps size 19 [1] = ss := by
  obtain ⟨_, h10, _, _, h5⟩ := h
  rw [← h5]
  obtain ⟨f, e⟩ : ∃ f, 20 - ss.length = f + 1 := ⟨19 - ss.length, Nat.succ_sub (Nat.le_trans h10 (by decide))⟩
  rw [e, stepsF, nextOf_eq hM hm]
  exact if_pos hs
theorem stepI_next {ps ss : List Int} {size M : Int} (h2 : size ≤ 9) (h : StepI ps size ss) (hM : M ∈ pick ps ss) (hm : ∀ a, a ∈ pick ps ss → M ≤ a) (hs : ¬ size < ss.getD (-1 + (ss.length : Int)).toNat 0 + M) : StepI ps size (ss ++ [ss.getD (-1 + (ss.length : Int)).toNat 0 + M]) := by
  obtain ⟨h1, h10, h3, h4, h5⟩ := h
  have hl : lastOf ss ≤ size := (h3 _ (lastOf_mem h1)).2
  have hM1 := (h3 M (List.mem_filter.mp hM).1).1
  have el : ss.getD (-1 + (ss.length : Int)).toNat 0 = lastOf ss := rfl
  rw [el] at hs ⊢
  refine ⟨by simp, by simp; omega, ?_, ?_, ?_⟩
  · intro k hk
    rcases List.mem_append.mp hk with h | h
    · exact h3 k h
    · rw [List.mem_singleton.mp h]; omega
  · rw [lastOf_app]; simp; omega
  · rw [← h5]
    have e : 20 - ss.length = (19 - ss.length) + 1 := Nat.succ_sub (Nat.le_trans h10 (by decide))
    have e2 : 20 - (ss ++ [lastOf ss + M]).length = 19 - ss.length := by
      rw [List.length_append]; exact Nat.add_sub_add_right 19 1 ss.length
    rw [e2, e, stepsF, nextOf_eq hM hm, if_neg hs]
theorem allLt_mem {l : Addr} : ∀ {news : List (Addr × Obj)}, AllLt l news → ∀ q ∈ news, q.1 < l
  | [], _, _, h => nomatch h
  | p :: r, h, q, hq => (List.mem_cons.mp hq).elim (fun e => e ▸ h.1) fun hr => allLt_mem h.2 q hr
theorem push_led {p a : Addr × Obj} {l : Addr} {vs : List Value} {v : Value} {n : Nat} {rest : List (Addr × Obj)} (h : p ∈ (l, listOf (vs ++ [v]).toArray n) :: rest) : p ∈ a :: (l, listOf (vs.toArray.push v) n) :: rest := by
  rw [List.push_toArray]; exact List.mem_cons_of_mem _ h
theorem sub3 {α : Type} {p x a b c : α} {l : List α} (h : p ∈ [x] ++ l) : p ∈ a :: x :: b :: c :: l := by
  simp only [List.cons_append, List.nil_append, List.mem_cons] at *
  rcases h with h | h <;> simp [h]
theorem ord1 {news : List (Addr × Obj)} {l : Addr} {o : Obj} (h : AllLt l news) : ∀ q ∈ news, ∀ p ∈ [(l, o)], q.1 < p.1 := by
  intro q hq p hp
  rw [List.mem_singleton.mp hp]
  exact allLt_mem h q hq
theorem stepI_one (ps : List Int) {size : Int} (h1 : 1 ≤ size) : StepI ps size [1] := ⟨by simp, by simp, by simp; omega, by simp [lastOf], rfl⟩
local macro_rules | `(tactic| walk_at "exec While Constant cons nil") => `(tactic| refine stop_here ?_)
local macro_rules | `(tactic| walk_at "CompSrcT") => `(tactic| refine stop_here ?_)
set_option maxHeartbeats 4000000 in
theorem steps_ctr (w : World) (size : Int) (ts : Tok) (lp : Addr) (vs : List Value) (nn : Nat) (ps : List Int) (hi : IntsAre vs ps) (h1 : 1 ≤ size) (h2 : size ≤ 9) (hl : (ps.length : Int) = size + 1) (hf : ∀ k, 1 ≤ k → k ≤ size → k ≤ ps.getD k.toNat 0) : Ctr w 119 [.int size ts, .ref lp] (fun news => (lp, listOf vs.toArray nn) ∈ news) (fun tl r => ∃ q ws n, r = .ref q ∧ (q, listOf ws.toArray n) ∈ tl ∧ IntsAre ws (stepsF ps size 19 [1])) := by
  k_with_none
  w_top off
  unfold Ctr
  k_fill
  intro p loose mean mg mb dp un gd cn cs ca ccd cl outer A₀ base h₀ L m news s Q E B F X N T hk hpre hd hu hret
  replace hpre : (lp, listOf vs.toArray nn) ∈ news := hpre
  refine wpAny_call ?_
  k_dflt (refine' code_defC ?k1 ?k2 ?k3 ?k4 ?k5 ?kA ?kF ?kK ?k6 ?k7 ?k8 ?k9 ?kB ?kD ?_ ?c2 ?c3 ?c4; (case kA => exact rfl); (case kF => exact rfl); (case kK => assumption); (case k1 => k_asm); (case k2 => k_asm); (case k3 => k_asm); (case k4 => k_asm); (case k5 => k_asm); (case k6 => k_is); (case k7 => k_is); (case k8 => ktr_room); (case k9 => exact BindsTo.of_eq rfl); (case kB => exact rfl); (case kD => decide +kernel); (case c2 => exact rfl); (case c3 => exact rfl); (case c4 => exact rfl); k_whole; intro g' L' h' tk' cells' FG' F' N' Y' B' X' T' l1; (try k_lt l1); k_cells Y'; (try simp only [List.cons_append, List.nil_append] at N'); (try dsimp only); (try k_fold))
  k_steps
  refine go_on ?_
  refine' while_list [Str.ofString "step"] (StepI ps size) (fun ss => 20 - ss.length) (by assumption) (by assumption) (.cons _ _ .nil) (stepI_one ps h1) ?turn
  rintro vs1 ss n1 u h tk hi1 hI0 F' N'
  obtain ⟨hp1, hp2, hp3, -, -⟩ := id hI0
  k_steps
  refine go_on ?_
  refine LCt.CompSrcT.ledger (by rfl) (by k_asm) (by k_asm) (by k_mem) (by simp only [List.size_toArray, hi1.length]; exact Nat.le_trans hp2 (by decide)) ?_
  intro g'
  refine' kci_list (pickG ps (lastOf ss)) hi1 (fun k' t' I' oI' C' oC' D' m' ys' l' h' tk' E' hk' hI' hC' hx' F' N' off' ne' => ?_) ?_ (pick_grows _ _)
  · simp only [LCg.Off3] at off'
    (show KPfMark → _); intro hMark'
    obtain ⟨hk1, hk2⟩ := hp3 k' hk'
    k_steps
    · exact LCg.CompEnd.intro (by k_asm) (by k_asm) _ (fun _ hp => hp) (by simp only [LCg.Off3]; exact off') (by first | lcg_src | assumption) (kci_el (pick_yes (by assumption)) rfl rfl)
    · exact LCg.CompEnd.intro (by k_asm) (by k_asm) _ (fun _ hp => hp) (by simp only [LCg.Off3]; exact off') (by first | lcg_src | assumption) (kci_no (pick_no (by assumption)) rfl)
  · unfold KPfDone
    intro ys hys hlen
    rw [pick_fold] at hys
    have hpos := pick_pos hp1 hp3 hf
    k_steps
    · rename News h₀ L _ _ => kN'
      refine hret _ [(_, W.listOf vs1.toArray n1)] _ _ (by assumption) (fun p hp => kN' p (sub3 hp)) (ord1 ?_) ⟨_, vs1, n1, rfl, List.mem_singleton_self _, ?_⟩
      · rename _ ∧ _ ∧ AllLt _ _ => hl3; exact hl3.2.2
      · rw [stepI_end hI0 (by assumption) (by assumption) (by assumption)]; exact hi1
    · refine ksw_end (vs1 ++ [_], ss ++ [_], n1 + 1) (by assumption) (by assumption) (fun p hp => push_led hp) ?c2 (fun _ h => nomatch h) ?c3 (stepI_next h2 hI0 (by assumption) (by assumption) (by assumption)) ?c4
      case c2 => exact IntsAre.append hi1 (.cons _ _ .nil)
      case c3 =>
        intro z _ h
        have hz : z ≠ Str.ofString "step" := fun e => by rw [e] at h; exact absurd h (by decide)
        simp only [hz, h, if_false, Bool.false_eq_true]
      case c4 => simp; omega
end Mine
end

section
open PySem PySem.W PyProof.Rows
namespace Mine
local macro_rules | `(tactic| k_mem) => `(tactic| first | exact List.Mem.head _ | ktr_member | (refine' List.mem_cons_of_mem _ ?_; k_mem))
theorem own_all {own : List (Addr × Obj)} {l : List Addr} {a : Addr} (h : OwnOff own l) (ha : a ∈ l) : ∀ p ∈ own, p.1 ≠ a := fun p hp => h p hp a ha
local macro_rules | `(tactic| k_all) => `(tactic| first | (refine List.forall_mem_append.mpr ⟨?_, ?_⟩ <;> k_all) | (refine' lt_all ?h9 ?d9; (case h9 => assumption); (case d9 => omega)) | (refine' own_all ?h9 ?d9; (case h9 => assumption); (case d9 => first | exact .head _ | exact .tail _ (.head _) | exact .tail _ (.tail _ (.head _)))) | fail "no order")
noncomputable def partsG (c : List Int × Int) (k : Int) : List Int × Int := if k ≤ c.2 then (c.1 ++ [k], c.2 - k) else c
noncomputable def takesW (ps : List Int) : Nat → List Int → Int → List Int → List Int
  | 0, _, _, takes => takes
  | f + 1, parts, take, takes => takesW ps f parts.dropLast (take + parts.getLastD 0) (if parts.dropLast = [] ∨ ps.getD (take + parts.getLastD 0).toNat 0 < lastOf parts.dropLast then takes ++ [take + parts.getLastD 0] else takes)
noncomputable def TakeI (ps T : List Int) (size : Int) (parts : List Int) (take : Int) (takes : List Int) : Prop := takesW ps parts.length parts take takes = T ∧ 0 ≤ take ∧ (∀ k ∈ parts, 1 ≤ k) ∧ take + parts.sum ≤ size ∧ parts.length ≤ 20 ∧ takes.length + parts.length ≤ 20
theorem takes_sum {parts : List Int} (h : parts ≠ []) : parts.dropLast.sum + parts.getLastD 0 = parts.sum := by
  have e := List.dropLast_concat_getLast h
  have e2 : parts.getLastD 0 = parts.getLast h := by simp [List.getLastD_eq_getLast?, List.getLast?_eq_some_getLast h]
  rw [e2]
  conv => rhs; rw [← e]
  simp
theorem sum_nonneg : ∀ {l : List Int}, (∀ k ∈ l, 1 ≤ k) → 0 ≤ l.sum
  | [], _ => by simp
  | a :: l, h => by
    have := sum_nonneg fun k hk => h k (.tail _ hk)
    have := h a (.head _)
    simp; omega
theorem drop_pos {l : List Int} (h : decide (l.dropLast = []) = false) : 0 < l.dropLast.length := by
  have h : l.dropLast ≠ [] := by simpa using h
  exact List.length_pos_iff.mpr h
theorem drop_less {l : List Int} (h : decide (l = []) = false) : l.dropLast.length < l.length := by
  have h : l ≠ [] := by simpa using h
  have := List.length_pos_iff.mpr h
  simp; omega
theorem takeI_at {ps T parts takes : List Int} {size take : Int} (h : TakeI ps T size parts take takes) (hne : decide (parts = []) = false) : 0 < parts.length ∧ parts.length ≤ 20 ∧ takes.length ≤ 20 ∧ 1 ≤ parts.getLastD 0 ∧ 0 ≤ take + parts.getLastD 0 ∧ take + parts.getLastD 0 ≤ size := by
  obtain ⟨_, h2, h3, h4, h5, h6'⟩ := h
  have hne : parts ≠ [] := by simpa using hne
  have hs := takes_sum hne
  have h6 := sum_nonneg fun k hk => h3 k ((List.dropLast_sublist _).mem hk)
  have h7 : 1 ≤ parts.getLastD 0 := by
    apply h3
    have e2 : parts.getLastD 0 = parts.getLast hne := by simp [List.getLastD_eq_getLast?, List.getLast?_eq_some_getLast hne]
    rw [e2]; exact List.getLast_mem hne
  exact ⟨List.length_pos_iff.mpr hne, h5, by omega, h7, by omega, by omega⟩
theorem takeI_next {ps T parts takes new : List Int} {size take : Int} (h : TakeI ps T size parts take takes) (hne : decide (parts = []) = false) (hn : new = if parts.dropLast = [] ∨ ps.getD (take + parts.getLastD 0).toNat 0 < lastOf parts.dropLast then takes ++ [take + parts.getLastD 0] else takes) :
    TakeI ps T size parts.dropLast (take + parts.getLastD 0) new := by
  obtain ⟨h0, _, _, _, h3, h4⟩ := takeI_at h hne
  obtain ⟨e, g2, g3, g4, g5, g6⟩ := h
  have hne : parts ≠ [] := by simpa using hne
  have hs := takes_sum hne
  have hl : parts.length = parts.dropLast.length + 1 := by simp; omega
  rw [hl, takesW, ← hn] at e
  exact ⟨e, h3, fun k hk => g3 k ((List.dropLast_sublist _).mem hk), by omega, by simp; omega, by
    have : new.length ≤ takes.length + 1 := by rw [hn]; split <;> simp
    simp; omega⟩
theorem takeI_a {ps T parts takes : List Int} {size take : Int} (h : TakeI ps T size parts take takes) (hne : decide (parts = []) = false) (hd : decide (parts.dropLast = []) = true) : TakeI ps T size parts.dropLast (take + parts.getLastD 0) (takes ++ [take + parts.getLastD 0]) :=
  takeI_next h hne (by rw [if_pos (.inl (by simpa using hd))])
theorem takeI_b {ps T parts takes : List Int} {size take : Int} (h : TakeI ps T size parts take takes) (hne : decide (parts = []) = false) (_hd : decide (parts.dropLast = []) = false) (hl : ps.getD (take + parts.getLastD 0).toNat 0 < parts.dropLast.getD (-1 + (parts.dropLast.length : Int)).toNat 0) : TakeI ps T size parts.dropLast (take + parts.getLastD 0) (takes ++ [take + parts.getLastD 0]) :=
  takeI_next h hne (by rw [if_pos (.inr hl)])
theorem takeI_c {ps T parts takes : List Int} {size take : Int} (h : TakeI ps T size parts take takes) (hne : decide (parts = []) = false) (hd : decide (parts.dropLast = []) = false) (hl : ¬ ps.getD (take + parts.getLastD 0).toNat 0 < parts.dropLast.getD (-1 + (parts.dropLast.length : Int)).toNat 0) : TakeI ps T size parts.dropLast (take + parts.getLastD 0) takes :=
  takeI_next h hne (by rw [if_neg (fun h => h.elim (fun e => by simp [e] at hd) hl)])
theorem takeI_end {ps T parts takes : List Int} {size take : Int} (h : TakeI ps T size parts take takes) (hne : decide (parts = []) = true) : takes = T := by
  have hne : parts = [] := by simpa using hne
  subst hne
  exact h.1
theorem takeI_ints {ps T parts takes : List Int} {size take : Int} {ws : List Value} (h : TakeI ps T size parts take takes) (hne : decide (parts = []) = true) (hi : IntsAre ws takes) : IntsAre ws T := takeI_end h hne ▸ hi
theorem parts_yes {xs pre : List Int} {k l pile : Int} (h : (xs, l) = pre.foldl partsG ([], pile)) (hk : k ≤ l) : (xs ++ [k], l - k) = (pre ++ [k]).foldl partsG ([], pile) := by
  rw [List.foldl_append, ← h]; simp [partsG, hk]
theorem parts_no {xs pre : List Int} {k l pile : Int} (h : (xs, l) = pre.foldl partsG ([], pile)) (hk : ¬ k ≤ l) : (xs, l) = (pre ++ [k]).foldl partsG ([], pile) := by
  rw [List.foldl_append, ← h]; simp [partsG, hk]
theorem parts_inv {pile : Int} : ∀ (ss : List Int), (∀ k ∈ ss, 1 ≤ k) → ∀ c : List Int × Int, ((∀ k ∈ c.1, 1 ≤ k) ∧ c.1.sum + c.2 = pile ∧ 0 ≤ c.2) → ((∀ k ∈ (ss.foldl partsG c).1, 1 ≤ k) ∧ (ss.foldl partsG c).1.sum + (ss.foldl partsG c).2 = pile ∧ 0 ≤ (ss.foldl partsG c).2) := by
  intro ss
  induction ss with
  | nil => intro _ c h; exact h
  | cons a ss ih =>
    intro hs c h
    rw [List.foldl_cons]
    refine ih (fun k hk => hs k (.tail _ hk)) _ ?_
    unfold partsG
    have ha := hs a (.head _)
    obtain ⟨h1, h2, h3⟩ := h
    split
    · refine ⟨fun k hk => ?_, by simp; omega, by simp; omega⟩
      rcases List.mem_append.mp hk with h | h
      · exact h1 k h
      · rw [List.mem_singleton.mp h]; exact ha
    · exact ⟨h1, h2, h3⟩
theorem parts_len : ∀ (ss : List Int) (c : List Int × Int), (ss.foldl partsG c).1.length ≤ c.1.length + ss.length := by
  intro ss
  induction ss with
  | nil => intro c; simp
  | cons a ss ih =>
    intro c
    rw [List.foldl_cons]
    refine Nat.le_trans (ih _) ?_
    unfold partsG
    split <;> simp <;> omega
theorem parts_le {xs pre : List Int} {l pile : Int} (h : (xs, l) = pre.foldl partsG ([], pile)) : xs.length ≤ pre.length := by
  have := parts_len pre ([], pile)
  rw [← h] at this
  simpa using this
theorem take_init {ps T ss xs : List Int} {pile size l : Int} (h1 : 1 ≤ pile) (h2 : pile ≤ size) (hs : ∀ k ∈ ss, 1 ≤ k) (hl : ss.length ≤ 10) (eT : takesW ps (ss.reverse.foldl partsG ([], pile)).1.length (ss.reverse.foldl partsG ([], pile)).1 0 [] = T)
    (h : (xs, l) = ss.reverse.foldl partsG ([], pile)) : TakeI ps T size xs 0 [] := by
  have hi := parts_inv (pile := pile) ss.reverse (fun k hk => hs k (List.mem_reverse.mp hk)) ([], pile) ⟨fun _ h => (nomatch h), by simp, by simp; omega⟩
  have hn := parts_len ss.reverse ([], pile)
  rw [← h] at hi eT hn
  simp at hn
  exact ⟨eT, by omega, hi.1, by have := hi.2; simp only at this; omega, by omega, by simp; omega⟩
local macro_rules | `(tactic| walk_at "exec While Compare cons nil") => `(tactic| refine stop_here ?_)
set_option maxHeartbeats 4000000 in
theorem takes_ctr (w : World) (pile size : Int) (tp : Tok) (sp lp : Addr) (us : List Value) (un' : Nat) (ss : List Int) (hu : IntsAre us ss) (vs : List Value) (nn : Nat) (ps : List Int) (hi : IntsAre vs ps) (h1 : 1 ≤ pile) (h2 : pile ≤ size) (h3 : size ≤ 9) (hl : (ps.length : Int) = size + 1) (hs : ss.length ≤ 10) (hs1 : ∀ k ∈ ss, 1 ≤ k) :
    Ctr w 126 [.int pile tp, .ref sp, .ref lp] (fun news => (sp, listOf us.toArray un') ∈ news ∧ (lp, listOf vs.toArray nn) ∈ news) (fun tl r => ∃ q ws n, r = .ref q ∧ (q, listOf ws.toArray n) ∈ tl ∧ IntsAre ws (takesW ps (ss.reverse.foldl partsG ([], pile)).1.length (ss.reverse.foldl partsG ([], pile)).1 0 [])) := by
  k_with_none
  w_top off
  unfold Ctr
  k_fill
  intro p loose mean mg mb dp un gd cn cs ca ccd cl outer A₀ base h₀ L m news s Q E B F X N T hk hpre hd hu' hret
  obtain ⟨hp1, hp2⟩ : (sp, listOf us.toArray un') ∈ news ∧ (lp, listOf vs.toArray nn) ∈ news := hpre
  generalize eT : takesW ps (ss.reverse.foldl partsG ([], pile)).1.length (ss.reverse.foldl partsG ([], pile)).1 0 [] = T' at *
  refine wpAny_call ?_
  k_dflt ktr_enter
  k_with "pyIter ref" => k_state (fun pre parts left => (parts, left) = pre.foldl partsG ([], pile)) "parts" "left"
  k_with "measure" => exact drop_less (by assumption)
  k_with "state" => first | exact takeI_a (by assumption) (by assumption) (by assumption) | exact takeI_b (by assumption) (by assumption) (by assumption) (by assumption) | exact takeI_c (by assumption) (by assumption) (by assumption) (by assumption) | exact take_init h1 h2 hs1 hs eT (by assumption) | exact parts_yes (by assumption) (by assumption) | exact parts_no (by assumption) (by assumption)
  k_steps
  · have hle := parts_le (by assumption)
    k_steps
  · refine go_on ?_
    k_while (fun _ parts take takes => TakeI ps T' size parts take takes) (fun _ parts _ _ => parts.length) "parts" "take" "takes"
    k_steps
    · rename News h₀ L _ _ => kN'
      refine hret _ [(_, W.listOf _ _)] _ _ (by assumption) (fun p hp => kN' p (sub3 hp)) (ord1 ?_) ⟨_, _, _, rfl, List.mem_singleton_self _, ?_⟩
      · rename _ ∧ _ ∧ AllLt _ _ => hl3; exact hl3.2.2
      · exact takeI_ints (by assumption) (by assumption) (by assumption)
    · obtain ⟨ha1, ha2, ha3, ha4, ha5, ha6⟩ := takeI_at (by assumption) (by assumption)
      k_steps
      have hd := drop_pos (by assumption)
      k_steps
end Mine
end

section
open PySem PySem.W PyProof.Rows
namespace Mine
noncomputable def sums : Int → List Int → List Int
  | a, [] => [a]
  | a, x :: xs => a :: sums (a + x) xs
noncomputable def aheadOf (front size pile : Int) : Int := if 0 > front - (size - pile) then 0 else front - (size - pile)
noncomputable def lineOf (front size pile : Int) : Str := Txt.mul (Str.ofString " ") (aheadOf front size pile) ++ Str.ofString "~" ++ Txt.mul (Str.ofString " ") (pile - aheadOf front size pile)
noncomputable def linesOf (front size : Int) (n : Nat) : List Str := (List.range n).map fun (i : Nat) => lineOf front size (i : Int)
noncomputable def nameOf (front size pile take : Int) : Str := lineOf front size pile ++ Str.ofString ":" ++ Str.ofString (toString take) ++ Str.ofString "(" ++ lineOf front size (pile - take) ++ Str.ofString ")"
noncomputable def winB (ps V : List Int) (pile take : Nat) : Bool := decide (ps.getD take 0 < V.getD (pile - take) 0)
noncomputable def stepV (ps V : List Int) (pile : Nat) : Nat → List Int
  | 0 => V
  | i + 1 => if winB ps V pile (i + 1) = true ∧ (stepV ps V pile i).length = pile then stepV ps V pile i ++ [((i + 1 : Nat) : Int)] else stepV ps V pile i
noncomputable def valsF (ps : List Int) (size : Int) : Nat → List Int
  | 0 => [2 * size + 1]
  | i + 1 => stepV ps (valsF ps size i) (i + 1) (i + 1)
noncomputable def leastL (front size : Int) (V : List Int) : List (Str × Int) := (List.range V.length).map fun (j : Nat) => (lineOf front size (j : Int), V.getD j 0)
noncomputable def movesL (front size : Int) (ps V : List Int) (pile n : Nat) : List (Str × Int) := (List.range n).map fun (j : Nat) => (nameOf front size (pile : Int) ((j + 1 : Nat) : Int), if winB ps V pile (j + 1) = true then 1 else 0)
theorem sums_len : ∀ (p : List Int) (a : Int), (sums a p).length = p.length + 1
  | [], _ => rfl
  | x :: p, a => by simp [sums, sums_len p]
theorem sums_app : ∀ (p : List Int) (a x : Int), sums a (p ++ [x]) = sums a p ++ [a + p.sum + x]
  | [], a, x => by simp [sums]
  | y :: p, a, x => by
    simp only [List.cons_append, sums, sums_app p, List.sum_cons]
    rw [Int.add_assoc a y]
theorem sums_app0 (p : List Int) (x : Int) : sums 0 (p ++ [x]) = sums 0 p ++ [p.sum + x] := by rw [sums_app, Int.zero_add]
theorem sums_getLast : ∀ (p : List Int) (a : Int), (sums a p).getD p.length 0 = a + p.sum
  | [], a => by simp [sums]
  | x :: p, a => by
    have := sums_getLast p (a + x)
    simp only [sums, List.length_cons, List.getD_cons_succ, List.sum_cons]
    omega
theorem sums_last (p : List Int) : (sums 0 p).getD (-1 + ((sums 0 p).length : Int)).toNat 0 = p.sum := by
  have e : (-1 + ((sums 0 p).length : Int)).toNat = p.length := by rw [sums_len]; omega
  rw [e, sums_getLast]; omega
theorem sums_ge {p : List Int} {size : Int} (h : ∀ x ∈ p, x = 1 ∨ x = 2) (hl : (p.length : Int) = size) : ∀ k, 1 ≤ k → k ≤ size → k ≤ (sums 0 p).getD k.toNat 0 := by
  have key : ∀ (p : List Int) (a : Int) (j : Nat), (∀ x ∈ p, x = 1 ∨ x = 2) → j ≤ p.length → a + (j : Int) ≤ (sums a p).getD j 0 := by
    intro p
    induction p with
    | nil => intro a j _ hj; simp at hj; subst hj; simp [sums]
    | cons x p ih =>
      intro a j hx hj
      cases j with
      | zero => simp [sums]
      | succ j =>
        have h1 := ih (a + x) j (fun y hy => hx y (.tail _ hy)) (by simpa using hj)
        have h2 := hx x (.head _)
        simp only [sums, List.getD_cons_succ]
        omega
  intro k h1 h2
  have := key p 0 k.toNat h (by omega)
  omega
theorem linesOf_succ (front size : Int) (i : Nat) : linesOf front size (i + 1) = linesOf front size i ++ [lineOf front size i] := by
  unfold linesOf; rw [List.range_succ, List.map_append]; rfl
theorem drop_second {α : Type} {p a b : α} {l : List α} (h : p ∈ a :: l) : p ∈ a :: b :: l := by
  rcases List.mem_cons.mp h with rfl | h
  · exact .head _
  · exact .tail _ (.tail _ h)
theorem strs_len : ∀ {vs : List Value} {xs : List Str}, StrsAre vs xs → vs.length = xs.length
  | _, _, .nil => rfl
  | _, _, .cons _ _ r => by simp [strs_len r]
theorem strs_app : ∀ {vs : List Value} {xs : List Str} {x y : Str} {t : Tok}, StrsAre vs xs → x = y → StrsAre (vs ++ [.str x t]) (xs ++ [y])
  | _, _, x, _, t, .nil, rfl => .cons x t .nil
  | _, _, _, _, _, .cons a b r, e => .cons a b (strs_app r e)
theorem off_swap {own : List (Addr × Obj)} {a b c d : Addr} (h : OwnOff own [a, b, c]) (h2 : AllLt d own) : OwnOff own [a, b, d] := by
  intro p hp x hx
  simp only [List.mem_cons, List.not_mem_nil, or_false] at hx
  rcases hx with rfl | rfl | rfl
  · exact h p hp _ (.head _)
  · exact h p hp _ (.tail _ (.head _))
  · exact Nat.ne_of_lt (allLt_mem h2 p hp)
theorem ord_lt {news : List (Addr × Obj)} {d : Addr} {o : Obj} (h : ∀ q ∈ news, ∀ p ∈ [(d, o)], q.1 < p.1) : ∀ p ∈ news, p.1 < d := fun p hp => h p hp _ (.head _)
-- texts' lengths
theorem ml (n : Int) (h : 0 ≤ n) : ((Txt.mul (Str.ofString " ") n).length : Int) = n := by
  unfold Txt.mul
  split
  · have : n = 0 := by omega
    subst this; rfl
  · split
    · rename_i h1 h2
      simp at h2
      rcases h2 with h2 | h2
      · subst h2; rfl
      · exact absurd h2 (by decide)
    · show (((List.replicate n.toNat (Str.ofString " ").cps).foldl (· ++ ·) #[]).size : Int) = n
      have key : ∀ (k : Nat) (a : Array Nat), ((List.replicate k (Str.ofString " ").cps).foldl (· ++ ·) a).size = a.size + k := by
        intro k
        induction k with
        | zero => intro a; rfl
        | succ k ih =>
          intro a
          rw [List.replicate_succ, List.foldl_cons, ih, Array.size_append]
          have : (Str.ofString " ").cps.size = 1 := by decide
          omega
      have := key n.toNat #[]
      rw [this]; simp; omega
theorem app_len (a b : Str) : (a ++ b).length = a.length + b.length := by
  show (a.cps ++ b.cps).size = _
  rw [Array.size_append]; rfl
theorem ahead_in {front size pile : Int} (h0 : 0 ≤ front) (h1 : front ≤ size) (h2 : 0 ≤ pile) : 0 ≤ aheadOf front size pile ∧ aheadOf front size pile ≤ pile := by
  unfold aheadOf; split <;> omega
theorem len_line {front size pile : Int} (h0 : 0 ≤ front) (h1 : front ≤ size) (h2 : 0 ≤ pile) : ((lineOf front size pile).length : Int) = pile + 1 := by
  obtain ⟨a, b⟩ := ahead_in h0 h1 h2
  unfold lineOf
  rw [app_len, app_len]
  have e1 := ml _ a
  have e2 := ml (pile - aheadOf front size pile) (by omega)
  have e3 : (Str.ofString "~").length = 1 := by decide
  rw [e3]
  push_cast
  omega
theorem dig_len : ∀ k : Fin 10, (Str.ofString (toString ((k.val : Nat) : Int))).length = 1 := by decide +kernel
theorem take_len {take : Int} (h1 : 0 ≤ take) (h2 : take ≤ 9) : (Str.ofString (toString take)).length = 1 := by
  have := dig_len ⟨take.toNat, by omega⟩
  rw [show (((⟨take.toNat, by omega⟩ : Fin 10).val : Nat) : Int) = take by show ((take.toNat : Nat) : Int) = take; omega] at this
  exact this
theorem len_name {front size pile take : Int} (h0 : 0 ≤ front) (h1 : front ≤ size) (h2 : 1 ≤ take) (h3 : take ≤ pile) (h4 : pile ≤ 9) : ((nameOf front size pile take).length : Int) = 2 * pile - take + 6 := by
  unfold nameOf
  rw [app_len, app_len, app_len, app_len, app_len, take_len (by omega) (by omega)]
  have e1 := len_line (pile := pile) h0 h1 (by omega)
  have e2 := len_line (pile := pile - take) h0 h1 (by omega)
  have a1 : (Str.ofString ":").length = 1 := by decide
  have a2 : (Str.ofString "(").length = 1 := by decide
  have a3 : (Str.ofString ")").length = 1 := by decide
  rw [a1, a2, a3]
  push_cast
  omega
theorem line_inj {front size : Int} (h0 : 0 ≤ front) (h1 : front ≤ size) {i j : Nat} (h : lineOf front size (i : Int) = lineOf front size (j : Int)) : i = j := by
  have e1 := len_line (pile := (i : Int)) h0 h1 (by omega)
  have e2 := len_line (pile := (j : Int)) h0 h1 (by omega)
  rw [h] at e1
  omega
-- books that are tables over a range
section
variable {key : Nat → Str} {val : Nat → Int} {n : Nat}
theorem rg_has {j : Nat} (h : j < n) : kdpHas ((List.range n).map fun j => (key j, val j)) (key j) = true := by
  unfold kdpHas
  exact List.any_eq_true.mpr ⟨(key j, val j), List.mem_map.mpr ⟨j, List.mem_range.mpr h, rfl⟩, by simp⟩
theorem rg_not {k : Str} (h : ∀ i, i < n → key i ≠ k) : kdpHas ((List.range n).map fun j => (key j, val j)) k = false := by
  unfold kdpHas
  rw [Bool.eq_false_iff]
  intro hc
  obtain ⟨p, hp, e⟩ := List.any_eq_true.mp hc
  obtain ⟨i, hi, rfl⟩ := List.mem_map.mp hp
  exact h i (List.mem_range.mp hi) (of_decide_eq_true e)
theorem rg_put {k : Str} {v : Int} (h : ∀ i, i < n → key i ≠ k) : kdpPut ((List.range n).map fun j => (key j, val j)) k v = ((List.range n).map fun j => (key j, val j)) ++ [(k, v)] := by
  refine kdp_new fun hm => ?_
  obtain ⟨p, hp, e⟩ := List.mem_map.mp hm
  obtain ⟨i, hi, rfl⟩ := List.mem_map.mp hp
  exact h i (List.mem_range.mp hi) e
theorem rg_last {k : Str} {a v : Int} (h : ∀ i, i < n → key i ≠ k) : kdpPut (((List.range n).map fun j => (key j, val j)) ++ [(k, a)]) k v = ((List.range n).map fun j => (key j, val j)) ++ [(k, v)] := by
  unfold kdpPut
  rw [if_pos (by simp)]
  rw [List.map_append]
  congr 1
  · rw [List.map_map]
    refine List.map_congr_left fun i hi => ?_
    have := h i (List.mem_range.mp hi)
    simp [this]
  · simp
theorem rg_look {j : Nat} (hj : j < n) (h : ∀ i, i < n → key i = key j → i = j) : kdpLook ((List.range n).map fun j => (key j, val j)) (key j) 0 = val j := by
  unfold kdpLook
  cases hf : ((List.range n).map fun j => (key j, val j)).find? fun p => decide (p.1 = key j) with
  | none =>
    rw [List.find?_eq_none] at hf
    have := hf (key j, val j) (List.mem_map.mpr ⟨j, List.mem_range.mpr hj, rfl⟩)
    simp at this
  | some p =>
    have h1 := List.find?_some hf
    have h2 := List.mem_of_find?_eq_some hf
    obtain ⟨i, hi, rfl⟩ := List.mem_map.mp h2
    have := h i (List.mem_range.mp hi) (of_decide_eq_true h1)
    subst this
    rfl
end
section
variable {front size : Int} {ps V : List Int} {pile : Nat}
theorem least_has (h0 : 0 ≤ front) (h1 : front ≤ size) (j : Nat) : kdpHas (leastL front size V) (lineOf front size (j : Int)) = decide (j < V.length) := by
  by_cases h : j < V.length
  · rw [decide_eq_true h]; exact rg_has (key := fun j => lineOf front size (j : Int)) h
  · rw [decide_eq_false h]; exact rg_not (key := fun j => lineOf front size (j : Int)) fun i hi e => h (line_inj h0 h1 e ▸ hi)
theorem least_look (h0 : 0 ≤ front) (h1 : front ≤ size) {j : Nat} (h : j < V.length) : kdpLook (leastL front size V) (lineOf front size (j : Int)) 0 = V.getD j 0 :=
  rg_look (key := fun j => lineOf front size (j : Int)) (val := fun j => V.getD j 0) h fun _ _ e => line_inj h0 h1 e
theorem least_put (h0 : 0 ≤ front) (h1 : front ≤ size) (v : Int) : kdpPut (leastL front size V) (lineOf front size (V.length : Int)) v = leastL front size (V ++ [v]) := by
  have e := rg_put (key := fun j => lineOf front size (j : Int)) (val := fun j => V.getD j 0) (n := V.length) (k := lineOf front size (V.length : Int)) (v := v) fun i hi e => absurd (line_inj h0 h1 e) (by omega)
  refine e.trans ?_
  unfold leastL
  rw [List.length_append, List.length_singleton, List.range_succ, List.map_append]
  congr 1
  · refine List.map_congr_left fun i hi => ?_
    have := List.mem_range.mp hi
    simp [List.getD_eq_getElem?_getD, List.getElem?_append_left this]
  · simp
theorem moves_len : (movesL front size ps V pile n).length = n := by simp [movesL]
theorem small_up {a n : Int} (ha : 0 ≤ a) (ha1 : a ≤ 1) (h0 : 0 ≤ n) (h9 : n ≤ 10) : Builtin.Range.small a n 1 = true := small_one (by omega) (by omega) (by omega) (by omega)
theorem size_upN {n : Nat} : Builtin.Range.rangeSize 1 ((n : Int) + 1) 1 = (n : Int) := by rw [rangeSize_nat, Int.add_sub_cancel]; rfl
theorem size_upI {z : Int} : Builtin.Range.rangeSize 1 (z + 1) 1 = (z.toNat : Int) := by rw [rangeSize_nat, Int.add_sub_cancel]
theorem small_mul {n : Int} (h0 : 0 ≤ n) (h9 : n ≤ 9) : Small 9 (Txt.mul (Str.ofString " ") n) := Int.ofNat_le.mp (Int.le_trans (Int.le_of_eq (ml n h0)) h9)
theorem len20 {front size pile : Int} (h0 : 0 ≤ front) (h1 : front ≤ size) (h2 : 0 ≤ pile) (h3 : pile ≤ 9) : (lineOf front size pile).length ≤ 20 := by
  have := len_line (pile := pile) h0 h1 h2
  clear h0 h1
  omega
theorem lines_len {front size : Int} : (linesOf front size (size + 1).toNat).length = (size + 1).toNat := by simp [linesOf]
theorem lines_in {front size z : Int} (h0 : 0 ≤ z) (h : z ≤ size) : z < ((linesOf front size (size + 1).toNat).length : Int) := by
  rw [lines_len]; omega
theorem name_ne (h0 : 0 ≤ front) (h1 : front ≤ size) (hp : pile ≤ 9) {i n : Nat} (hi : i < n) (hn : n < pile) : nameOf front size (pile : Int) ((i + 1 : Nat) : Int) ≠ nameOf front size (pile : Int) ((n + 1 : Nat) : Int) := by
  intro e
  have e1 := len_name (pile := (pile : Int)) (take := ((i + 1 : Nat) : Int)) h0 h1 (by omega) (by omega) (by omega)
  have e2 := len_name (pile := (pile : Int)) (take := ((n + 1 : Nat) : Int)) h0 h1 (by omega) (by omega) (by omega)
  rw [e] at e1
  omega
theorem moves_put (h0 : 0 ≤ front) (h1 : front ≤ size) (hp : pile ≤ 9) {n : Nat} (hn : n < pile) (v : Int) : kdpPut (movesL front size ps V pile n) (nameOf front size (pile : Int) ((n + 1 : Nat) : Int)) v = movesL front size ps V pile n ++ [(nameOf front size (pile : Int) ((n + 1 : Nat) : Int), v)] :=
  rg_put (key := fun j => nameOf front size (pile : Int) ((j + 1 : Nat) : Int)) fun i hi => name_ne h0 h1 hp hi hn
theorem moves_last (h0 : 0 ≤ front) (h1 : front ≤ size) (hp : pile ≤ 9) {n : Nat} (hn : n < pile) (a v : Int) : kdpPut (movesL front size ps V pile n ++ [(nameOf front size (pile : Int) ((n + 1 : Nat) : Int), a)]) (nameOf front size (pile : Int) ((n + 1 : Nat) : Int)) v = movesL front size ps V pile n ++ [(nameOf front size (pile : Int) ((n + 1 : Nat) : Int), v)] :=
  rg_last (key := fun j => nameOf front size (pile : Int) ((j + 1 : Nat) : Int)) fun i hi => name_ne h0 h1 hp hi hn
theorem moves_succ (n : Nat) : movesL front size ps V pile (n + 1) = movesL front size ps V pile n ++ [(nameOf front size (pile : Int) ((n + 1 : Nat) : Int), if winB ps V pile (n + 1) = true then 1 else 0)] := by
  unfold movesL; rw [List.range_succ, List.map_append]; rfl
theorem stepV_len : ∀ i, V.length ≤ (stepV ps V pile i).length ∧ (V.length = pile → (stepV ps V pile i).length ≤ pile + 1)
  | 0 => ⟨Nat.le_refl _, fun h => by simp [stepV, h]⟩
  | i + 1 => by
    obtain ⟨h1, h2⟩ := stepV_len i
    unfold stepV
    split
    · rename_i h
      refine ⟨by simp; omega, fun _ => by simp; omega⟩
    · exact ⟨h1, h2⟩
theorem stepV_le {P : Nat} (hV : V.length = P) (hP : P ≤ 9) (j : Nat) : (stepV ps V P j).length ≤ 10 := Nat.le_trans ((stepV_len (ps := ps) (V := V) (pile := P) j).2 hV) (Nat.succ_le_succ hP)
theorem stepV_get {j : Nat} (h : j < V.length) : ∀ i, (stepV ps V pile i).getD j 0 = V.getD j 0
  | 0 => rfl
  | i + 1 => by
    have ih := stepV_get h i
    have hl := (stepV_len (ps := ps) (V := V) (pile := pile) i).1
    unfold stepV
    split
    · rw [← ih, List.getD_eq_getElem?_getD, List.getD_eq_getElem?_getD, List.getElem?_append_left (by omega)]
    · exact ih
end
theorem line_zero {front size : Int} (h1 : front ≤ size) : lineOf front size 0 = Str.ofString "~" := by
  have e : aheadOf front size 0 = 0 := by unfold aheadOf; split <;> omega
  unfold lineOf
  rw [e]
  decide +kernel
theorem least_one {front size : Int} (h1 : front ≤ size) (v : Int) : leastL front size [v] = [(Str.ofString "~", v)] := by
  show [(lineOf front size ((0 : Nat) : Int), v)] = _
  rw [show ((0 : Nat) : Int) = 0 from rfl, line_zero h1]
theorem mv_win {front size : Int} {ps V : List Int} {P j : Nat} (h0 : 0 ≤ front) (h1 : front ≤ size) (hp : P ≤ 9) (hn : j < P) (hw : winB ps V P (j + 1) = true) :
    kdpPut (kdpPut (movesL front size ps V P j) (nameOf front size (P : Int) ((j + 1 : Nat) : Int)) 0) (nameOf front size (P : Int) ((j + 1 : Nat) : Int)) 1 = movesL front size ps V P (j + 1) := by
  rw [moves_put h0 h1 hp hn, moves_last h0 h1 hp hn, moves_succ, if_pos hw]
theorem mv_lose {front size : Int} {ps V : List Int} {P j : Nat} (h0 : 0 ≤ front) (h1 : front ≤ size) (hp : P ≤ 9) (hn : j < P) (hw : winB ps V P (j + 1) = false) :
    kdpPut (movesL front size ps V P j) (nameOf front size (P : Int) ((j + 1 : Nat) : Int)) 0 = movesL front size ps V P (j + 1) := by
  rw [moves_put h0 h1 hp hn, moves_succ, if_neg (by rw [hw]; exact Bool.false_ne_true)]
theorem step_add {ps V : List Int} {P j : Nat} (hw : winB ps V P (j + 1) = true) (hl : (stepV ps V P j).length = P) : stepV ps V P (j + 1) = stepV ps V P j ++ [((j + 1 : Nat) : Int)] := if_pos ⟨hw, hl⟩
theorem step_keep {ps V : List Int} {P j : Nat} (hl : (stepV ps V P j).length ≠ P) : stepV ps V P (j + 1) = stepV ps V P j := if_neg fun h => hl h.2
theorem step_lose {ps V : List Int} {P j : Nat} (hw : winB ps V P (j + 1) = false) : stepV ps V P (j + 1) = stepV ps V P j := if_neg fun h => by rw [hw] at h; exact Bool.false_ne_true h.1
theorem least_hasI {front size z : Int} {V : List Int} (h0 : 0 ≤ front) (h1 : front ≤ size) (hz : 0 ≤ z) (h : z < V.length) : kdpHas (leastL front size V) (lineOf front size z) = true := by
  have := least_has (V := V) h0 h1 z.toNat
  rw [show ((z.toNat : Nat) : Int) = z by omega, decide_eq_true (by omega)] at this
  exact this
theorem win_at {front size : Int} {ps V : List Int} {P K j : Nat} (h0 : 0 ≤ front) (h1 : front ≤ size) (hV : V.length = P) (hk : 1 ≤ K) (hkp : K ≤ P) :
    decide (ps.getD (K : Int).toNat 0 < kdpLook (leastL front size (stepV ps V P j)) (lineOf front size ((P : Int) - (K : Int))) 0) = winB ps V P K := by
  have hl := (stepV_len (ps := ps) (V := V) (pile := P) j).1
  have e := least_look (front := front) (size := size) (V := stepV ps V P j) h0 h1 (j := P - K) (by omega)
  rw [show ((P - K : Nat) : Int) = (P : Int) - (K : Int) by omega, stepV_get (by omega)] at e
  rw [e, Int.toNat_natCast]; rfl
theorem new_line {front size : Int} {ps V : List Int} {P j : Nat} (h0 : 0 ≤ front) (h1 : front ≤ size) (hl : (stepV ps V P j).length = P) : (!kdpHas (leastL front size (stepV ps V P j)) (lineOf front size (P : Int))) = true := by
  rw [least_has h0 h1, decide_eq_false (by omega)]; rfl
theorem old_line {front size : Int} {ps V : List Int} {P j : Nat} (h0 : 0 ≤ front) (h1 : front ≤ size) (hV : V.length = P) (hl : (stepV ps V P j).length ≠ P) : ¬ (!kdpHas (leastL front size (stepV ps V P j)) (lineOf front size (P : Int))) = true := by
  have := (stepV_len (ps := ps) (V := V) (pile := P) j).1
  rw [least_has h0 h1, decide_eq_true (by omega)]; exact Bool.false_ne_true
theorem put_line {front size : Int} {ps V : List Int} {P j : Nat} (h0 : 0 ≤ front) (h1 : front ≤ size) (hl : (stepV ps V P j).length = P) (v : Int) : kdpPut (leastL front size (stepV ps V P j)) (lineOf front size (P : Int)) v = leastL front size (stepV ps V P j ++ [v]) := by
  have := least_put (V := stepV ps V P j) h0 h1 v
  rw [hl] at this
  exact this
noncomputable def dueL (front size : Int) (T : List Int) (P n : Nat) : List Dat := (List.range n).map fun (j : Nat) => Dat.tuple [.str (nameOf front size (P : Int) ((j + 1 : Nat) : Int)), .int (if ((j + 1 : Nat) : Int) ∈ T then 1 else 0)]
theorem due_succ {front size : Int} {T : List Int} {P n : Nat} : dueL front size T P (n + 1) = dueL front size T P n ++ [Dat.tuple [.str (nameOf front size (P : Int) ((n + 1 : Nat) : Int)), .int (if ((n + 1 : Nat) : Int) ∈ T then 1 else 0)]] := by
  unfold dueL; rw [List.range_succ, List.map_append]; rfl
theorem due_add {front size : Int} {T : List Int} {P n : Nat} {n1 : List (Addr × Obj)} {vs : List Value} {q : Addr} {t1 t2 : Tok} {z : Int} (h : DatAll n1 vs (dueL front size T P n)) (hz : z = if ((n + 1 : Nat) : Int) ∈ T then 1 else 0) :
    DatAll (n1 ++ [(q, ({ cls := .type "tuple", data := .seq #[.str (nameOf front size (P : Int) ((n + 1 : Nat) : Int)) t1, .int z t2] } : Obj))]) (vs ++ [.ref q]) (dueL front size T P (n + 1)) := by
  rw [due_succ]
  refine DatAll.append (h.mono fun p hp => List.mem_append_left _ hp) (.cons ?_ .nil)
  rw [← hz]
  exact .tuple (n := 0) (List.mem_append_right _ (.head _)) (.cons (.str _ _) (.cons (.int _ _) .nil))
end Mine
end

section
open PySem PySem.W PyProof.Rows
namespace Mine
noncomputable def ln (a b : Nat) : Str := Txt.mul (Str.ofString " ") (a : Int) ++ Str.ofString "~" ++ Txt.mul (Str.ofString " ") (b : Int)
theorem line_ln {front size pile : Int} (h0 : 0 ≤ front) (h1 : front ≤ size) (h2 : 0 ≤ pile) : ∃ a b : Nat, (a : Int) = aheadOf front size pile ∧ (a : Int) + b = pile ∧ lineOf front size pile = ln a b := by
  obtain ⟨x, y⟩ := ahead_in (pile := pile) h0 h1 h2
  refine ⟨(aheadOf front size pile).toNat, (pile - aheadOf front size pile).toNat, by omega, by omega, ?_⟩
  unfold lineOf ln
  rw [show (((aheadOf front size pile).toNat : Nat) : Int) = aheadOf front size pile by omega, show (((pile - aheadOf front size pile).toNat : Nat) : Int) = pile - aheadOf front size pile by omega]
theorem ln_strip : ∀ a b t : Fin 10, a.val + b.val ≤ 9 → t.val ≤ a.val + b.val →
    (Txt.slice (ln a.val b.val) (some (if t.val ≤ a.val then (t.val : Int) else a.val)) (some (if t.val ≤ a.val then (a.val + b.val + 1 : Int) else (a.val + b.val + 1 - (t.val - a.val) : Int)))).cps.toList
     = (ln (a.val - t.val) (b.val - (t.val - a.val))).cps.toList := by decide +kernel
theorem ln_item : ∀ a b : Fin 10, a.val + b.val ≤ 9 → Txt.item (ln a.val b.val) (a.val : Int) ≠ Str.ofString " " := by decide +kernel
theorem ln_blank : ∀ a b i : Fin 10, a.val + b.val ≤ 9 → i.val ≤ a.val + b.val → i ≠ a → Txt.item (ln a.val b.val) (i.val : Int) = Str.ofString " " := by decide +kernel
theorem ln_ok : ∀ a b : Fin 10, a.val + b.val ≤ 9 → PyData.strOk (ln a.val b.val) = true := by decide +kernel
end Mine
end

section
open PySem PySem.W PyProof.Rows
namespace Mine
noncomputable def repL (c p t : Nat) (zs : List Nat) : List Nat := [50,50,57,32,84,97,107,101,110,32,40] ++ ([c,p,c,49,c] ++ zs ++ [t,c]) ++ [41,32,40,c,c,c,57,c,41]
theorem digit_cps : ∀ k : Fin 10, (Str.ofString (toString ((k.val : Nat) : Int))).cps.toList = [48 + k.val] := by decide +kernel
theorem zeros_cps : ∀ k : Fin 10, (Txt.mul (Str.ofString "0") (((k.val : Nat) : Int).fmod 3)).cps.toList = List.replicate (k.val % 3) 48 := by decide +kernel
theorem three_cps (c : Nat) : (Txt.mul ⟨#[c]⟩ 3).cps.toList = [c, c, c] := by rfl
theorem app_cps (a b : Str) : (a ++ b).cps.toList = a.cps.toList ++ b.cps.toList := by
  show (a.cps ++ b.cps).toList = _
  simp
theorem str_of {x : Str} {l : List Nat} (h : x.cps.toList = l) : x = ⟨l.toArray⟩ := by
  obtain ⟨⟨k⟩⟩ := x
  have : k = l := h
  subst this; rfl
theorem reply_rep (c : Nat) (k j : Fin 10) : replyOf ⟨#[c]⟩ ((k.val : Nat) : Int) ((j.val : Nat) : Int) = ⟨(repL c (48 + k.val) (48 + j.val) (List.replicate (j.val % 3) 48)).toArray⟩ := by
  refine str_of ?_
  unfold replyOf repL
  simp only [app_cps, digit_cps, zeros_cps, three_cps]
  rw [show (Str.ofString "229 Taken (").cps.toList = [50,50,57,32,84,97,107,101,110,32,40] by decide +kernel, show (Str.ofString "1").cps.toList = [49] by decide +kernel, show (Str.ofString ") (").cps.toList = [41,32,40] by decide +kernel, show (Str.ofString "9").cps.toList = [57] by decide +kernel, show (Str.ofString ")").cps.toList = [41] by decide +kernel]
  simp
theorem take_text : ∀ k : Fin 10, PySem.intText? ⟨(List.replicate (k.val % 3) 48 ++ [48 + k.val]).toArray⟩ = some ((k.val : Nat) : Int) := by decide +kernel
theorem find3_at {x : Str} {ch : Nat} {i : Int} {lo R : Nat} (hl : fromIndex x.length i = lo) (h1 : lo ≤ R) (hR : R < x.length) (hx : x.cps.getD R 0 = ch) (hn : ∀ v, lo ≤ v → v < R → x.cps.getD v 0 ≠ ch) : Txt.find3 x ⟨#[ch]⟩ i = (R : Int) := by
  rcases StrLaws.find3_spec x ch i with ⟨_, h⟩ | ⟨k, e, h2, h3, h4, h5⟩
  · exact absurd hx (h R (by omega) hR)
  · rw [hl] at h2 h5
    have : k = R := by
      rcases Nat.lt_trichotomy k R with h | h | h
      · exact absurd h4 (hn k h2 h)
      · exact h
      · exact absurd hx (h5 R h1 h)
    rw [e, this]
theorem find_eq3 (x y : Str) : Txt.find x y = Txt.find3 x y 0 := by rfl
-- split by one sign
noncomputable def freeL (c : Nat) (l : List Str) : Prop := ∀ p ∈ l, c ∉ p.cps.toList
theorem list_cut {c : Nat} : ∀ {a b u v : List Nat}, c ∉ a → c ∉ b → a ++ c :: u = b ++ c :: v → a = b ∧ u = v
  | [], [], _, _, _, _, h => ⟨rfl, by simpa using h⟩
  | [], y :: b, _, _, _, hb, h => by
    simp at h
    exact absurd (h.1 ▸ List.Mem.head _) hb
  | x :: a, [], _, _, ha, _, h => by
    simp at h
    exact absurd (h.1 ▸ List.Mem.head _) ha
  | x :: a, y :: b, u, v, ha, hb, h => by
    simp only [List.cons_append, List.cons.injEq] at h
    obtain ⟨e, r⟩ := list_cut (fun m => ha (.tail _ m)) (fun m => hb (.tail _ m)) h.2
    exact ⟨by rw [h.1, e], r⟩
theorem join_cons {c : Nat} {a b : Str} {l : List Str} : (Str.join ⟨#[c]⟩ (a :: b :: l)).cps.toList = a.cps.toList ++ c :: (Str.join ⟨#[c]⟩ (b :: l)).cps.toList := by
  show (a ++ ⟨#[c]⟩ ++ Str.join ⟨#[c]⟩ (b :: l)).cps.toList = _
  rw [app_cps, app_cps]
  simp
theorem join_one {c : Nat} {a : Str} : (Str.join ⟨#[c]⟩ [a]).cps.toList = a.cps.toList := rfl
theorem join_has {c : Nat} {a b : Str} {l : List Str} : c ∈ (Str.join ⟨#[c]⟩ (a :: b :: l)).cps.toList := by
  rw [join_cons]; simp
theorem join_inj {c : Nat} : ∀ {l k : List Str}, l ≠ [] → k ≠ [] → freeL c l → freeL c k → (Str.join ⟨#[c]⟩ l).cps.toList = (Str.join ⟨#[c]⟩ k).cps.toList → l = k
  | [], _, h, _, _, _, _ => absurd rfl h
  | _ :: _, [], _, h, _, _, _ => absurd rfl h
  | [x], [y], _, _, _, _, h => by
    have h : x.cps.toList = y.cps.toList := h
    rw [str_of h, str_of rfl (x := y)]
  | [x], y :: z :: k, _, _, hl, _, h => by
    have h' : x.cps.toList = _ := h
    exact absurd (h' ▸ join_has) (hl x (.head _))
  | x :: z :: l, [y], _, _, _, hk, h => by
    have h' : _ = y.cps.toList := h
    exact absurd (h'.symm ▸ join_has) (hk y (.head _))
  | x :: z :: l, y :: w :: k, _, _, hl, hk, h => by
    rw [join_cons, join_cons] at h
    obtain ⟨e, r⟩ := list_cut (hl x (.head _)) (hk y (.head _)) h
    have e' : x = y := by rw [str_of e, str_of rfl (x := y)]
    rw [e', join_inj (by simp) (by simp) (fun p hp => hl p (.tail _ hp)) (fun p hp => hk p (.tail _ hp)) r]
theorem split_by {c : Nat} {x : Str} {l : List Str} (hl : l ≠ []) (hf : freeL c l) (hx : x.cps.toList ≠ []) (h : (Str.join ⟨#[c]⟩ l).cps.toList = x.cps.toList) : Txt.split x ⟨#[c]⟩ = l := by
  have e := StrLaws.join_split x ⟨#[c]⟩
  have hf2 : freeL c (Txt.split x ⟨#[c]⟩) := StrLaws.split_free x c
  refine join_inj ?_ hl hf2 hf (by rw [e, h])
  intro h0
  rw [h0] at e
  exact hx (by rw [← e]; rfl)
-- shapes
abbrev RepOk (c : Nat) (zs : List Nat) (t : Nat) (x : Str) : Prop :=
  (∃ n R : Nat, x.length = n ∧ n ≤ 60 ∧ Txt.find3 x (Str.ofString ")") (Txt.find x (Str.ofString "(") + 1) = R ∧ 12 < R ∧ R < n) ∧
  (Txt.slice x none (some 3) = Str.ofString "229") ∧
  (Txt.find x (Str.ofString "(") = 10) ∧
  (Txt.item x (Txt.find x (Str.ofString "(") + 1) = Txt.item x (Txt.find3 x (Str.ofString ")") (Txt.find x (Str.ofString "(") + 1) - 1)) ∧
  (∃ a0 a1 a2 a4, Txt.split (Txt.slice x (some (Txt.find x (Str.ofString "(") + 1)) (some (Txt.find3 x (Str.ofString ")") (Txt.find x (Str.ofString "(") + 1)))) (Txt.item x (Txt.find x (Str.ofString "(") + 1)) = [a0, a1, a2, ⟨(zs ++ [t]).toArray⟩, a4])
theorem find3_list {A B C : List Nat} {ch : Nat} {i : Int} (hl : fromIndex (A ++ (B ++ ch :: C)).toArray.size i = A.length) (hn : ch ∉ B) : Txt.find3 ⟨(A ++ (B ++ ch :: C)).toArray⟩ ⟨#[ch]⟩ i = ((A.length + B.length : Nat) : Int) := by
  refine find3_at (lo := A.length) hl (Nat.le_add_right _ _) ?_ ?_ ?_
  · show A.length + B.length < (A ++ (B ++ ch :: C)).toArray.size
    simp
  · simp [Array.getD_eq_getD_getElem?, List.getElem?_append_right]
  · intro v h1 h2 e
    obtain ⟨k, rfl⟩ : ∃ k, v = A.length + k := ⟨v - A.length, by omega⟩
    have hk : k < B.length := by omega
    have : (A ++ (B ++ ch :: C)).toArray.getD (A.length + k) 0 = B[k] := by
      simp [Array.getD_eq_getD_getElem?, List.getElem?_append_right, List.getElem?_append_left hk, List.getElem?_eq_getElem hk]
    rw [this] at e
    exact hn (e ▸ List.getElem_mem hk)
theorem not41 {c p t : Nat} {zs : List Nat} (h1 : 58 ≤ c) (hp1 : 48 ≤ p) (ht1 : 48 ≤ t) (hz : 41 ∉ zs) : 41 ∉ [c, p, c, 49, c] ++ zs ++ [t, c] := by
  have e1 : (41 : Nat) ≠ c := by omega
  have e2 : (41 : Nat) ≠ p := by omega
  have e3 : (41 : Nat) ≠ t := by omega
  simp [hz, e1, e2, e3]
theorem zs_facts {zs : List Nat} (hz : zs = [] ∨ zs = [48] ∨ zs = [48, 48]) : zs.length ≤ 2 ∧ ∀ z ∈ zs, z = 48 := by
  rcases hz with rfl | rfl | rfl <;> simp
theorem rep_free {c p t : Nat} {zs : List Nat} (h1 : 58 ≤ c) (hp2 : p ≤ 57) (ht2 : t ≤ 57) (hz : ∀ z ∈ zs, z = 48) : freeL c [⟨#[]⟩, ⟨#[p]⟩, ⟨#[49]⟩, ⟨(zs ++ [t]).toArray⟩, ⟨#[]⟩] := by
  have e1 : c ≠ p := by omega
  have e2 : c ≠ 49 := by omega
  have e3 : c ≠ t := by omega
  have e4 : c ∉ zs := fun h => by have := hz c h; omega
  intro q hq
  simp only [List.mem_cons, List.not_mem_nil, or_false] at hq
  rcases hq with rfl | rfl | rfl | rfl | rfl <;> simp [e1, e2, e3, e4]
section
variable {c p t : Nat}
theorem rep_find (zs : List Nat) : Txt.find ⟨(repL c p t zs).toArray⟩ ⟨#[40]⟩ = 10 := by
  rw [find_eq3]
  have e : repL c p t zs = [] ++ ([50,50,57,32,84,97,107,101,110,32] ++ 40 :: (([c,p,c,49,c] ++ zs ++ [t,c]) ++ [41,32,40,c,c,c,57,c,41])) := by simp [repL]
  rw [e]
  exact find3_list (by simp [fromIndex]) (by decide)
theorem rep_find3 {zs : List Nat} (h : 41 ∉ [c, p, c, 49, c] ++ zs ++ [t, c]) : Txt.find3 ⟨(repL c p t zs).toArray⟩ ⟨#[41]⟩ 11 = ((18 + zs.length : Nat) : Int) := by
  have e : repL c p t zs = [50,50,57,32,84,97,107,101,110,32,40] ++ (([c,p,c,49,c] ++ zs ++ [t,c]) ++ 41 :: [32,40,c,c,c,57,c,41]) := by simp [repL]
  rw [e, find3_list (by simp [fromIndex]; rfl) h]
  simp
  omega
end
set_option maxHeartbeats 2000000 in
theorem rep_ok {c p t : Nat} (h1 : 58 ≤ c) (_h2 : c ≤ 122) (hp1 : 48 ≤ p) (hp2 : p ≤ 57) (ht1 : 48 ≤ t) (ht2 : t ≤ 57) {zs : List Nat} (hz : zs = [] ∨ zs = [48] ∨ zs = [48, 48]) : RepOk c zs t ⟨(repL c p t zs).toArray⟩ := by
  obtain ⟨z1, z2⟩ := zs_facts hz
  have e1 : Str.ofString "(" = ⟨#[40]⟩ := by decide +kernel
  have e2 : Str.ofString ")" = ⟨#[41]⟩ := by decide +kernel
  have e3 : Str.ofString "229" = ⟨#[50, 50, 57]⟩ := by decide +kernel
  have g1 := rep_find (c := c) (p := p) (t := t) zs
  have g2 := rep_find3 (c := c) (p := p) (t := t) (zs := zs) (not41 h1 hp1 ht1 fun h => absurd (z2 _ h) (by decide))
  have hfr := rep_free (zs := zs) h1 hp2 ht2 z2
  rw [← e1] at g1
  have g1' : Txt.find ⟨(repL c p t zs).toArray⟩ (Str.ofString "(") + 1 = 11 := by rw [g1]; rfl
  rw [← e2, ← g1'] at g2
  clear h1 _h2 hp1 hp2 ht1 ht2 z2
  refine ⟨⟨27 + zs.length, 18 + zs.length, ?_, ?_, g2, ?_, ?_⟩, ?_, g1, ?_, ?_⟩
  · rcases hz with rfl | rfl | rfl <;> rfl
  · exact Nat.le_trans (Nat.add_le_add_left z1 27) (by decide)
  · exact Nat.lt_of_lt_of_le (by decide) (Nat.le_add_right 18 _)
  · exact Nat.add_lt_add_right (by decide) _
  · rw [e3]; rcases hz with rfl | rfl | rfl <;> rfl
  · rw [g2, g1']
    rcases hz with rfl | rfl | rfl <;> rfl
  · rw [g2, g1']
    have q1 : Txt.item ⟨(repL c p t zs).toArray⟩ 11 = ⟨#[c]⟩ := by rcases hz with rfl | rfl | rfl <;> rfl
    have q2 : (Txt.slice ⟨(repL c p t zs).toArray⟩ (some 11) (some ((18 + zs.length : Nat) : Int))).cps.toList = [c, p, c, 49, c] ++ zs ++ [t, c] := by rcases hz with rfl | rfl | rfl <;> rfl
    rw [q1]
    refine ⟨⟨#[]⟩, ⟨#[p]⟩, ⟨#[49]⟩, ⟨#[]⟩, split_by (by simp) hfr (by rw [q2]; simp) ?_⟩
    rw [q2, join_cons, join_cons, join_cons, join_cons, join_one]
    simp
end Mine
end

section
open PySem PySem.W PyProof.Rows
namespace Mine
noncomputable def refuseOf (mk : Str) : Str := Str.ofString "229 None left (" ++ Txt.mul mk 3 ++ Str.ofString ")"
theorem refuse_rep (c : Nat) : refuseOf ⟨#[c]⟩ = ⟨([50,50,57,32,78,111,110,101,32,108,101,102,116,32,40,c,c,c,41] : List Nat).toArray⟩ := by
  refine str_of ?_
  unfold refuseOf
  simp only [app_cps, three_cps]
  rw [show (Str.ofString "229 None left (").cps.toList = [50,50,57,32,78,111,110,101,32,108,101,102,116,32,40] by decide +kernel, show (Str.ofString ")").cps.toList = [41] by decide +kernel]
  simp
abbrev RefOk (x : Str) : Prop :=
  (x.length = 19) ∧
  (Txt.slice x none (some 3) = Str.ofString "229") ∧
  (Txt.find x (Str.ofString "(") = 14) ∧
  (Txt.find3 x (Str.ofString ")") (Txt.find x (Str.ofString "(") + 1) = 18) ∧
  (Txt.item x (Txt.find x (Str.ofString "(") + 1) = Txt.item x (Txt.find3 x (Str.ofString ")") (Txt.find x (Str.ofString "(") + 1) - 1)) ∧
  (∃ a0 a1 a2 a3, Txt.split (Txt.slice x (some (Txt.find x (Str.ofString "(") + 1)) (some (Txt.find3 x (Str.ofString ")") (Txt.find x (Str.ofString "(") + 1)))) (Txt.item x (Txt.find x (Str.ofString "(") + 1)) = [a0, a1, a2, a3])
set_option maxHeartbeats 2000000 in
theorem ref_ok {c : Nat} (h1 : 58 ≤ c) (h2 : c ≤ 122) : RefOk (refuseOf ⟨#[c]⟩) := by
  rw [refuse_rep]
  have e1 : Str.ofString "(" = ⟨#[40]⟩ := by decide +kernel
  have e2 : Str.ofString ")" = ⟨#[41]⟩ := by decide +kernel
  have e3 : Str.ofString "229" = ⟨#[50, 50, 57]⟩ := by decide +kernel
  have g1 : Txt.find ⟨([50,50,57,32,78,111,110,101,32,108,101,102,116,32,40,c,c,c,41] : List Nat).toArray⟩ ⟨#[40]⟩ = 14 := by
    rw [find_eq3]
    exact find3_list (A := []) (B := [50,50,57,32,78,111,110,101,32,108,101,102,116,32]) rfl (by decide)
  have g2 : Txt.find3 ⟨([50,50,57,32,78,111,110,101,32,108,101,102,116,32,40,c,c,c,41] : List Nat).toArray⟩ ⟨#[41]⟩ 15 = 18 :=
    find3_list (A := [50,50,57,32,78,111,110,101,32,108,101,102,116,32,40]) (B := [c, c, c]) rfl (by
      have : (41 : Nat) ≠ c := by omega
      simp [this])
  refine ⟨rfl, ?_, ?_, ?_, ?_, ?_⟩
  · rw [e3]; rfl
  · rw [e1]; exact g1
  · rw [e1, g1, e2]; exact g2
  · rw [e1, e2, g1]
    rw [show (14 : Int) + 1 = 15 from rfl, g2]
    rfl
  · rw [e1, e2, g1]
    rw [show (14 : Int) + 1 = 15 from rfl, g2]
    have q1 : Txt.item ⟨([50,50,57,32,78,111,110,101,32,108,101,102,116,32,40,c,c,c,41] : List Nat).toArray⟩ 15 = ⟨#[c]⟩ := by rfl
    have q2 : (Txt.slice ⟨([50,50,57,32,78,111,110,101,32,108,101,102,116,32,40,c,c,c,41] : List Nat).toArray⟩ (some 15) (some 18)).cps.toList = [c, c, c] := by rfl
    rw [q1]
    refine ⟨⟨#[]⟩, ⟨#[]⟩, ⟨#[]⟩, ⟨#[]⟩, split_by (by simp) ?_ (by rw [q2]; simp) ?_⟩
    · intro q hq
      simp only [List.mem_cons, List.not_mem_nil, or_false] at hq
      rcases hq with rfl | rfl | rfl | rfl <;> simp
    · rw [q2, join_cons, join_cons, join_cons, join_one]
      simp
end Mine
end

section
open PySem PySem.W PyProof.Rows
namespace Mine
noncomputable def MarkOk (mk : Str) : Prop := ∃ c : Nat, 58 ≤ c ∧ c ≤ 122 ∧ mk = ⟨#[c]⟩
theorem MarkOk.len {mk : Str} (h : MarkOk mk) : mk.length = 1 := by obtain ⟨c, _, _, rfl⟩ := h; rfl
-- the reply's text
abbrev ReplyOk (x : Str) (take : Int) : Prop :=
  (∃ n R : Nat, x.length = n ∧ n ≤ 60 ∧ Txt.find3 x (Str.ofString ")") (Txt.find x (Str.ofString "(") + 1) = R ∧ 12 < R ∧ R < n) ∧
  (Txt.slice x none (some 3) = Str.ofString "229") ∧
  (Txt.find x (Str.ofString "(") = 10) ∧
  (Txt.item x (Txt.find x (Str.ofString "(") + 1) = Txt.item x (Txt.find3 x (Str.ofString ")") (Txt.find x (Str.ofString "(") + 1) - 1)) ∧
  (∃ a0 a1 a2 a3 a4, Txt.split (Txt.slice x (some (Txt.find x (Str.ofString "(") + 1)) (some (Txt.find3 x (Str.ofString ")") (Txt.find x (Str.ofString "(") + 1)))) (Txt.item x (Txt.find x (Str.ofString "(") + 1)) = [a0, a1, a2, a3, a4] ∧ PySem.intText? a3 = some take ∧ a3.length ≤ 640)
theorem fin_of {k : Int} (h2 : 0 ≤ k) (h3 : k ≤ 9) : ∃ i : Fin 10, ((i.val : Nat) : Int) = k := by
  obtain ⟨n, rfl⟩ := Int.eq_ofNat_of_zero_le h2
  exact ⟨⟨n, Nat.lt_succ_of_le (Int.ofNat_le.mp h3)⟩, rfl⟩
theorem zeros_three : ∀ j : Fin 10, List.replicate (j.val % 3) 48 = [] ∨ List.replicate (j.val % 3) 48 = [48] ∨ List.replicate (j.val % 3) 48 = [48, 48] := by decide +kernel
theorem zeros_short : ∀ j : Fin 10, (⟨(List.replicate (j.val % 3) 48 ++ [48 + j.val]).toArray⟩ : Str).length ≤ 640 := by decide +kernel
theorem reply_ok {mk : Str} {pile take : Int} (hm : MarkOk mk) (h2 : 0 ≤ pile) (h3 : pile ≤ 9) (h4 : 0 ≤ take) (h5 : take ≤ 9) : ReplyOk (replyOf mk pile take) take := by
  obtain ⟨c, hc1, hc2, rfl⟩ := hm
  obtain ⟨k, hk⟩ := fin_of h2 h3
  obtain ⟨j, hj⟩ := fin_of h4 h5
  subst hk hj
  rw [reply_rep]
  obtain ⟨q1, q2, q3, q4, a0, a1, a2, a4, q5⟩ := rep_ok (c := c) (p := 48 + k.val) (t := 48 + j.val) hc1 hc2 (Nat.le_add_right 48 _) (Nat.add_le_add_left (Nat.le_of_lt_succ k.isLt) 48) (Nat.le_add_right 48 _) (Nat.add_le_add_left (Nat.le_of_lt_succ j.isLt) 48) (zeros_three j)
  exact ⟨q1, q2, q3, q4, a0, a1, a2, _, a4, q5, take_text j, zeros_short j⟩
theorem preply_ctr (w : World) (mk y : Str) (q : Addr) (t1 t2 t3 : Tok) (u pile take : Int) (hm : MarkOk mk) (h2 : 0 ≤ pile) (h3 : pile ≤ 9) (h4 : 0 ≤ take) (h5 : take ≤ 9) (hy : y.length ≤ 20) :
    Ctr w 79 [.str (replyOf mk pile take) t1, .ref q] (fun news => (q, ({ cls := .type "tuple", data := .seq #[.str y t2, .int u t3] } : Obj)) ∈ news) (PairTup y take) := by
  obtain ⟨⟨n, R, a, b, c, d, e⟩, f, g, i, a0, a1, a2, a3, a4, j, k, l⟩ := reply_ok hm h2 h3 h4 h5
  exact parse_ctr w _ y q t1 t2 t3 u take n a b R f g c (by omega) (by omega) i a0 a1 a2 a3 a4 j hy k l
-- the line's text
theorem line_ln9 {front size pile : Int} (h0 : 0 ≤ front) (h1 : front ≤ size) (h9 : size ≤ 9) (h3 : 0 ≤ pile) (h4 : pile ≤ size) : ∃ a b : Nat, (a : Int) = aheadOf front size pile ∧ (a : Int) + b = pile ∧ a < 10 ∧ b < 10 ∧ a + b ≤ 9 ∧ lineOf front size pile = ln a b := by
  obtain ⟨a, b, ea, eb, e1⟩ := line_ln (pile := pile) h0 h1 h3
  have hp := Int.le_trans h4 h9
  have hab : a + b ≤ 9 := by rw [← eb] at hp; exact Int.ofNat_le.mp hp
  exact ⟨a, b, ea, eb, Nat.lt_succ_of_le (Nat.le_trans (Nat.le_add_right a b) hab), Nat.lt_succ_of_le (Nat.le_trans (Nat.le_add_left b a) hab), hab, e1⟩
theorem ahead_nat {front size pile : Int} : aheadOf front size pile = ((front - (size - pile)).toNat : Int) := by
  unfold aheadOf
  by_cases h : 0 > front - (size - pile)
  · rw [if_pos h, Int.toNat_of_nonpos (Int.le_of_lt h)]; rfl
  · rw [if_neg h, Int.toNat_of_nonneg (Int.not_lt.mp h)]
theorem line_strip {front size pile take : Int} (h0 : 0 ≤ front) (h1 : front ≤ size) (h9 : size ≤ 9) (h2 : 0 ≤ take) (h3 : take ≤ pile) (h4 : pile ≤ size) :
    Txt.slice (lineOf front size pile) (some (loOf take (aheadOf front size pile))) (some (hiOf take (aheadOf front size pile) (pile + 1))) = lineOf front size (pile - take) := by
  obtain ⟨a, b, ea, eb, la, lb, hab, e1⟩ := line_ln9 h0 h1 h9 (Int.le_trans h2 h3) h4
  obtain ⟨a', b', ea', eb', _, _, _, e2⟩ := line_ln9 h0 h1 h9 (Int.sub_nonneg.mpr h3) (Int.le_trans (Int.sub_le_self pile h2) h4)
  obtain ⟨t, rfl⟩ := Int.eq_ofNat_of_zero_le h2
  rw [e1, e2, ← ea]
  rw [ahead_nat] at ea ea'
  have q1 : a' = a - t := by
    have e : front - (size - (pile - (t : Int))) = front - (size - pile) - (t : Int) := by clear ea ea' eb eb' e1 e2; omega
    rw [e, Int.toNat_sub'] at ea'
    rw [Int.ofNat.inj ea, Int.ofNat.inj ea']
  have htp : t ≤ a + b := Int.ofNat_le.mp (by rw [← eb] at h3; exact h3)
  have q2 : b' = b - (t - a) := by
    rw [← eb] at eb'
    clear ea ea' e1 e2 h0 h1 h9 h2 h3 h4 la lb hab eb
    omega
  have h := ln_strip ⟨a, la⟩ ⟨b, lb⟩ ⟨t, Nat.lt_succ_of_le (Nat.le_trans htp hab)⟩ hab htp
  simp only at h
  rw [q1, q2, str_of rfl (x := ln (a - t) (b - (t - a))), ← h, ← str_of rfl]
  unfold loOf hiOf
  rw [← eb]
  by_cases hc : t ≤ a
  · have hc' : (t : Int) ≤ (a : Int) := Int.ofNat_le.mpr hc
    rw [if_pos hc, if_pos hc, if_pos hc', if_pos hc']
  · have hc' : ¬ (t : Int) ≤ (a : Int) := fun h => hc (Int.ofNat_le.mp h)
    rw [if_neg hc, if_neg hc, if_neg hc', if_neg hc']
theorem line_tilde {front size pile : Int} (h0 : 0 ≤ front) (h1 : front ≤ size) (h9 : size ≤ 9) (h3 : 0 ≤ pile) (h4 : pile ≤ size) : Txt.item (lineOf front size pile) (aheadOf front size pile) ≠ Str.ofString " " := by
  obtain ⟨a, b, ea, eb, ha, hb, hab, e1⟩ := line_ln9 h0 h1 h9 h3 h4
  rw [e1, ← ea]
  exact ln_item ⟨a, ha⟩ ⟨b, hb⟩ hab
theorem line_blank {front size pile : Int} (h0 : 0 ≤ front) (h1 : front ≤ size) (h9 : size ≤ 9) (h3 : 0 ≤ pile) (h4 : pile ≤ size) : ∀ i : Int, 0 ≤ i → i < pile + 1 → i ≠ aheadOf front size pile → Txt.item (lineOf front size pile) i = Str.ofString " " := by
  intro i hi hi2 hia
  obtain ⟨a, b, ea, eb, ha, hb, hab, e1⟩ := line_ln9 h0 h1 h9 h3 h4
  obtain ⟨k, rfl⟩ := Int.eq_ofNat_of_zero_le hi
  rw [← ea] at hia
  rw [← eb] at hi2
  have hk : k ≤ a + b := Int.ofNat_le.mp (Int.le_of_lt_add_one hi2)
  have h := ln_blank ⟨a, ha⟩ ⟨b, hb⟩ ⟨k, Nat.lt_succ_of_le (Nat.le_trans hk hab)⟩ hab hk (fun e => hia (congrArg (fun z : Fin 10 => ((z.val : Nat) : Int)) e))
  rw [e1]
  exact h
theorem line_ok {front size pile : Int} (h0 : 0 ≤ front) (h1 : front ≤ size) (h9 : size ≤ 9) (h3 : 0 ≤ pile) (h4 : pile ≤ size) : PyData.strOk (lineOf front size pile) = true := by
  obtain ⟨a, b, ea, eb, ha, hb, hab, e1⟩ := line_ln9 h0 h1 h9 h3 h4
  rw [e1]
  exact ln_ok ⟨a, ha⟩ ⟨b, hb⟩ hab
theorem sline_ctr (w : World) (front size pile take : Int) (t1 t2 : Tok) (h0 : 0 ≤ front) (h1 : front ≤ size) (h9 : size ≤ 9) (h2 : 0 ≤ take) (h3 : take ≤ pile) (h4 : pile ≤ size) :
    Ctr w 86 [.str (lineOf front size pile) t1, .int take t2] (fun _ => True) (fun tl r => tl = [] ∧ ∃ t, r = .str (lineOf front size (pile - take)) t) := by
  have ha := ahead_in (pile := pile) h0 h1 (by omega)
  have := strip_ctr w (lineOf front size pile) t1 t2 take (aheadOf front size pile) (pile + 1) (len_line h0 h1 (by omega)) (by omega) h2 (by omega) ha.1 (by omega) (line_tilde h0 h1 h9 (by omega) h4) (line_blank h0 h1 h9 (by omega) h4)
  rw [line_strip h0 h1 h9 h2 h3 h4] at this
  exact this
theorem digit_ok {take : Int} (h1 : 0 ≤ take) (h2 : take ≤ 9) : PyData.strOk (Str.ofString (toString take)) = true := by
  have h : ∀ k : Fin 10, PyData.strOk (Str.ofString (toString ((k.val : Nat) : Int))) = true := by decide +kernel
  have := h ⟨take.toNat, by omega⟩
  rw [show (((⟨take.toNat, by omega⟩ : Fin 10).val : Nat) : Int) = take by show ((take.toNat : Nat) : Int) = take; omega] at this
  exact this
theorem app_ok {a b : Str} (h1 : PyData.strOk a = true) (h2 : PyData.strOk b = true) : PyData.strOk (a ++ b) = true := by
  have e : (a ++ b).cps = a.cps ++ b.cps := rfl
  unfold PyData.strOk at h1 h2 ⊢
  rw [e, Array.all_append, h1, h2]; rfl
theorem name_ok {front size pile take : Int} (h0 : 0 ≤ front) (h1 : front ≤ size) (h9 : size ≤ 9) (h2 : 0 ≤ take) (h3 : take ≤ pile) (h4 : pile ≤ size) : PyData.strOk (nameOf front size pile take) = true := by
  unfold nameOf
  refine app_ok (app_ok (app_ok (app_ok (app_ok (line_ok h0 h1 h9 (by omega) h4) (by decide +kernel)) (digit_ok h2 (by omega))) (by decide +kernel)) (line_ok h0 h1 h9 (by omega) (by omega))) (by decide +kernel)
theorem due_ok {front size : Int} {T : List Int} {P : Nat} (h0 : 0 ≤ front) (h1 : front ≤ size) (h9 : size ≤ 9) (h4 : (P : Int) ≤ size) : ∀ d ∈ dueL front size T P P, kqdOk 8 d = true := by
  intro d hd
  unfold dueL at hd
  obtain ⟨j, hj, rfl⟩ := List.mem_map.mp hd
  have hj := List.mem_range.mp hj
  have := name_ok (pile := (P : Int)) (take := ((j + 1 : Nat) : Int)) h0 h1 h9 (by omega) (by omega) h4
  simp only [kqdOk, List.all_cons, List.all_nil, Bool.and_true, this]
end Mine
end

section
open PySem PySem.W PyProof.Rows PyProof.V PySem.Spec
namespace Mine
noncomputable def datL (c : List (Str × Int)) : List Dat := c.map fun p => Dat.tuple [.str p.1, .int p.2]
theorem open_dat {lo : Addr} {news : List (Addr × Obj)} : ∀ (kvs : List (Str × Value)) (c : List (Str × Int)) (vs : List Value) (tups : List (Addr × Obj)) (ds : List Dat) (C : List Value → List (Addr × Obj) → Prop),
    FlatPairs PyData.str kvs (kdpD c) → DatAll tups vs ds → (∀ vs' tups', DatAll tups' vs' (ds ++ datL c) → C vs' tups') → KdxOpen lo news (kvs.map fun p => (kyVal (PyData.str p.1), p.2)) vs tups C
  | [], [], vs, tups, ds, C, _, h, k => KdxOpen.nil (k vs tups (by simpa [datL] using h))
  | [], _ :: _, _, _, _, _, hf, _, _ => by cases hf
  | _ :: _, [], _, _, _, _, hf, _, _ => by cases hf
  | p :: kvs, q :: c, vs, tups, ds, C, hf, h, k => by
    cases hf with
    | cons hv r =>
      obtain ⟨tq, rfl⟩ := PyProof.V.Flat.int_inv hv
      refine KdxOpen.cons fun a t h1 h2 h3 => open_dat kvs c _ _ (ds ++ [Dat.tuple [.str q.1, .int q.2]]) C r ?_ fun vs' tups' hd => k vs' tups' ?_
      · refine DatAll.append (h.mono fun p hp => .tail _ hp) (.cons ?_ .nil)
        exact .tuple (n := 0) (vs := [.str q.1 t, .int q.2 tq]) (.head _) (.cons (.str _ _) (.cons (.int _ _) .nil))
      · simpa [datL] using hd
section
variable {prog : Program} {w : World} {A : Around} {E : Value → Shared → Prop} {s : Shared} {h₀ : Heap} {L v d : Addr} {m : Str → Option Value} {news : List (Addr × Obj)} {od : Obj} {kvs : List (Str × Value)} {c : List (Str × Int)} {Q : Value → Shared → Prop}
theorem list_items (hh : A.handled = none) (F : Fr h₀ L s.heap m) (N : News h₀ L s.heap news) (hvw : (v, { cls := .type "dict_items", data := .fields #[.ref d] }) ∈ news) (hmd : (d, od) ∈ news) (hod : od.IsDictOf (strKind prog w) kvs) (hf : FlatPairs PyData.str kvs (kdpD c)) (hn : kvs.length ≤ 16777216)
    (h : ∀ B vs tups k h' tk, DatAll tups vs (datL c) → Fr h₀ L h' m → News h₀ L h' (tups ++ (B, listOf vs.toArray k) :: news) → Q (.ref B) { s with heap := h', toks := tk }) :
    wpAny (model prog w) A (call (.type "list") [.ref v]) Q E s :=
  kdx_listN (knd := PySem.strKind prog w) (enc := PyData.str) hh F N hvw hmd hod hn (fun _ _ h => Value.isStrOf_shape h) rfl fun B hB =>
    open_dat kvs c [] [] [] _ hf .nil fun vs tups hD k h' tk l9 F' N' => h B vs tups k h' tk hD F' N'
end
end Mine
end

section
open PySem PySem.W PyProof.Rows
namespace Mine
noncomputable def takesF (ps : List Int) (size pile : Int) : List Int := takesW ps ((stepsF ps size 19 [1]).reverse.foldl partsG ([], pile)).1.length ((stepsF ps size 19 [1]).reverse.foldl partsG ([], pile)).1 0 []
noncomputable def gameOk (p : List Int) : Bool :=
  decide ((stepsF (sums 0 p) (p.length : Int) 19 [1]).length ≤ 10) && ((stepsF (sums 0 p) (p.length : Int) 19 [1]).all fun k => decide (1 ≤ k)) && (List.range p.length).all fun i =>
    decide ((stepV (sums 0 p) (valsF (sums 0 p) (p.length : Int) i) (i + 1) (i + 1)).length = i + 2) &&
    ((List.range (i + 1)).all fun j => winB (sums 0 p) (valsF (sums 0 p) (p.length : Int) i) (i + 1) (j + 1) == decide (((j + 1 : Nat) : Int) ∈ takesF (sums 0 p) (p.length : Int) ((i + 1 : Nat) : Int))) &&
    decide ((((List.range (i + 1)).map fun j => if winB (sums 0 p) (valsF (sums 0 p) (p.length : Int) i) (i + 1) (j + 1) = true then (1 : Int) else 0).sum) = ((takesF (sums 0 p) (p.length : Int) ((i + 1 : Nat) : Int)).length : Int))
noncomputable def pats : Nat → List (List Int)
  | 0 => [[]]
  | n + 1 => (pats n).map (1 :: ·) ++ (pats n).map (2 :: ·)
theorem pats_mem : ∀ p : List Int, (∀ x ∈ p, x = 1 ∨ x = 2) → p ∈ pats p.length
  | [], _ => .head _
  | x :: p, h => by
    have ih := pats_mem p fun y hy => h y (.tail _ hy)
    show x :: p ∈ (pats p.length).map (1 :: ·) ++ (pats p.length).map (2 :: ·)
    rcases h x (.head _) with rfl | rfl
    · exact List.mem_append_left _ (List.mem_map.mpr ⟨p, ih, rfl⟩)
    · exact List.mem_append_right _ (List.mem_map.mpr ⟨p, ih, rfl⟩)
-- all rows of prices of length n behind the row l
noncomputable def Row (l : List Int) (n : Nat) : Prop := ((pats n).all fun p => gameOk (l ++ p)) = true
theorem Row.two {l : List Int} {n : Nat} (h1 : Row (l ++ [1]) n) (h2 : Row (l ++ [2]) n) : Row l (n + 1) := by
  unfold Row at *
  rw [List.all_eq_true] at *
  intro p hp
  rcases List.mem_append.mp (show p ∈ (pats n).map (1 :: ·) ++ (pats n).map (2 :: ·) from hp) with hp | hp
  · obtain ⟨q, hq, rfl⟩ := List.mem_map.mp hp
    simpa using h1 q hq
  · obtain ⟨q, hq, rfl⟩ := List.mem_map.mp hp
    simpa using h2 q hq
theorem row : Row [] 6 := by unfold Row; decide +kernel
theorem row1 : Row [1] 6 := by unfold Row; decide +kernel
theorem row2 : Row [2] 6 := by unfold Row; decide +kernel
theorem row11 : Row [1, 1] 6 := by unfold Row; decide +kernel
theorem row12 : Row [1, 2] 6 := by unfold Row; decide +kernel
theorem row21 : Row [2, 1] 6 := by unfold Row; decide +kernel
theorem row22 : Row [2, 2] 6 := by unfold Row; decide +kernel
theorem row111 : Row [1, 1, 1] 6 := by unfold Row; decide +kernel
theorem row112 : Row [1, 1, 2] 6 := by unfold Row; decide +kernel
theorem row121 : Row [1, 2, 1] 6 := by unfold Row; decide +kernel
theorem row122 : Row [1, 2, 2] 6 := by unfold Row; decide +kernel
theorem row211 : Row [2, 1, 1] 6 := by unfold Row; decide +kernel
theorem row212 : Row [2, 1, 2] 6 := by unfold Row; decide +kernel
theorem row221 : Row [2, 2, 1] 6 := by unfold Row; decide +kernel
theorem row222 : Row [2, 2, 2] 6 := by unfold Row; decide +kernel
theorem pats6 : (pats 6).all gameOk = true := by
  have h : Row [] 6 := row
  simpa [Row] using h
theorem pats7 : (pats 7).all gameOk = true := by
  have h : Row [] 7 := (.two row1 row2)
  simpa [Row] using h
theorem pats8 : (pats 8).all gameOk = true := by
  have h : Row [] 8 := (.two (.two row11 row12) (.two row21 row22))
  simpa [Row] using h
theorem pats9 : (pats 9).all gameOk = true := by
  have h : Row [] 9 := (.two (.two (.two row111 row112) (.two row121 row122)) (.two (.two row211 row212) (.two row221 row222)))
  simpa [Row] using h
end Mine
end

section
open PySem PySem.W PyProof.Rows
namespace Mine
theorem game_all {p : List Int} (hp : ∀ x ∈ p, x = 1 ∨ x = 2) (h6 : 6 ≤ p.length) (h9 : p.length ≤ 9) : gameOk p = true := by
  have hm := pats_mem p hp
  obtain h | h | h | h : p.length = 6 ∨ p.length = 7 ∨ p.length = 8 ∨ p.length = 9 := by omega
  all_goals rw [h] at hm
  · exact List.all_eq_true.mp pats6 p hm
  · exact List.all_eq_true.mp pats7 p hm
  · exact List.all_eq_true.mp pats8 p hm
  · exact List.all_eq_true.mp pats9 p hm
theorem game_parts {p : List Int} {size : Int} (hp : ∀ x ∈ p, x = 1 ∨ x = 2) (hl : (p.length : Int) = size) (h6 : 6 ≤ size) (h9 : size ≤ 9) :
    ((stepsF (sums 0 p) size 19 [1]).length ≤ 10 ∧ ∀ k ∈ stepsF (sums 0 p) size 19 [1], 1 ≤ k) ∧
    ∀ i : Nat, (i : Int) < size → (stepV (sums 0 p) (valsF (sums 0 p) size i) (i + 1) (i + 1)).length = i + 2 ∧
      (∀ j : Nat, j < i + 1 → winB (sums 0 p) (valsF (sums 0 p) size i) (i + 1) (j + 1) = decide (((j + 1 : Nat) : Int) ∈ takesF (sums 0 p) size ((i + 1 : Nat) : Int))) ∧
      ((List.range (i + 1)).map fun j => if winB (sums 0 p) (valsF (sums 0 p) size i) (i + 1) (j + 1) = true then (1 : Int) else 0).sum = ((takesF (sums 0 p) size ((i + 1 : Nat) : Int)).length : Int) := by
  have h := game_all hp (by omega) (by omega)
  subst hl
  unfold gameOk at h
  simp only [Bool.and_eq_true, decide_eq_true_eq, List.all_eq_true, List.mem_range, beq_iff_eq] at h
  obtain ⟨⟨h1, h2⟩, h3⟩ := h
  refine ⟨⟨h1, h2⟩, fun i hi => ?_⟩
  obtain ⟨⟨a, b⟩, c⟩ := h3 i (by omega)
  exact ⟨a, b, c⟩
section
variable {front size : Int} {p : List Int}
theorem game_moves (hp : ∀ x ∈ p, x = 1 ∨ x = 2) (hl : (p.length : Int) = size) (h6 : 6 ≤ size) (h9 : size ≤ 9) {i : Nat} (hi : (i : Int) < size) {T V : List Int} (hT : takesF (sums 0 p) size ((i + 1 : Nat) : Int) = T) (hV : V = valsF (sums 0 p) size i) :
    ((movesL front size (sums 0 p) V (i + 1) (i + 1)).map fun q => Dat.tuple [.str q.1, .int q.2]) = dueL front size T (i + 1) (i + 1) := by
  subst hT hV
  obtain ⟨_, b, _⟩ := (game_parts hp hl h6 h9).2 i hi
  unfold movesL dueL
  rw [List.map_map]
  refine List.map_congr_left fun j hj => ?_
  dsimp only [Function.comp_apply]
  rw [b j (List.mem_range.mp hj)]
  simp
theorem game_sum (hp : ∀ x ∈ p, x = 1 ∨ x = 2) (hl : (p.length : Int) = size) (h6 : 6 ≤ size) (h9 : size ≤ 9) {i : Nat} (hi : (i : Int) < size) {T V : List Int} (hT : takesF (sums 0 p) size ((i + 1 : Nat) : Int) = T) (hV : V = valsF (sums 0 p) size i) :
    ((movesL front size (sums 0 p) V (i + 1) (i + 1)).map (·.2)).sum = (T.length : Int) := by
  subst hT hV
  obtain ⟨_, _, c⟩ := (game_parts hp hl h6 h9).2 i hi
  rw [← c]
  unfold movesL
  rw [List.map_map]
  rfl
end
end Mine
end

section
open PySem PySem.W PyProof.Rows PyProof.V PySem.Spec
namespace Mine
local macro_rules | `(tactic| k_steps) => `(tactic| repeat' ((fail_if_success (with_reducible refine go_on ?_)); first | (k_unfold; (try dsimp only)) | (k_end; kc_close) | walk1 | (dsimp only; walk1) | (leave1; walk_say "STEP leave1"; (try dsimp only)) | fail "no step"))
local macro_rules | `(tactic| walk_at "exec For Name Call cons nil") => `(tactic| refine stop_here ?_)
local macro_rules | `(tactic| walk_at "pyIter ref") => `(tactic| refine stop_here ?_)
local macro_rules | `(tactic| walk_at "call ref") => `(tactic| ((with_reducible show wpAny _ (Around.deeper callerA _) _ _ _ _); (fail_if_success (with_reducible show wpAny _ _ (call (Value.ref 114) _) _ _ _)); refine stop_here ?_))
local macro_rules | `(tactic| k_all) => `(tactic| first | assumption | (refine List.forall_mem_append.mpr ⟨?_, ?_⟩ <;> k_all) | (refine' lt_all ?h9 ?d9; (case h9 => assumption); (case d9 => omega)) | (refine' own_all ?h9 ?d9; (case h9 => assumption); (case d9 => first | exact .head _ | exact .tail _ (.head _) | exact .tail _ (.tail _ (.head _)))) | fail "no order")
section
open PySem.Calls
theorem use_ctr {w : World} {f : Addr} {vs : List Value} {Pre : List (Addr × Obj) → Prop} {Out : List (Addr × Obj) → Value → Prop} {p : Program} {loose : List Str} {mean : ExcName → Option Value} {mg mb : Str → Option Value} {dp un : Nat} {gd : Option (List Code)} {cn : Str} {cs : Scope} {a : Addr} {ccd : Value} {cl : List (Str × Addr)} {outer : List Env} {A₀ : Around} {base h₀ : Heap} {L : Addr} {m : Str → Option Value} {news : List (Addr × Obj)} {s : Shared}
    {Q E : Value → Shared → Prop} (C : Ctr w f vs Pre Out) (B : Below A₀ base outer h₀) (F : Fr h₀ L s.heap m) (X : (Mine.hd.heap_39 w.params).In h₀) (N : News h₀ L s.heap news) (T : Top p loose mean mg mb h₀) (hk : cs.kind = .function) (hpre : Pre news) (hd : dp + 10 < recursionLimit) (hu : un + 400 < cLine)
    (hret : ∀ r tl h' tk', Fr h₀ L h' m → News h₀ L h' (tl ++ news) → (∀ q ∈ news, ∀ p ∈ tl, q.1 < p.1) → Out tl r → Q r { s with heap := h', toks := tk' }) :
    wpAny (model PySem.Challenge.rw_xg0014_01.row.prog w) (ktrTop dp un gd cn cs L a ccd cl outer) (call (.ref f) vs) Q E s := C p loose mean mg mb dp un gd cn cs a ccd cl outer A₀ base h₀ L m news s Q E B F X N T hk hpre hd hu hret
theorem slice_step {prog : Program} {w : World} {A : Around} {E : Value → Shared → Prop} {s : Shared} {h₀ : Heap} {L l : Addr} {m : Str → Option Value} {news : List (Addr × Obj)} {value slice : PySem.Expr} {vs : List Value} {ns : List Int} {vl vu vk : Value} {lo hi : Option Int} {st : Int} {ops : List Value} {Q : Value → Shared → Prop}
    (F : Fr h₀ L s.heap m) (N : News h₀ L s.heap news) (hl : s.heap.IsList l vs.toArray) (pl : IsPart vl lo) (pu : IsPart vu hi) (pk : IsPart vk (some st)) (h0 : st ≠ 0) (hi' : IntsAre vs ns)
    (h : ∀ D ws ks h', Fr h₀ L h' m → News h₀ L h' ((D, listOf (List.toArray ws) 0) :: news) → (∀ p ∈ news, p.1 < D) → IntsAre ws ks → ks.length ≤ ns.length → Q (.ref D) { s with heap := h' })
    (hs : subscripted slice false (.ref l) (.ref s.heap.objs.size) = operate ops (getItem (.ref l) (.ref s.heap.objs.size))) (ht : ∀ r, letTemporaryGo value (.ref l) r = pure ()) (hz : vs.toArray.size ≤ sizeLine) :
    wpAny (model prog w) A (subscriptTail value slice (.ref l) (.ref s.heap.objs.size)) Q E { s with heap := s.heap.push { cls := .type "slice", data := .fields #[vl, vu, vk] } } := by
  refine slice_list3 F N hl pl pu pk (fun e => h0 (Option.some.inj e)) (fun h' F' N' => h _ _ (pickNums ns lo hi (some st)) h' F' ?_ (fun p hp => Nat.lt_succ_of_lt (Heap.lt_size (N p hp).1)) (hi'.pick lo hi (some st)) (length_pickNums_le hi' ..)) hs ht hz
  rw [Array.toArray_toList]
  exact N'
end
local macro_rules | `(tactic| walk_at "subscriptTail Name Slice ref ref") => `(tactic| (k_here; k_dflt (refine' slice_step ?F ?N ?l ?p ?q ?k ?o ?i ?_ ?s ?t ?z; (case F => k_asm); (case N => k_asm); (case l => kmk_list); (case p => kmk_part); (case q => kmk_part); (case k => exact IsPart.int _ _); (case o => omega); (case i => assumption); (case s => with_unfolding_all rfl); (case t => kmk_pure); (case z => kmk_size)); intro D' ws' ks' h' F' N' l1 hI' hC'; (try k_lt l1); (try k_sweep)))
local macro_rules | `(tactic| walk_at "eval Dict cons cons") => `(tactic| (k_here; k_dflt (refine' kdn_eval (knd := PySem.strKind _ _) ?F ?N ?b ?a ?l ?e ?n ?_; (case F => k_asm); (case N => first | k_asm | exact News.nil); (case b => exact Top.nolimit (by k_asm)); (case a => rfl); (case l => rfl); (case e => exact List.cons_ne_nil _ _); (case n => exact Nat.le_of_ble_eq_true rfl)); intro d' h' o' F' N' l1 lo' hd'; (try k_lt l1)))
local macro_rules | `(tactic| walk_at "CTR") => `(tactic| ((case k1 => k_asm); (case k2 => k_asm); (case k3 => k_asm); (case k4 => k_asm); (case k5 => k_asm); (case kK => exact rfl); (case kd => first | exact Nat.le_of_ble_eq_true rfl | ktr_room); (case ku => first | exact Nat.le_of_ble_eq_true rfl | ktr_units)))
noncomputable def Bk (w : World) (d : Addr) (o : Obj) (c : List (Str × Int)) : Prop := (d == sysModules) = false ∧ ∃ kvs, o.IsDictOf (strKind PySem.Challenge.rw_xg0014_01.row.prog w) kvs ∧ PyProof.V.FlatPairs PyData.str kvs (kdpD c)
theorem Bk.book {w : World} {d : Addr} {o : Obj} {c : List (Str × Int)} {news : List (Addr × Obj)} (h : Bk w d o c) (hm : (d, o) ∈ news) : Book w news d c := by
  obtain ⟨h1, kvs, h2, h3⟩ := h
  exact ⟨o, kvs, hm, h1, h2, h3⟩
structure SC where
  o : Obj
  V : List Int
abbrev PC (w : World) (front size : Int) (ps : List Int) (dL : Addr) (i : Nat) (c : SC) : Prop :=
  (Bk w dL c.o (leastL front size c.V)) ∧
  (c.V = valsF ps size i) ∧
  (c.V.length = i + 1)
local macro_rules | `(tactic| walk_at "call builtin:len") => `(tactic| ((with_reducible show wpAny _ (Around.deeper (Around.deeper _ _) _) _ _ _ _); refine stop_here ?_))
local macro_rules | `(tactic| walk_at "call type:list") => `(tactic| refine stop_here ?_)
theorem tups_last {h₀ h : Heap} {L : Addr} {a : Addr × Obj} {tl l : List (Addr × Obj)} (N : News h₀ L h (tl ++ a :: l)) : News h₀ L h (a :: (l ++ tl)) := fun p hp => N p (by
  rcases List.mem_cons.mp hp with e | hp
  · exact List.mem_append_right _ (e ▸ .head _)
  · exact (List.mem_append.mp hp).elim (fun h => List.mem_append_right _ (.tail _ h)) fun h => List.mem_append_left _ h)
structure SE where
  vD : List Value
  nD : Nat
  n1 : List (Addr × Obj)
structure SD where
  oL : Obj
  oM : Obj
  V : List Int
abbrev PD (w : World) (front size : Int) (ps V : List Int) (P : Nat) (dL dM : Addr) (i : Nat) (c : SD) : Prop :=
  (Bk w dL c.oL (leastL front size c.V)) ∧
  (c.V = stepV ps V P i) ∧
  (Bk w dM c.oM (movesL front size ps V P i))
theorem lines_get {front size : Int} {P : Nat} (h : (P : Int) ≤ size) : (linesOf front size (size + 1).toNat).getD (P : Int).toNat Str.empty = lineOf front size (P : Int) := by
  unfold linesOf
  have : P < (size + 1).toNat := by omega
  simp [List.getD_eq_getElem?_getD, this]
theorem mark_ok {mk : Str} {a : Int} (h : mk = { cps := #[(58 + a.fmod 65).toNat] }) : MarkOk mk := by
  have h0 := Int.fmod_eq_emod_of_nonneg a (b := 65) (by decide)
  exact ⟨_, by omega, by omega, h⟩
theorem pair_ne {prog : Program} {w : World} {A : Around} {E : Value → Shared → Prop} {s : Shared} {h₀ : Heap} {L : Addr} {news : List (Addr × Obj)} {a b : Addr} {x : Str} {t1 t2 t3 t4 : Tok} {k : Int} {Q : Value → Shared → Prop} (N : News h₀ L s.heap news) (ma : (a, ({ cls := .type "tuple", data := .seq #[.str x t1, .int k t2] } : Obj)) ∈ news)
    (mb : (b, ({ cls := .type "tuple", data := .seq #[.str x t3, .int k t4] } : Obj)) ∈ news) (hx : PyData.strOk x = true) (hu : A.units + 64 < cLine) (h : Q (.bool false) s) : wpAny (model prog w) A (compareOp .NotEq (.ref a) (.ref b)) Q E s := by
  have ra : Reads s.heap (.ref a) (.tuple [.str x, .int k]) _ := reads_tuple_at (N.get ma) rfl rfl (.cons (.str _ _) (.cons (.int _ _) .nil))
  have rb : Reads s.heap (.ref b) (.tuple [.str x, .int k]) _ := reads_tuple_at (N.get mb) rfl rfl (.cons (.str _ _) (.cons (.int _ _) .nil))
  refine ne_dataH ra rb ?_ ?_ hu ?_
  · simp [SeqAt.shaped, PyData.canLay0, PyData.canLayAll0, PyData.depth, PyData.depthAll, hx]
  · simp [SeqAt.shaped, PyData.canLay0, PyData.canLayAll0, PyData.depth, PyData.depthAll, hx]
  · have e2 : PyData.eqv (.tuple [.str x, .int k]) (.tuple [.str x, .int k]) = true := by
      simp [PyData.eqv, PyData.eqvAll]
    rw [e2]; exact h
local macro_rules | `(tactic| walk_at "ite") => `(tactic| refine stop_here ?_)
theorem lines_at {front size z : Int} (h0 : 0 ≤ z) (h : z ≤ size) : (linesOf front size (size + 1).toNat).getD z.toNat Str.empty = lineOf front size z := by
  have := lines_get (front := front) (size := size) (P := z.toNat) (by omega)
  rw [show ((z.toNat : Nat) : Int) = z by omega] at this
  exact this
theorem drop5 {h₀ h : Heap} {L : Addr} {a b c d e : Addr × Obj} {l : List (Addr × Obj)} (N : News h₀ L h (a :: b :: c :: d :: e :: l)) : News h₀ L h l := fun p hp => N p (.tail _ (.tail _ (.tail _ (.tail _ (.tail _ hp)))))
theorem keep_one {h₀ h : Heap} {L : Addr} {a : Addr × Obj} {tl l : List (Addr × Obj)} (N : News h₀ L h (tl ++ l)) (ha : a ∈ tl) : News h₀ L h (a :: l) := fun p hp => N p ((List.mem_cons.mp hp).elim (fun e => List.mem_append_left _ (e ▸ ha)) fun h => List.mem_append_right _ h)
theorem any_mem {T : List Int} {k : Int} : (T.any fun x => x == k) = decide (k ∈ T) := by
  by_cases h : k ∈ T
  · rw [decide_eq_true h]; exact List.any_eq_true.mpr ⟨k, h, by simp⟩
  · rw [decide_eq_false h, Bool.eq_false_iff]
    intro hc
    obtain ⟨x, hx, e⟩ := List.any_eq_true.mp hc
    have : x = k := by simpa using e
    exact h (this ▸ hx)
theorem led_E {p q b1 b2 b3 b4 b5 b6 b7 : Addr × Obj} {own n1 own3 : List (Addr × Obj)} {l : Addr} {vs : List Value} {v : Value} {n : Nat} (h : p ∈ (l, listOf (vs ++ [v]).toArray n) :: b1 :: b2 :: b3 :: b4 :: b5 :: b6 :: b7 :: (own ++ (n1 ++ [q]))) :
    p ∈ q :: (l, listOf (vs.toArray.push v) n) :: b1 :: b2 :: b3 :: b4 :: b5 :: b6 :: b7 :: (own ++ n1 ++ own3) := by
  rw [List.push_toArray]
  simp only [List.mem_cons, List.mem_append, List.not_mem_nil, or_false] at h ⊢
  rcases h with h | h | h | h | h | h | h | h | h | h | h <;> simp [h]
theorem own_E {p q b0 b1 b2 b3 b4 b5 b6 b7 : Addr × Obj} {own n1 own3 : List (Addr × Obj)} (h : p ∈ own3) : p ∈ q :: b0 :: b1 :: b2 :: b3 :: b4 :: b5 :: b6 :: b7 :: (own ++ n1 ++ own3) := by simp [h]
theorem off_E {own n1 own3 : List (Addr × Obj)} {a0 a1 a2 a3 a4 a5 a6 a7 : Addr} {q : Addr} {o : Obj} (h : OwnOff own3 (a0 :: a1 :: a2 :: a3 :: a4 :: a5 :: a6 :: a7 :: List.map (fun x => x.1) (own ++ n1))) (hq : AllLt q (own ++ n1 ++ own3)) :
    OwnOff own3 (a0 :: a1 :: a2 :: a3 :: a4 :: a5 :: a6 :: a7 :: List.map (fun x => x.1) (own ++ (n1 ++ [(q, o)]))) := by
  intro p hp b hb
  have h1 := h p hp
  have h2 := Nat.ne_of_lt (allLt_mem hq p (List.mem_append_right _ hp))
  simp only [List.map_append, List.map_cons, List.map_nil, List.mem_cons, List.mem_append, List.not_mem_nil, or_false] at hb h1
  rcases hb with e | e | e | e | e | e | e | e | e | e | e <;> first | (rw [e]; exact h2) | exact h1 b (by simp [e])
local macro_rules | `(tactic| walk_at "binaryOp Add str str") => `(tactic| (k_here; (with_reducible show wpAny _ _ (binaryOp Operator.Add (Value.str _ _) (Value.str _ _)) _ _ _); k_dflt (refine add_small (by (repeat' (first | (with_reducible assumption) | (with_reducible exact small_lit _) | (with_reducible apply small_app)))) (by (repeat' (first | (with_reducible assumption) | (with_reducible exact small_lit _) | (with_reducible apply small_app)))) (by decide +kernel) ?_); intro t' tk'))
local macro_rules | `(tactic| walk_at "newTuple") => `(tactic| (k_here; k_dflt (refine' kup_newTuple ?F ?N ?_ ?z; (case F => k_asm); (case N => k_asm); (case z => kmk_size)); intro D' h' F' N' l1; (try k_lt l1); (try k_sweep)))
theorem led_F {h₀ h : Heap} {L : Addr} {b d l9 b1 b2 b3 b4 b5 b6 b7 : Addr × Obj} {own n1 tups : List (Addr × Obj)} (N : News h₀ L h (b :: ((d :: l9 :: b1 :: b2 :: b3 :: b4 :: b5 :: b6 :: b7 :: (own ++ n1)) ++ tups))) : News h₀ L h (b1 :: b2 :: b3 :: b4 :: b5 :: b6 :: b7 :: own) := fun p hp => N p (by
  simp only [List.mem_cons, List.mem_append, List.cons_append] at hp ⊢
  rcases hp with h | h | h | h | h | h | h | h <;> simp [h])
theorem cn {l : List Str} {z a : Str} (h : l.contains z = false) (ha : l.contains a = true) : ¬ z = a := fun e => by
  rw [e, ha] at h; cases h
theorem cs {l k : List Str} {z : Str} (h : l.contains z = false) (hk : (k.all fun a => l.contains a) = true) : ¬ k.contains z = true := fun e => by
  rw [List.all_eq_true.mp hk z (List.contains_iff_mem.mp e)] at h; cases h
theorem moves_sum {front size : Int} {ps V : List Int} {pile : Nat} : ∀ n : Nat, ((movesL front size ps V pile n).map (·.2)).sum ≤ (n : Int)
  | 0 => by simp [movesL]
  | n + 1 => by
    have := moves_sum (front := front) (size := size) (ps := ps) (V := V) (pile := pile) n
    rw [moves_succ, List.map_append, List.sum_append]
    simp only [List.map_cons, List.map_nil, List.sum_cons, List.sum_nil]
    split <;> omega
theorem due_end {front size : Int} {T : List Int} {P n : Nat} {n1 : List (Addr × Obj)} {vs : List Value} {q l : Addr} {t1 t2 : Tok} {z : Int} (h : DatAll n1 vs (dueL front size T P n)) (h2 : ∀ p ∈ n1, p.1 ≠ l) (hz : z = if ((n + 1 : Nat) : Int) ∈ T then 1 else 0) (hq : @LT.lt Nat _ l q) :
    DatAll (n1 ++ [(q, ({ cls := .type "tuple", data := .seq #[.str (nameOf front size (P : Int) ((n + 1 : Nat) : Int)) t1, .int z t2] } : Obj))]) (vs ++ [.ref q]) (dueL front size T P (n + 1)) ∧ ∀ p ∈ n1 ++ [(q, ({ cls := .type "tuple", data := .seq #[.str (nameOf front size (P : Int) ((n + 1 : Nat) : Int)) t1, .int z t2] } : Obj))], p.1 ≠ l := by
  refine ⟨due_add h hz, fun p hp => ?_⟩
  rcases List.mem_append.mp hp with hp | hp
  · exact h2 p hp
  · rw [List.mem_singleton.mp hp]; exact (Nat.ne_of_lt hq).symm
noncomputable def scN : List Str := [Str.ofString "line", Str.ofString "moves", Str.ofString "take", Str.ofString "told", Str.ofString "rest", Str.ofString "name", Str.ofString "takes", Str.ofString "due"]
structure SA where
  d : Addr
  o : Obj
  c : List (Str × Int)
  vB : List Value
  nB : Nat
  vP : List Value
  nP : Nat
  p : List Int
abbrev PA (w : World) (lB lP : Addr) (i : Nat) (c : SA) : Prop :=
  (Bk w c.d c.o c.c) ∧
  (IntsAre c.vB (sums 0 c.p)) ∧
  (IntsAre c.vP (sums 0 c.p)) ∧
  (c.p.length = i) ∧
  (∀ x ∈ c.p, x = 1 ∨ x = 2) ∧
  (c.c.length ≤ i) ∧
  ((c.c.map (·.2)).sum = c.p.sum) ∧
  (c.d ≠ lB) ∧
  (c.d ≠ lP)
set_option maxHeartbeats 8000000 in
theorem whole : PySem.Challenge.rw_xg0014_01.Holds := by
  k_with_none
  w_top off
  refine Mine.hd ?_
  w_strict (k_go0; (all_goals try k_fold); k_steps)
  rename_i dA _ oA hlo hsd hfd _ _ _ _ lB _ hl2 _ _ lP _ hl3 _ hF hN
  rename List Int => ns
  rename IntsAre _ ns => hI
  rename List Value => vsn
  rename World => w
  have h63 : ns.length ≤ 63 := by omega
  obtain ⟨size, hsz⟩ : ∃ z, z = 6 + ns.sum.fmod 4 := ⟨_, rfl⟩
  obtain ⟨mk, hmk⟩ : ∃ z : Str, z = { cps := #[(58 + ns.sum.fmod 65).toNat] } := ⟨_, rfl⟩
  rw [← hsz, ← hmk] at hF
  have hs6 : 6 ≤ size ∧ size ≤ 9 := by
    have h0 := Int.fmod_eq_emod_of_nonneg ns.sum (b := 4) (by decide)
    omega
  obtain ⟨hs6, hs9⟩ := hs6
  have hs0 : (0 : Int) ≤ size := Int.le_trans (by decide) hs6
  have hs10 : size ≤ 10 := Int.le_trans hs9 (by decide)
  have hz0 : 0 ≤ size + 1 := Int.add_nonneg hs0 (by decide)
  have hz10 : size + 1 ≤ 10 := Int.add_le_add_right hs9 1
  have hmkO : MarkOk mk := mark_ok hmk
  refine go_on ?_
  refine For_invVF (by assumption) rfl rfl ?_ (by intro _; rfl)
  k_steps
  refine go_on ?_
  rename Fr _ _ _ _ => lF'
  rename News _ _ _ _ => lN'
  refine' range_st (σ := SA) size.toNat (fun c => [(lP, listOf c.vP.toArray c.nP), (lB, listOf c.vB.toArray c.nB), (c.d, c.o)]) (fun c => [(Str.ofString "paid", .ref c.d)]) [Str.ofString "mine", Str.ofString "yours", Str.ofString "price", Str.ofString "more"] (PA w lB lP)
    ⟨dA, oA, [], [_], 0, [_], 0, []⟩ rfl (by assumption) (small_up (by decide) (by decide) hs0 hs10) (by rw [rangeSize_nat]; simp) lF' lN' ?kk ⟨⟨hlo, _, hsd, hfd⟩, .cons _ _ .nil, .cons _ _ .nil, rfl, fun _ h => (nomatch h), by simp, by simp, Nat.ne_of_lt hl2, Nat.ne_of_lt hl3.2⟩ ?turn ?done
  case kk => kst_all
  case turn =>
    rintro c i t u h tk own hin hne hoff hp F' N'
    clear lF' lN'
    obtain ⟨b1, b2, b3, b4, b5, b6, b7, b8, b9⟩ := hp
    dsimp only [kstB] at F'
    obtain ⟨ps, hps⟩ : ∃ z, z = sums 0 c.p := ⟨_, rfl⟩
    rw [← hps] at b2 b3
    have hlast : ps.getD (-1 + (ps.length : Int)).toNat 0 = c.p.sum := by rw [hps]; exact sums_last c.p
    have hnd : (c.c.map (·.1)).Nodup := by
      obtain ⟨_, kvs, h2, h3⟩ := b1
      exact nodup_of h2 h3
    simp only [List.map_cons, List.map_nil] at hoff
    have hpl : ps.length = i + 1 := by rw [hps, sums_len, b4]
    have hi8 : i ≤ 8 := by omega
    have hpl9 : ps.length ≤ 10 := by rw [hpl]; exact Nat.le_trans (Nat.succ_le_succ hi8) (by decide)
    have hcl8 : c.c.length ≤ 8 := Nat.le_trans b6 hi8
    try k_fold
    simp only [List.cons_append, List.nil_append] at N'
    k_steps
    refine go_on ?_
    k_dflt (refine' use_ctr (pair_ctr w _ _) ?k1 ?k2 ?k3 ?k4 ?k5 ?kK True.intro ?kd ?ku ?_; walk_at "CTR")
    rintro r9 tl9 h9 tk9 F' N' l9 ⟨q9, x9, y9, p9, t1, t2, t3, rfl, rfl, e1, e2, e3, e4⟩
    have l9' := ord_lt l9
    clear l9
    k_lt l9'
    simp only [List.cons_append, List.nil_append] at N'
    k_steps
    refine go_on ?_
    k_dflt (refine' use_ctr (cost_ctr w _ _ _ _ e1 e2) ?k1 ?k2 ?k3 ?k4 ?k5 ?kK True.intro ?kd ?ku ?_; walk_at "CTR")
    rintro r8 tl8 h8 tk8 F' N' l8 ⟨rfl, t4, rfl⟩
    rw [e3]
    simp only [List.cons_append, List.nil_append] at N'
    clear l8
    k_steps
    refine go_on ?_
    k_dflt (refine' use_ctr (add_ctr w _ _ c.c x9 p9 (Nat.le_trans hcl8 (by decide))) ?k1 ?k2 ?k3 ?k4 ?k5 ?kK ?kp ?kd ?ku ?_; walk_at "CTR"; (case kp => exact ⟨b1.book (by k_mem), ⟨_, _, List.Mem.head _, by assumption, by assumption, by assumption⟩⟩))
    rintro r7 tl7 h7 tk7 F' N' l7 ⟨q7, o7, kv7, rfl, rfl, g1, g2, g3⟩
    have l7' := ord_lt l7
    clear l7
    k_lt l7'
    simp only [List.cons_append, List.nil_append] at N'
    k_steps
    refine go_on ?_
    k_dflt (refine' use_ctr (count_ctr w _ c.c (Nat.le_trans hcl8 (by decide))) ?k1 ?k2 ?k3 ?k4 ?k5 ?kK ?kp ?kd ?ku ?_; walk_at "CTR"; (case kp => exact b1.book (by k_mem)))
    rintro r6 tl6 h6 tk6 F' N' l6 ⟨rfl, t6, hr⟩
    rw [b7] at hr
    subst hr
    simp only [List.nil_append] at N'
    clear l6
    (first | (k_unfold; (try dsimp only)) | walk1 | (dsimp only; walk1) | (leave1; try dsimp only))
    (first | (k_unfold; (try dsimp only)) | walk1 | (dsimp only; walk1) | (leave1; try dsimp only))
    (first | (k_unfold; (try dsimp only)) | walk1 | (dsimp only; walk1) | (leave1; try dsimp only))
    (first | (k_unfold; (try dsimp only)) | walk1 | (dsimp only; walk1) | (leave1; try dsimp only))
    (first | (k_unfold; (try dsimp only)) | walk1 | (dsimp only; walk1) | (leave1; try dsimp only))
    (first | (k_unfold; (try dsimp only)) | walk1 | (dsimp only; walk1) | (leave1; try dsimp only))
    rw [hlast]
    (first | (k_unfold; (try dsimp only)) | walk1 | (dsimp only; walk1) | (leave1; try dsimp only))
    (first | (k_unfold; (try dsimp only)) | walk1 | (dsimp only; walk1) | (leave1; try dsimp only))
    rw [if_neg (by simp)]
    k_steps
    refine go_on ?_
    k_dflt (refine' use_ctr (count_ctr w _ (addOne c.c x9 p9) ?cl) ?k1 ?k2 ?k3 ?k4 ?k5 ?kK ?kp ?kd ?ku ?_; walk_at "CTR"; (case kp => exact ⟨_, _, List.Mem.head _, g1, g2, g3⟩))
    case cl => exact Nat.le_trans (len_addOne _ _ _) (Nat.le_trans (Nat.succ_le_succ hcl8) (by decide))
    rintro r5 tl5 h5 tk5 F' N' l5 ⟨rfl, t5, hr5⟩
    rw [sum_addOne hnd, b7] at hr5
    subst hr5
    simp only [List.nil_append] at N'
    clear l5
    k_steps
    refine' st_end ⟨q7, o7, addOne c.c x9 p9, c.vB ++ [_], c.nB + 1, c.vP ++ [_], c.nP + 1, c.p ++ [p9]⟩ (by assumption) (by assumption) ?yA0 ?yA1 ?yA4 ?yA2 (by kst_same) ?yA3
    case yA2 => kst_all
    case yA0 =>
      intro p hp
      simp only [← List.push_toArray, List.mem_cons, List.not_mem_nil, or_false] at hp
      rcases hp with rfl | rfl | rfl <;> k_mem
    case yA1 => intro p hp; exact List.mem_append_right [_, _, _, _, _, _, _] hp
    case yA4 => exact off_swap hoff (by rename _ ∧ _ ∧ _ ∧ _ ∧ _ ∧ _ ∧ AllLt q7 own => hl7; exact hl7.2.2.2.2.2.2)
    case yA3 =>
      refine ⟨⟨g1, kv7, g2, g3⟩, ?_, ?_, by simp [b4], ?_, ?_, ?_, ?_, ?_⟩
      · show IntsAre _ (sums 0 (c.p ++ [p9]))
        rw [sums_app0, ← hps]; exact IntsAre.append b2 (.cons _ _ .nil)
      · show IntsAre _ (sums 0 (c.p ++ [p9]))
        rw [sums_app0, ← hps, ← hlast]; exact IntsAre.append b3 (.cons _ _ .nil)
      · intro x hx
        rcases List.mem_append.mp hx with h | h
        · exact b5 x h
        · rw [List.mem_singleton.mp h]; exact e4
      · exact Nat.le_trans (len_addOne _ _ _) (Nat.succ_le_succ b6)
      · show ((addOne c.c x9 p9).map (·.2)).sum = (c.p ++ [p9]).sum
        rw [sum_addOne hnd, b7]; simp
      · exact (Nat.ne_of_lt l7'.2.2.2.2.1).symm
      · exact (Nat.ne_of_lt l7'.2.2.2.1).symm
  case done =>
    rintro c u h tk hp F' N'
    obtain ⟨b1, b2, b3, b4, b5, b6, b7, b8, b9⟩ := hp
    clear lF' lN'
    dsimp only [kstB] at F'
    try k_fold
    k_steps
    refine go_on ?_
    rw [if_neg Bool.false_ne_true]
    clear b1 b6 b7 b8 b9 hlo hsd hfd hsz hmk
    repeat (rename IsRange _ _ _ _ _ _ _ _ => q9; clear q9)
    have hcp : (c.p.length : Int) = size := by rw [b4]; omega
    have hspl : ((sums 0 c.p).length : Int) = size + 1 := by rw [sums_len]; push_cast; rw [hcp]
    k_steps
    rename_i lL _ l1L _ hF hN
    rename List Int => ks
    clear hI hl2
    obtain ⟨front, hfr⟩ : ∃ z, z = (ks.sum + 3).fmod (size + 1) := ⟨_, rfl⟩
    rw [← hfr] at hF
    have hfr0 : 0 ≤ front := by rw [hfr]; exact Int.fmod_nonneg_of_pos _ (by omega)
    have hfr1 : front ≤ size := by have := Int.fmod_lt_of_pos (ks.sum + 3) (b := size + 1) (by omega); omega
    refine go_on ?_
    refine For_invVF (by assumption) rfl rfl ?_ (by intro _; rfl)
    k_steps
    refine go_on ?_
    rename Fr _ _ _ _ => lF'
    rename News _ _ _ _ => lN'
    refine' range_st (σ := List Value × Nat) (size + 1).toNat (fun c' => [(lL, listOf c'.1.toArray c'.2), (lP, listOf c.vP.toArray c.nP), (lB, listOf c.vB.toArray c.nB), (c.d, c.o)]) (fun c' => []) [Str.ofString "ahead"] (fun i c' => StrsAre c'.1 (linesOf front size i))
      ([], 0) rfl (by assumption) (small_up (by decide) (by decide) hz0 hz10) (by rw [rangeSize_nat]; simp) lF' ?kn ?kk .nil ?turn ?done
    case kk => kst_all
    case kn => exact fun p hp => lN' p (drop_second hp)
    case turn =>
      rintro ⟨vL, nL⟩ i t u h tk own hin hne hoff hp F' N'
      clear lF' lN'
      dsimp only [kstB] at F'
      simp only [List.cons_append, List.nil_append] at N'
      try k_fold
      have hvl : vL.length = i := by rw [strs_len hp]; simp [linesOf]
      have hi9 : i ≤ 9 := by omega
      have hvl9 : vL.length ≤ 9 := hvl ▸ hi9
      have hia : 0 ≤ (if 0 > front - (size - (0 + (i : Int))) then 0 else front - (size - (0 + (i : Int)))) ∧ (if 0 > front - (size - (0 + (i : Int))) then 0 else front - (size - (0 + (i : Int)))) ≤ 0 + (i : Int) := ahead_in hfr0 hfr1 (by omega)
      have hia9 : (if 0 > front - (size - (0 + (i : Int))) then 0 else front - (size - (0 + (i : Int)))) ≤ 9 := by omega
      have hsA := small_mul hia.1 hia9
      have hsB := small_mul (Int.sub_nonneg.mpr hia.2) (Int.le_trans (Int.sub_le_self _ hia.1) (by rw [Int.zero_add]; exact Int.ofNat_le.mpr hi9))
      k_steps
      refine' st_end (vL ++ [_], nL + 1) (by assumption) (by assumption) ?yB0 ?yB1 hoff ?yB2 (by intro z z1 z2 z3; clear z2; (try dsimp only); repeat (first | (with_reducible rfl) | refine (if_neg (by first | exact z1 | exact cn z3 (by decide +kernel) | exact cs z3 (by decide +kernel) | (rw [z3]; exact Bool.false_ne_true))).trans ?_)) ?yB3
      case yB2 => kst_all
      case yB0 =>
        intro p hp
        simp only [← List.push_toArray] at hp ⊢
        exact List.mem_append_left own hp
      case yB1 => intro p hp; exact List.mem_append_right [_, _, _, _] hp
      case yB3 =>
        show StrsAre _ (linesOf front size (i + 1))
        rw [linesOf_succ]
        refine strs_app hp ?_
        simp only [Int.zero_add]
        rfl
    case done =>
      rintro ⟨vL, nL⟩ u h tk hp F' N'
      clear lF' lN'
      dsimp only [kstB] at F'
      replace hp : StrsAre vL (linesOf front size (size + 1).toNat) := hp
      try k_fold
      k_steps
      refine go_on ?_
      k_dflt (refine' use_ctr (steps_ctr w size _ lP c.vP c.nP (sums 0 c.p) b3 (by clear hcp; omega) hs9 hspl (sums_ge b5 hcp)) ?k1 ?k2 ?k3 ?k4 ?k5 ?kK ?kp ?kd ?ku ?_; walk_at "CTR"; (case kp => k_mem))
      rintro r1 tl1 h1 tk1 F' N' l1 ⟨lS, vS, nS, rfl, hmS, hiS⟩
      k_steps
      have hst : (stepsF (sums 0 c.p) size 19 [1]).length ≤ 10 ∧ ∀ k ∈ stepsF (sums 0 c.p) size 19 [1], 1 ≤ k := (game_parts b5 hcp hs6 hs9).1
      rename_i dL _ _ hloL _ l1d _ oL hdL hfL _ hF hN
      have hdl : @LT.lt Nat _ lS dL ∧ @LT.lt Nat _ lL dL ∧ @LT.lt Nat _ lP dL ∧ @LT.lt Nat _ lB dL := by
        have h := allLt_mem l1d
        exact ⟨h _ (List.mem_append_left _ hmS), h _ (List.mem_append_right _ (.head _)), h _ (List.mem_append_right _ (.tail _ (.head _))), h _ (List.mem_append_right _ (.tail _ (.tail _ (.head _))))⟩
      refine go_on ?_
      refine For_invVF (by assumption) rfl rfl ?_ (by intro _; rfl)
      k_steps
      refine go_on ?_
      rename Fr _ _ _ _ => lF'
      rename News _ _ _ _ => lN'
      refine' range_st (σ := SC) size.toNat (fun c' => [(dL, c'.o), (lS, listOf vS.toArray nS), (lL, listOf vL.toArray nL), (lP, listOf c.vP.toArray c.nP), (lB, listOf c.vB.toArray c.nB)]) (fun c' => []) scN (PC w front size (sums 0 c.p) dL)
        ⟨oL, [2 * size + 1]⟩ rfl (by assumption) (small_up (by decide) (by decide) hz0 hz10) size_upI lF' ?kn ?kk ⟨⟨hloL, _, hdL, by rw [least_one hfr1]; exact hfL⟩, rfl, rfl⟩ ?turn ?done
      case kk => kst_all
      case kn => 
        refine fun p hp => lN' p ?_
        simp only [List.mem_cons, List.not_mem_nil, or_false] at hp
        rcases hp with rfl | rfl | rfl | rfl | rfl
        · exact .head _
        · exact .tail _ (List.mem_append_left _ hmS)
        · exact .tail _ (List.mem_append_right _ (.head _))
        · exact .tail _ (List.mem_append_right _ (.tail _ (.head _)))
        · exact .tail _ (List.mem_append_right _ (.tail _ (.tail _ (.head _))))
      case turn =>
        rintro ⟨o, V⟩ i t u h tk own hin hne hoff hp F' N'
        clear lF' lN' l1d
        obtain ⟨hbk, hV, hVl⟩ := hp
        dsimp only [kstB] at F'
        simp only [List.cons_append, List.nil_append] at N'
        have hin' : (i : Int) < size := by omega
        have hln : (linesOf front size (size + 1).toNat).length = (size + 1).toNat := by simp [linesOf]
        obtain ⟨P, hP⟩ : ∃ P : Nat, P = i + 1 := ⟨_, rfl⟩
        rw [show 1 + (i : Int) = (P : Int) by omega] at F'
        have hVP : V.length = P := by rw [hP]; exact hVl
        have hPs : (P : Int) ≤ size := by omega
        have hP9 : (P : Int) ≤ 9 := Int.le_trans hPs hs9
        have hP0 : (0 : Int) ≤ (P : Int) := Int.natCast_nonneg P
        have hP1 : (1 : Int) ≤ (P : Int) := by rw [hP]; omega
        have hPz0 : 0 ≤ (P : Int) + 1 := Int.add_nonneg hP0 (by decide)
        have hPz10 : (P : Int) + 1 ≤ 10 := Int.add_le_add_right hP9 1
        have hixP := lines_in (front := front) hP0 hPs
        try k_fold
        k_steps
        rename_i dM _ oM hloM hdM hfM _ _ hlM _ hF hN
        rw [lines_get hPs] at hF
        refine go_on ?_
        refine For_invVF (by assumption) rfl rfl ?_ (by intro _; rfl)
        k_steps
        refine go_on ?_
        rename Fr _ _ _ _ => lF'
        rename News _ _ _ _ => lN'
        refine' range_st (σ := SD) P (fun c' => (dM, c'.oM) :: (dL, c'.oL) :: (lS, listOf vS.toArray nS) :: (lL, listOf vL.toArray nL) :: (lP, listOf c.vP.toArray c.nP) :: (lB, listOf c.vB.toArray c.nB) :: own) (fun c' => []) [Str.ofString "told", Str.ofString "rest", Str.ofString "name"] (PD w front size (sums 0 c.p) V P dL dM)
          ⟨o, oM, V⟩ rfl (by assumption) (small_up (by decide) (by decide) hPz0 hPz10) size_upN lF' lN' ?kkD ⟨hbk, rfl, ⟨hloM, _, hdM, hfM⟩⟩ ?turnD ?doneD
        case kkD => kst_all
        case turnD =>
          rintro ⟨oL', oM', V'⟩ j t2 u2 h tk own2 hjn hne2 hoff2 ⟨d1, d2, d3⟩ F' N'
          clear lF' lN'
          dsimp only [kstB] at F'
          simp only [List.cons_append, List.nil_append] at N'
          obtain ⟨K, hK⟩ : ∃ K : Nat, K = j + 1 := ⟨_, rfl⟩
          rw [show 1 + (j : Int) = (K : Int) by omega] at F'
          have hKP : (K : Int) ≤ (P : Int) := by omega
          try k_fold
          have hK1 : (1 : Int) ≤ (K : Int) := by rw [hK]; omega
          have hK9 : (K : Int) ≤ 9 := Int.le_trans hKP hP9
          have hK0 : (0 : Int) ≤ (K : Int) := Int.natCast_nonneg K
          have hPK0 : (0 : Int) ≤ (P : Int) - (K : Int) := Int.sub_nonneg.mpr hKP
          have hPKs : (P : Int) - (K : Int) ≤ size := by clear hPK0 hK9; omega
          have hPK9 : (P : Int) - (K : Int) ≤ 9 := Int.le_trans hPKs hs9
          have hix := lines_in (front := front) hPK0 hPKs
          have hjP : j + 1 ≤ P := Nat.succ_le_of_lt hjn
          have hP9n : P ≤ 9 := Int.ofNat_le.mp hP9
          have hj9 : j ≤ 9 := Nat.le_trans (Nat.le_of_lt hjn) hP9n
          have hlen20 : (lineOf front size (P : Int)).length ≤ 20 := len20 hfr0 hfr1 hP0 hP9
          have hlen20' : (lineOf front size ((P : Int) - (K : Int))).length ≤ 20 := len20 hfr0 hfr1 hPK0 hPK9
          have hlok := line_ok (pile := (P : Int)) hfr0 hfr1 hs9 hP0 hPs
          have hsl : (K : Int) < ((sums 0 c.p).length : Int) := by rw [hspl]; exact Int.lt_add_one_of_le (Int.le_trans hKP hPs)
          k_steps
          refine go_on ?_
          k_dflt (refine' use_ctr (reply_ctr w mk _ _ _ (P : Int) (K : Int) hmkO.len hP0 hP9 hK0 hK9) ?k1 ?k2 ?k3 ?k4 ?k5 ?kK True.intro ?kd ?ku ?_; walk_at "CTR")
          rintro r11 tl11 h11 tk11 F' N' l11 ⟨rfl, t11, rfl⟩
          clear l11
          simp only [List.nil_append] at N'
          k_steps
          refine go_on ?_
          k_dflt (refine' use_ctr (preply_ctr w mk (lineOf front size (P : Int)) _ _ _ _ _ (P : Int) (K : Int) hmkO hP0 hP9 hK0 hK9 hlen20) ?k1 ?k2 ?k3 ?k4 ?k5 ?kK ?kp ?kd ?ku ?_; walk_at "CTR"; (case kp => exact List.Mem.head _))
          rintro r12 tl12 h12 tk12 F' N' l12 ⟨q12, t12, t13, rfl, rfl⟩
          have l12' := ord_lt l12
          clear l12
          k_lt l12'
          simp only [List.cons_append, List.nil_append] at N'
          k_steps
          refine pair_ne (by assumption) (List.Mem.tail _ (List.Mem.head _)) (List.Mem.head _) hlok ?_ ?_
          · ktr_units
          k_steps
          refine go_on ?_
          rw [if_neg Bool.false_ne_true]
          k_steps
          refine go_on ?_
          k_dflt (refine' use_ctr (sline_ctr w front size (P : Int) (K : Int) _ _ hfr0 hfr1 hs9 hK0 hKP hPs) ?k1 ?k2 ?k3 ?k4 ?k5 ?kK True.intro ?kd ?ku ?_; walk_at "CTR")
          rintro r13 tl13 h13 tk13 F' N' l13 ⟨rfl, t15, rfl⟩
          clear l13
          simp only [List.nil_append] at N'
          k_steps
          refine go_on ?_
          rw [lines_at (z := (P : Int) - (K : Int)) hPK0 hPKs, if_neg (by simp)]
          k_steps
          refine go_on ?_
          k_dflt (refine' use_ctr (fstd_ctr w (lineOf front size (P : Int)) (lineOf front size ((P : Int) - (K : Int))) _ _ _ _ (K : Int) hlen20 hlok hlen20' hK1 hK9) ?k1 ?k2 ?k3 ?k4 ?k5 ?kK ?kp ?kd ?ku ?_; walk_at "CTR"; (case kp => exact List.Mem.head _))
          rintro r14 tl14 h14 tk14 F' N' l14 ⟨rfl, t16, hr14⟩
          replace hr14 : r14 = .str (nameOf front size (P : Int) (K : Int)) t16 := hr14
          subst hr14
          clear l14
          simp only [List.nil_append] at N'
          have N2 := drop5 N'
          clear N'
          replace d1 : Bk w dL oL' (leastL front size V') := d1
          replace d3 : Bk w dM oM' (movesL front size (sums 0 c.p) V P j) := d3
          replace d2 : V' = stepV (sums 0 c.p) V P j := d2
          obtain ⟨lo1, kv1, kd1, f1⟩ := id d1
          obtain ⟨lo3, kv3, kd3, f3⟩ := id d3
          simp only [List.map_cons, List.map_nil] at hoff hoff2
          have hmc : (movesL front size (sums 0 c.p) V P j).length ≤ 1000 := by rw [moves_len]; exact Nat.le_trans hj9 (by decide)
          have hlc : (leastL front size V').length ≤ 1000 := by unfold leastL; rw [List.length_map, List.length_range, d2]; exact Nat.le_trans (stepV_le hVP hP9n j) (by decide)
          have hhas : kdpHas (leastL front size V') (lineOf front size ((P : Int) - (K : Int))) = true := least_hasI hfr0 hfr1 hPK0 (by rw [d2]; have := (stepV_len (ps := sums 0 c.p) (V := V) (pile := P) j).1; clear hlc hmc hix hsl; omega)
          subst d2
          subst hK
          k_steps
          refine go_on ?_
          rw [win_at hfr0 hfr1 hVP (Nat.le_add_left 1 j) hjP]
          cases hwb : winB (sums 0 c.p) V P (j + 1) with
          | false =>
            rw [if_neg Bool.false_ne_true]
            rename FlatPairs PyData.str _ (kdpD (kdpPut _ _ _)) => hfM
            rw [mv_lose hfr0 hfr1 hP9n hjn hwb] at hfM
            k_steps
            refine' st_end (SD.mk oL' _ (stepV (sums 0 c.p) V P j)) (by assumption) (by assumption) (fun p hp => List.mem_append_left own2 hp) (fun p hp => List.mem_append_right (_ :: _ :: _ :: _ :: _ :: _ :: own) hp) hoff2 ?zC1 (by intro z z1 z2 z3; clear z2; (try dsimp only); repeat (first | (with_reducible rfl) | refine (if_neg (by first | exact z1 | exact cn z3 (by decide +kernel) | exact cs z3 (by decide +kernel) | (rw [z3]; exact Bool.false_ne_true))).trans ?_)) ⟨d1, (step_lose hwb).symm, ⟨hloM, _, by assumption, hfM⟩⟩
            case zC1 => kst_all
          | true =>
            rw [if_pos rfl]
            k_steps
            refine go_on ?_
            rename FlatPairs PyData.str _ (kdpD (kdpPut (kdpPut _ _ _) _ _)) => hfM
            rw [mv_win hfr0 hfr1 hP9n hjn hwb] at hfM
            by_cases hl : (stepV (sums 0 c.p) V P j).length = P
            · rw [if_pos (new_line hfr0 hfr1 hl)]
              k_steps
              rename FlatPairs PyData.str _ (kdpD (kdpPut _ _ _)) => hfL2
              rw [put_line hfr0 hfr1 hl] at hfL2
              refine' st_end (SD.mk _ _ (stepV (sums 0 c.p) V P j ++ [((j + 1 : Nat) : Int)])) (by assumption) (by assumption) (fun p hp => List.mem_append_left own2 hp) (fun p hp => List.mem_append_right (_ :: _ :: _ :: _ :: _ :: _ :: own) hp) hoff2 ?zC2 (by intro z z1 z2 z3; clear z2; (try dsimp only); repeat (first | (with_reducible rfl) | refine (if_neg (by first | exact z1 | exact cn z3 (by decide +kernel) | exact cs z3 (by decide +kernel) | (rw [z3]; exact Bool.false_ne_true))).trans ?_)) ⟨⟨hloL, _, by assumption, hfL2⟩, (step_add hwb hl).symm, ⟨hloM, _, by assumption, hfM⟩⟩
              case zC2 => kst_all
            · rw [if_neg (old_line hfr0 hfr1 hVP hl)]
              k_steps
              refine' st_end (SD.mk oL' _ (stepV (sums 0 c.p) V P j)) (by assumption) (by assumption) (fun p hp => List.mem_append_left own2 hp) (fun p hp => List.mem_append_right (_ :: _ :: _ :: _ :: _ :: _ :: own) hp) hoff2 ?zC3 (by intro z z1 z2 z3; clear z2; (try dsimp only); repeat (first | (with_reducible rfl) | refine (if_neg (by first | exact z1 | exact cn z3 (by decide +kernel) | exact cs z3 (by decide +kernel) | (rw [z3]; exact Bool.false_ne_true))).trans ?_)) ⟨d1, (step_keep hl).symm, ⟨hloM, _, by assumption, hfM⟩⟩
              case zC3 => kst_all
        case doneD =>
          rintro ⟨oL', oM', V'⟩ u2 h tk ⟨d1, d2, d3⟩ F' N'
          clear lF' lN'
          dsimp only at N'
          dsimp only [kstB] at F'
          replace d1 : Bk w dL oL' (leastL front size V') := d1
          replace d3 : Bk w dM oM' (movesL front size (sums 0 c.p) V P P) := d3
          replace d2 : V' = stepV (sums 0 c.p) V P P := d2
          subst d2
          try k_fold
          k_steps
          refine go_on ?_
          k_dflt (refine' use_ctr (takes_ctr w (P : Int) size _ lS lP vS nS (stepsF (sums 0 c.p) size 19 [1]) hiS c.vP c.nP (sums 0 c.p) b3 hP1 hPs hs9 hspl hst.1 hst.2) ?k1 ?k2 ?k3 ?k4 ?k5 ?kK ?kp ?kd ?ku ?_; walk_at "CTR"; (case kp => exact ⟨by k_mem, by k_mem⟩))
          rintro r21 tl21 h21 tk21 F' N' l21 ⟨lT, wT, nT, rfl, hmT, hiT⟩
          have hT2 : @LT.lt Nat _ dM lT ∧ @LT.lt Nat _ dL lT := ⟨l21 _ (.head _) _ hmT, l21 _ (.tail _ (.head _)) _ hmT⟩
          have N2 := keep_one N' hmT
          clear N' l21
          generalize hTe : takesW (sums 0 c.p) _ _ 0 [] = T9 at hiT
          k_steps
          rename_i lD _ hlD _ hF hN
          refine go_on ?_
          refine For_invVF (by assumption) rfl rfl ?_ (by intro _; rfl)
          k_steps
          refine go_on ?_
          rename Fr _ _ _ _ => lF'
          rename News _ _ _ _ => lN'
          refine' range_st (σ := SE) P (fun c' => (lD, listOf c'.vD.toArray c'.nD) :: (lT, listOf wT.toArray nT) :: (dM, oM') :: (dL, oL') :: (lS, listOf vS.toArray nS) :: (lL, listOf vL.toArray nL) :: (lP, listOf c.vP.toArray c.nP) :: (lB, listOf c.vB.toArray c.nB) :: (own ++ c'.n1)) (fun c' => []) [Str.ofString "name"] (fun i c' => DatAll c'.n1 c'.vD (dueL front size T9 P i) ∧ ∀ p ∈ c'.n1, p.1 ≠ lD)
            ⟨[], 0, []⟩ rfl (by assumption) (small_up (by decide) (by decide) hPz0 hPz10) size_upN lF' (by rw [List.append_nil]; exact lN') ?kkE ⟨.nil, fun _ h => nomatch h⟩ ?turnE ?doneE
          case kkE => kst_all
          case turnE =>
            rintro ⟨vD, nD, n1⟩ j t2 u2 h tk own3 hjn hne3 hoff3 e1 F' N'
            clear lF' lN'
            dsimp only [kstB] at F'
            simp only [List.cons_append, List.nil_append] at N'
            obtain ⟨K, hK⟩ : ∃ K : Nat, K = j + 1 := ⟨_, rfl⟩
            rw [show 1 + (j : Int) = (K : Int) by omega] at F'
            have hKP : (K : Int) ≤ (P : Int) := by omega
            have hK1 : (1 : Int) ≤ (K : Int) := by rw [hK]; omega
            have hK9 : (K : Int) ≤ 9 := Int.le_trans hKP hP9
            have hK0 : (0 : Int) ≤ (K : Int) := Int.natCast_nonneg K
            have hPK0 : (0 : Int) ≤ (P : Int) - (K : Int) := Int.sub_nonneg.mpr hKP
            have hPKs : (P : Int) - (K : Int) ≤ size := by clear hPK0 hK9; omega
            have hPK9 : (P : Int) - (K : Int) ≤ 9 := Int.le_trans hPKs hs9
            have hix := lines_in (front := front) hPK0 hPKs
            have hj9 : j ≤ 9 := Nat.le_trans (Nat.le_of_lt hjn) (Int.ofNat_le.mp hP9)
            have hlen20 : (lineOf front size (P : Int)).length ≤ 20 := len20 hfr0 hfr1 hP0 hP9
            have hs20 : Small 20 (lineOf front size (P : Int)) := hlen20
            obtain ⟨hsK, _⟩ := small_num hK0 hK9
            try k_fold
            k_steps
            rw [lines_at (z := (P : Int) - (K : Int)) hPK0 hPKs]
            have hlen20' : (lineOf front size ((P : Int) - (K : Int))).length ≤ 20 := len20 hfr0 hfr1 hPK0 hPK9
            have hs20' : Small 20 (lineOf front size ((P : Int) - (K : Int))) := hlen20'
            k_steps
            refine go_on ?_
            simp only [List.map_cons] at hoff3
            obtain ⟨e1a, e1b⟩ : DatAll n1 vD (dueL front size T9 P j) ∧ ∀ p ∈ n1, p.1 ≠ lD := e1
            have hvl : vD.length = j := by rw [e1a.length]; simp [dueL]
            have hvl9 : vD.length ≤ 9 := hvl ▸ hj9
            rw [any_mem]
            by_cases hm : (K : Int) ∈ T9
            · rw [if_pos (decide_eq_true hm)]
              k_steps
              subst hK
              rename Fr _ _ _ _ => lF'
              rename News _ _ _ _ => lN'
              rename @LT.lt Nat _ _ _ ∧ _ ∧ _ ∧ _ ∧ _ ∧ _ ∧ _ ∧ _ ∧ AllLt _ (own ++ n1 ++ own3) => hq
              refine' st_end (SE.mk (vD ++ [_]) (nD + 1) (n1 ++ [(_, _)])) lF' lN' (fun p hp => led_E hp) (fun p hp => own_E hp) (off_E hoff3 hq.2.2.2.2.2.2.2.2) ?zC4 (by intro z z1 z2 z3; clear z2; (try dsimp only); repeat (first | (with_reducible rfl) | refine (if_neg (by first | exact z1 | exact cn z3 (by decide +kernel) | exact cs z3 (by decide +kernel) | (rw [z3]; exact Bool.false_ne_true))).trans ?_)) (due_end e1a e1b (if_pos hm).symm hq.1)
              case zC4 => kst_all
            · rw [if_neg (by rw [decide_eq_false hm]; exact Bool.false_ne_true)]
              k_steps
              subst hK
              rename Fr _ _ _ _ => lF'
              rename News _ _ _ _ => lN'
              rename @LT.lt Nat _ _ _ ∧ _ ∧ _ ∧ _ ∧ _ ∧ _ ∧ _ ∧ _ ∧ AllLt _ (own ++ n1 ++ own3) => hq
              refine' st_end (SE.mk (vD ++ [_]) (nD + 1) (n1 ++ [(_, _)])) lF' lN' (fun p hp => led_E hp) (fun p hp => own_E hp) (off_E hoff3 hq.2.2.2.2.2.2.2.2) ?zC5 (by intro z z1 z2 z3; clear z2; (try dsimp only); repeat (first | (with_reducible rfl) | refine (if_neg (by first | exact z1 | exact cn z3 (by decide +kernel) | exact cs z3 (by decide +kernel) | (rw [z3]; exact Bool.false_ne_true))).trans ?_)) (due_end e1a e1b (if_neg hm).symm hq.1)
              case zC5 => kst_all
          case doneE =>
            rintro ⟨vD, nD, n1⟩ u3 h tk ⟨e1, e2⟩ F' N'
            clear lF' lN'
            dsimp only at N' e1
            dsimp only [kstB] at F'
            obtain ⟨lo3, kv3, kd3, f3⟩ := id d3
            have hk3 : kv3.length = P := by
              have := f3.length
              rw [kdpD_length, moves_len] at this
              exact this.symm
            try k_fold
            k_steps
            refine go_on ?_
            rename Fr _ _ _ _ => lF'
            rename News _ _ _ _ => lN'
            have hkl : kv3.length ≤ 16777216 := hk3 ▸ Nat.le_trans (Int.ofNat_le.mp hP9) (by decide)
            refine list_items rfl lF' lN' (.head _) (.tail _ (.tail _ (.tail _ (.head _)))) kd3 f3 hkl ?_
            intro B vs9 tups9 k9 h9 tk9 hD9 F' N'
            clear lF' lN'
            have N2 := tups_last N'
            clear N'
            k_dflt (refine' ld ?k1 ?k2 ?_; (case k1 => k_asm); (case k2 => exact rfl); k_whole)
            have hgame : datL (movesL front size (sums 0 c.p) V P P) = dueL front size T9 P P := by
              subst hP
              exact game_moves b5 hcp hs6 hs9 hin' hTe hV
            have hok1 : ∀ d ∈ dueL front size T9 P P, kqdOk 8 d = true := due_ok hfr0 hfr1 hs9 hPs
            rw [hgame] at hD9
            refine kqd_ne (n₁ := tups9) (n₂ := n1) N2 (List.Mem.head _) rfl rfl hD9 (fun p hp => List.mem_cons_of_mem _ (List.mem_append_right _ hp)) (.tail _ (.tail _ (.head _))) rfl rfl e1 (fun p hp => by simp [hp]) hok1 hok1 ?_ ?_
            · ktr_units
            have hmL := moves_len (front := front) (size := size) (ps := sums 0 c.p) (V := V) (pile := P) (n := P)
            simp only [decide_true, Bool.not_true]
            have N3 := led_F N2
            clear N2
            k_steps
            refine go_on ?_
            rw [if_neg Bool.false_ne_true]
            k_steps
            refine go_on ?_
            k_dflt (refine' use_ctr (count_ctr w _ (movesL front size (sums 0 c.p) V P P) (by rw [hmL]; exact Nat.le_trans (Int.ofNat_le.mp hP9) (by decide))) ?k1 ?k2 ?k3 ?k4 ?k5 ?kK ?kp ?kd ?ku ?_; walk_at "CTR"; (case kp => exact d3.book (by k_mem)))
            rintro r31 tl31 h31 tk31 F' N' l31 ⟨rfl, t31, hr31⟩
            have hsum : ((movesL front size (sums 0 c.p) V P P).map (·.2)).sum = (T9.length : Int) := by
              subst hP
              exact game_sum b5 hcp hs6 hs9 hin' hTe hV
            rw [hsum] at hr31
            subst hr31
            clear l31
            simp only [List.nil_append] at N'
            have hTl : wT.length = T9.length := hiT.length
            have hT20 : wT.length ≤ 20 := by
              have := moves_sum (front := front) (size := size) (ps := sums 0 c.p) (V := V) (pile := P) P
              rw [hsum] at this
              rw [hTl]
              exact Nat.le_trans (Int.ofNat_le.mp this) (Nat.le_trans (Int.ofNat_le.mp hP9) (by decide))
            k_steps
            refine go_on ?_
            rw [if_neg (by simp)]
            k_steps
            refine go_on ?_
            rw [if_neg Bool.false_ne_true]
            k_steps
            rename Fr _ _ _ _ => lF'
            rename News _ _ _ _ => lN'
            have hV3 := ((game_parts b5 hcp hs6 hs9).2 i hin').1
            simp only [List.map_cons, List.map_nil] at hoff
            refine' st_end (SC.mk oL' (stepV (sums 0 c.p) V P P)) lF' lN' (fun p hp => .tail _ (.tail _ (List.mem_append_left own hp))) (fun p hp => List.mem_append_right [_, _, _, _, _, _, _] hp) hoff ?zC6 ?zC7 ⟨d1, ?zV1, ?zV2⟩
            case zC6 => kst_all
            case zC7 =>
              intro z z1 z2 z3
              clear z2
              try dsimp only
              repeat (first | (with_reducible rfl) | refine (if_neg (by first | exact z1 | exact cn z3 (by decide +kernel) | exact cs z3 (by decide +kernel) | (rw [z3]; exact Bool.false_ne_true))).trans ?_)
            case zV1 => subst hP; rw [show V = valsF (sums 0 c.p) size i from hV]; rfl
            case zV2 => subst hP; rw [show V = valsF (sums 0 c.p) size i from hV]; exact hV3
      case done =>
        rintro ⟨o, V⟩ u2 h tk hp F' N'
        clear lF' lN' l1d
        obtain ⟨hbk, hV, hVl⟩ := hp
        dsimp only [kstB] at F'
        dsimp only at N'
        clear b2 b3 hmS hiS hloL hdl hst hl3 h63 hfr hbk hV hVl l1L hspl hcp
        have hlnS := lines_in (front := front) (z := size) (by omega) (Int.le_refl size)
        clear hz0 hz10 hs10
        try k_fold
        k_steps
        refine go_on ?_
        k_dflt (refine' use_ctr (reply_ctr w mk _ _ _ size 0 hmkO.len (by omega) (by omega) (by omega) (by omega)) ?k1 ?k2 ?k3 ?k4 ?k5 ?kK True.intro ?kd ?ku ?_; walk_at "CTR")
        rintro r41 tl41 h41 tk41 F' N' l41 ⟨rfl, t41, rfl⟩
        clear l41
        simp only [List.nil_append] at N'
        k_steps
        refine go_on ?_
        k_dflt (refine' use_ctr (preply_ctr w mk (Str.ofString "~") _ _ _ _ _ size 0 hmkO (by omega) (by omega) (by omega) (by omega) (by decide)) ?k1 ?k2 ?k3 ?k4 ?k5 ?kK ?kp ?kd ?ku ?_; walk_at "CTR"; (case kp => exact List.Mem.head _))
        rintro r42 tl42 h42 tk42 F' N' l42 ⟨q42, t42, t43, rfl, rfl⟩
        have l42' := ord_lt l42
        clear l42
        k_lt l42'
        simp only [List.cons_append, List.nil_append] at N'
        k_steps
        refine go_on ?_
        k_dflt (refine' use_ctr (fover_ctr w _ _ _ _) ?k1 ?k2 ?k3 ?k4 ?k5 ?kK ?kp ?kd ?ku ?_; walk_at "CTR"; (case kp => exact List.Mem.head _))
        rintro r44 tl44 h44 tk44 F' N' l44 ⟨rfl, t44, rfl⟩
        clear l44
        simp only [List.nil_append] at N'
        k_steps
        refine go_on ?_
        rw [if_neg (by simp)]
        have hrf : RefOk (refuseOf mk) := by
          obtain ⟨c0, c1, c2, rfl⟩ := hmkO
          exact ref_ok c1 c2
        have hml := hmkO.len
        have hln : (linesOf front size (size + 1).toNat).length = (size + 1).toNat := by simp [linesOf]
        have hm3 := mul3 hml
        have hsm1 : Small 1 mk := Nat.le_of_eq hml
        have hsm3 : Small 3 (Txt.mul mk 3) := Nat.le_of_eq hm3
        iterate 18 (first | (k_unfold; (try dsimp only)) | walk1 | (dsimp only; walk1))
        generalize hxr : Str.ofString "229 None left (" ++ Txt.mul mk 3 ++ Str.ofString ")" = xr
        replace hrf : RefOk xr := by rw [← hxr]; exact hrf
        clear hxr
        obtain ⟨x1, x2, x3, x4, x5, b0, b1', b2', b3', x6⟩ := hrf
        k_steps
        refine go_on ?_
        rw [x2, if_neg (by simp)]
        k_steps
        refine go_on ?_
        rw [x3, if_neg (by simp)]
        k_steps
        refine go_on ?_
        rw [if_neg (by rw [x4]; simp)]
        k_steps
        refine go_on ?_
        rw [if_neg (by rw [x5]; simp)]
        k_steps
        rename List (Str × Tok) => ll
        have hl4 : ll.length = 4 := by
          have e := congrArg List.length ((by assumption : List.map (fun x => x.1) ll = _).trans x6)
          rw [List.length_map] at e
          rw [e]; simp
        have hsv : (strValues ll).length = 4 := by unfold strValues; rw [List.length_map, hl4]
        refine go_on ?_
        refine kst_len (k := 4) (by assumption) (List.Mem.head _) hsv (by decide) ?_
        k_steps
        refine go_on ?_
        rw [if_pos (by decide)]
        k_steps
end Mine
end

theorem PySem.Challenge.cw_xg0014_01_holds : PySem.Challenge.rw_xg0014_01.Holds :=
  Mine.whole

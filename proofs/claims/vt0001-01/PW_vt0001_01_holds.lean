import PyProof.Rows.All
import Wide.All
import OpenK.AllK
import Wide.FinOn
import PySem.Challenge.RW_vt0001_01
open PySem PySem.W PyProof.Rows PySem.Calls
set_option Elab.async false
set_option maxRecDepth 100000

namespace Mine
set_option maxHeartbeats 8000000 in
open_top hd for PySem.Challenge.rw_vt0001_01
end Mine

namespace Mine
theorem bitOr_gen (k a b : Nat) (hb : b < 2 ^ k) : Builtin.bitOr (((a * 2 ^ k : Nat) : Int)) (b : Int) = ((a * 2 ^ k + b : Nat) : Int) := by
  have e := Nat.shiftLeft_add_eq_or_of_lt hb a
  rw [Nat.shiftLeft_eq] at e
  generalize a * 2 ^ k = c at e ⊢
  have e1 : ¬ (0 ≤ Builtin.bitNot (c : Int)) := by unfold Builtin.bitNot; omega
  have e2 : ¬ (0 ≤ Builtin.bitNot (b : Int)) := by unfold Builtin.bitNot; omega
  unfold Builtin.bitOr Builtin.bitAnd
  simp only [e1, e2, decide_false]
  have e3 : (Builtin.bitNot (Builtin.bitNot (c : Int))).toNat = c := by unfold Builtin.bitNot; omega
  have e4 : (Builtin.bitNot (Builtin.bitNot (b : Int))).toNat = b := by unfold Builtin.bitNot; omega
  rw [e3, e4, ← e]
  unfold Builtin.bitNot
  omega
theorem bitOr_enc {x y : Int} (hx : 0 ≤ x) (hy : 0 ≤ y) (hy2 : y < 2 ^ 32) : Builtin.bitOr (x * 2 ^ 32) y = x * 2 ^ 32 + y := by
  obtain ⟨a, rfl⟩ := Int.eq_ofNat_of_zero_le hx
  obtain ⟨b, rfl⟩ := Int.eq_ofNat_of_zero_le hy
  have hb : b < 2 ^ 32 := by omega
  have := bitOr_gen 32 a b hb
  rw [Int.natCast_add, Int.natCast_mul] at this
  exact this
end Mine

namespace Mine
abbrev P1 : Program := PySem.Challenge.rw_vt0001_01.row.prog
abbrev TopOf (mean : ExcName → Option Value) (mg mb : Str → Option Value) (h : Heap) : Prop := Top hd.view_39 (looseW hd.view_39 []) mean mg mb h

theorem call_pure {prog : Program} {w : World} {A : Around} {Q : Value → Shared → Prop} {E : Value → Shared → Prop} {s : Shared} {K : Frag} {name qual : Str} {params : Arguments} {body : List Stmt} {scope : Scope} {dV kV doc pm cdv ct oc : Value} {an od : Option Addr} {osl : Array (Option Value)} {f : Addr} {vals : List Value} {binds : List (Str × Value)}
    (X : K.In s.heap) (hlim : s.heap.NoLimit)
    (ho : K.lookup f = some ⟨oc, od, .func (fnOf name qual params body scope dV kV doc pm an cdv ct), osl⟩) (hcd : codeIn K cdv qual = true) (hroom : A.depth < recursionLimit)
    (hbind : BindsTo s (fnOf name qual params body scope dV kV doc pm an cdv ct) ⟨vals, []⟩ binds) (hloc : ∀ y ∈ binds, scope.names.lookup y.1 = some .local)
    (hco : scope.isCoroutine = false) (hgen : scope.isGenerator = false) (hk : scope.kind = .function)
    (hcell : ∀ x ∈ scope.names, x.2 ≠ .cell)
    (h : ∀ h₁, Fr s.heap s.heap.objs.size h₁ (fun y => binds.reverse.lookup y) →
      wpAny (model prog w) (A.deeper (envOf qual scope s.heap.objs.size f cdv)) (execs body (envOf qual scope s.heap.objs.size f cdv))
        (fun fl s' => Q (match fl with | .ret v => v | _ => .none) s') (fun _ _ => False) { s with heap := h₁, toks := s.toks + binds.length }) :
    wpAny (model prog w) A (call (.ref f) vals) Q E s := by
  refine wpAny_call (codeAny_call_def (fd := fnOf name qual params body scope dV kV doc pm an cdv ct) (body := body) (binds := binds) hroom (X _ _ ho) rfl hlim (codeRec_of X hcd) rfl hbind hcell hloc (fun h₁ hns hk₁ => ?_) hco hgen hk)
  exact wpAny_mono (h h₁ ⟨hns, hk₁, Nat.le_refl _⟩) (fun _ _ x => x) fun _ _ x => x.elim


theorem enc_spec {w : World} {A : Around} {E : Value → Shared → Prop} {Q : Value → Shared → Prop} {s : Shared} {mean : ExcName → Option Value} {mg mb : Str → Option Value} {x y : Int} {tx ty : Tok}
    (X : (hd.heap_39 w.params).In s.heap) (T : TopOf mean mg mb s.heap) (hroom : A.depth < recursionLimit)
    (hx : 0 ≤ x) (hx2 : x < 2 ^ 30) (hy : 0 ≤ y) (hy2 : y < 2 ^ 32)
    (h : ∀ h' tk tk' v, v = x * 2 ^ 32 + y → (∀ b o, s.heap.get? b = some o → h'.get? b = some o) → Q (.int v tk') { s with heap := h', toks := tk }) :
    wpAny (model PySem.Challenge.rw_vt0001_01.row.prog w) A (call (.ref 56) [.int x tx, .int y ty]) Q E s := by
  revert X; k_fill; intro X
  refine' call_pure X T.nolimit ?k1 ?k2 hroom ?k3 ?c0 ?c1 ?c2 ?c3 ?c4 ?_
  case k1 => k_is
  case k2 => k_is
  case k3 => exact BindsTo.of_eq rfl
  case c0 => exact locs rfl
  case c1 => rfl
  case c2 => rfl
  case c3 => rfl
  case c4 => decide
  intro h₁ F
  have N : News s.heap s.heap.objs.size h₁ [] := News.nil
  k_steps
  dsimp only
  rw [show Int.toNat 32 = 32 from rfl, bitOr_enc hx hy hy2]
  exact h _ _ _ _ rfl F.keep

theorem dec_spec {w : World} {A : Around} {E : Value → Shared → Prop} {Q : Value → Shared → Prop} {s : Shared} {mean : ExcName → Option Value} {mg mb : Str → Option Value} {r : Int} {tr : Tok}
    (X : (hd.heap_39 w.params).In s.heap) (T : TopOf mean mg mb s.heap) (hroom : A.depth < recursionLimit)
    (hr : 0 ≤ r) (hr2 : r < 2 ^ 62)
    (h : ∀ h' tk D t1 t2 n, (∀ b o, s.heap.get? b = some o → h'.get? b = some o) → s.heap.get? D = none → h'.get? D = some { cls := .type "tuple", data := .seq #[.int (r / 2 ^ 32) t1, .int (r % 2 ^ 32) t2] n } → Q (.ref D) { s with heap := h', toks := tk }) :
    wpAny (model PySem.Challenge.rw_vt0001_01.row.prog w) A (call (.ref 63) [.int r tr]) Q E s := by
  revert X; k_fill; intro X
  refine' call_pure X T.nolimit ?k1 ?k2 hroom ?k3 ?c0 ?c1 ?c2 ?c3 ?c4 ?_
  case k1 => k_is
  case k2 => k_is
  case k3 => exact BindsTo.of_eq rfl
  case c0 => exact locs rfl
  case c1 => rfl
  case c2 => rfl
  case c3 => rfl
  case c4 => decide
  intro h₁ F
  have N : News s.heap s.heap.objs.size h₁ [] := News.nil
  k_steps
  dsimp only
  rename Fr _ _ _ _ => F2
  rename News _ _ _ _ => N2
  have e1 : r.fdiv (2 ^ Int.toNat 32) = r / 2 ^ 32 := Int.fdiv_eq_ediv_of_nonneg _ (by decide)
  have e2 : Builtin.bitAnd r (1 * 2 ^ Int.toNat 32 - 1) = r % 2 ^ 32 := bitAnd_m32 r
  have hN := N2 _ (.head _)
  rw [e1, e2] at hN
  exact h _ _ _ _ _ _ F2.keep hN.2.2 hN.1
end Mine

namespace Mine
theorem bis_kind : builtinKind "_bisect.bisect_left" = none := by decide +kernel
theorem bis_plain : plainId "_bisect.bisect_left" = true := by decide +kernel
theorem bis_entry : entryFor table "_bisect.bisect_left" = some Builtin.«_bisect.bisect_left» := entryFor_of_tree (by kernel_rfl)
theorem bis_args (a b : Value) : argsOk "_bisect.bisect_left" ⟨[a, b], []⟩ := by unfold argsOk; kernel_rfl
theorem bil_plain : plainId "_bisect.bisect_right.loop" = true := by decide +kernel
theorem bil_entry : entryFor table "_bisect.bisect_right.loop" = some Builtin.«_bisect.bisect_right.loop» := entryFor_of_tree (by kernel_rfl)

section
variable {prog : Program} {w : World} {A : Around} {E : Value → Shared → Prop} {s : Shared}

theorem runLen_tuple {t : Addr} {items : Array Value} {Q : Value → Shared → Prop} (ht : IsTup s.heap t items) (hfit : (items.size : Int) < 2 ^ 63)
    (h : Q (.int items.size (s.toks + 1)) { s with toks := s.toks + 1 + 1 }) : wpAny (model prog w) A (runValue (.builtin "len" ⟨[.ref t], []⟩)) Q E s := by
  refine wpAny_runValue (codeAny_builtin entry_len ?_)
  rw [Around.under_plainId plain_len]
  refine wpAny_mono (Q := fun fin s' => ∃ r, fin = .done (.ret r) ∧ Q r s') (E := E) ?_ (fun fin s' hf => ?_) (fun _ _ x => x)
  · unfold Builtin.«len»
    refine wpAny_bind (m := oneArg "len" _) (wpAny_pure ?_)
    refine wpAny_bind (m := callSpecial? (.ref t) (Str.ofString "__len__")) (wpAny_callSpecial?_slot (name := Str.ofString "__len__") ht.typeIs slot_tuple_len
      (wpAny_call_entry slot_tuple_len ht.typeIs entry_tuple_len ?_ (args_tuple_len _)))
    show wpAny _ _ (do retInt (← Builtin.Tuple.tupleItemsOf (.ref t)).size) _ _ s
    refine wpAny_bind (tupleItemsOf_ ht ?_)
    refine wpAny_bind (wpAny_mkInt (wpAny_pure ⟨_, rfl, ?_⟩))
    refine wpAny_bind (wpAny_holding (wpAny_pure ?_))
    refine wpAny_bind (wpAny_letGo ?_)
    show wpAny _ _ (if ((items.size : Nat) : Int) < 0 then _ else _) _ _ _
    rw [if_neg (by omega)]
    show wpAny _ _ (if ((items.size : Nat) : Int) ≥ 2 ^ 63 then _ else _) _ _ _
    rw [if_neg (by omega)]
    exact wpAny_bind (wpAny_mkInt (wpAny_pure ⟨_, rfl, h⟩))
  · obtain ⟨r, rfl, hr⟩ := hf
    exact hr

theorem special_getitem_tuple {t : Addr} {items : Array Value} {k : Int} {u : Tok} {j : Nat} {x : Value} {Q : Option Value → Shared → Prop} (ht : IsTup s.heap t items)
    (hlo : -(2 ^ 63) ≤ k) (hhi : k < 2 ^ 63) (hj : seqIndex? k items.size = some j) (hx : items[j]? = some x) (h : Q (some x) s) :
    wpAny (model prog w) A (callSpecial? (.ref t) (Str.ofString "__getitem__") [.int k u]) Q E s := by
  refine wpAny_callSpecial?_slot (name := Str.ofString "__getitem__") ht.typeIs slot_tuple_getitem
    (wpAny_call_entry slot_tuple_getitem ht.typeIs entry_tuple_getitem ?_ (args_tuple_getitem _ _))
  show wpAny _ _ (Builtin.Tuple.tupleItemsOf (.ref t) >>= _) _ _ s
  refine wpAny_bind (tupleItemsOf_ ht ?_)
  refine wpAny_bind (wpAny_typeOf (typeIs_int s k u) ?_)
  rw [if_neg (by decide)]
  refine wpAny_bind (wpAny_specialOf (T := "int") (typeIs_int s k u) int_index ?_)
  rw [if_neg (by simp)]
  refine wpAny_bind (wpAny_of_eq (a := k) rfl ?_)
  rw [if_neg (by simp only [Bool.or_eq_true, decide_eq_true_eq]; omega)]
  simp only [hj, Option.bind_some, hx]
  exact wpAny_pure ⟨_, rfl, h⟩

theorem nameCut_tuple {k : Nat} {v : Value} {Q : String → Shared → Prop} (hT : s.TypeIs v "tuple") (h : ∀ n, Q n s) : wpAny (model prog w) A (typeNameOfCut k v) Q E s := by
  unfold typeNameOfCut shownTypeOf
  refine wpAny_bind (wpAny_bind (wpAny_typeOf hT ?_))
  rw [if_neg (by decide)]
  exact wpAny_pure (wpAny_pure (h _))

theorem bis_loop {l : Addr} {vs : List Value} {es : List Int} {x : Int} {t : Tok} {p : Nat} {R : Result → Shared → Prop} (hfit : (es.length : Int) < 2 ^ 62) (hi : IntsAre vs es)
    (hp : ∀ j e, es[j]? = some e → (e < x ↔ j < p)) :
    ∀ (d lo hi : Nat) (s : Shared), hi - lo = d → lo ≤ p → p ≤ hi → hi ≤ es.length → IsTup s.heap l vs.toArray → (∀ tk t', R (.ok (.ret (.int (p : Int) t'))) { s with toks := tk }) →
    codeAny (model prog w) A (.builtin "_bisect.bisect_right.loop" ⟨[.ref l, .int x t, rawInt (lo : Int), rawInt (hi : Int), .none, .bool false, .bool true, rawInt 0], []⟩) R s := by
  intro d
  induction d using Nat.strongRecOn with
  | ind d ih =>
  intro lo hi' s hd h1 h2 h3 ht hR
  refine codeAny_builtin bil_entry ?_
  rw [Around.under_plainId bil_plain]
  unfold Builtin.«_bisect.bisect_right.loop»
  dsimp only [rawInt]
  by_cases hlt : lo < hi'
  · rw [if_pos (by omega)]
    refine wpAny_bind (wpAny_mkInt ?_)
    have hm : ∃ mid : Nat, ((lo : Int) + (hi' : Int)) / 2 = (mid : Int) ∧ lo ≤ mid ∧ mid < hi' := ⟨(lo + hi') / 2, by omega, by omega, by omega⟩
    obtain ⟨mid, em, m1, m2⟩ := hm
    rw [em]
    have hml : mid < es.length := by omega
    obtain ⟨tm, hx⟩ := hi.get mid es[mid] (by simp [hml])
    have hlen := hi.length
    refine wpAny_bind (special_getitem_tuple (j := mid) (x := .int es[mid] tm) (s := { s with toks := s.toks + 1 }) ht (by omega) (by omega) ?_ (by simpa using hx) ?_)
    · have e1 : (if ((mid : Nat) : Int) < 0 then ((mid : Nat) : Int) + (vs.length : Int) else ((mid : Nat) : Int)) = (mid : Int) := if_neg (by omega)
      unfold seqIndex?
      simp only [List.size_toArray, e1]
      rw [if_pos (by simp; omega)]
      simp
    · dsimp only
      rw [if_pos (by decide)]
      refine wpAny_bind (wpAny_pure ?_)
      refine wpAny_holding ?_
      rw [if_pos rfl]
      refine wpAny_bind (wpAny_typeOf (typeIs_int _ _ _) ?_)
      refine wpAny_bind (wpAny_typeOf (typeIs_int _ _ _) ?_)
      rw [if_pos (by decide)]
      refine wpAny_bind (wpAny_cRoomFor_byValue rfl ?_)
      refine wpAny_bind (wpAny_callSpecialIfBound?_slot (typeIs_int _ _ _) slot_int_lt (call_int_lt ?_))
      dsimp only
      refine wpAny_bind (show wpAny _ _ (truthy (Value.bool _)) _ _ _ from wpAny_truthy_bool ?_)
      refine wpAny_bind (wpAny_pure ?_)
      have hb := hp mid es[mid] (by simp [hml])
      by_cases hc : es[mid] < x
      · rw [if_neg (by simp [hc])]
        have hlp := hb.mp hc
        have q := ih (hi' - (mid + 1)) (by omega) (mid + 1) hi' { s with toks := s.toks + 1 } rfl (by omega) h2 h3 ht hR
        rw [Int.natCast_add] at q
        exact wpAny_pure ⟨plainId_quiet bil_plain _, q⟩
      · rw [if_pos (by simp [hc])]
        have hlp : ¬ mid < p := fun z => hc (hb.mpr z)
        have q := ih (mid - lo) (by omega) lo mid { s with toks := s.toks + 1 } rfl h1 (by omega) (by omega) ht hR
        exact wpAny_pure ⟨plainId_quiet bil_plain _, q⟩
  · rw [if_neg (by omega)]
    have e : lo = p := by omega
    subst e
    exact wpAny_bind (wpAny_mkInt (wpAny_pure (hR _ _)))

theorem bis_left {l : Addr} {vs : List Value} {es : List Int} {x : Int} {t : Tok} {p : Nat} {Q : Value → Shared → Prop} (ht : IsTup s.heap l vs.toArray) (hi : IntsAre vs es) (hfit : (es.length : Int) < 2 ^ 62)
    (hp : ∀ j e, es[j]? = some e → (e < x ↔ j < p)) (hpl : p ≤ es.length) (h : ∀ tk t', Q (.int (p : Int) t') { s with toks := tk }) :
    wpAny (model prog w) A (call (.builtin "_bisect.bisect_left") [.ref l, .int x t]) Q E s := by
  refine wpAny_call (codeAny_call_builtin bis_plain bis_entry ?_)
  have hlen := hi.length
  have key : wpAny (model prog w) A.in1 (Builtin.«_bisect.bisect_left» ⟨[Value.ref l, Value.int x t], []⟩) (fun fin s' => match fin with
      | .done f => (match (Except.ok f : Result) with | .ok (.ret v) => Q v s' | .ok _ => False | .error e => E e s')
      | .again c' => c'.quiet = true ∧ codeAny (model prog w) A c' (fun r s' => match r with | .ok (.ret v) => Q v s' | .ok _ => False | .error e => E e s') s') E s := by
    with_unfolding_all (refine wpAny_bind ?_)
    with_unfolding_all (refine wpAny_of_eq (a := (Value.ref l, Value.int x t, none, none, none)) (by kernel_rfl) ?_)
    dsimp only
    refine wpAny_bind (wpAny_pure ?_)
    refine wpAny_bind (wpAny_pure ?_)
    rw [if_neg (by decide)]
    refine wpAny_bind (wpAny_pure ?_)
    refine wpAny_holding ?_
    rw [if_neg (by decide), if_neg (by decide)]
    refine wpAny_bind ?_
    with_unfolding_all (refine wpAny_bind (wpAny_typeOf ht.typeIs ?_))
    refine wpAny_bind (nameCut_tuple ht.typeIs fun n1 => ?_)
    refine wpAny_bind (wpAny_of_eq PySem.F.mro_tuple ?_)
    dsimp only
    rw [if_neg (by decide), if_pos rfl]
    refine wpAny_bind (wpAny_of_eq slot_tuple_len.lookup ?_)
    rw [if_neg (by decide), if_neg (by decide)]
    refine wpAny_pure ?_
    have hsz : vs.toArray.size = es.length := by simp [hlen]
    refine wpAny_bind (runLen_tuple ht (by rw [hsz]; omega) ?_)
    dsimp only
    refine wpAny_bind (wpAny_pure ?_)
    refine wpAny_bind ?_
    with_unfolding_all (refine wpAny_bind (wpAny_typeOf ht.typeIs ?_))
    refine wpAny_bind (nameCut_tuple ht.typeIs fun n1 => ?_)
    refine wpAny_bind (wpAny_of_eq PySem.F.mro_tuple ?_)
    dsimp only
    rw [if_neg (by decide), if_neg (by decide)]
    refine wpAny_bind (wpAny_of_eq slot_tuple_getitem.lookup ?_)
    rw [if_neg (by decide), if_neg (by decide)]
    refine wpAny_pure ?_
    rw [hsz]
    exact wpAny_pure ⟨plainId_quiet bil_plain _, bis_loop (R := fun r s' => match r with | .ok (.ret v) => Q v s' | .ok _ => False | .error e => E e s') hfit hi hp es.length 0 es.length _ rfl (Nat.zero_le _) hpl (Nat.le_refl _) ht fun tk t' => h tk t'⟩
  simp only [checkBuiltinCall, bis_kind]
  cases hsig : Manifest.signature? "_bisect.bisect_left" with
  | none => exact wpAny_pure key
  | some sig =>
    have ha' : Bind.checkArgs "_bisect.bisect_left" sig ⟨[.ref l, .int x t], []⟩ = pure () := by simpa only [argsOk, hsig] using bis_args (.ref l) (.int x t)
    simp only [ha']
    exact wpAny_pure key
end
end Mine

namespace Mine
structure Runs (rs : List (Int × Int)) : Prop where
  ok : ∀ p ∈ rs, 0 ≤ p.1 ∧ p.1 < p.2 ∧ p.2 < 2 ^ 30
  apart : rs.Pairwise fun p q => p.2 < q.1
def inRuns (rs : List (Int × Int)) (n : Int) : Bool := rs.any fun p => decide (p.1 ≤ n) && decide (n < p.2)

def dueStep (due : List (Int × Int)) (n : Int) : List (Int × Int) :=
  match due.getLast? with
  | some p => if p.2 = n then due.dropLast ++ [(p.1, n + 1)] else due ++ [(n, n + 1)]
  | none => [(n, n + 1)]
def runsOf (xs : List Int) : List (Int × Int) := xs.foldl dueStep []

theorem dueStep_snoc (l : List (Int × Int)) (p : Int × Int) (n : Int) : dueStep (l ++ [p]) n = if p.2 = n then l ++ [(p.1, n + 1)] else l ++ [p] ++ [(n, n + 1)] := by
  unfold dueStep
  simp
theorem dueStep_nil (n : Int) : dueStep [] n = [(n, n + 1)] := rfl

theorem runsOf_snoc (xs : List Int) (n : Int) : runsOf (xs ++ [n]) = dueStep (runsOf xs) n := by
  unfold runsOf
  rw [List.foldl_append]
  rfl
/-- the last run ends behind the last number -/
theorem runsOf_last (xs : List Int) (n : Int) : ∃ l a, runsOf (xs ++ [n]) = l ++ [(a, n + 1)] := by
  rw [runsOf_snoc]
  rcases List.eq_nil_or_concat (runsOf xs) with h | ⟨l, p, h⟩
  · rw [h]; exact ⟨[], n, rfl⟩
  · rw [h, List.concat_eq_append, dueStep_snoc]
    split
    · exact ⟨l, p.1, rfl⟩
    · exact ⟨l ++ [p], n, rfl⟩

/-- k items are taken; the ones from q on are not yet told -/
structure FInv (xs : List Int) (k q : Nat) (rs : List (Int × Int)) : Prop where
  le : q ≤ k
  hk : k ≤ xs.length
  pend : q < k → k < xs.length ∧ xs.getD k 0 = xs.getD (k - 1) 0 + 1
  clean : q = k → 0 < k → k < xs.length → xs.getD k 0 ≠ xs.getD (k - 1) 0 + 1
  eq : runsOf (xs.take k) = if q < k then rs ++ [(xs.getD q 0, xs.getD (k - 1) 0 + 1)] else rs

theorem take_succ_getD (xs : List Int) (k : Nat) (h : k < xs.length) : xs.take (k + 1) = xs.take k ++ [xs.getD k 0] := by
  rw [List.take_add_one]
  simp [h]

theorem FInv.zero (xs : List Int) : FInv xs 0 0 [] :=
  ⟨Nat.le_refl _, Nat.zero_le _, fun h => absurd h (Nat.lt_irrefl _), fun _ h => absurd h (Nat.lt_irrefl _), rfl⟩

/-- what the runs are with one more item -/
theorem FInv.next {xs : List Int} {k q : Nat} {rs : List (Int × Int)} (h : FInv xs k q rs) (hk : k < xs.length) : runsOf (xs.take (k + 1)) = rs ++ [(xs.getD q 0, xs.getD k 0 + 1)] := by
  rw [take_succ_getD xs k hk, runsOf_snoc, h.eq]
  by_cases hq : q < k
  · rw [if_pos hq, dueStep_snoc]
    rw [if_pos (h.pend hq).2.symm]
  · have e : q = k := by have := h.le; omega
    rw [if_neg hq]
    by_cases h0 : k = 0
    · subst h0
      have e2 : rs = [] := by
        have := h.eq
        rw [if_neg hq] at this
        exact this.symm
      rw [e2, e]
      rfl
    · have hc := h.clean e (by omega) hk
      obtain ⟨l, a, hl⟩ := runsOf_last (xs.take (k - 1)) (xs.getD (k - 1) 0)
      rw [← take_succ_getD xs (k - 1) (by omega), show k - 1 + 1 = k by omega, h.eq, if_neg hq] at hl
      rw [hl, dueStep_snoc, if_neg (fun z => hc z.symm), e]

theorem FInv.go {xs : List Int} {k q : Nat} {rs : List (Int × Int)} (h : FInv xs k q rs) (hk : k + 1 < xs.length) (he : xs.getD k 0 = xs.getD (k + 1) 0 - 1) : FInv xs (k + 1) q rs :=
  ⟨by have := h.le; omega, by omega, fun _ => ⟨hk, by rw [show k + 1 - 1 = k by omega]; omega⟩, fun e => by have := h.le; omega, by
    rw [h.next (by omega), if_pos (by have := h.le; omega), show k + 1 - 1 = k by omega]⟩

theorem FInv.tell {xs : List Int} {k q : Nat} {rs : List (Int × Int)} (h : FInv xs k q rs) (hk : k < xs.length) (he : k + 1 < xs.length → xs.getD k 0 ≠ xs.getD (k + 1) 0 - 1) :
    FInv xs (k + 1) (k + 1) (rs ++ [(xs.getD q 0, xs.getD k 0 + 1)]) :=
  ⟨Nat.le_refl _, by omega, fun z => absurd z (Nat.lt_irrefl _), fun _ _ h1 => by rw [show k + 1 - 1 = k by omega]; have := he h1; omega, by
    rw [h.next hk, if_neg (Nat.lt_irrefl _)]⟩

theorem FInv.fin {xs : List Int} {q : Nat} {rs : List (Int × Int)} (h : FInv xs xs.length q rs) : runsOf xs = rs := by
  have e := h.eq
  rw [List.take_length] at e
  by_cases hq : q < xs.length
  · exact absurd (h.pend hq).1 (Nat.lt_irrefl _)
  · rwa [if_neg hq] at e

/-! the runs of a rising list: they are in order, apart, and hold the list's numbers alone -/
structure RunsOf (xs : List Int) (rs : List (Int × Int)) : Prop where
  lo : ∀ p ∈ rs, p.1 < p.2 ∧ p.1 ∈ xs ∧ p.2 - 1 ∈ xs
  apart : rs.Pairwise fun p q => p.2 < q.1
  mem : ∀ n, n ∈ xs ↔ ∃ p ∈ rs, p.1 ≤ n ∧ n < p.2
  top : ∀ p ∈ rs, ∀ n, (∀ x ∈ xs, x < n) → p.2 ≤ n

theorem runsOf_spec (ys : List Int) : ∀ (xs : List Int), xs.reverse = ys → xs.Pairwise (· < ·) → RunsOf xs (runsOf xs) := by
  induction ys with
  | nil =>
    intro xs h _
    have : xs = [] := by simpa using h
    subst this
    exact ⟨fun _ h => (nomatch h), .nil, fun n => ⟨fun h => (nomatch h), fun ⟨_, h, _⟩ => (nomatch h)⟩, fun _ h => (nomatch h)⟩
  | cons y ys ih =>
    intro xs h hs
    have e : xs = ys.reverse ++ [y] := by
      have := congrArg List.reverse h
      simpa using this
    subst e
    have hp := List.pairwise_append.mp hs
    have R := ih ys.reverse (by simp) hp.1
    have hlt : ∀ x ∈ ys.reverse, x < y := fun x hx => hp.2.2 x hx y (by simp)
    rw [runsOf_snoc]
    rcases List.eq_nil_or_concat (runsOf ys.reverse) with h0 | ⟨l, p, h0⟩
    · rw [h0] at R ⊢
      rw [dueStep_nil]
      have hn : ∀ n, ¬ n ∈ ys.reverse := fun n hm => by obtain ⟨_, h, _⟩ := (R.mem n).mp hm; cases h
      refine ⟨?_, List.pairwise_singleton _ _, ?_, ?_⟩
      · intro p hp
        rw [List.mem_singleton.mp hp]
        exact ⟨by dsimp only; omega, by simp, by simp⟩
      · intro n
        rw [List.mem_append, List.mem_singleton]
        constructor
        · rintro (hm | rfl)
          · exact absurd hm (hn n)
          · exact ⟨_, .head _, by dsimp only; omega, by dsimp only; omega⟩
        · rintro ⟨q, hq, h1, h2⟩
          rw [List.mem_singleton.mp hq] at h1 h2
          dsimp only at h1 h2
          exact .inr (by omega)
      · intro p hp n hn
        rw [List.mem_singleton.mp hp]
        have := hn y (by simp)
        dsimp only; omega
    · rw [List.concat_eq_append] at h0
      rw [h0] at R ⊢
      rw [dueStep_snoc]
      have hap := List.pairwise_append.mp R.apart
      have hpt : p.2 ≤ y := R.top p (by simp) y hlt
      have hpl := R.lo p (by simp)
      split
      · rename_i heq
        refine ⟨?_, ?_, ?_, ?_⟩
        · intro q hq
          rcases List.mem_append.mp hq with hq | hq
          · have := R.lo q (List.mem_append_left _ hq)
            exact ⟨this.1, List.mem_append_left _ this.2.1, List.mem_append_left _ this.2.2⟩
          · rw [List.mem_singleton.mp hq]
            exact ⟨by dsimp only; omega, List.mem_append_left _ hpl.2.1, by simp⟩
        · refine List.pairwise_append.mpr ⟨hap.1, List.pairwise_singleton _ _, fun a ha b hb => ?_⟩
          rw [List.mem_singleton.mp hb]
          exact hap.2.2 a ha p (by simp)
        · intro n
          rw [List.mem_append, List.mem_singleton, R.mem n]
          constructor
          · rintro (⟨q, hq, h1, h2⟩ | rfl)
            · rcases List.mem_append.mp hq with hq | hq
              · exact ⟨q, List.mem_append_left _ hq, h1, h2⟩
              · rw [List.mem_singleton.mp hq] at h1 h2
                exact ⟨(p.1, y + 1), by simp, h1, by dsimp only; omega⟩
            · exact ⟨(p.1, n + 1), by simp, by dsimp only; omega, by dsimp only; omega⟩
          · rintro ⟨q, hq, h1, h2⟩
            rcases List.mem_append.mp hq with hq | hq
            · exact .inl ⟨q, List.mem_append_left _ hq, h1, h2⟩
            · rw [List.mem_singleton.mp hq] at h1 h2
              dsimp only at h1 h2
              by_cases hn : n = y
              · exact .inr hn
              · exact .inl ⟨p, by simp, h1, by omega⟩
        · intro q hq n hn
          have hy := hn y (by simp)
          rcases List.mem_append.mp hq with hq | hq
          · exact R.top q (List.mem_append_left _ hq) n fun x hx => hn x (List.mem_append_left _ hx)
          · rw [List.mem_singleton.mp hq]
            dsimp only; omega
      · rename_i hne
        refine ⟨?_, ?_, ?_, ?_⟩
        · intro q hq
          rcases List.mem_append.mp hq with hq | hq
          · have := R.lo q hq
            exact ⟨this.1, List.mem_append_left _ this.2.1, List.mem_append_left _ this.2.2⟩
          · rw [List.mem_singleton.mp hq]
            exact ⟨by dsimp only; omega, by simp, by simp⟩
        · refine List.pairwise_append.mpr ⟨R.apart, List.pairwise_singleton _ _, fun a ha b hb => ?_⟩
          rw [List.mem_singleton.mp hb]
          rcases List.mem_append.mp ha with ha | ha
          · have h1 := hap.2.2 a ha p (by simp)
            dsimp only; omega
          · rw [List.mem_singleton.mp ha]
            dsimp only; omega
        · intro n
          rw [List.mem_append, List.mem_singleton, R.mem n]
          constructor
          · rintro (⟨q, hq, h1, h2⟩ | rfl)
            · exact ⟨q, List.mem_append_left _ hq, h1, h2⟩
            · exact ⟨(n, n + 1), by simp, by dsimp only; omega, by dsimp only; omega⟩
          · rintro ⟨q, hq, h1, h2⟩
            rcases List.mem_append.mp hq with hq | hq
            · exact .inl ⟨q, hq, h1, h2⟩
            · rw [List.mem_singleton.mp hq] at h1 h2
              dsimp only at h1 h2
              exact .inr (by omega)
        · intro q hq n hn
          have hy := hn y (by simp)
          rcases List.mem_append.mp hq with hq | hq
          · exact R.top q hq n fun x hx => hn x (List.mem_append_left _ hx)
          · rw [List.mem_singleton.mp hq]
            dsimp only; omega

/-- two rising lists of the same numbers are one -/
theorem sorted_unique : ∀ {a b : List Int}, a.Perm b → a.Pairwise (· ≤ ·) → b.Pairwise (· ≤ ·) → a = b
  | [], b, h, _, _ => by simpa using h.symm
  | x :: a, b, h, ha, hb => by
    cases b with
    | nil => simp at h
    | cons y b =>
      have hx := List.pairwise_cons.mp ha
      have hy := List.pairwise_cons.mp hb
      have h1 : x ∈ y :: b := h.mem_iff.mp (.head _)
      have h2 : y ∈ x :: a := h.mem_iff.mpr (.head _)
      have e : x = y := by
        rcases List.mem_cons.mp h1 with e | h1
        · exact e
        · rcases List.mem_cons.mp h2 with e | h2
          · exact e.symm
          · have := hy.1 x h1
            have := hx.1 y h2
            omega
      subst e
      rw [sorted_unique (List.perm_cons x |>.mp h) hx.2 hy.2]

theorem sorted_lt {a : List Int} (h : a.Pairwise (· ≤ ·)) (hn : a.Nodup) : a.Pairwise (· < ·) := by
  have := List.pairwise_and_iff.mpr ⟨h, hn⟩
  exact this.imp fun {x y} z => by omega

theorem runs_of {xs : List Int} (h : xs.Pairwise (· < ·)) (hb : ∀ n ∈ xs, 0 ≤ n ∧ n < 2 ^ 29) : Runs (runsOf xs) := by
  have R := runsOf_spec _ xs rfl h
  refine ⟨fun p hp => ?_, R.apart⟩
  have h1 := R.lo p hp
  have h2 := hb _ h1.2.1
  have h3 := hb _ h1.2.2
  omega
theorem inRuns_iff {xs : List Int} (h : xs.Pairwise (· < ·)) (n : Int) : inRuns (runsOf xs) n = decide (n ∈ xs) := by
  have R := runsOf_spec _ xs rfl h
  rw [Bool.eq_iff_iff]
  unfold inRuns
  rw [List.any_eq_true, decide_eq_true_iff, R.mem n]
  simp only [Bool.and_eq_true, decide_eq_true_eq]
theorem dueStep_len (l : List (Int × Int)) (n : Int) : (dueStep l n).length ≤ l.length + 1 := by
  rcases List.eq_nil_or_concat l with h | ⟨l', p, h⟩
  · rw [h]; exact Nat.le_refl _
  · rw [h, List.concat_eq_append, dueStep_snoc]
    split <;> simp
theorem runsOf_len (xs : List Int) : (runsOf xs).length ≤ xs.length := by
  have key : ∀ (xs : List Int) (l : List (Int × Int)), (xs.foldl dueStep l).length ≤ l.length + xs.length := by
    intro xs
    induction xs with
    | nil => intro l; simp
    | cons x xs ih =>
      intro l
      have h1 := ih (dueStep l x)
      have h2 := dueStep_len l x
      simp only [List.foldl_cons, List.length_cons]
      omega
  have h := key xs []
  simp only [List.length_nil, Nat.zero_add] at h
  exact h
theorem FInv.len {xs : List Int} {k q : Nat} {rs : List (Int × Int)} (h : FInv xs k q rs) : rs.length ≤ xs.length := by
  have h1 := runsOf_len (xs.take k)
  rw [h.eq, List.length_take] at h1
  split at h1
  · rw [List.length_append] at h1; omega
  · omega
/-- beside the ends of a run -/
theorem inRuns_first {rs : List (Int × Int)} (h : Runs rs) {p : Int × Int} (hp : p ∈ rs) : inRuns rs p.1 = true := by
  have := h.ok p hp
  exact List.any_eq_true.mpr ⟨p, hp, by simp; omega⟩
theorem inRuns_last {rs : List (Int × Int)} (h : Runs rs) {p : Int × Int} (hp : p ∈ rs) : inRuns rs (p.2 - 1) = true := by
  have := h.ok p hp
  exact List.any_eq_true.mpr ⟨p, hp, by simp; omega⟩
theorem runs_apart {rs : List (Int × Int)} (h : Runs rs) {p q : Int × Int} (hp : p ∈ rs) (hq : q ∈ rs) : p = q ∨ p.2 < q.1 ∨ q.2 < p.1 := by
  obtain ⟨i, hi, ei⟩ := List.getElem_of_mem hp
  obtain ⟨j, hj, ej⟩ := List.getElem_of_mem hq
  have hpw := List.pairwise_iff_getElem.mp h.apart
  rcases Nat.lt_trichotomy i j with h1 | h1 | h1
  · have := hpw i j hi hj h1
    rw [ei, ej] at this
    exact .inr (.inl this)
  · subst h1
    exact .inl (ei.symm.trans ej)
  · have := hpw j i hj hi h1
    rw [ei, ej] at this
    exact .inr (.inr this)
theorem inRuns_behind {rs : List (Int × Int)} (h : Runs rs) {p : Int × Int} (hp : p ∈ rs) : inRuns rs p.2 = false := by
  refine Bool.eq_false_iff.mpr fun hc => ?_
  obtain ⟨q, hq, h1⟩ := List.any_eq_true.mp hc
  simp only [Bool.and_eq_true, decide_eq_true_eq] at h1
  rcases runs_apart h hp hq with rfl | h2 | h2
  · omega
  · omega
  · have := h.ok p hp; omega
theorem inRuns_before {rs : List (Int × Int)} (h : Runs rs) {p : Int × Int} (hp : p ∈ rs) : inRuns rs (p.1 - 1) = false := by
  refine Bool.eq_false_iff.mpr fun hc => ?_
  obtain ⟨q, hq, h1⟩ := List.any_eq_true.mp hc
  simp only [Bool.and_eq_true, decide_eq_true_eq] at h1
  have := h.ok p hp
  have := h.ok q hq
  rcases runs_apart h hp hq with rfl | h2 | h2 <;> omega
end Mine

namespace Mine
def encOf (p : Int × Int) : Int := p.1 * 2 ^ 32 + p.2
def posOf (rs : List (Int × Int)) (n : Int) : Nat := (rs.takeWhile fun p => decide (p.1 < n)).length

theorem posOf_le (rs : List (Int × Int)) (n : Int) : posOf rs n ≤ rs.length := by
  unfold posOf
  exact (List.takeWhile_prefix _).length_le

theorem posOf_cons (r : Int × Int) (t : List (Int × Int)) (n : Int) : posOf (r :: t) n = if r.1 < n then posOf t n + 1 else 0 := by
  unfold posOf
  rw [List.takeWhile_cons]
  by_cases h : r.1 < n <;> simp [h]

theorem Runs.tail {r : Int × Int} {t : List (Int × Int)} (h : Runs (r :: t)) : Runs t := ⟨fun p hp => h.ok p (.tail _ hp), (List.pairwise_cons.mp h.apart).2⟩

theorem posOf_iff {n : Int} : ∀ {rs : List (Int × Int)}, Runs rs → ∀ (j : Nat) (r : Int × Int), rs[j]? = some r → (r.1 < n ↔ j < posOf rs n)
  | [], _, j, r, h => by simp at h
  | a :: t, hr, j, r, h => by
    rw [posOf_cons]
    cases j with
    | zero =>
      simp at h
      subst h
      by_cases hc : a.1 < n <;> simp [hc]
    | succ j =>
      simp at h
      have ih := posOf_iff (n := n) hr.tail j r h
      have hm := List.mem_of_getElem? h
      have h1 := (List.pairwise_cons.mp hr.apart).1 r hm
      have h2 := hr.ok a (.head _)
      by_cases hc : a.1 < n
      · simp only [hc, if_true]; omega
      · simp only [hc, if_false]; omega

theorem enc_lt {n : Int} {r : Int × Int} (h0 : 0 ≤ r.2) (h1 : r.2 < 2 ^ 30) : encOf r < n * 2 ^ 32 + 0 ↔ r.1 < n := by
  unfold encOf; omega

theorem inRuns_of {rs : List (Int × Int)} {n : Int} {j : Nat} {r : Int × Int} (h : rs[j]? = some r) (h1 : r.1 ≤ n) (h2 : n < r.2) : inRuns rs n = true :=
  List.any_eq_true.mpr ⟨r, List.mem_of_getElem? h, by simp [h1, h2]⟩

theorem inRuns_not {rs : List (Int × Int)} {n : Int} (hr : Runs rs) (h1 : ∀ r, 0 < posOf rs n → rs[posOf rs n - 1]? = some r → ¬ (r.1 ≤ n ∧ n < r.2)) (h2 : ∀ r, rs[posOf rs n]? = some r → r.1 ≠ n) : inRuns rs n = false := by
  refine Bool.eq_false_iff.mpr fun hc => ?_
  obtain ⟨r, hm, hr1⟩ := List.any_eq_true.mp hc
  simp only [Bool.and_eq_true, decide_eq_true_eq] at hr1
  obtain ⟨j, hj⟩ := List.getElem?_of_mem hm
  have hi := posOf_iff (n := n) hr j r hj
  by_cases hlt : j < posOf rs n
  · by_cases he : j = posOf rs n - 1
    · subst he
      exact h1 r (by omega) hj hr1
    · have hp : posOf rs n - 1 < rs.length := by have := posOf_le rs n; omega
      have hpw := List.pairwise_iff_getElem.mp hr.apart j (posOf rs n - 1) (List.getElem?_eq_some_iff.mp hj).1 hp (by omega)
      have hq := (posOf_iff (n := n) hr (posOf rs n - 1) _ (List.getElem?_eq_getElem hp)).mpr (by omega)
      rw [(List.getElem?_eq_some_iff.mp hj).2] at hpw
      omega
  · have hp : posOf rs n < rs.length := by have := (List.getElem?_eq_some_iff.mp hj).1; omega
    have hn : ¬ r.1 < n := fun z => hlt (hi.mp z)
    by_cases he : j = posOf rs n
    · subst he
      exact h2 r hj (by omega)
    · have hpw := List.pairwise_iff_getElem.mp hr.apart (posOf rs n) j hp (List.getElem?_eq_some_iff.mp hj).1 (by omega)
      have hq := (posOf_iff (n := n) hr (posOf rs n) _ (List.getElem?_eq_getElem hp))
      have hok := hr.ok _ (List.getElem_mem hp)
      rw [(List.getElem?_eq_some_iff.mp hj).2] at hpw
      omega

section
variable {prog : Program} {w : World} {A : Around} {E : Value → Shared → Prop} {s : Shared} {h₀ : Heap} {L : Addr} {m : Str → Option Value} {news : List (Addr × Obj)}
theorem len_runs {l : Addr} {vs : List Value} {rs : List (Int × Int)} {Q : Value → Shared → Prop} (F : Fr h₀ L s.heap m) (ht : IsTup h₀ l vs.toArray) (hi : IntsAre vs (rs.map encOf)) (hfit : rs.length < 1000)
    (h : ∀ tk t, Q (.int (rs.length : Int) t) { s with toks := tk }) : wpAny (model prog w) A (call (.builtin "len") [.ref l]) Q E s := by
  have hlen := hi.length
  have hsz : vs.toArray.size = rs.length := by simpa using hlen
  refine len_tuple (F.tup ht) (by rw [hsz]; omega) ?_
  rw [hsz]
  exact h _ _
theorem item_runs {value slice : Expr} {l : Addr} {vs : List Value} {rs : List (Int × Int)} {k : Int} {u : Tok} {Q : Value → Shared → Prop} (F : Fr h₀ L s.heap m) (ht : IsTup h₀ l vs.toArray) (hi : IntsAre vs (rs.map encOf)) (hfit : rs.length < 1000)
    (h0 : 0 ≤ k) (h1 : k < rs.length) (h : ∀ t r (j : Nat), (j : Int) = k → rs[j]? = some r → r ∈ rs → Q (.int (encOf r) t) s)
    (hs : subscripted slice false (.ref l) (.int k u) = operate [.ref l, .int k u] (getItem (.ref l) (.int k u)) := by with_unfolding_all rfl) :
    wpAny (model prog w) A (subscriptTail value slice (.ref l) (.int k u)) Q E s := by
  have hlen := hi.length
  rw [List.length_map] at hlen
  have hk : k.toNat < rs.length := by omega
  obtain ⟨t, hx⟩ := hi.get k.toNat (encOf rs[k.toNat]) (by simp [hk])
  exact item_tupleT (F.tup ht) (by omega) (by omega) (seqIndex_of h0 (by omega)) hx (h t rs[k.toNat] k.toNat (by omega) (by simp [hk]) (List.getElem_mem hk)) hs
end
theorem dec_runs {w : World} {A : Around} {E : Value → Shared → Prop} {s : Shared} {h₀ : Heap} {L : Addr} {m : Str → Option Value} {news : List (Addr × Obj)} {Q : Value → Shared → Prop} {mean : ExcName → Option Value} {mg mb : Str → Option Value} {r : Int × Int} {tr : Tok} {rs : List (Int × Int)}
    (F : Fr h₀ L s.heap m) (N : News h₀ L s.heap news) (X : (hd.heap_39 w.params).In h₀) (T : TopOf mean mg mb h₀) (hroom : A.depth < recursionLimit) (hr : Runs rs) (hm : r ∈ rs)
    (h : ∀ D h' tk t1 t2 n, Fr h₀ L h' m → News h₀ L h' ((D, { cls := .type "tuple", data := .seq [Value.int r.1 t1, Value.int r.2 t2].toArray n }) :: news) → 0 ≤ r.1 ∧ r.1 < r.2 → Q (.ref D) { s with heap := h', toks := tk }) :
    wpAny (model PySem.Challenge.rw_vt0001_01.row.prog w) A (call (.ref 63) [.int (encOf r) tr]) Q E s := by
  have hb := hr.ok r hm
  refine dec_spec (X.keeps F.keep) (T.keeps F.keep) hroom (by unfold encOf; omega) (by unfold encOf; omega) ?_
  intro h' tk D t1 t2 n hk hD hg
  have e1 : encOf r / 2 ^ 32 = r.1 := by unfold encOf; omega
  have e2 : encOf r % 2 ^ 32 = r.2 := by unfold encOf; omega
  rw [e1, e2] at hg
  refine h D h' tk t1 t2 n (F.keeps hk) ?_ ⟨hb.1, hb.2.1⟩
  · intro p hp
    rcases List.mem_cons.mp hp with rfl | hp
    · refine ⟨hg, ?_, ?_⟩
      · rintro rfl
        obtain ⟨o, _, _, ho, _⟩ := F.ns
        rw [hD] at ho; cases ho
      · cases q : h₀.get? D with
        | none => rfl
        | some o => rw [F.keep _ _ q] at hD; cases hD
    · exact ⟨hk _ _ (N p hp).1, (N p hp).2⟩

local macro_rules | `(tactic| walk_at "call builtin:len") => `(tactic| (k_here; (with_reducible show wpAny _ _ (call (Value.builtin "len") [Value.ref _]) _ _ _); (refine len_runs (by k_asm) (by assumption) (by assumption) (by assumption) ?_); intro _ _))
local macro_rules | `(tactic| walk_at "subscriptTail") => `(tactic| (k_here; (with_reducible show wpAny _ _ (subscriptTail _ _ (Value.ref _) (Value.int _ _)) _ _ _); (with_unfolding_all refine' item_runs ?k1 ?k2 ?k3 ?k4 ?k5 ?k6 ?_ ?k7; (case k1 => k_asm); (case k2 => assumption); (case k3 => assumption); (case k4 => assumption); (case k5 => omega); (case k6 => omega); (case k7 => with_unfolding_all rfl)); intro _ _ _ _ _ _))
local macro_rules | `(tactic| walk_at "call ref") => `(tactic| (k_here; (with_reducible show wpAny _ _ (call (Value.ref 63) [Value.int (encOf _) _]) _ _ _); (refine dec_runs (by k_asm) (by k_asm) (by assumption) (by assumption) (by first | assumption | (show _ + 1 < _; assumption)) (by assumption) (by assumption) ?_); intro D' h' tk' _ _ _ F' N' _; (try k_sweep)))
theorem contain_spec {w : World} {A : Around} {E : Value → Shared → Prop} {Q : Value → Shared → Prop} {s : Shared} {mean : ExcName → Option Value} {mg mb : Str → Option Value} {n : Int} {tn : Tok}
    {l : Addr} {vs : List Value} {rs : List (Int × Int)}
    (X : (hd.heap_39 w.params).In s.heap) (T : TopOf mean mg mb s.heap) (hroom : A.depth + 1 < recursionLimit) (hh : A.handled = none)
    (hn : 0 ≤ n) (hn2 : n < 2 ^ 30) (ht : IsTup s.heap l vs.toArray) (hi : IntsAre vs (rs.map encOf)) (hr : Runs rs) (hfit : rs.length < 1000)
    (h : ∀ h' tk, (∀ b o, s.heap.get? b = some o → h'.get? b = some o) → Q (.bool (inRuns rs n)) { s with heap := h', toks := tk }) :
    wpAny (model PySem.Challenge.rw_vt0001_01.row.prog w) A (call (.ref 70) [.int n tn, .ref l]) Q E s := by
  obtain ⟨a1, a2, a3, a4, a5⟩ := A
  dsimp only at hh hroom
  subst hh
  revert X; k_fill; intro X
  refine' call_pure X T.nolimit ?k1 ?k2 (show a2 < recursionLimit by omega) ?k3 ?c0 ?c1 ?c2 ?c3 ?c4 ?_
  case k1 => k_is
  case k2 => k_is
  case k3 => exact BindsTo.of_eq rfl
  case c0 => exact locs rfl
  case c1 => rfl
  case c2 => rfl
  case c3 => rfl
  case c4 => decide
  intro h₁ F
  have N : News s.heap s.heap.objs.size h₁ [] := News.nil
  have hpl := posOf_le rs n
  k_steps
  refine enc_spec (X.keeps F.keep) (T.keeps F.keep) hroom hn hn2 (by decide) (by decide) ?_
  intro h2 tk2 t2 v2 hv2 hk2
  subst hv2
  have F2 := F.keeps hk2
  have N2 : News s.heap s.heap.objs.size h2 [] := News.nil
  clear F N
  k_steps
  rename Fr _ _ _ _ => F3
  refine bis_left (p := posOf rs n) (F3.tup ht) hi (by simp; omega) ?hp (by simpa using hpl) ?_
  case hp =>
    intro j e he
    rw [List.getElem?_map] at he
    obtain ⟨r, hr1, rfl⟩ := Option.map_eq_some_iff.mp he
    have hb := hr.ok r (List.mem_of_getElem? hr1)
    rw [enc_lt (by omega) (by omega)]
    exact posOf_iff hr j r hr1
  intro tk3 t3
  k_steps
  all_goals dsimp only
  all_goals (rename Fr _ _ _ _ => FE)
  all_goals first
    | (rw [← (show inRuns rs n = true from inRuns_of (by assumption) (by omega) (by omega))]; exact h _ _ FE.keep)
    | (rw [← (show inRuns rs n = false from inRuns_not hr (fun r hp hj => by
        first
        | omega
        | (have e : ∀ (j : Nat) r', (j : Int) = (posOf rs n : Int) - 1 → rs[j]? = some r' → r' = r := fun j r' e h => by
            have : j = posOf rs n - 1 := by omega
            subst this
            rw [hj] at h; exact (Option.some.inj h).symm
           have q := e _ _ (by assumption) (by assumption)
           subst q
           omega)) (fun r hj => by
        have hlt := (List.getElem?_eq_some_iff.mp hj).1
        first
        | omega
        | (have e : ∀ (j : Nat) r', (j : Int) = (posOf rs n : Int) → rs[j]? = some r' → r' = r := fun j r' e h => by
            have : j = posOf rs n := by omega
            subst this
            rw [hj] at h; exact (Option.some.inj h).symm
           have q := e _ _ (by assumption) (by assumption)
           subst q
           omega)))]; exact h _ _ FE.keep)
end Mine

namespace Mine

section
variable {prog : Program} {w : World} {A : Around} {E : Value → Shared → Prop} {s : Shared} {h₀ : Heap} {L l : Addr} {m : Str → Option Value} {news : List (Addr × Obj)} {value slice : PySem.Expr} {vs : List Value} {ns : List Int} {x y : Int} {Q : Value → Shared → Prop}
theorem slice_run {tx ty : Tok} (F : Fr h₀ L s.heap m) (N : News h₀ L s.heap news) (hl : s.heap.IsList l vs.toArray) (hi : IntsAre vs ns) (h0 : 0 ≤ x) (h1 : x < y) (h2 : y ≤ ns.length) (hz : ns.length < 1000) (hb : ∀ n ∈ ns, 0 ≤ n ∧ n < 2 ^ 29)
    (h : ∀ D ws ms h', Fr h₀ L h' m → News h₀ L h' ((D, PySem.W.listOf (List.toArray ws) 0) :: news) → (∀ p ∈ news, p.1 < D) → IntsAre ws ms → 0 < ms.length → ms.length < 1000 → ms.getD (Int.toNat 0) 0 = ns.getD x.toNat 0 → ms.getD (-1 + (ms.length : Int)).toNat 0 = ns.getD (y.toNat - 1) 0 →
      (0 ≤ ms.getD (Int.toNat 0) 0 ∧ ms.getD (Int.toNat 0) 0 < 2 ^ 29) → (0 ≤ ms.getD (-1 + (ms.length : Int)).toNat 0 ∧ ms.getD (-1 + (ms.length : Int)).toNat 0 < 2 ^ 29) → Q (.ref D) { s with heap := h' })
    (hs : subscripted slice false (.ref l) (.ref s.heap.objs.size) = operate [.ref s.heap.objs.size, .ref l] (getItem (.ref l) (.ref s.heap.objs.size))) (ht : ∀ r, letTemporaryGo value (.ref l) r = pure ()) :
    wpAny (model prog w) A (subscriptTail value slice (.ref l) (.ref s.heap.objs.size)) Q E { s with heap := s.heap.push { cls := .type "slice", data := .fields #[.int x tx, .int y ty, .none] } } := by
  refine kmk_slice_ints F N hl (IsPart.int _ _) (IsPart.int _ _) hi (kmk_run hi h0 (by omega)) rfl ?_ hs ht (kmk_sz hi (by rw [sizeLine_eq]; omega))
  intro D ws h' F' N' l1 hI _ hle
  have e1 : (List.take (min y.toNat ns.length - x.toNat) (List.drop x.toNat ns)).length = y.toNat - x.toNat := by
    rw [List.length_take, List.length_drop]; omega
  have g1 : (List.take (min y.toNat ns.length - x.toNat) (List.drop x.toNat ns)).getD (Int.toNat 0) 0 = ns.getD x.toNat 0 := by
    show (List.take (min y.toNat ns.length - x.toNat) (List.drop x.toNat ns)).getD 0 0 = _
    rw [List.getD_eq_getElem?_getD, List.getD_eq_getElem?_getD, List.getElem?_take, if_pos (by omega), List.getElem?_drop]; rfl
  have g2 : (List.take (min y.toNat ns.length - x.toNat) (List.drop x.toNat ns)).getD (-1 + ((List.take (min y.toNat ns.length - x.toNat) (List.drop x.toNat ns)).length : Int)).toNat 0 = ns.getD (y.toNat - 1) 0 := by
    rw [e1, show (-1 + ((y.toNat - x.toNat : Nat) : Int)).toNat = y.toNat - x.toNat - 1 by omega, List.getD_eq_getElem?_getD, List.getD_eq_getElem?_getD, List.getElem?_take, if_pos (by omega), List.getElem?_drop]
    congr 2
    omega
  have b : ∀ j, j < ns.length → 0 ≤ ns.getD j 0 ∧ ns.getD j 0 < 2 ^ 29 := fun j hj => by
    rw [List.getD_eq_getElem?_getD, List.getElem?_eq_getElem hj]
    exact hb _ (List.getElem_mem hj)
  refine h D ws _ h' F' N' l1 hI (by rw [e1]; omega) (by rw [e1]; omega) g1 g2 ?_ ?_
  · rw [g1]; exact b _ (by omega)
  · rw [g2]; exact b _ (by omega)
end

local macro_rules | `(tactic| walk_at "MYSTEPS") => `(tactic| repeat' ((fail_if_success (with_reducible show wpAny _ _ (exec (Stmt.For _ _ _ _ _) _) _ _ _)); (fail_if_success (with_reducible show wpAny _ _ (pyIter (Value.ref _)) _ _ _)); (fail_if_success (with_reducible show InvEndN _ _ _ _ _ _ _));   (fail_if_success (with_reducible show wpAny _ _ (call (Value.builtin "sorted") _) _ _ _)); (first | (k_unfold; (try dsimp only)) | (k_end; wrow_close) | walk1 | (dsimp only; walk1) | (leave1; walk_say "STEP leave1"; try dsimp only) | fail "no step")))
local macro_rules | `(tactic| walk_at "subscriptTail Name Slice ref ref") => `(tactic| (k_here; (with_reducible show wpAny _ _ (subscriptTail _ (PySem.Expr.Slice (some _) (some _) none _) (Value.ref _) (Value.ref _)) _ _ _); k_dflt (refine' slice_run ?zF ?zN ?zl ?zi ?z0 ?z1 ?z2 ?zz ?zb ?_ ?zs ?zt; (case zF => k_asm); (case zN => k_asm); (case zl => exact News.isList (by k_asm) (by k_mem)); (case zi => assumption); (case z0 => omega); (case z1 => omega); (case z2 => omega); (case zz => omega); (case zb => assumption); (case zs => with_unfolding_all rfl); (case zt => (intro _; with_unfolding_all rfl))); intro D' ws' ms' h' F' N' l1 _ _ _ _ _ _ _; (try k_lt l1); (try k_sweep)))
local macro_rules | `(tactic| walk_at "call ref") => `(tactic| (k_here; (with_reducible show wpAny _ _ (call (Value.ref 56) [Value.int _ _, Value.int _ _]) _ _ _); (rename Fr _ _ _ _ => zF'); (rename News _ _ _ _ => zN'); (refine enc_spec (Frag.In.keeps (by assumption) zF'.keep) (Top.keeps (by assumption) zF'.keep) (by assumption) (by omega) (by omega) (by omega) (by omega) ?_); intro h' tk' t' v' hv' zk'; (have F' := zF'.keeps zk'); (have N' := zN'.grown zk'); clear zk' zF' zN'; (try k_sweep)))
local macro_rules | `(tactic| walk_at "call builtin:list.append") => `(tactic| (k_here; (with_reducible show wpAny _ _ (call (Value.builtin "list.append") [Value.ref _, Value.int _ _]) _ _ _); (refine append_K (by k_asm) (by k_asm) (Upd.tail (by (refine neN ?_; (try dsimp only); omega)) (Upd.head (List.forall_mem_cons.mpr ⟨(by (refine neN ?_; (try dsimp only); omega)), by assumption⟩))) ?_ (by (rw [List.size_toArray, sizeLine_eq]; omega))); intro h' F' N'; (try k_sweep)))
set_option maxHeartbeats 8000000 in
theorem from_spec {w : World} {A : Around} {E : Value → Shared → Prop} {Q : Value → Shared → Prop} {s : Shared} {mean : ExcName → Option Value} {mg mb : Str → Option Value}
    {l : Addr} {vs : List Value} {ns : List Int}
    (X : (hd.heap_39 w.params).In s.heap) (T : TopOf mean mg mb s.heap) (hroom : A.depth + 1 < recursionLimit) (hh : A.handled = none)
    (hl : s.heap.IsList l vs.toArray) (hi : IntsAre vs ns) (hb : ∀ n ∈ ns, 0 ≤ n ∧ n < 2 ^ 29) (hnd : ns.Nodup) (hfit : ns.length < 64)
    (h : ∀ h' tk D us xs, (∀ b o, s.heap.get? b = some o → h'.get? b = some o) → s.heap.objs.size ≤ D → h'.get? D = some { cls := .type "tuple", data := .seq (List.toArray us) } → xs.Perm ns → xs.Pairwise (· < ·) → IntsAre us ((runsOf xs).map encOf) →
      Q (.ref D) { s with heap := h', toks := tk }) :
    wpAny (model PySem.Challenge.rw_vt0001_01.row.prog w) A (call (.ref 49) [.ref l]) Q E s := by
  obtain ⟨a1, a2, a3, a4, a5⟩ := A
  dsimp only at hh hroom
  subst hh
  revert X; k_fill; intro X
  refine' call_pure X T.nolimit ?k1 ?k2 (show a2 < recursionLimit by omega) ?k3 ?c0 ?c1 ?c2 ?c3 ?c4 ?_
  case k1 => k_is
  case k2 => k_is
  case k3 => exact BindsTo.of_eq rfl
  case c0 => exact locs rfl
  case c1 => rfl
  case c2 => rfl
  case c3 => rfl
  case c4 => decide
  intro h₁ F
  have N : News s.heap s.heap.objs.size h₁ [] := News.nil
  have hvl := hi.length
  walk_at "MYSTEPS"
  refine kso_sorted F N (F.lst hl) hi (by omega) ?_
  intro D vs' xs c h2 F2 N2 lt2 hi2 hlen2 hperm hsort _
  clear F N
  have hbx : ∀ n ∈ xs, 0 ≤ n ∧ n < 2 ^ 29 := fun n hn => hb n (hperm.mem_iff.mp hn)
  walk_at "MYSTEPS"
  rename Fr _ _ _ _ => F3
  with_unfolding_all refine' For_invVF F3 ?k1 ?k2 ?_
  case k1 => exact rfl
  case k2 => exact rfl
  walk_at "MYSTEPS"
  rename_i h'a tka R h'b lR h'c h'd FA NA h'e tke t1 u1 v1 hRng FB NB kB
  k_dflt (refine' kst_range (σ := Int × Tok × List Value × Nat) (fun z => [(R, PySem.W.listOf z.2.2.1.toArray z.2.2.2), (D, PySem.W.listOf vs'.toArray c)]) (fun z => [(Str.ofString "last_write", Value.int z.1 z.2.1)]) (fun _ => True) [Str.ofString "current_range"] (fun pre z => ∃ (q : Nat) (rs : List (Int × Int)), z.1 = (q : Int) - 1 ∧ IntsAre z.2.2.1 (rs.map encOf) ∧ FInv xs pre.length q rs) (-1, ?tok, [], 0) ?hh ?hr ?small ?size ?fr ?nw ?fc ?kk ?kp ?turn ?done)
  case hr => exact hRng
  case hh => exact rfl
  case size => exact rangeSize_nat _ _
  case fr => exact FB
  case nw => exact NB
  case fc => trivial
  case small => exact small_one (by omega) (by omega) (by omega) (by omega)
  case kk => (refine List.forall_mem_singleton.mpr ?_; exact rfl)
  case kp => exact ⟨0, [], rfl, .nil, FInv.zero xs⟩
  case turn =>
    clear FA FB NA NB hRng kB
    rintro ⟨lw, tlw, rvs, cnt⟩ pre k t u h3 tk3 own hk hlt hoff - ⟨q, rs, hq, hi3, hinv⟩ F4 N4
    dsimp only at hq hi3 F4 N4 ⊢
    simp only [List.cons_append, List.nil_append] at N4
    have hMk : KstMark := kstMark
    have hlen3 := hi3.length
    rw [List.length_map] at hlen3
    have hlr := hinv.len
    have hqle := hinv.le
    have hOwnR : ∀ p ∈ own, p.1 ≠ R := fun p hp => hoff p hp R (by simp)
    have e1 : k.toNat = pre.length := by omega
    have e2 : (k + 1).toNat = pre.length + 1 := by omega
    have e3 : (lw + 1).toNat = q := by omega
    walk_at "MYSTEPS"
    · rename List.getD _ _ _ = _ - 1 => hgo
      rw [e1, e2] at hgo
      refine kst_end (lw, tlw, rvs, cnt) F4 N4 ?_ ?_ rfl trivial ?_ ?_ ?_
      · intro p hp; exact List.mem_append_left own hp
      · intro p hp; exact List.mem_append_right [(R, PySem.W.listOf rvs.toArray cnt), (D, PySem.W.listOf vs'.toArray c)] hp
      · (refine List.forall_mem_singleton.mpr ?_; exact rfl)
      · intro z z1 z2 z3
        show (if z = _ then _ else kstB _ _ z) = _
        rw [if_neg z1]
        show (if z = _ then _ else kstB _ _ z) = _
        rw [if_neg (z2 _ (.head _))]
        show (if List.contains _ z = true then _ else _) = _
        rw [z3]; rfl
      · exact ⟨q, rs, hq, hi3, by rw [List.length_append]; exact hinv.go (by omega) hgo⟩
    all_goals
      rename Fr _ _ _ _ => F5
      rename News _ _ _ _ => N5
      rename (_ = _ * 2 ^ 32 + _) => hv5
      rename (List.getD _ (Int.toNat 0) 0 = _) => hg5
      rename (List.getD _ (-1 + _ : Int).toNat 0 = _) => hg6
      rw [e3] at hg5
      rw [e2, Nat.add_sub_cancel] at hg6
      rw [hg5, hg6] at hv5
      have htell : pre.length + 1 < xs.length → xs.getD pre.length 0 ≠ xs.getD (pre.length + 1) 0 - 1 := by
        intro hlt
        first
        | omega
        | (rename List.getD _ _ _ ≠ _ - 1 => hne
           rw [e1, e2] at hne
           exact hne)
      rw [List.push_toArray, hv5] at N5
      have ⟨t5, N6⟩ := (⟨_, N5⟩ : ∃ t5, News _ _ _ (_ :: (R, PySem.W.listOf (rvs ++ [Value.int (xs.getD q 0 * 2 ^ 32 + (xs.getD pre.length 0 + 1)) t5]).toArray (cnt + 1)) :: _ :: own))
      refine kst_end (k, t, rvs ++ [Value.int (xs.getD q 0 * 2 ^ 32 + (xs.getD pre.length 0 + 1)) t5], cnt + 1) F5 N6 ?_ ?_ rfl trivial ?_ ?_ ?_
      · intro p hp; exact List.mem_cons_of_mem _ (List.mem_append_left own hp)
      · intro p hp; exact List.mem_cons_of_mem _ (List.mem_cons_of_mem _ (List.mem_cons_of_mem _ hp))
      · (refine List.forall_mem_singleton.mpr ?_; exact rfl)
      · intro z z1 z2 z3
        have z4 : z ≠ Str.ofString "current_range" := by
          rintro rfl
          exact absurd z3 (by decide)
        show (if z = _ then _ else if z = _ then _ else if z = _ then _ else kstB _ _ z) = _
        rw [if_neg (z2 _ (.head _)), if_neg z4, if_neg z1]
        show (if z = _ then _ else kstB _ _ z) = _
        rw [if_neg (z2 _ (.head _))]
        show (if List.contains _ z = true then _ else _) = _
        rw [z3]; rfl
      · refine ⟨pre.length + 1, rs ++ [(xs.getD q 0, xs.getD pre.length 0 + 1)], by dsimp only; omega, ?_, by rw [List.length_append]; exact hinv.tell (by omega) htell⟩
        rw [List.map_append]
        refine hi3.append ?_
        exact .cons _ _ .nil
  case done =>
    clear FA FB NA NB hRng kB
    rintro ⟨lw, tlw, rvs, cnt⟩ u h3 tk3 - ⟨q, rs, hq, hi3, hinv⟩ F4 N4
    dsimp only at hq hi3 F4 N4 ⊢
    rw [rangeKs_length, show ((xs.length : Int) - 0).toNat = xs.length by omega] at hinv
    have hfin := hinv.fin
    walk_at "MYSTEPS"
    have hlr := hinv.len
    have hl3 := hi3.length
    rw [List.length_map] at hl3
    refine call_tuple_list (News.isList N4 (.head _)) (fun h4 hk4 => ?_) (by rw [List.size_toArray, sizeLine_eq]; omega)
    dsimp only at hk4 ⊢
    refine h _ _ _ rvs xs (fun b o e => Heap.get?_push_of_some _ (hk4 _ _ (F4.keep _ _ e))) ?_ (Heap.get?_push_size _ rfl) hperm (sorted_lt hsort (hperm.nodup_iff.mpr hnd)) (by rw [hfin]; exact hi3)
    exact Nat.le_of_lt (F4.keeps hk4).ns.lt
end Mine

namespace Mine
section
variable {prog : Program} {w : World} {A : Around} {E : Value → Shared → Prop} {s : Shared} {env : Env} {h₀ : Heap} {target : Expr} {body : List Stmt} {Q : Flow → Shared → Prop}

def TurnEnd (h₀ : Heap) (L I : Addr) (oI : Obj) (J : (Str → Option Value) → List (Addr × Obj) → Prop) (s₁ s₂ : Shared) : Prop :=
  ∃ h' tk m' news', s₂ = { s₁ with heap := h', toks := tk } ∧ Fr h₀ L h' m' ∧ News h₀ L h' ((I, oI) :: news') ∧ (∀ p ∈ news', p.1 ≠ I) ∧ J m' news'
theorem TurnEnd.intro {L I : Addr} {oI : Obj} {J : (Str → Option Value) → List (Addr × Obj) → Prop} {s₁ : Shared} {h' : Heap} {tk : Nat} {m' : Str → Option Value} {all : List (Addr × Obj)} (F : Fr h₀ L h' m') (N : News h₀ L h' all) (news' : List (Addr × Obj))
    (hs : ∀ p ∈ (I, oI) :: news', p ∈ all) (ho : ∀ p ∈ news', p.1 ≠ I) (hj : J m' news') : TurnEnd h₀ L I oI J s₁ { s₁ with heap := h', toks := tk } :=
  ⟨h', tk, m', news', rfl, F, fun p hp => N p (hs p hp), ho, hj⟩
def TurnPost (h₀ : Heap) (L I : Addr) (oI : Obj) (J : (Str → Option Value) → List (Addr × Obj) → Prop) (s₁ : Shared) (Q : Flow → Shared → Prop) (f : Flow) (s₂ : Shared) : Prop :=
  match f with
  | .ret v => Q (.ret v) s₂
  | .brk => Q .next s₂
  | _ => TurnEnd h₀ L I oI J s₁ s₂

/-- a loop over a made list: what the turns change stands in σ -/
theorem for_led {σ : Type} (Led : σ → List (Addr × Obj)) (P : Nat → σ → Prop) (stored : List Str) (c₀ : σ) {m₀ : Str → Option Value} {vs : List Value} {ax : Addr} {lo : Obj} {n : Nat}
    (hh : A.handled = none) (F : Fr h₀ env.locals s.heap m₀) (N : News h₀ env.locals s.heap (Led c₀)) (hm : ∀ c, (ax, lo) ∈ Led c) (hc : lo.cls = .type "list") (hd : lo.data = .seq vs.toArray n) (hp : P 0 c₀)
    (turn : ∀ (c : σ) i v I oI (u : Str → Option Value) h tk, vs[i]? = some v → P i c → (∀ p ∈ Led c, p.1 ≠ I) → Fr h₀ env.locals h (fun y => if stored.contains y then u y else m₀ y) → News h₀ env.locals h ((I, oI) :: Led c) →
      wpAny (model prog w) A (assign target env v) (fun _ s₂ => wpAny (model prog w) A (execs body env)
        (TurnPost h₀ env.locals I oI (fun m' news' => ∃ c', news' = Led c' ∧ P (i + 1) c' ∧ ∀ z, stored.contains z = false → m' z = m₀ z) { s with heap := h, toks := tk } Q) E s₂) E { s with heap := h, toks := tk })
    (done : ∀ (c : σ) (u : Str → Option Value) h tk, P vs.length c → Fr h₀ env.locals h (fun y => if stored.contains y then u y else m₀ y) → News h₀ env.locals h (Led c) → Q .next { s with heap := h, toks := tk }) :
    wpAny (model prog w) A (pyIter (.ref ax)) (fun it s₂ => TurnsAt prog w A h₀ env target body Q E it s₂) E s := by
  have frOf : ∀ (h : Heap) (m : Str → Option Value), (∀ z, stored.contains z = false → m z = m₀ z) → Fr h₀ env.locals h m → Fr h₀ env.locals h (fun y => if stored.contains y then m y else m₀ y) := by
    intro h m hm' F'
    have e : (fun y => if stored.contains y then m y else m₀ y) = m := by
      funext y
      cases hy : stored.contains y with
      | true => simp
      | false => simp only [Bool.false_eq_true, if_false]; exact (hm' y hy).symm
    rw [e]; exact F'
  refine iter_listTurns hh F N (hm c₀) hc hd fun I hI => ?_
  have key : ∀ (k i : Nat) (c : σ) (m : Str → Option Value), i + k = vs.length → P i c → (∀ p ∈ Led c, p.1 ≠ I) → (∀ z, stored.contains z = false → m z = m₀ z) →
      ItemsRest prog w A E h₀ env target body Q s [(I, "list_iterator")] [(ax, lo)] ((vs.drop i).map .val) m (Led c) := by
    intro k
    induction k with
    | zero =>
      intro i c m hi hP hoff hm'
      have e : i = vs.length := by omega
      subst e
      rw [List.drop_length]
      refine ItemsRest.zero ?_
      intro h tk F' N'
      exact done c m h tk hP (frOf h m hm' F') N'
    | succ k ih =>
      intro i c m hi hP hoff hm'
      have hlt : i < vs.length := by omega
      rw [List.drop_eq_getElem_cons hlt, List.map_cons]
      refine ItemsRest.val fun h tk F' => ?_
      refine AllObj.cons fun oI _ => AllObj.nil fun N' => ?_
      refine wpAny_mono (turn c i vs[i] I oI m h tk (by simp [hlt]) hP hoff (frOf h m hm' F') N') (fun _ s₂ h₂ => wpAny_mono h₂ (fun f s₃ p => ?_) fun _ _ e => e) fun _ _ e => e
      have fin : TurnEnd h₀ env.locals I oI (fun m' news' => ∃ c', news' = Led c' ∧ P (i + 1) c' ∧ ∀ z, stored.contains z = false → m' z = m₀ z) { s with heap := h, toks := tk } s₃ →
          UnrEndW h₀ env.locals { s with heap := h, toks := tk } [(I, oI)] (fun m' n' => SubL [(ax, lo)] n' ∧ ItemsRest prog w A E h₀ env target body Q s [(I, "list_iterator")] [(ax, lo)] ((vs.drop (i + 1)).map .val) m' n') s₃ := by
        rintro ⟨h', tk', m', news', rfl, F₃, N₃, ho, c', rfl, hP', hz⟩
        exact ⟨h', tk', m', Led c', rfl, F₃, N₃, fun p hp q hq => by rw [List.mem_singleton.mp hq]; exact ho p hp, And.intro (hm c') trivial, ih (i + 1) c' m' (by omega) hP' ho hz⟩
      cases f with
      | ret v => exact p
      | brk => exact p
      | next => exact fin p
      | cont => exact fin p
  have h0 := key vs.length 0 c₀ m₀ (by omega) hp (fun p hp => Nat.ne_of_lt (hI p hp)) (fun _ _ => rfl)
  rw [List.drop_zero] at h0
  exact h0

/-! comprehensions: the turns by an invariant -/
theorem comp_turns {m : Str → Option Value} {L : Addr} {elt : Expr} {x : Str} {scope : Scope} {cl : List (Str × Addr)} {S : List (Addr × Obj) → Prop} {P : Nat → Value → Prop} {Fin : List Value → List (Addr × Obj) → Prop} {n : Nat} {news₀ : List (Addr × Obj)}
    (Inv : Nat → List Value → List (Addr × Obj) → Prop) (h0 : Inv 0 [] news₀)
    (step : ∀ i v ys news I oI C oC D m₂ h tk (E' : Value → Shared → Prop), i < n → P i v → Inv i ys news → LCg.NsObj oC m₂ → m₂ x = some v → Fr h₀ L h m → News h₀ L h ((I, oI) :: (C, oC) :: (D, LCg.lst ys) :: news) → LCg.Off3 I C D news → ((@Ne Nat I C) ∧ (@Ne Nat I D) ∧ (@Ne Nat C D)) →
      wpAny (model prog w) A (eval elt (compEnvC scope cl C env)) (LCg.CompEnd h₀ L m { s with heap := h, toks := tk } I oI C oC D (LCg.lst ys) S (fun y news' => Inv (i + 1) (ys ++ [y]) news')) E' { s with heap := h, toks := tk })
    (fin : ∀ ys news, Inv n ys news → Fin ys news) : LCg.CompRest prog w A h₀ L m env elt x scope cl s S P Fin n 0 [] news₀ := by
  have key : ∀ (j i : Nat) (ys : List Value) (news : List (Addr × Obj)), i + j = n → Inv i ys news → LCg.CompRest prog w A h₀ L m env elt x scope cl s S P Fin j i ys news := by
    intro j
    induction j with
    | zero =>
      intro i ys news hi hy
      have e : i = n := by omega
      subst e
      exact LCg.CompRest.zero (fin ys news hy)
    | succ j ih =>
      intro i ys news hi hy
      refine LCg.CompRest.succ ?_
      intro v I oI C oC D m₂ h tk E' hv hC hx F N off ne
      refine wpAny_mono (step i v ys news I oI C oC D m₂ h tk E' (by omega) hv hy hC hx F N off ne) (fun y s₂ hq => ?_) fun _ _ e => e
      obtain ⟨h', tk', nw, e, F', N', off', hS, hn⟩ := hq
      exact ⟨h', tk', nw, e, F', N', off', hS, ih (i + 1) _ _ (by omega) hn⟩
  exact key n 0 [] news₀ (by omega) h0

/-- an element that only makes new objects -/
theorem comp_grown {m : Str → Option Value} {L : Addr} {s : Shared} {I C D : Addr} {oI oC : Obj} {ys : List Value} {news : List (Addr × Obj)} {S : List (Addr × Obj) → Prop} {rest : Value → List (Addr × Obj) → Prop} {y : Value} {h h' : Heap} {tk' : Nat}
    (F : Fr h₀ L h m) (N : News h₀ L h ((I, oI) :: (C, oC) :: (D, LCg.lst ys) :: news)) (off : LCg.Off3 I C D news) (hk : ∀ b o, h.get? b = some o → h'.get? b = some o) (hS : S news) (hr : rest y news) :
    LCg.CompEnd h₀ L m s I oI C oC D (LCg.lst ys) S rest y { s with heap := h', toks := tk' } :=
  ⟨h', tk', news, rfl, F.keeps hk, N.grown hk, off, hS, hr⟩
end

section
variable {prog : Program} {w : World} {A : Around} {E : Value → Shared → Prop} {s : Shared} {h₀ : Heap} {L : Addr} {m : Str → Option Value} {env : Env}
theorem tup_st {ax I : Addr} {its : Array Value} {o₁ : Obj} (hc : o₁.cls = .type "tuple") {n : Nat} (hd : o₁.data = .seq its n) : ∀ i (h h' : Heap) (o : Obj) (nw : List (Addr × Obj)), (h.IsTupleIter I ax i ∧ h.IsTuple ax its) → h.get? I = some o → h'.get? I = some o → (∀ b o, h₀.get? b = some o → h'.get? b = some o) → News h₀ L h' nw → (ax, o₁) ∈ nw → (h'.IsTupleIter I ax i ∧ h'.IsTuple ax its) :=
  fun i h h' o nw st e e' k N S => ⟨by obtain ⟨o', q, r⟩ := st.1; rw [e] at q; cases q; exact ⟨o, e', r⟩, ⟨o₁, (N _ S).1, hc, n, hd⟩⟩

def TupSrc (prog : Program) (w : World) (A : Around) (h₀ : Heap) (L : Addr) (m : Str → Option Value) (env : Env) (elt : Expr) (x : Str) (scope : Scope) (cl : List (Str × Addr)) (y : Str) (Q : Flow → Shared → Prop) (xv : Value) (s₁ : Shared) : Prop :=
    ∃ ax its o₁ n news, xv = .ref ax ∧ A.handled = none ∧ Fr h₀ L s₁.heap m ∧ News h₀ L s₁.heap news ∧ (ax, o₁) ∈ news ∧ o₁.cls = .type "tuple" ∧ o₁.data = .seq its n ∧ its.size ≤ sizeLine ∧
      ∀ s₂ : Shared, (∃ h, s₂ = { s₁ with heap := h }) → LCg.CompRest prog w A h₀ L m env elt x scope cl s₂ (fun nw => (ax, o₁) ∈ nw) (fun i v => its[i]? = some v) (LCg.FinA h₀ L m s₂ y Q) its.size 0 [] news
/-- y = [elt for x in a made tuple] -/
theorem assign_comp_tup {elt iter : Expr} {x y : Str} {px py : Pos} {scope : Scope} {cl : List (Str × Addr)} {pos spos : Pos} {Q : Flow → Shared → Prop} (_F₀ : Fr h₀ L s.heap m) (hLe : env.locals = L)
    (hsw : swapsWith (.ListComp elt [⟨.Name x px, iter, [], 0⟩] scope pos) (some (.Name y py)) spos.line env = pure true)
    (hclos : closureFor scope env = pure cl) (hcell : ∀ z ∈ scope.names, z.2 ≠ .cell) (hkind : scope.kind = .function)
    (hnames : ∀ z ∈ scope.names, z.2 = .local → scope.names.lookup z.1 = some .local) (hx : scope.names.lookup x = some .local)
    (hy : env.kindOf y = some .local) (hp : (env.scope.kind == .class || (env.scope.kind == .module && env.locals != env.globals)) = false)
    (h : wpAny (model prog w) A (eval iter env) (TupSrc prog w A h₀ L m env elt x scope cl y Q) E s)
    (hs : ∀ x, foldedSetIterable iter env x = pure x) :
    wpAny (model prog w) A (exec (.Assign [.Name y py] (.ListComp elt [⟨.Name x px, iter, [], 0⟩] scope pos) spos) env) Q E s := by
  subst hLe
  rw [exec_Assign_Name_used _ _ _ _ hsw]
  refine wpAny_bind (wpAny_standAt (wpAny_bind ?_))
  show wpAny _ A (do let _ ← comprehension (.ListComp elt [⟨.Name x px, iter, [], 0⟩] scope pos) scope env _ (newList []) false (eval iter env) (some (assign (.Name y py) env))) _ _ s
  refine wpAny_bind (wpAny_mono (wpAny_comprehension_free (use := some (assign (.Name y py) env)) (Q := fun _ s' => Q .next s') rfl hs hclos hkind hnames
    (wpAny_mono h (fun xv s₁ h₁ => ?_) fun _ _ e => e)) (fun _ s' hq => wpAny_pure (wpAny_pure hq)) fun _ _ e => e)
  obtain ⟨ax, its, o₁, n₁, news, rfl, hh, F, N, hmem, hc, hd, hsz, R⟩ := h₁
  have hl : s₁.heap.IsTuple ax its := ⟨o₁, (N _ hmem).1, hc, n₁, hd⟩
  have hlt : ax < s₁.heap.objs.size := Heap.lt_size (N _ hmem).1
  refine wpAny_pyIter_tuple hl ?_
  have up : ∀ b o, s₁.heap.get? b = some o → (s₁.heap.push { cls := .type "tuple_iterator", data := .fields #[.ref ax, .int 0 0] }).get? b = some o := fun b o e => Heap.get?_push_of_some _ e
  refine LCg.block_U (Walks.tuple hh s₁.heap.objs.size ax (Nat.ne_of_lt hlt) its) hsz (fun i h st => by obtain ⟨o, e, _⟩ := st.1; exact ⟨o, e⟩) (tup_st hc hd) hcell hkind hx ⟨⟨_, Heap.get?_push_size _ rfl, rfl, rfl⟩, hl.push _⟩ (fun b hb => ?_)
    (F.keeps up) (N.grown up) (Nat.ne_of_lt F.ns.lt) (next_is_new F) (fun p hp => Nat.ne_of_lt (Heap.lt_size (N p hp).1)) hmem (R _ ⟨_, rfl⟩) ?_
  · show b < (s₁.heap.push _).objs.size
    rw [Heap.size_push]
    rcases List.mem_cons.mp hb with rfl | hb
    · exact Nat.lt_succ_self _
    · rw [List.mem_singleton.mp hb]; exact Nat.lt_succ_of_lt hlt
  · intro D C h' tk m' ys news' F' N' o1 hn hC₀ hD₀ hCL hDL hCD offC fin
    show wpAny _ A (assign (.Name y py) env (.ref D)) _ _ _
    refine wpAny_assign_Name (wpAny_storeName_local hy F'.ns (fun h₂ hn₂ hs₂ => ?_) hp)
    have hL₀ : h₀.get? env.locals = none := Heap.get?_none_of_le F'.above
    have F₂ : Fr h₀ env.locals h₂ (fun z => if z = y then some (.ref D) else m z) := ⟨hn₂, fun b o e => hs₂.extBut b o (fun q => by rw [q, hL₀] at e; cases e) (F'.keep b o e), F'.above⟩
    refine ⟨m', hn.sameBut hs₂ hCL, fun h'' hs'' => fin D h'' _ (F₂.change hs'' hCL hC₀) (fun p hp => ?_) o1⟩
    have z : h₂.get? p.1 = some p.2 := hs₂.extBut _ _ (N' p hp).2.1 (N' p hp).1
    refine ⟨hs''.extBut _ _ ?_ z, (N' p hp).2⟩
    rcases List.mem_cons.mp hp with rfl | hp
    · exact Ne.symm hCD
    · exact offC p hp
end
end Mine

namespace Mine
section
variable {M : Model} {A : Around} {α : Type} {E : Value → Shared → Prop} {s : Shared} {h₀ : Heap} {L : Addr} {m : Str → Option Value} {news : List (Addr × Obj)}

def FarEnd (h₀ : Heap) (L : Addr) (m : Str → Option Value) (p5 p4 p3 p2 : Addr × Obj) (c : Addr) (s : Shared) (f : Flow) (s' : Shared) : Prop :=
  ∃ h' tk o' fv t, f = .next ∧ s' = { s with heap := h', toks := tk } ∧ Fr h₀ L h' m ∧ News h₀ L h' [p5, p4, p3, p2, (c, o')] ∧ o'.data = .cell (some (.int fv t)) ∧ 0 ≤ fv ∧ fv < 1000000
theorem FarEnd.intro {p5 p4 p3 p2 : Addr × Obj} {c : Addr} {h' : Heap} {tk : Nat} {o' : Obj} {fv : Int} {t : Tok} (F : Fr h₀ L h' m) (N : News h₀ L h' [p5, p4, p3, p2, (c, o')]) (d : o'.data = .cell (some (.int fv t))) (b0 : 0 ≤ fv) (b1 : fv < 1000000) :
    FarEnd h₀ L m p5 p4 p3 p2 c s .next { s with heap := h', toks := tk } := ⟨h', tk, o', fv, t, rfl, rfl, F, N, d, b0, b1⟩
theorem far_join {p5 p4 p3 p2 : Addr × Obj} {c : Addr} {o : Obj} {f : Sem Flow} {Q : Flow → Shared → Prop} (_F : Fr h₀ L s.heap m) (_N : News h₀ L s.heap [p5, p4, p3, p2, (c, o)])
    (h1 : wpAny M A f (FarEnd h₀ L m p5 p4 p3 p2 c s) E s)
    (h2 : ∀ h' tk o' fv t, Fr h₀ L h' m → News h₀ L h' [p5, p4, p3, p2, (c, o')] → o'.data = .cell (some (.int fv t)) → 0 ≤ fv → fv < 1000000 → Q .next { s with heap := h', toks := tk }) :
    wpAny M A f Q E s :=
  wpAny_mono h1 (fun fl s' ⟨h', tk, o', fv, t, e, e', F', N', d, b1, b2⟩ => by subst e; subst e'; exact h2 h' tk o' fv t F' N' d b1 b2) fun _ _ e => e

def ListEnd (h₀ : Heap) (L : Addr) (m : Str → Option Value) (news : List (Addr × Obj)) (s : Shared) (v : Value) (s' : Shared) : Prop :=
  ∃ D c vs ns h' tk, v = .ref D ∧ s' = { s with heap := h', toks := tk } ∧ Fr h₀ L h' m ∧ News h₀ L h' ((D, PySem.W.listOf (List.toArray vs) c) :: news) ∧ IntsAre vs ns ∧ ns.length ≤ 12
theorem ListEnd.intro {D : Addr} {c : Nat} {vs : List Value} {ns : List Int} {h' : Heap} {tk : Nat} (F : Fr h₀ L h' m) (N : News h₀ L h' ((D, PySem.W.listOf (List.toArray vs) c) :: news)) (hi : IntsAre vs ns) (hl : ns.length ≤ 12) :
    ListEnd h₀ L m news s (.ref D) { s with heap := h', toks := tk } := ⟨D, c, vs, ns, h', tk, rfl, rfl, F, N, hi, hl⟩
theorem list_join {f : Sem Value} {Q : Value → Shared → Prop} (_F : Fr h₀ L s.heap m) (_N : News h₀ L s.heap news)
    (h1 : wpAny M A f (ListEnd h₀ L m news s) E s)
    (h2 : ∀ D c vs ns h' tk, Fr h₀ L h' m → News h₀ L h' ((D, PySem.W.listOf (List.toArray vs) c) :: news) → IntsAre vs ns → ns.length ≤ 12 → Q (.ref D) { s with heap := h', toks := tk }) :
    wpAny M A f Q E s :=
  wpAny_mono h1 (fun v s' ⟨D, c, vs, ns, h', tk, e, e', F', N', i, l⟩ => by subst e; subst e'; exact h2 D c vs ns h' tk F' N' i l) fun _ _ e => e
theorem drop2 {h : Heap} {a b : Addr × Obj} (N : News h₀ L h (a :: b :: news)) : News h₀ L h (a :: news) := fun p hp => by
  rcases List.mem_cons.mp hp with rfl | hp
  · exact N _ (.head _)
  · exact N _ (.tail _ (.tail _ hp))
end
section
variable {prog : Program} {w : World} {A : Around} {E : Value → Shared → Prop} {s : Shared} {h₀ : Heap} {L a b : Addr} {m : Str → Option Value} {news : List (Addr × Obj)} {xs ys : List Value} {ka kb : Nat} {ns ms : List Int} {Q : Value → Shared → Prop}
theorem ints_dat {nw : List (Addr × Obj)} : ∀ {xs : List Value} {ns : List Int}, IntsAre xs ns → DatAll nw xs (ns.map .int)
  | _, _, .nil => .nil
  | _, _, .cons n t x => .cons (.int n t) (ints_dat x)
theorem ints_ok (k : Nat) (ns : List Int) : ∀ d ∈ ns.map Dat.int, kqdOk k d = true := by
  intro d hd
  obtain ⟨n, -, rfl⟩ := List.mem_map.mp hd
  cases k <;> rfl
open Classical in
theorem int_mem (n : Int) (ns : List Int) : decide (Dat.int n ∈ ns.map Dat.int) = decide (n ∈ ns) := by
  by_cases h : n ∈ ns
  · rw [decide_eq_true h, decide_eq_true (List.mem_map.mpr ⟨n, h, rfl⟩)]
  · rw [decide_eq_false h, decide_eq_false]
    intro hm
    obtain ⟨k, hk, e⟩ := List.mem_map.mp hm
    injection e with e
    exact h (e ▸ hk)
theorem notIn_ints {n : Int} {t : Tok} (N : News h₀ L s.heap news) (ma : (a, PySem.W.listOf xs.toArray ka) ∈ news) (hi : IntsAre xs ns) (hu : A.units + 64 < cLine)
    (h : Q (.bool (!decide (n ∈ ns))) s) : wpAny (model prog w) A (compareOp .NotIn (.int n t) (.ref a)) Q E s := by
  classical
  refine kqd_notIn N ma rfl rfl (ints_dat (nw := news) hi) (fun _ h => h) (d := .int n) (n₂ := news) (.int n t) (fun _ h => h) (ints_ok 8 ns) rfl hu ?_
  rw [int_mem]
  by_cases hm : n ∈ ns
  · rw [decide_eq_true hm] at h ⊢; exact h
  · rw [decide_eq_false hm] at h ⊢; exact h
theorem in_ints {n : Int} {t : Tok} (N : News h₀ L s.heap news) (ma : (a, PySem.W.listOf xs.toArray ka) ∈ news) (hi : IntsAre xs ns) (hu : A.units + 64 < cLine)
    (h : Q (.bool (decide (n ∈ ns))) s) : wpAny (model prog w) A (compareOp .In (.int n t) (.ref a)) Q E s := by
  classical
  refine kqd_isIn N ma rfl rfl (ints_dat (nw := news) hi) (fun _ h => h) (d := .int n) (n₂ := news) (.int n t) (fun _ h => h) (ints_ok 8 ns) rfl hu ?_
  rw [int_mem]
  by_cases hm : n ∈ ns
  · rw [decide_eq_true hm] at h ⊢; exact h
  · rw [decide_eq_false hm] at h ⊢; exact h

/-- lists of bools -/
inductive BoolsAre : List Value → List Bool → Prop
  | nil : BoolsAre [] []
  | cons (b : Bool) {vs : List Value} {bs : List Bool} : BoolsAre vs bs → BoolsAre (.bool b :: vs) (b :: bs)
theorem BoolsAre.snoc {vs : List Value} {bs : List Bool} (h : BoolsAre vs bs) (b : Bool) : BoolsAre (vs ++ [.bool b]) (bs ++ [b]) := by
  induction h with
  | nil => exact .cons b .nil
  | cons c _ ih => exact .cons c ih
theorem BoolsAre.reads (h : Heap) : ∀ {vs : List Value} {bs : List Bool}, BoolsAre vs bs → ReadsAll h vs (bs.map .bool) []
  | _, _, .nil => .nil
  | _, _, .cons b x => .cons (as := []) (.bool b) (x.reads h)
theorem bools_lay : ∀ bs : List Bool, PyData.canLayAll0 (bs.map .bool) = true ∧ PyData.depthAll (bs.map .bool) ≤ 0
  | [] => by simp [PyData.canLayAll0, PyData.depthAll]
  | b :: bs => by
    have q := bools_lay bs
    simp only [List.map_cons, PyData.canLayAll0, PyData.depthAll, PyData.canLay0, PyData.depth, Bool.true_and, q.1, true_and]
    have := q.2
    omega
theorem bools_shaped (bs : List Bool) : SeqAt.shaped (.list (bs.map .bool)) = true := by
  have q := bools_lay bs
  unfold SeqAt.shaped
  simp only [PyData.canLay0, PyData.depth, q.1, Bool.true_and]
  exact decide_eq_true (by have := q.2; omega)
theorem bools_eqv : ∀ bs : List Bool, PyData.eqvAll (bs.map .bool) (bs.map .bool) = true
  | [] => rfl
  | b :: bs => by
    simp only [List.map_cons, PyData.eqvAll, PyData.eqv, bools_eqv bs, Bool.and_true, beq_self_eq_true]
theorem ne_bools {bs : List Bool} (N : News h₀ L s.heap news) (ma : (a, LCg.lst xs) ∈ news) (mb : (b, LCg.lst ys) ∈ news) (ha : BoolsAre xs bs) (hb : BoolsAre ys bs) (hu : A.units + 64 < cLine)
    (h : Q (.bool false) s) : wpAny (model prog w) A (compareOp .NotEq (.ref a) (.ref b)) Q E s := by
  refine ne_dataH (reads_list_at (N.get ma) rfl rfl (by simpa using ha.reads s.heap)) (reads_list_at (N.get mb) rfl rfl (by simpa using hb.reads s.heap)) (bools_shaped bs) (bools_shaped bs) hu ?_
  rw [PyData.eqv, bools_eqv]; exact h
theorem eq_bools {bs : List Bool} (N : News h₀ L s.heap news) (ma : (a, LCg.lst xs) ∈ news) (mb : (b, LCg.lst ys) ∈ news) (ha : BoolsAre xs bs) (hb : BoolsAre ys bs) (hu : A.units + 64 < cLine)
    (h : Q (.bool true) s) : wpAny (model prog w) A (compareOp .Eq (.ref a) (.ref b)) Q E s := by
  refine eq_dataH (reads_list_at (N.get ma) rfl rfl (by simpa using ha.reads s.heap)) (reads_list_at (N.get mb) rfl rfl (by simpa using hb.reads s.heap)) (bools_shaped bs) (bools_shaped bs) hu ?_
  rw [PyData.eqv, bools_eqv]; exact h

abbrev tupO (us : List Value) : Obj := { cls := .type "tuple", data := .seq us.toArray }
theorem ints_lay : ∀ ns : List Int, PyData.canLayAll0 (ns.map .int) = true ∧ PyData.depthAll (ns.map .int) ≤ 0
  | [] => by simp [PyData.canLayAll0, PyData.depthAll]
  | b :: bs => by
    have q := ints_lay bs
    simp only [List.map_cons, PyData.canLayAll0, PyData.depthAll, PyData.canLay0, PyData.depth, Bool.true_and, q.1, true_and]
    have := q.2
    omega
theorem ints_shaped (ns : List Int) : SeqAt.shaped (.tuple (ns.map .int)) = true := by
  have q := ints_lay ns
  unfold SeqAt.shaped
  simp only [PyData.canLay0, PyData.depth, q.1, Bool.true_and]
  exact decide_eq_true (by have := q.2; omega)
theorem ints_eqv : ∀ ns : List Int, PyData.eqvAll (ns.map .int) (ns.map .int) = true
  | [] => rfl
  | b :: bs => by
    simp only [List.map_cons, PyData.eqvAll, PyData.eqv, ints_eqv bs, Bool.and_true, beq_self_eq_true]
theorem ne_tups (N : News h₀ L s.heap news) (ma : (a, tupO xs) ∈ news) (mb : (b, tupO ys) ∈ news) (ha : IntsAre xs ns) (hb : IntsAre ys ns) (hu : A.units + 64 < cLine)
    (h : Q (.bool false) s) : wpAny (model prog w) A (compareOp .NotEq (.ref a) (.ref b)) Q E s := by
  refine ne_dataH (reads_tuple_at (N.get ma) rfl rfl (by simpa using ha.reads s.heap)) (reads_tuple_at (N.get mb) rfl rfl (by simpa using hb.reads s.heap)) (ints_shaped ns) (ints_shaped ns) hu ?_
  rw [PyData.eqv, ints_eqv]; exact h

abbrev pairD (p : Int × Int) : Dat := .tuple [.int p.1, .int p.2]
theorem pairs_ok (rs : List (Int × Int)) : ∀ d ∈ rs.map pairD, kqdOk 8 d = true := by
  intro d hd
  obtain ⟨p, -, rfl⟩ := List.mem_map.mp hd
  rfl
theorem ne_pairs {oa ob : Obj} {rs : List (Int × Int)} (N : News h₀ L s.heap news) (ma : (a, oa) ∈ news) (ca : oa.cls = .type "list") (da : oa.data = .seq xs.toArray ka) (mb : (b, ob) ∈ news) (cb : ob.cls = .type "list") (db : ob.data = .seq ys.toArray kb)
    (ha : DatAll news xs (rs.map pairD)) (hb : DatAll news ys (rs.map pairD)) (hu : A.units + 64 < cLine)
    (h : Q (.bool false) s) : wpAny (model prog w) A (compareOp .NotEq (.ref a) (.ref b)) Q E s := by
  classical
  refine kqd_ne N ma ca da ha (fun _ h => h) mb cb db hb (fun _ h => h) (pairs_ok rs) (pairs_ok rs) hu ?_
  rw [decide_eq_true rfl]; exact h

theorem from_N {w : World} {A : Around} {E : Value → Shared → Prop} {mean : ExcName → Option Value} {mg mb : Str → Option Value}
    {l : Addr} {vs : List Value} {ns : List Int} {c : Nat} (F : Fr h₀ L s.heap m) (N : News h₀ L s.heap news) (X : (hd.heap_39 w.params).In h₀) (T : TopOf mean mg mb h₀) (hroom : A.depth + 1 < recursionLimit) (hh : A.handled = none)
    (hl : (l, PySem.W.listOf vs.toArray c) ∈ news) (hi : IntsAre vs ns) (hb : ∀ n ∈ ns, 0 ≤ n ∧ n < 2 ^ 29) (hnd : ns.Nodup) (hfit : ns.length < 64)
    (h : ∀ h' tk D us xs, Fr h₀ L h' m → News h₀ L h' ((D, tupO us) :: news) → (∀ p ∈ news, p.1 < D) → xs.Perm ns → xs.Pairwise (· < ·) → IntsAre us ((runsOf xs).map encOf) → Q (.ref D) { s with heap := h', toks := tk }) :
    wpAny (model PySem.Challenge.rw_vt0001_01.row.prog w) A (call (.ref 49) [.ref l]) Q E s := by
  refine from_spec (Frag.In.keeps X F.keep) (Top.keeps T F.keep) hroom hh (News.isList N hl) hi hb hnd hfit ?_
  intro h' tk D us xs hk hD hg hp hs hu
  have lt : ∀ p ∈ news, p.1 < D := fun p hp => Nat.lt_of_lt_of_le (Heap.lt_size (N p hp).1) hD
  refine h h' tk D us xs (F.keeps hk) (fun p hp => ?_) lt hp hs hu
  rcases List.mem_cons.mp hp with rfl | hp
  · refine ⟨hg, ?_, ?_⟩
    · exact Ne.symm (Nat.ne_of_lt (Nat.lt_of_lt_of_le F.ns.lt hD))
    · cases e : h₀.get? D with
      | none => rfl
      | some o' => exact absurd (Heap.lt_size (F.keep _ _ e)) (Nat.not_lt.mpr hD)
  · exact N.grown hk p hp
end
theorem m_skip {α : Type} {y z : Str} {v : α} {u m' m₀ : Str → α} (hz : [y].contains z = false) (e : m' = fun x => if x = y then v else if [y].contains x = true then u x else m₀ x) : m' z = m₀ z := by
  have h1 : z ≠ y := by rintro rfl; simp at hz
  rw [e]
  show (if z = y then v else if [y].contains z = true then u z else m₀ z) = m₀ z
  rw [if_neg h1, hz]
  rfl
def SameL (_h₀ : Heap) (_L : Addr) : Prop := True
theorem SameL.of {h₀ h : Heap} {L : Addr} {m : Str → Option Value} (_F : Fr h₀ L h m) : SameL h₀ L := True.intro
theorem at_LF {h₀ h : Heap} {L L' : Addr} {m : Str → Option Value} (_k : SameL h₀ L) (F : Fr h₀ L' h m) (e : L' = L) : Fr h₀ L h m := e ▸ F
theorem at_LN {h₀ h : Heap} {L L' : Addr} {news : List (Addr × Obj)} (_k : SameL h₀ L) (N : News h₀ L' h news) (e : L' = L) : News h₀ L h news := e ▸ N
theorem spread {h₀ h : Heap} {L : Addr} {a : Addr × Obj} {base nw : List (Addr × Obj)} (N : News h₀ L h (a :: nw)) (hb : ∀ p ∈ base, p ∈ nw) : News h₀ L h (a :: (base ++ nw)) := fun p hp => by
  rcases List.mem_cons.mp hp with rfl | hp
  · exact N _ (.head _)
  · rcases List.mem_append.mp hp with hp | hp
    · exact N _ (.tail _ (hb p hp))
    · exact N _ (.tail _ hp)
theorem dat_snoc {nw : List (Addr × Obj)} {v : Value} {d : Dat} (hv : DatIn nw v d) : ∀ {vs : List Value} {ds : List Dat}, DatAll nw vs ds → DatAll nw (vs ++ [v]) (ds ++ [d])
  | _, _, .nil => .cons hv .nil
  | _, _, .cons a r => .cons a (dat_snoc hv r)
theorem dat_length {nw : List (Addr × Obj)} : ∀ {vs : List Value} {ds : List Dat}, DatAll nw vs ds → vs.length = ds.length
  | _, _, .nil => rfl
  | _, _, .cons _ r => congrArg (· + 1) (dat_length r)
theorem enc_split {r : Int × Int} (h0 : 0 ≤ r.2) (h1 : r.2 < 2 ^ 30) : (encOf r).fdiv (2 ^ Int.toNat 32) = r.1 ∧ (encOf r).fmod (2 ^ Int.toNat 32) = r.2 := by
  have e1 : (encOf r).fdiv (2 ^ Int.toNat 32) = encOf r / 2 ^ 32 := Int.fdiv_eq_ediv_of_nonneg _ (by decide)
  have e2 : (encOf r).fmod (2 ^ Int.toNat 32) = encOf r % 2 ^ 32 := Int.fmod_eq_emod_of_nonneg _ (by decide)
  rw [e1, e2]
  unfold encOf
  omega
theorem off3_cons {I C D : Addr} {p : Addr × Obj} {l : List (Addr × Obj)} (h : LCg.Off3 I C D l) (a : I < p.1) (b : C < p.1) (c : D < p.1) : LCg.Off3 I C D (p :: l) := ⟨⟨Ne.symm (Nat.ne_of_lt a), Ne.symm (Nat.ne_of_lt b), Ne.symm (Nat.ne_of_lt c)⟩, h⟩
theorem rot4 {α : Type} {a b c t : α} {l : List α} : ∀ p ∈ a :: b :: c :: t :: l, p ∈ t :: a :: b :: c :: l := fun p hp => by
  simp only [List.mem_cons] at hp ⊢
  rcases hp with h | h | h | h | h
  · exact .inr (.inl h)
  · exact .inr (.inr (.inl h))
  · exact .inr (.inr (.inr (.inl h)))
  · exact .inl h
  · exact .inr (.inr (.inr (.inr h)))
theorem dat_unsnoc {nw : List (Addr × Obj)} {d : Dat} : ∀ {ds : List Dat} {vs : List Value}, DatAll nw vs (ds ++ [d]) → ∃ vs0 v, vs = vs0 ++ [v] ∧ DatAll nw vs0 ds ∧ DatIn nw v d
  | [], _, .cons a .nil => ⟨[], _, rfl, .nil, a⟩
  | _ :: _, _, .cons a r => by
    obtain ⟨vs0, v, e, h1, h2⟩ := dat_unsnoc r
    exact ⟨_ :: vs0, v, by rw [e]; rfl, .cons a h1, h2⟩
theorem dat_pair {nw : List (Addr × Obj)} {v : Value} {p : Int × Int} (h : DatIn nw v (pairD p)) : ∃ a n t1 t2, v = .ref a ∧ (a, ({ cls := .type "tuple", data := .seq [Value.int p.1 t1, Value.int p.2 t2].toArray n } : Obj)) ∈ nw := by
  cases h with
  | tuple hm r =>
    cases r with
    | cons a r =>
      cases r with
      | cons b r =>
        cases r
        cases a
        cases b
        exact ⟨_, _, _, _, rfl, hm⟩
section
variable {prog : Program} {w : World} {A : Around} {E : Value → Shared → Prop} {s : Shared} {h₀ : Heap} {L a b D : Addr} {m : Str → Option Value} {news news' : List (Addr × Obj)} {xs ys vs : List Value} {ka kb n : Nat} {t : Tok} {v y : Value}
theorem ne_nil_pairs {rs : List (Int × Int)} {Q : Value → Shared → Prop} (N : News h₀ L s.heap news) (ma : (a, PySem.W.listOf xs.toArray ka) ∈ news) (mb : (b, PySem.W.listOf #[] kb) ∈ news)
    (ha : DatAll news xs (rs.map pairD)) (hu : A.units + 64 < cLine)
    (h : Q (.bool (!rs.isEmpty)) s) : wpAny (model prog w) A (compareOp .NotEq (.ref a) (.ref b)) Q E s := by
  classical
  refine kqd_ne N ma rfl rfl ha (fun _ h => h) mb rfl (ys := []) rfl (n₂ := []) .nil (fun _ h => nomatch h) (pairs_ok rs) (fun _ h => nomatch h) hu ?_
  cases rs with
  | nil => rw [List.map_nil, decide_eq_true rfl]; exact h
  | cons r rs => rw [List.map_cons, decide_eq_false (List.cons_ne_nil _ _)]; exact h
theorem last_item {value slice : PySem.Expr} {Q : Value → Shared → Prop} (N : News h₀ L s.heap news) (ma : (a, PySem.W.listOf (vs ++ [v]).toArray n) ∈ news) (hz : vs.length < 1000) (h : Q v s)
    (hs : subscripted slice false (.ref a) (.int (-1) t) = operate [.ref a, .int (-1) t] (getItem (.ref a) (.int (-1) t))) : wpAny (model prog w) A (subscriptTail value slice (.ref a) (.int (-1) t)) Q E s := by
  refine kde_neg (News.isList N ma) (by decide) (by decide) (j := vs.length) ?_ ?_ h hs
  · rw [PySem.seqIndex_neg (by decide) (by rw [List.length_append, List.length_singleton]; omega), List.length_append, List.length_singleton]
    congr 1
    omega
  · simp
theorem set_last {Q : Unit → Shared → Prop} (F : Fr h₀ L s.heap m) (N : News h₀ L s.heap news) (U : Upd D (PySem.W.listOf (vs ++ [v]).toArray n) (PySem.W.listOf (vs ++ [y]).toArray n) news news')
    (h : ∀ h', Fr h₀ L h' m → News h₀ L h' news' → Q () { s with heap := h' }) : wpAny (model prog w) A (setItem (.ref D) (.int (-1) t) y) Q E s := by
  obtain ⟨pre, post, rfl, rfl, a, b⟩ := U.split
  have z := N (D, PySem.W.listOf (vs ++ [v]).toArray n) (List.mem_append.mpr (.inr (.head _)))
  refine ki_setBack z.1 (by decide) (by simp; omega) (by decide) (h _ (F.change (Heap.SameBut.update ..) z.2.1 z.2.2) (ki_turn _ N a b ?_ ?_))
  · have e : (-1 + ((vs ++ [v]).toArray.size : Int)).toNat = vs.length := by simp; omega
    show (vs ++ [v]).toArray.setIfInBounds (-1 + ((vs ++ [v]).toArray.size : Int)).toNat y = (vs ++ [y]).toArray
    rw [e]
    apply Array.toList_inj.mp
    simp
  · simp
end
theorem mem_rot {α : Type} {t : α} {tl : List α} : ∀ (base : List α), ∀ p ∈ base ++ (t :: tl), p ∈ t :: (base ++ tl) := fun base p hp => by
  rcases List.mem_append.mp hp with hp | hp
  · exact .tail _ (List.mem_append_left _ hp)
  · rcases List.mem_cons.mp hp with rfl | hp
    · exact .head _
    · exact .tail _ (List.mem_append_right _ hp)
theorem add_mem {h₀ h : Heap} {L : Addr} {news : List (Addr × Obj)} {p : Addr × Obj} (N : News h₀ L h news) (hm : p ∈ news) : News h₀ L h (p :: news) := fun q hq => by
  rcases List.mem_cons.mp hq with rfl | hq
  · exact N _ hm
  · exact N _ hq
def boolsOf (a : Int) (f : Int → Bool) (n : Nat) : List Bool := (List.range n).map fun (j : Nat) => f (a + (j : Int))
theorem boolsOf_succ (a : Int) (f : Int → Bool) (n : Nat) : boolsOf a f (n + 1) = boolsOf a f n ++ [f (a + (n : Int))] := by
  unfold boolsOf; rw [List.range_succ, List.map_append]; rfl
theorem boolsOf_congr {a : Int} {f g : Int → Bool} {n : Nat} (h : ∀ k, f k = g k) : boolsOf a f n = boolsOf a g n := by
  have e : f = g := funext h
  rw [e]
section
variable {prog : Program} {w : World} {A : Around} {E : Value → Shared → Prop} {s : Shared} {env : Env} {h₀ : Heap} {L : Addr} {m : Str → Option Value} {news : List (Addr × Obj)}
theorem comp_bools {elt : Expr} {x : Str} {scope : Scope} {cl : List (Str × Addr)} {Fin : List Value → List (Addr × Obj) → Prop} {n : Nat} {a : Int} (f : Int → Bool)
    (turn : ∀ (i : Nat) t ys I oI C oC D m₂ h tk (E' : Value → Shared → Prop), i < n → LCg.NsObj oC m₂ → m₂ x = some (.int (a + (i : Int)) t) → Fr h₀ L h m → News h₀ L h ((I, oI) :: (C, oC) :: (D, LCg.lst ys) :: news) → LCg.Off3 I C D news →
      wpAny (model prog w) A (eval elt (compEnvC scope cl C env)) (LCg.CompEnd h₀ L m { s with heap := h, toks := tk } I oI C oC D (LCg.lst ys) (fun _ => True) (fun y news' => news' = news ∧ y = .bool (f (a + (i : Int))))) E' { s with heap := h, toks := tk })
    (fin : ∀ ys, BoolsAre ys (boolsOf a f n) → Fin ys news) :
    LCg.CompRest prog w A h₀ L m env elt x scope cl s (fun _ => True) (fun i v => ∃ t, v = .int (a + (i : Int)) t) Fin n 0 [] news := by
  refine comp_turns (fun i ys nw => nw = news ∧ BoolsAre ys (boolsOf a f i)) ⟨rfl, .nil⟩ ?_ ?_
  · intro i v ys nw I oI C oC D m₂ h tk E' hi hv hy hC hx F N off ne
    obtain ⟨e, hb⟩ := hy
    rw [e] at N off
    obtain ⟨t, rfl⟩ := hv
    refine wpAny_mono (turn i t ys I oI C oC D m₂ h tk E' hi hC hx F N off) (fun y s₂ hq => ?_) fun _ _ e => e
    obtain ⟨h', tk', nw', e1, F', N', off', hS, e2, e3⟩ := hq
    refine ⟨h', tk', nw', e1, F', N', off', hS, e2, ?_⟩
    rw [e3, boolsOf_succ]
    exact hb.snoc _
  · intro ys nw hy
    rw [hy.1]
    exact fin ys hy.2
theorem bool_end {I C D : Addr} {oI oC : Obj} {ys : List Value} {h h' : Heap} {tk tk' : Nat} {b b' : Bool} (F : Fr h₀ L h' m) (N : News h₀ L h' ((I, oI) :: (C, oC) :: (D, LCg.lst ys) :: news)) (off : LCg.Off3 I C D news) (e : b' = b) :
    LCg.CompEnd h₀ L m { s with heap := h, toks := tk } I oI C oC D (LCg.lst ys) (fun _ => True) (fun y news' => news' = news ∧ y = .bool b) (.bool b') { s with heap := h', toks := tk' } :=
  ⟨h', tk', news, rfl, F, N, off, trivial, rfl, by rw [e]⟩
theorem contain_N {w : World} {A : Around} {E : Value → Shared → Prop} {Q : Value → Shared → Prop} {mean : ExcName → Option Value} {mg mb : Str → Option Value}
    {l : Addr} {vs : List Value} {rs : List (Int × Int)} {n : Int} {tn : Tok} (F : Fr h₀ L s.heap m) (N : News h₀ L s.heap news) (X : (hd.heap_39 w.params).In h₀) (T : TopOf mean mg mb h₀) (hroom : A.depth + 1 < recursionLimit) (hh : A.handled = none)
    (hn : 0 ≤ n) (hn2 : n < 2 ^ 30) (ht : (l, tupO vs) ∈ news) (hi : IntsAre vs (rs.map encOf)) (hr : Runs rs) (hfit : rs.length < 1000)
    (h : ∀ h' tk, Fr h₀ L h' m → News h₀ L h' news → Q (.bool (inRuns rs n)) { s with heap := h', toks := tk }) :
    wpAny (model PySem.Challenge.rw_vt0001_01.row.prog w) A (call (.ref 70) [.int n tn, .ref l]) Q E s :=
  contain_spec (Frag.In.keeps X F.keep) (Top.keeps T F.keep) hroom hh hn hn2 (News.isTup N ht) hi hr hfit fun h' tk hk => h h' tk (F.keeps hk) (N.grown hk)
end
theorem sub5 {h₀ h : Heap} {L : Addr} {a b c d e : Addr × Obj} {news : List (Addr × Obj)} (N : News h₀ L h (a :: b :: c :: d :: e :: news)) : News h₀ L h news := fun p hp => N p (.tail _ (.tail _ (.tail _ (.tail _ (.tail _ hp)))))
theorem drop1 {h₀ h : Heap} {L : Addr} {a : Addr × Obj} {news : List (Addr × Obj)} (N : News h₀ L h (a :: news)) : News h₀ L h news := fun p hp => N p (.tail _ hp)
theorem dat_at {nw : List (Addr × Obj)} : ∀ {vs : List Value} {rs : List (Int × Int)}, DatAll nw vs (rs.map pairD) → ∀ (i : Nat) v, vs[i]? = some v → ∃ p, p ∈ rs ∧ DatIn nw v (pairD p)
  | [], _, _, i, v, h => by simp at h
  | _ :: _, [], h, _, _, _ => nomatch h
  | v0 :: vs, r :: rs, .cons a q, 0, v, h => by
    simp only [List.getElem?_cons_zero, Option.some.injEq] at h
    subst h
    exact ⟨r, .head _, a⟩
  | v0 :: vs, r :: rs, .cons a q, i + 1, v, h => by
    simp only [List.getElem?_cons_succ] at h
    obtain ⟨p, hp, hd⟩ := dat_at q i v h
    exact ⟨p, .tail _ hp, hd⟩
theorem keep_few {h₀ h : Heap} {L : Addr} {d a b c e f5 fn f2 c5 c4 c3 c2 c1 : Addr × Obj} {tl : List (Addr × Obj)} (N : News h₀ L h (d :: a :: b :: c :: e :: f5 :: fn :: f2 :: c5 :: c4 :: c3 :: c2 :: c1 :: tl)) : News h₀ L h [d, f5, fn, c5, c4, c3, c2, c1] := fun p hp => by
  refine N p ?_
  simp only [List.mem_cons, List.not_mem_nil, or_false] at hp ⊢
  rcases hp with h | h | h | h | h | h | h | h
  · exact .inl h
  · exact .inr (.inr (.inr (.inr (.inr (.inl h)))))
  · exact .inr (.inr (.inr (.inr (.inr (.inr (.inl h))))))
  · exact .inr (.inr (.inr (.inr (.inr (.inr (.inr (.inr (.inl h))))))))
  · exact .inr (.inr (.inr (.inr (.inr (.inr (.inr (.inr (.inr (.inl h)))))))))
  · exact .inr (.inr (.inr (.inr (.inr (.inr (.inr (.inr (.inr (.inr (.inl h))))))))))
  · exact .inr (.inr (.inr (.inr (.inr (.inr (.inr (.inr (.inr (.inr (.inr (.inl h)))))))))))
  · exact .inr (.inr (.inr (.inr (.inr (.inr (.inr (.inr (.inr (.inr (.inr (.inr (.inl h))))))))))))
end Mine

open Mine
local macro_rules | `(tactic| walk_at "MYSTEPS") => `(tactic| repeat' ((fail_if_success (with_reducible show wpAny _ _ (exec (Stmt.For _ _ _ _ _) _) _ _ _)); (fail_if_success (with_reducible show wpAny _ _ (exec (Stmt.Assign _ (Expr.ListComp _ _ _ _) _) _) _ _ _)); (fail_if_success (with_reducible show wpAny _ _ (eval (Expr.ListComp _ _ _ _) _) _ _ _)); (fail_if_success (with_reducible show wpAny _ _ (pyIter (Value.ref _)) _ _ _)); (fail_if_success (with_reducible show FarEnd _ _ _ _ _ _ _ _ _ _ _)); (fail_if_success (with_reducible show ListEnd _ _ _ _ _ _ _)); (fail_if_success (with_reducible show LCg.CompSrc _ _ _ _ _ _ _ _ _ _ _ _ _ _)); (fail_if_success (with_reducible show wpAny _ _ (call (Value.ref 70) _) _ _ _)); (fail_if_success (with_reducible show TupSrc _ _ _ _ _ _ _ _ _ _ _ _ _ _ _)); (fail_if_success (with_reducible show TurnPost _ _ _ _ _ _ _ _ _)); (fail_if_success (with_reducible show LCg.CompEnd _ _ _ _ _ _ _ _ _ _ _ _ _ _)); (fail_if_success (with_reducible show wpAny _ _ (compareOp _ _ (Value.ref _)) _ _ _)); (fail_if_success (with_reducible show wpAny _ _ (call (Value.builtin "sorted") _) _ _ _)); (fail_if_success (with_reducible show wpAny _ _ (call (Value.ref 49) _) _ _ _)); (first | (k_unfold; (try dsimp only)) | (k_end; wrow_close) | walk1 | (dsimp only; walk1) | (leave1; walk_say "STEP leave1"; try dsimp only) | fail "no step")))
local macro_rules | `(tactic| walk_at "subscriptTail Name UnaryOp ref int") => `(tactic| (k_here; (with_reducible show wpAny _ _ (subscriptTail _ _ (Value.ref _) (Value.int (-1) _)) _ _ _); (refine last_item (by k_asm) (by k_mem) (by assumption) ?_ (by with_unfolding_all rfl))))
local macro_rules | `(tactic| walk_at "MYFIRST") => `(tactic| repeat' ((fail_if_success (with_reducible show wpAny _ _ (exec (Stmt.Assign _ (Expr.BinOp _ Operator.Mod _ _) _) _) _ _ _)); (first | (k_unfold; (try dsimp only)) | walk1 | (dsimp only; walk1) | fail "no step")))
set_option maxHeartbeats 8000000 in
theorem PySem.Challenge.cw_vt0001_01_holds : PySem.Challenge.rw_vt0001_01.Holds := by
  refine hd ?walk
  k_go0
  all_goals try k_fold
  walk_at "MYFIRST"
  rename Fr _ _ _ _ => zF
  rename News _ _ _ _ => zN
  refine far_join zF zN ?far ?rest
  case far =>
    walk_at "MYSTEPS"
    all_goals
      refine' FarEnd.intro ?zF ?zN ?zd ?z0 ?z1
      case zF => k_asm
      case zN => k_asm
      case zd => assumption
      case z0 => exact Int.fmod_nonneg_of_pos _ (by decide)
      case z1 => exact Int.fmod_lt_of_pos _ (by decide)
  case rest =>
    have kL := SameL.of zF
    clear zF zN
    intro hfa tkfa ofa fv tfv F' N' dfa bfa0 bfa1
    try dsimp only
    walk_at "MYSTEPS"
    k_dflt (refine' LCg.Assign_ListComp_U (F₀ := F') ?c1 ?c2 ?c3 ?c4 ?c5 ?c6 ?c7 ?c8 ?c9 ?drawn)
    case c1 => rfl
    case c2 => with_unfolding_all rfl
    case c3 => with_unfolding_all rfl
    case c4 => decide
    case c5 => rfl
    case c6 => decide
    case c7 => rfl
    case c8 => rfl
    case c9 => rfl
    refine list_join F' N' ?src ?rest
    case src =>
      walk_at "MYSTEPS"
      · refine ListEnd.intro (by k_asm) (by k_asm) (by assumption) (by omega)
      · refine' ListEnd.intro (ns := [3, 4, 5, 9, 20, 21, 40]) (by k_asm) (by k_asm) ?_ ?_
        exact .cons _ _ (.cons _ _ (.cons _ _ (.cons _ _ (.cons _ _ (.cons _ _ (.cons _ _ .nil))))))
        decide
    case rest =>
      intro D1 c1 vs1 ns1 h1 tk1 F1 N1 hI1 hlen1
      clear F' N'
      try dsimp only
      refine LCg.CompSrc.ledger (by rfl) F1 N1 (by k_mem) (by rw [List.size_toArray, sizeLine_eq]; have := hI1.length; omega) ?_
      intro g1
      k_dflt (refine' kcf_list (fun k => fv + k.fmod 41) hI1 ?turn ?fin)
      case turn =>
        intro k t I oI C oC D m₂ ys h tk E' hk hC hx F' N' off hne hmk
        clear F1 N1
        walk_at "MYSTEPS"
        kcf_end
        exact ⟨rfl, _, rfl⟩
      case fin =>
        clear F1 N1
        unfold KPfDone
        intro ys1 hys1 D2 h2 tk2 F2 N2 off2
        try simp only [LCg.Off1, and_true] at off2
        replace N2 := drop2 N2
        have hoff2 := off2.2
        clear off2
        have hb1 : ∀ n ∈ List.map (fun k => fv + k.fmod 41) ns1, fv ≤ n ∧ n < fv + 41 := by
          intro n hn
          obtain ⟨k, -, rfl⟩ := List.mem_map.mp hn
          have e0 := Int.fmod_nonneg_of_pos k (b := 41) (by decide)
          have e1 := Int.fmod_lt_of_pos k (b := 41) (by decide)
          omega
        have hlen2 : (List.map (fun k => fv + k.fmod 41) ns1).length ≤ 12 := by rw [List.length_map]; exact hlen1
        generalize List.map (fun k => fv + k.fmod 41) ns1 = ds at hys1 hb1 hlen2
        clear hI1 hlen1
        try dsimp only
        walk_at "MYSTEPS"
        rename_i lnu hx1 ltnu hx2 onu F3 N3 dnu
        k_dflt (refine' For_turns F3 ?loop1)
        case loop1 =>
          walk_at "MYSTEPS"
          have hl1 := hys1.length
          k_dflt (refine' for_led (σ := List Value × Nat) (fun c => (lnu, PySem.W.listOf c.1.toArray c.2) :: (D2, LCg.lst ys1) :: _) (fun i c => ∃ ms, IntsAre c.1 ms ∧ ms.Nodup ∧ ms.length ≤ i ∧ ∀ n ∈ ms, fv ≤ n ∧ n < fv + 41) [Str.ofString "n"] ([], 0) ?hh F3 N3 ?hm ?hc ?hd ?hp ?turn ?done)
          case hh => exact rfl
          case hm => exact fun c => .tail _ (.head _)
          case hc => exact rfl
          case hd => exact rfl
          case hp => exact ⟨[], .nil, .nil, Nat.le_refl _, fun n hn => nomatch hn⟩
          case turn =>
            clear F3 N3
            rintro ⟨us, cn⟩ i v I oI u h4 tk4 hv ⟨ms, hms, hnd, hml, hmb⟩ hoff F4 N4
            obtain ⟨k, t, rfl, hk⟩ := IntsAre.at hys1 i v hv
            have hkb := hb1 k (List.mem_of_getElem? hk)
            have hlu := hms.length
            have hil : i < ys1.length := (List.getElem?_eq_some_iff.mp hv).1
            dsimp only at hms F4 N4 hoff ⊢
            walk_at "MYSTEPS"
            rename Fr _ _ _ _ => F5
            rename News _ _ _ _ => N5
            refine notIn_ints N5 (by k_mem) hms (by k_units) ?_
            by_cases hkm : k ∈ ms
            · rw [decide_eq_true hkm]
              walk_at "MYSTEPS"
              refine TurnEnd.intro F5 N5 _ (fun p hp => hp) hoff ⟨(us, cn), rfl, ⟨ms, hms, hnd, by omega, hmb⟩, fun z hz => ?_⟩
              have hz1 : z ≠ Str.ofString "n" := by rintro rfl; exact absurd hz (by decide)
              show (if z = _ then _ else if List.contains _ z = true then _ else _) = _
              rw [if_neg hz1, hz]
              rfl
            · rw [decide_eq_false hkm]
              have ho1 : lnu ≠ I := hoff _ (.head _)
              walk_at "MYSTEPS"
              refine append_K F5 N5 (Upd.tail (by refine neN ?_; exact Ne.symm ho1) (Upd.head ?_)) ?_ (by (rw [List.size_toArray, sizeLine_eq]; dsimp only at hlu; omega))
              · intro p hp
                rcases List.mem_cons.mp hp with rfl | hp
                · exact Nat.ne_of_lt ltnu.1
                · have hq := ltnu.2
                  simp only [List.mem_cons, List.not_mem_nil, or_false] at hp
                  rcases hp with rfl | rfl | rfl | rfl | rfl
                  · exact Nat.ne_of_lt hq.1
                  · exact Nat.ne_of_lt hq.2.1
                  · exact Nat.ne_of_lt hq.2.2.1
                  · exact Nat.ne_of_lt hq.2.2.2.1
                  · exact Nat.ne_of_lt hq.2.2.2.2
              · intro h6 F6 N6
                clear F5 N5
                walk_at "MYSTEPS"
                rw [List.push_toArray] at N6
                refine TurnEnd.intro F6 N6 _ (fun p hp => hp) ?_ ⟨(us ++ [Value.int k t], cn + 1), rfl, ⟨ms ++ [k], hms.append (.cons _ _ .nil), ?_, by rw [List.length_append]; exact Nat.add_le_add_right hml 1, ?_⟩, fun z hz => ?_⟩
                · intro p hp
                  rcases List.mem_cons.mp hp with rfl | hp
                  · exact ho1
                  · exact hoff p (.tail _ hp)
                · exact List.nodup_append.mpr ⟨hnd, by simp, fun a ha b hb => by rw [List.mem_singleton.mp hb]; rintro rfl; exact hkm ha⟩
                · intro n hn
                  rcases List.mem_append.mp hn with hn | hn
                  · exact hmb n hn
                  · rw [List.mem_singleton.mp hn]; exact hkb
                · have hz1 : z ≠ Str.ofString "n" := by rintro rfl; exact absurd hz (by decide)
                  show (if z = _ then _ else if List.contains _ z = true then _ else _) = _
                  rw [if_neg hz1, hz]
                  rfl
          case done =>
            clear F3 N3
            rintro ⟨us, cn⟩ u h4 tk4 ⟨ms, hms, hnd, hml, hmb⟩ F4 N4
            dsimp only at hms F4 N4 ⊢
            replace F4 := at_LF kL F4 (by rfl)
            replace N4 := at_LN kL N4 (by rfl)
            rw [hl1] at hml
            walk_at "MYSTEPS"
            refine from_N F4 N4 (by assumption) (by assumption) (by k_room) rfl (.head _) hms (fun n hn => by have := hmb n hn; omega) hnd (by omega) ?_
            intro h5 tk5 D5 us5 xs5 F5 N5 lt5 hp5 hs5 hu5
            clear F4 N4
            k_lt lt5
            try dsimp only
            walk_at "MYSTEPS"
            rename_i h6 ote F6 N6 dte
            k_dflt (refine' assign_comp_tup F6 ?p1 ?p2 ?p3 ?p4 ?p5 ?p6 ?p7 ?p8 ?p9 ?pairs ?p10)
            case p1 => rfl
            case p2 => with_unfolding_all rfl
            case p3 => with_unfolding_all rfl
            case p4 => decide
            case p5 => rfl
            case p6 => decide
            case p7 => rfl
            case p8 => rfl
            case p9 => rfl
            case p10 => intro _; rfl
            walk_at "MYSTEPS"
            have hl5 := hu5.length
            rw [List.length_map] at hl5
            have hr5 := runsOf_len xs5
            have hx5 := hp5.length_eq
            refine ⟨D5, us5.toArray, tupO us5, 0, _, rfl, rfl, F6, N6, .head _, rfl, rfl, (by rw [List.size_toArray, sizeLine_eq]; omega), ?_⟩
            rintro s₂ ⟨g2, rfl⟩
            refine comp_turns (Inv := fun i ys nw => (∀ p ∈ _, p ∈ nw) ∧ DatAll nw ys (((runsOf xs5).take i).map pairD)) ⟨fun p hp => hp, .nil⟩ ?turn2 ?fin2
            case turn2 =>
              clear F6 N6
              intro i v ys nw I oI C oC D m₂ h tk E' hi hv hinv hC hx F N off ne
              obtain ⟨hin, hdat⟩ := hinv
              have hv1 : us5[i]? = some v := by simpa using hv
              obtain ⟨k, t, rfl, hk⟩ := IntsAre.at hu5 i v hv1
              obtain ⟨r, hr, rfl⟩ : ∃ r, (runsOf xs5)[i]? = some r ∧ encOf r = k := by
                rw [List.getElem?_map] at hk
                cases e : (runsOf xs5)[i]? with
                | none => rw [e] at hk; cases hk
                | some r => rw [e] at hk; exact ⟨r, rfl, Option.some.inj hk⟩
              have hR := runs_of hs5 (fun n hn => by have := hmb n (hp5.mem_iff.mp hn); omega)
              have hrk := hR.ok r (List.mem_of_getElem? hr)
              have hes := enc_split (r := r) (by omega) hrk.2.2
              generalize encOf r = kk at *
              walk_at "MYSTEPS"
              rename Fr _ _ _ _ => F7
              rename News _ _ _ _ => N7
              rename _ ∧ _ ∧ _ ∧ AllLt _ _ => l7

              rw [hes.1, hes.2] at N7
              refine LCg.CompEnd.intro F7 N7 (_ :: nw) rot4 (off3_cons off l7.1 l7.2.1 l7.2.2.1) (.tail _ (hin _ (.head _))) ⟨fun p hp => .tail _ (hin p hp), ?_⟩
              rw [List.take_add_one, hr, Option.toList_some, List.map_append]
              exact dat_snoc (.tuple (.head _) (.cons (.int _ _) (.cons (.int _ _) .nil))) (hdat.mono fun p hp => .tail _ hp)
            case fin2 =>
              clear F6 N6
              rintro ys6 nw6 ⟨hin6, hd6⟩ D6 h6 tk6 F6 N6 off6
              rw [List.size_toArray, hl5, List.take_length] at hd6
              replace N6 := spread N6 hin6
              simp only [List.cons_append, List.nil_append] at N6
              try dsimp only
              walk_at "MYSTEPS"
              rename_i ldu hdu ltdu hdu2 F7 N7
              k_dflt (refine' For_turns F7 ?loop2)
              case loop2 =>
                walk_at "MYSTEPS"
                refine kso_sorted F7 N7 (News.isList N7 (.tail _ (.tail _ (.tail _ (.head _))))) hms (by omega) ?_
                intro Ds vs7 xs7 c7 h8 F8 N8 lt8 hi8 hlen8 hperm8 hsort8 _
                clear F7 N7
                have hi9 : IntsAre vs7 xs5 := sorted_unique (hperm8.trans hp5.symm) hsort8 (hs5.imp Int.le_of_lt) ▸ hi8
                have hl9 := hi9.length
                clear hi8 hlen8 hperm8 hsort8
                k_lt lt8
                have hne0 : ∀ p ∈ nw6, p.1 ≠ ldu := fun p hp => Nat.ne_of_lt (tb_ltOf (by repeat (first | exact ltdu | replace ltdu := ltdu.2)) p hp)
                k_dflt (refine' for_led (σ := List Value × Nat × List (Addr × Obj)) (fun c => (Ds, PySem.W.listOf vs7.toArray c7) :: (ldu, PySem.W.listOf c.1.toArray c.2.1) :: (D6, LCg.lst ys6) :: (D5, tupO us5) :: (lnu, PySem.W.listOf us.toArray cn) :: (D2, LCg.lst ys1) :: _ :: _ :: _ :: _ :: _ :: c.2.2) (fun i c => DatAll c.2.2 c.1 ((runsOf (xs5.take i)).map pairD) ∧ (∀ p ∈ nw6, p ∈ c.2.2) ∧ (∀ p ∈ c.2.2, p.1 ≠ ldu)) [Str.ofString "n"] ([], 0, nw6) ?hh F8 N8 ?hm ?hc ?hd ?hp ?turn ?done)
                case hh => exact rfl
                case hm => exact fun c => .head _
                case hc => exact rfl
                case hd => exact rfl
                case hp => exact ⟨.nil, fun p hp => hp, hne0⟩
                case turn =>
                  clear F8 N8
                  rintro ⟨dv, dc, tl⟩ i v I oI u h9 tk9 hv ⟨hdat, hin, hne⟩ hoff F9 N9
                  obtain ⟨k, t, rfl, hk⟩ := IntsAre.at hi9 i v hv
                  dsimp only at hdat hin hne hoff F9 N9 ⊢
                  replace F9 := at_LF kL F9 (by rfl)
                  replace N9 := at_LN kL N9 (by rfl)
                  have hil : i < vs7.length := (List.getElem?_eq_some_iff.mp hv).1
                  have hrun : runsOf (xs5.take (i + 1)) = dueStep (runsOf (xs5.take i)) k := by rw [List.take_add_one, hk, Option.toList_some, runsOf_snoc]
                  rcases List.eq_nil_or_concat (runsOf (xs5.take i)) with hr | ⟨l, p, hr⟩
                  · rw [hr] at hdat
                    cases hdat
                    walk_at "MYSTEPS"
                    rename Fr _ _ _ _ => F10
                    rename News _ _ _ _ => N10
                    refine ne_nil_pairs (rs := []) N10 (by k_mem) (.head _) .nil (by k_units) ?_
                    walk_at "MYSTEPS"
                    rename Fr _ _ _ _ => F10
                    rename News _ _ _ _ => N10
                    rename_i T10 h10 lt10
                    replace N10 := drop2 N10
                    refine append_K F10 N10 (Upd.tail ?u1 (Upd.tail ?u2 (Upd.tail ?u3 (Upd.head ?u4)))) ?_ (by (rw [List.size_toArray, sizeLine_eq]; dsimp only [List.length_nil]; omega))
                    case u1 => exact Ne.symm (Nat.ne_of_lt lt10.2.2.2.1)
                    case u2 => exact hoff _ (.tail _ (.head _)) ∘ Eq.symm
                    case u3 => exact Ne.symm (Nat.ne_of_lt lt8.1)
                    case u4 =>
                      have hq := ltdu
                      repeat (refine List.forall_mem_cons.mpr ⟨Nat.ne_of_lt hq.1, ?_⟩; replace hq := hq.2)
                      exact hne
                    intro h11 F11 N11
                    walk_at "MYSTEPS"
                    rw [List.push_toArray] at N11
                    refine TurnEnd.intro F11 N11 _ (mem_rot [_, _, _, _, _, _, _, _, _, _, _, _]) ?ho ⟨([] ++ [Value.ref T10], dc + 1, _ :: tl), rfl, ⟨?dat, fun p hp => .tail _ (hin p hp), List.forall_mem_cons.mpr ⟨Ne.symm (Nat.ne_of_lt lt10.2.2.2.1), hne⟩⟩, fun z hz => ?m⟩
                    case ho =>
                      have hq := hoff
                      repeat (refine List.forall_mem_cons.mpr ⟨(List.forall_mem_cons.mp hq).1, ?_⟩; replace hq := (List.forall_mem_cons.mp hq).2)
                      exact List.forall_mem_cons.mpr ⟨Ne.symm (Nat.ne_of_lt lt10.2.1), hq⟩
                    case dat =>
                      rw [hrun, hr]
                      exact .cons (.tuple (.head _) (.cons (.int _ _) (.cons (.int _ _) .nil))) .nil
                    case m =>
                      have hz1 : z ≠ Str.ofString "n" := by rintro rfl; exact absurd hz (by decide)
                      show (if z = _ then _ else if List.contains _ z = true then _ else _) = _
                      rw [if_neg hz1, hz]
                      rfl
                  · rw [hr, List.concat_eq_append, List.map_append] at hdat
                    obtain ⟨vs0, v0, rfl, hd0, hdp⟩ := dat_unsnoc hdat
                    obtain ⟨a, na, t1, t2, rfl, hma⟩ := dat_pair hdp
                    have hz9 : vs0.length < 1000 := by
                      have := dat_length hdat
                      have h1 := runsOf_len (xs5.take i)
                      rw [hr, List.concat_eq_append] at h1
                      simp only [List.length_append, List.length_map, List.length_singleton, List.length_take] at this h1
                      omega
                    replace N9 := add_mem N9 (by repeat (first | exact hma | apply List.mem_cons_of_mem))
                    have hna : a ≠ ldu := hne _ hma
                    walk_at "MYSTEPS"
                    rename Fr _ _ _ _ => F10
                    rename News _ _ _ _ => N10
                    refine ne_nil_pairs (rs := l ++ [p]) N10 (by k_mem) (.head _) (ka := dc) ?dat (by k_units) ?_
                    case dat => rw [List.map_append]; refine hdat.mono fun p hp => ?_; (repeat (first | exact hp | apply List.mem_cons_of_mem))
                    rw [show (l ++ [p]).isEmpty = false by cases l <;> rfl]
                    walk_at "MYSTEPS"
                    · rename Prod.snd _ = _ => hpk
                      rename Fr _ _ _ _ => F12
                      rename News _ _ _ _ => N12
                      rename _ < _ ∧ _ < _ ∧ _ < _ ∧ _ ∧ _ => lt12
                      replace N12 := drop2 (drop2 N12)
                      refine set_last F12 N12 (Upd.tail ?u1 (Upd.tail ?u2 (Upd.tail ?u3 (Upd.head ?u4)))) ?_
                      case u1 => exact Ne.symm (Nat.ne_of_lt lt12.2.2.2.2.1)
                      case u2 => exact hoff _ (.tail _ (.head _)) ∘ Eq.symm
                      case u3 => exact Ne.symm (Nat.ne_of_lt lt8.1)
                      case u4 =>
                        have hq := ltdu
                        repeat (refine List.forall_mem_cons.mpr ⟨Nat.ne_of_lt hq.1, ?_⟩; replace hq := hq.2)
                        exact hne
                      intro h13 F13 N13
                      clear F12 N12
                      walk_at "MYSTEPS"
                      refine TurnEnd.intro F13 N13 _ (mem_rot [_, _, _, _, _, _, _, _, _, _, _, _]) ?ho ⟨(vs0 ++ [_], dc, _ :: tl), rfl, ⟨?dat, fun p hp => .tail _ (hin p hp), List.forall_mem_cons.mpr ⟨Ne.symm (Nat.ne_of_lt lt12.2.2.2.2.1), hne⟩⟩, fun z hz => ?m⟩
                      case ho =>
                        have hq := hoff
                        repeat (refine List.forall_mem_cons.mpr ⟨(List.forall_mem_cons.mp hq).1, ?_⟩; replace hq := (List.forall_mem_cons.mp hq).2)
                        exact List.forall_mem_cons.mpr ⟨Ne.symm (Nat.ne_of_lt lt12.2.2.1), hq⟩
                      case dat =>
                        rw [hrun, hr]
                        rw [List.concat_eq_append, dueStep_snoc, if_pos hpk, List.map_append]
                        exact dat_snoc (.tuple (.head _) (.cons (.int _ _) (.cons (.int _ _) .nil))) (hd0.mono fun p hp => .tail _ hp)
                      case m =>
                        have hz1 : z ≠ Str.ofString "n" := by rintro rfl; exact absurd hz (by decide)
                        show (if z = _ then _ else if List.contains _ z = true then _ else _) = _
                        rw [if_neg hz1, hz]
                        rfl
                    · rename ¬ Prod.snd _ = _ => hpk
                      rename Fr _ _ _ _ => F12
                      rename News _ _ _ _ => N12
                      rename _ < _ ∧ _ < _ ∧ _ < _ ∧ _ ∧ _ => lt12
                      replace N12 := drop2 (drop2 N12)
                      refine append_K F12 N12 (Upd.tail ?u1 (Upd.tail ?u2 (Upd.tail ?u3 (Upd.head ?u4)))) ?_ (by (rw [List.size_toArray, sizeLine_eq, List.length_append, List.length_singleton]; omega))
                      case u1 => exact Ne.symm (Nat.ne_of_lt lt12.2.2.2.2.1)
                      case u2 => exact hoff _ (.tail _ (.head _)) ∘ Eq.symm
                      case u3 => exact Ne.symm (Nat.ne_of_lt lt8.1)
                      case u4 =>
                        have hq := ltdu
                        repeat (refine List.forall_mem_cons.mpr ⟨Nat.ne_of_lt hq.1, ?_⟩; replace hq := hq.2)
                        exact hne
                      intro h13 F13 N13
                      clear F12 N12
                      walk_at "MYSTEPS"
                      rw [List.push_toArray] at N13
                      refine TurnEnd.intro F13 N13 _ (mem_rot [_, _, _, _, _, _, _, _, _, _, _, _]) ?ho ⟨(vs0 ++ [Value.ref a] ++ [_], dc + 1, _ :: tl), rfl, ⟨?dat, fun p hp => .tail _ (hin p hp), List.forall_mem_cons.mpr ⟨Ne.symm (Nat.ne_of_lt lt12.2.2.2.2.1), hne⟩⟩, fun z hz => ?m⟩
                      case ho =>
                        have hq := hoff
                        repeat (refine List.forall_mem_cons.mpr ⟨(List.forall_mem_cons.mp hq).1, ?_⟩; replace hq := (List.forall_mem_cons.mp hq).2)
                        exact List.forall_mem_cons.mpr ⟨Ne.symm (Nat.ne_of_lt lt12.2.2.1), hq⟩
                      case dat =>
                        rw [hrun, hr]
                        rw [List.concat_eq_append, dueStep_snoc, if_neg hpk, List.map_append, List.map_append]
                        exact dat_snoc (.tuple (.head _) (.cons (.int _ _) (.cons (.int _ _) .nil))) (hdat.mono fun p hp => .tail _ hp)
                      case m =>
                        have hz1 : z ≠ Str.ofString "n" := by rintro rfl; exact absurd hz (by decide)
                        show (if z = _ then _ else if List.contains _ z = true then _ else _) = _
                        rw [if_neg hz1, hz]
                        rfl
                case done =>
                  clear F8 N8
                  rintro ⟨dv, dc, tl⟩ u h9 tk9 ⟨hdat, hin, hne⟩ F9 N9
                  dsimp only at hdat hin hne F9 N9 ⊢
                  replace F9 := at_LF kL F9 (by rfl)
                  replace N9 := at_LN kL N9 (by rfl)
                  rw [hl9, List.take_length] at hdat
                  walk_at "MYSTEPS"
                  refine ne_pairs N9 (by k_mem) rfl rfl (by k_mem) rfl rfl (hd6.mono fun p hp => ?_) (hdat.mono fun p hp => ?_) (by k_units) ?_
                  · have hp2 := hin p hp
                    repeat (first | exact hp2 | apply List.mem_cons_of_mem)
                  · repeat (first | exact hp | apply List.mem_cons_of_mem)
                  walk_at "MYSTEPS"
                  rename_i Drv wsr h10 F10 N10 hIr hCr lt10
                  refine from_N F10 N10 (by assumption) (by assumption) (by k_room) rfl (.head _) hIr (fun n hn => by have := hmb n (List.mem_reverse.mp hn); omega) ((List.reverse_perm ms).nodup_iff.mpr hnd) (by rw [List.length_reverse]; omega) ?_
                  intro h11 tk11 D11 us11 xs11 F11 N11 lt11 hp11 hs11 hu11
                  clear F10 N10
                  k_lt lt11
                  have ex11 : xs11 = xs5 := sorted_unique (hp11.trans ((List.reverse_perm ms).trans hp5.symm)) (hs11.imp Int.le_of_lt) (hs5.imp Int.le_of_lt)
                  rw [ex11] at hu11
                  clear hp11 hs11 ex11
                  try dsimp only
                  walk_at "MYSTEPS"
                  refine ne_tups N11 (.head _) (by k_mem) hu11 hu5 (by k_units) ?_
                  walk_at "MYSTEPS"
                  rename_i lem1 h12 lt12
                  rename Fr _ _ _ _ => F12
                  rename News _ _ _ _ => N12
                  refine from_N (vs := []) (ns := []) F12 N12 (by assumption) (by assumption) (by k_room) rfl (.head _) .nil (fun n hn => nomatch hn) .nil (by decide) ?_
                  intro h13 tk13 D13 us13 xs13 F13 N13 lt13 hp13 hs13 hu13
                  clear F12 N12
                  k_lt lt13
                  have ex13 : xs13 = [] := hp13.eq_nil
                  subst ex13
                  cases hu13
                  clear hp13 hs13
                  try dsimp only
                  walk_at "MYSTEPS"
                  rename Fr _ _ _ _ => F14
                  rename News _ _ _ _ => N14
                  refine ne_tups N14 (ns := []) (.tail _ (.head _)) (.head _) .nil .nil (by k_units) ?_
                  replace N14 := sub5 N14
                  walk_at "MYSTEPS"
                  have hR5 := runs_of hs5 (fun n hn => by have := hmb n (hp5.mem_iff.mp hn); omega)
                  have hmem5 : ∀ k, inRuns (runsOf xs5) k = decide (k ∈ ms) := fun k => by rw [inRuns_iff hs5 k]; exact decide_eq_decide.mpr hp5.mem_iff
                  k_dflt (refine' LCg.ListComp_U (F₀ := F14) ?c1 ?c2 ?c3 ?c4 ?c5 ?_)
                  case c1 => with_unfolding_all rfl
                  case c2 => decide
                  case c3 => rfl
                  case c4 => decide
                  case c5 => rfl
                  walk_at "MYSTEPS"
                  rename Fr _ _ _ _ => zF
                  rename News _ _ _ _ => zN
                  rename IsRange _ _ _ _ _ _ _ _ => zR
                  refine LCg.CompSrc.range (by rfl) zF zN zR (small_one (by omega) (by omega) (by omega) (by omega)) (rangeSize_nat _ _) (by rw [sizeLine_eq]; omega) ?_
                  intro g
                  refine comp_bools (inRuns (runsOf xs5)) ?turn ?fin
                  case turn =>
                    clear zF zN zR
                    intro i t ys I oI C oC D m₂ h tk E' hi hC hx F N off
                    try dsimp only
                    walk_at "MYSTEPS"
                    rename Fr _ _ _ _ => zF
                    rename News _ _ _ _ => zN
                    refine contain_N zF zN (by assumption) (by assumption) (by k_room) rfl (by omega) (by omega) (by k_mem) hu5 hR5 (by omega) ?_
                    intro hz tkz zF2 zN2
                    clear zF zN
                    walk_at "MYSTEPS"
                    exact bool_end zF2 zN2 off rfl
                  case fin =>
                    clear zF zN zR
                    unfold LCg.FinE
                    intro ys15 hb15 D15 h15 tk15 F15 N15 off15
                    try dsimp only
                    walk_at "MYSTEPS"
                    k_dflt (refine' LCg.ListComp_U (F₀ := F15) ?c1 ?c2 ?c3 ?c4 ?c5 ?_)
                    case c1 => with_unfolding_all rfl
                    case c2 => decide
                    case c3 => rfl
                    case c4 => decide
                    case c5 => rfl
                    walk_at "MYSTEPS"
                    rename Fr _ _ _ _ => zF
                    rename News _ _ _ _ => zN
                    rename IsRange _ _ _ _ _ _ _ _ => zR
                    refine LCg.CompSrc.range (by rfl) zF zN zR (small_one (by omega) (by omega) (by omega) (by omega)) (rangeSize_nat _ _) (by rw [sizeLine_eq]; omega) ?_
                    intro g
                    refine comp_bools (fun k => decide (k ∈ ms)) ?turn ?fin
                    case turn =>
                      clear zF zN zR
                      intro i t ys I oI C oC D m₂ h tk E' hi hC hx F N off
                      try dsimp only
                      walk_at "MYSTEPS"
                      rename Fr _ _ _ _ => zF
                      rename News _ _ _ _ => zN
                      refine in_ints zN (by k_mem) hms (by k_units) ?_
                      walk_at "MYSTEPS"
                      exact bool_end zF zN off rfl
                    case fin =>
                      clear zF zN zR
                      unfold LCg.FinE
                      intro ys16 hb16 D16 h16 tk16 F16 N16 off16
                      try dsimp only
                      walk_at "MYSTEPS"
                      rw [boolsOf_congr hmem5] at hb15
                      refine ne_bools N16 (.tail _ (.head _)) (.head _) hb15 hb16 (by k_units) ?_
                      replace N16 := drop1 (drop1 N16)
                      walk_at "MYSTEPS"
                      k_dflt (refine' For_turns F16 ?_)
                      walk_at "MYSTEPS"
                      k_dflt (refine' for_led (σ := Unit) (ax := D6) (lo := LCg.lst ys6) (fun _ => _) (fun _ _ => True) [Str.ofString "first", Str.ofString "behind"] () ?hh F16 N16 ?hm ?hc ?hd ?hp ?turn ?done)
                      case hh => exact rfl
                      case hm => exact fun c => .tail _ (.tail _ (.head _))
                      case hc => exact rfl
                      case hd => exact rfl
                      case hp => trivial
                      case turn =>
                        clear F16 N16
                        intro _ i v I oI u h17 tk17 hv _ hoff F17 N17
                        dsimp only at hoff F17 N17 ⊢
                        replace F17 := at_LF kL F17 (by rfl)
                        replace N17 := at_LN kL N17 (by rfl)
                        obtain ⟨p, hp, hdp⟩ := dat_at hd6 i v hv
                        obtain ⟨a, na, t1, t2, rfl, hma⟩ := dat_pair hdp
                        have hma2 := hin _ hma
                        replace N17 := add_mem N17 (by repeat (first | exact hma2 | apply List.mem_cons_of_mem))
                        have hpb := hR5.ok p hp
                        walk_at "MYSTEPS"
                        rename Fr _ _ _ _ => zF
                        rename News _ _ _ _ => zN
                        refine contain_N zF zN (by assumption) (by assumption) (by k_room) rfl (by omega) (by omega) (by k_mem) hu5 hR5 (by omega) ?_
                        intro hz tkz zF2 zN2
                        clear zF zN
                        rw [inRuns_first hR5 hp]
                        walk_at "MYSTEPS"
                        rename Fr _ _ _ _ => zF
                        rename News _ _ _ _ => zN
                        refine contain_N zF zN (by assumption) (by assumption) (by k_room) rfl (by omega) (by omega) (by k_mem) hu5 hR5 (by omega) ?_
                        intro hz tkz zF2 zN2
                        clear zF zN
                        rw [inRuns_last hR5 hp]
                        walk_at "MYSTEPS"
                        rename Fr _ _ _ _ => zF
                        rename News _ _ _ _ => zN
                        refine contain_N zF zN (by assumption) (by assumption) (by k_room) rfl (by omega) (by omega) (by k_mem) hu5 hR5 (by omega) ?_
                        intro hz tkz zF2 zN2
                        clear zF zN
                        rw [inRuns_behind hR5 hp]
                        walk_at "MYSTEPS"
                        · rename Fr _ _ _ _ => zF
                          rename News _ _ _ _ => zN
                          refine contain_N zF zN (by assumption) (by assumption) (by k_room) rfl (by omega) (by omega) (by k_mem) hu5 hR5 (by omega) ?_
                          intro hz tkz zF2 zN2
                          clear zF zN
                          rw [inRuns_before hR5 hp]
                          walk_at "MYSTEPS"
                          refine TurnEnd.intro zF2 zN2 _ (fun p hp => .tail _ hp) hoff ⟨(), rfl, trivial, fun z hz => ?_⟩
                          have hz1 : z ≠ Str.ofString "first" := by rintro rfl; exact absurd hz (by decide)
                          have hz2 : z ≠ Str.ofString "behind" := by rintro rfl; exact absurd hz (by decide)
                          show (if z = _ then _ else if z = _ then _ else if List.contains _ z = true then _ else _) = _
                          rw [if_neg hz2, if_neg hz1, hz]
                          rfl
                        · rename Fr _ _ _ _ => zF
                          rename News _ _ _ _ => zN
                          refine TurnEnd.intro zF zN _ (fun p hp => .tail _ hp) hoff ⟨(), rfl, trivial, fun z hz => ?_⟩
                          have hz1 : z ≠ Str.ofString "first" := by rintro rfl; exact absurd hz (by decide)
                          have hz2 : z ≠ Str.ofString "behind" := by rintro rfl; exact absurd hz (by decide)
                          show (if z = _ then _ else if z = _ then _ else if List.contains _ z = true then _ else _) = _
                          rw [if_neg hz2, if_neg hz1, hz]
                          rfl
                      case done =>
                        clear F16 N16
                        intro _ u h17 tk17 _ F17 N17
                        dsimp only at F17 N17 ⊢
                        replace F17 := at_LF kL F17 (by rfl)
                        replace N17 := at_LN kL N17 (by rfl)
                        have hhf : 0 ≤ (ms.length : Int).fdiv 2 := by rw [Int.fdiv_eq_ediv_of_nonneg _ (by decide)]; omega
                        walk_at "MYSTEPS"
                        rename_i Dfw wsf h18 F18 N18 hIf hCf hLf lt18
                        refine from_N F18 N18 (by assumption) (by assumption) (by k_room) rfl (.head _) hIf (fun n hn => by have := hmb n (List.mem_of_mem_take hn); omega) (hnd.sublist (List.take_sublist _ _)) (by omega) ?_
                        intro h19 tk19 D19 us19 xs19 F19 N19 lt19 hp19 hs19 hu19
                        clear F18 N18
                        k_lt lt19
                        replace N19 := keep_few N19
                        try dsimp only
                        walk_at "MYSTEPS"
                        rename_i h20a oew dew Drs wsr2 h20 F20 N20 hIr2 hCr2 hLr2 lt20
                        refine from_N F20 N20 (by assumption) (by assumption) (by k_room) rfl (.head _) hIr2 (fun n hn => by have := hmb n (List.mem_of_mem_drop hn); omega) (hnd.sublist (List.drop_sublist _ _)) (by omega) ?_
                        intro h21 tk21 D21 us21 xs21 F21 N21 lt21 hp21 hs21 hu21
                        clear F20 N20
                        k_lt lt21
                        replace N21 := drop2 N21
                        try dsimp only
                        walk_at "MYSTEPS"
                        rename Fr _ _ _ _ => F22
                        rename News _ _ _ _ => N22
                        have hR19 := runs_of hs19 (fun n hn => by have := hmb n (List.mem_of_mem_take (hp19.mem_iff.mp hn)); omega)
                        have hR21 := runs_of hs21 (fun n hn => by have := hmb n (List.mem_of_mem_drop (hp21.mem_iff.mp hn)); omega)
                        have hr19 := runsOf_len xs19
                        have hx19 := hp19.length_eq
                        have hr21 := runsOf_len xs21
                        have hx21 := hp21.length_eq
                        have hboth : ∀ k, inRuns (runsOf xs5) k = (inRuns (runsOf xs19) k || inRuns (runsOf xs21) k) := fun k => by
                          rw [hmem5, inRuns_iff hs19, inRuns_iff hs21, ← Bool.decide_or]
                          refine decide_eq_decide.mpr ?_
                          rw [hp19.mem_iff, hp21.mem_iff, ← List.mem_append, List.take_append_drop]
                        k_dflt (refine' LCg.ListComp_U (F₀ := F22) ?c1 ?c2 ?c3 ?c4 ?c5 ?_)
                        case c1 => with_unfolding_all rfl
                        case c2 => decide
                        case c3 => rfl
                        case c4 => decide
                        case c5 => rfl
                        walk_at "MYSTEPS"
                        rename Fr _ _ _ _ => zF
                        rename News _ _ _ _ => zN
                        rename IsRange _ _ _ _ _ _ _ _ => zR
                        refine LCg.CompSrc.range (by rfl) zF zN zR (small_one (by omega) (by omega) (by omega) (by omega)) (rangeSize_nat _ _) (by rw [sizeLine_eq]; omega) ?_
                        intro g
                        refine comp_bools (inRuns (runsOf xs5)) ?turn ?fin
                        case turn =>
                          clear zF zN zR
                          intro i t ys I oI C oC D m₂ h tk E' hi hC hx F N off
                          try dsimp only
                          walk_at "MYSTEPS"
                          rename Fr _ _ _ _ => zF
                          rename News _ _ _ _ => zN
                          refine contain_N zF zN (by assumption) (by assumption) (by k_room) rfl (by omega) (by omega) (by k_mem) hu5 hR5 (by omega) ?_
                          intro hz tkz zF2 zN2
                          clear zF zN
                          walk_at "MYSTEPS"
                          exact bool_end zF2 zN2 off rfl
                        case fin =>
                          clear zF zN zR
                          unfold LCg.FinE
                          intro ys23 hb23 D23 h23 tk23 F23 N23 off23
                          try dsimp only
                          walk_at "MYSTEPS"
                          k_dflt (refine' LCg.ListComp_U (F₀ := F23) ?c1 ?c2 ?c3 ?c4 ?c5 ?_)
                          case c1 => with_unfolding_all rfl
                          case c2 => decide
                          case c3 => rfl
                          case c4 => decide
                          case c5 => rfl
                          walk_at "MYSTEPS"
                          rename Fr _ _ _ _ => zF
                          rename News _ _ _ _ => zN
                          rename IsRange _ _ _ _ _ _ _ _ => zR
                          refine LCg.CompSrc.range (by rfl) zF zN zR (small_one (by omega) (by omega) (by omega) (by omega)) (rangeSize_nat _ _) (by rw [sizeLine_eq]; omega) ?_
                          intro g
                          refine comp_bools (fun k => inRuns (runsOf xs19) k || inRuns (runsOf xs21) k) ?turn ?fin
                          case turn =>
                            clear zF zN zR
                            intro i t ys I oI C oC D m₂ h tk E' hi hC hx F N off
                            try dsimp only
                            walk_at "MYSTEPS"
                            rename Fr _ _ _ _ => zF
                            rename News _ _ _ _ => zN
                            refine contain_N zF zN (by assumption) (by assumption) (by k_room) rfl (by omega) (by omega) (by k_mem) hu19 hR19 (by omega) ?_
                            intro hz tkz zF2 zN2
                            clear zF zN
                            cases hb : inRuns (runsOf xs19) (fv + (i : Int)) with
                            | true =>
                              walk_at "MYSTEPS"
                              rename Fr _ _ _ _ => zF
                              rename News _ _ _ _ => zN
                              exact bool_end zF zN off (by rw [hb]; rfl)
                            | false =>
                              walk_at "MYSTEPS"
                              rename Fr _ _ _ _ => zF
                              rename News _ _ _ _ => zN
                              refine contain_N zF zN (by assumption) (by assumption) (by k_room) rfl (by omega) (by omega) (by k_mem) hu21 hR21 (by omega) ?_
                              intro hz3 tkz3 zF3 zN3
                              clear zF zN
                              walk_at "MYSTEPS"
                              exact bool_end zF3 zN3 off (by rw [hb]; rfl)
                          case fin =>
                            clear zF zN zR
                            unfold LCg.FinE
                            intro ys24 hb24 D24 h24 tk24 F24 N24 off24
                            try dsimp only
                            walk_at "MYSTEPS"
                            rw [boolsOf_congr hboth] at hb23
                            refine eq_bools N24 (.tail _ (.head _)) (.head _) hb23 hb24 (by k_units) ?_
                            walk_at "MYSTEPS"
                            rename Fr _ _ _ _ => zF
                            rename News _ _ _ _ => zN
                            refine contain_N (vs := []) (rs := []) zF zN (by assumption) (by assumption) (by k_room) rfl (by omega) (by omega) (.head _) .nil ⟨fun p hp => (nomatch hp), .nil⟩ (by decide) ?_
                            intro hz tkz zF2 zN2
                            clear zF zN
                            rw [show inRuns [] fv = false from rfl]
                            walk_at "MYSTEPS"

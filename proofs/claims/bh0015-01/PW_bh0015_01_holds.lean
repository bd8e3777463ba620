import PyProof.Rows.All
import Wide.All
import OpenK.AllK
import Wide.FinOn
import PySem.Challenge.RW_bh0015_01
open PySem PySem.W PySem.Spec PySem.Calls PyProof.Rows
set_option Elab.async false
set_option maxRecDepth 100000
set_option maxHeartbeats 8000000
set_option linter.unusedVariables false
set_option linter.unusedSimpArgs false
namespace Mine
open_top hd for PySem.Challenge.rw_bh0015_01
noncomputable abbrev Kf (w : World) : Frag := Mine.hd.heap_39 w.params
abbrev Tp (mean : ExcName → Option Value) (mg mb : Str → Option Value) (h : Heap) : Prop := Top Mine.hd.view_39
    (looseW Mine.hd.view_39 [Str.ofString "legal_date_gregorian", Str.ofString "to_jd_gregorian", Str.ofString "from_jd_gregorian", Str.ofString "month_length_gregorian", Str.ofString "leap_julian", Str.ofString "month_length_julian", Str.ofString "legal_date_julian", Str.ofString "from_jd_julian", Str.ofString "to_jd_julian", Str.ofString "from_gregorian_julian", Str.ofString "to_gregorian_julian", Str.ofString "_valid_date", Str.ofString "leap_armenian", Str.ofString "to_jd_armenian", Str.ofString "from_jd_armenian", Str.ofString "to_julian_armenian", Str.ofString "from_julian_armenian", Str.ofString "to_gregorian_armenian", Str.ofString "from_gregorian_armenian", Str.ofString "to_jd_coptic", Str.ofString "from_jd_coptic", Str.ofString "to_gregorian_coptic", Str.ofString "from_gregorian_coptic", Str.ofString "to_jd_indian_civil", Str.ofString "from_jd_indian_civil", Str.ofString "from_gregorian_indian_civil", Str.ofString "to_gregorian_indian_civil", Str.ofString "to_jd_islamic", Str.ofString "from_jd_islamic", Str.ofString "from_gregorian_islamic", Str.ofString "to_gregorian_islamic", Str.ofString "to_jd_iso", Str.ofString "from_jd_iso", Str.ofString "from_gregorian_iso", Str.ofString "to_gregorian_iso", Str.ofString "to_gregorian_julianday", Str.ofString "from_gregorian_julianday", Str.ofString "to_julian_julianday", Str.ofString "from_julian_julianday", Str.ofString "to_jd_mayan", Str.ofString "from_jd_mayan", Str.ofString "to_gregorian_mayan", Str.ofString "from_gregorian_mayan", Str.ofString "to_jd_ordinal", Str.ofString "from_jd_ordinal", Str.ofString "from_gregorian_ordinal", Str.ofString "to_gregorian_ordinal", Str.ofString "legal_date_positivist", Str.ofString "to_jd_positivist", Str.ofString "from_jd_positivist", Str.ofString "from_gregorian_positivist", Str.ofString "to_gregorian_positivist"])
    mean mg mb h
abbrev tupO (ws : List Value) (c : Nat) : Obj := { cls := .type "tuple", data := .seq ws.toArray c }

def ConV (w : World) (mean : ExcName → Option Value) (mg mb : Str → Option Value) (f : Addr) (k : Nat) (news : List (Addr × Obj)) (pre : Prop) (vs : List Value) (R : Tok → Value) : Prop :=
  ∀ (dp un : Nat) (gd : Option (List Code)) (cn : Str) (cs : Scope) (a : Addr) (ccd : Value) (cl : List (Str × Addr)) (outer : List Env) (A₀ : Around) (base h₀ : Heap) (L : Addr) (m : Str → Option Value) (s : Shared) (Q E : Value → Shared → Prop),
    Below A₀ base outer h₀ → Fr h₀ L s.heap m → (Kf w).In h₀ → News h₀ L s.heap news → Tp mean mg mb h₀ → cs.kind = .function →
    pre → dp + k < recursionLimit → un + 8 * k < cLine →
    (∀ (t : Tok) (h' : Heap) (tk' : Nat), Fr h₀ L h' m → News h₀ L h' news → Q (R t) { s with heap := h', toks := tk' }) →
    wpAny (model (PySem.Challenge.rw_bh0015_01.row.prog) w) (ktrTop dp un gd cn cs L a ccd cl outer) (call (.ref f) vs) Q E s

def ConT (w : World) (mean : ExcName → Option Value) (mg mb : Str → Option Value) (f : Addr) (k : Nat) (news : List (Addr × Obj)) (pre : Prop) (vs : List Value) (ds : List Int) : Prop :=
  ∀ (dp un : Nat) (gd : Option (List Code)) (cn : Str) (cs : Scope) (a : Addr) (ccd : Value) (cl : List (Str × Addr)) (outer : List Env) (A₀ : Around) (base h₀ : Heap) (L : Addr) (m : Str → Option Value) (s : Shared) (Q E : Value → Shared → Prop),
    Below A₀ base outer h₀ → Fr h₀ L s.heap m → (Kf w).In h₀ → News h₀ L s.heap news → Tp mean mg mb h₀ → cs.kind = .function →
    pre → dp + k < recursionLimit → un + 8 * k < cLine →
    (∀ (D : Addr) (ws : List Value) (c : Nat) (h' : Heap) (tk' : Nat), IntsAre ws ds → Fr h₀ L h' m → News h₀ L h' ((D, tupO ws c) :: news) → Q (.ref D) { s with heap := h', toks := tk' }) →
    wpAny (model (PySem.Challenge.rw_bh0015_01.row.prog) w) (ktrTop dp un gd cn cs L a ccd cl outer) (call (.ref f) vs) Q E s

section
variable {w : World} {mean : ExcName → Option Value} {mg mb : Str → Option Value} {f : Addr} {k : Nat} {news : List (Addr × Obj)} {pre : Prop} {vs : List Value}
  {dp un : Nat} {gd : Option (List Code)} {cn : Str} {cs : Scope} {a : Addr} {ccd : Value} {cl : List (Str × Addr)} {outer : List Env} {A₀ : Around} {base h₀ : Heap} {L : Addr} {m : Str → Option Value} {s : Shared} {Q E : Value → Shared → Prop}

theorem useV {R : Tok → Value} (C : ConV w mean mg mb f k news pre vs R) (B : Below A₀ base outer h₀) (F : Fr h₀ L s.heap m) (X : (Kf w).In h₀) (N : News h₀ L s.heap news) (T : Tp mean mg mb h₀) (hk : cs.kind = .function)
    (hp : pre) (hd : dp + k < recursionLimit) (hu : un + 8 * k < cLine)
    (ret : ∀ (t : Tok) (h' : Heap) (tk' : Nat), Fr h₀ L h' m → News h₀ L h' news → Q (R t) { s with heap := h', toks := tk' }) :
    wpAny (model (PySem.Challenge.rw_bh0015_01.row.prog) w) (ktrTop dp un gd cn cs L a ccd cl outer) (call (.ref f) vs) Q E s :=
  C _ _ _ _ _ _ _ _ _ _ _ _ _ _ _ _ _ B F X N T hk hp hd hu ret

theorem useT {ds : List Int} (C : ConT w mean mg mb f k news pre vs ds) (B : Below A₀ base outer h₀) (F : Fr h₀ L s.heap m) (X : (Kf w).In h₀) (N : News h₀ L s.heap news) (T : Tp mean mg mb h₀) (hk : cs.kind = .function)
    (hp : pre) (hd : dp + k < recursionLimit) (hu : un + 8 * k < cLine)
    (ret : ∀ (D : Addr) (ws : List Value) (c : Nat) (h' : Heap) (tk' : Nat), IntsAre ws ds → Fr h₀ L h' m → News h₀ L h' ((D, tupO ws c) :: news) → Q (.ref D) { s with heap := h', toks := tk' }) :
    wpAny (model (PySem.Challenge.rw_bh0015_01.row.prog) w) (ktrTop dp un gd cn cs L a ccd cl outer) (call (.ref f) vs) Q E s :=
  C _ _ _ _ _ _ _ _ _ _ _ _ _ _ _ _ _ B F X N T hk hp hd hu ret

theorem useT3 {x y z : Int} (C : ConT w mean mg mb f k news pre vs [x, y, z]) (B : Below A₀ base outer h₀) (F : Fr h₀ L s.heap m) (X : (Kf w).In h₀) (N : News h₀ L s.heap news) (T : Tp mean mg mb h₀) (hk : cs.kind = .function)
    (hp : pre) (hd : dp + k < recursionLimit) (hu : un + 8 * k < cLine)
    (ret : ∀ (D : Addr) (t1 t2 t3 : Tok) (c : Nat) (h' : Heap) (tk' : Nat), Fr h₀ L h' m → News h₀ L h' ((D, { cls := .type "tuple", data := .seq #[.int x t1, .int y t2, .int z t3] c }) :: news) → Q (.ref D) { s with heap := h', toks := tk' }) :
    wpAny (model (PySem.Challenge.rw_bh0015_01.row.prog) w) (ktrTop dp un gd cn cs L a ccd cl outer) (call (.ref f) vs) Q E s := by
  refine useT C B F X N T hk hp hd hu fun D ws c h' tk' I F' N' => ?_
  cases I with
  | cons _ t1 I => cases I with
    | cons _ t2 I => cases I with
      | cons _ t3 I => cases I; exact ret D t1 t2 t3 c h' tk' F' N'
theorem useT2 {x y : Int} (C : ConT w mean mg mb f k news pre vs [x, y]) (B : Below A₀ base outer h₀) (F : Fr h₀ L s.heap m) (X : (Kf w).In h₀) (N : News h₀ L s.heap news) (T : Tp mean mg mb h₀) (hk : cs.kind = .function)
    (hp : pre) (hd : dp + k < recursionLimit) (hu : un + 8 * k < cLine)
    (ret : ∀ (D : Addr) (t1 t2 : Tok) (c : Nat) (h' : Heap) (tk' : Nat), Fr h₀ L h' m → News h₀ L h' ((D, { cls := .type "tuple", data := .seq #[.int x t1, .int y t2] c }) :: news) → Q (.ref D) { s with heap := h', toks := tk' }) :
    wpAny (model (PySem.Challenge.rw_bh0015_01.row.prog) w) (ktrTop dp un gd cn cs L a ccd cl outer) (call (.ref f) vs) Q E s := by
  refine useT C B F X N T hk hp hd hu fun D ws c h' tk' I F' N' => ?_
  cases I with
  | cons _ t1 I => cases I with
    | cons _ t2 I => cases I; exact ret D t1 t2 c h' tk' F' N'

theorem useT5 {x y z u v : Int} (C : ConT w mean mg mb f k news pre vs [x, y, z, u, v]) (B : Below A₀ base outer h₀) (F : Fr h₀ L s.heap m) (X : (Kf w).In h₀) (N : News h₀ L s.heap news) (T : Tp mean mg mb h₀) (hk : cs.kind = .function)
    (hp : pre) (hd : dp + k < recursionLimit) (hu : un + 8 * k < cLine)
    (ret : ∀ (D : Addr) (t1 t2 t3 t4 t5 : Tok) (c : Nat) (h' : Heap) (tk' : Nat), Fr h₀ L h' m → News h₀ L h' ((D, { cls := .type "tuple", data := .seq #[.int x t1, .int y t2, .int z t3, .int u t4, .int v t5] c }) :: news) → Q (.ref D) { s with heap := h', toks := tk' }) :
    wpAny (model (PySem.Challenge.rw_bh0015_01.row.prog) w) (ktrTop dp un gd cn cs L a ccd cl outer) (call (.ref f) vs) Q E s := by
  refine useT C B F X N T hk hp hd hu fun D ws c h' tk' I F' N' => ?_
  cases I with
  | cons _ t1 I => cases I with
    | cons _ t2 I => cases I with
      | cons _ t3 I => cases I with
        | cons _ t4 I => cases I with
          | cons _ t5 I => cases I; exact ret D t1 t2 t3 t4 t5 c h' tk' F' N'

/-- the ends of a contract -/
theorem endI {x y : Int} {t : Tok} {h' : Heap} {tk' : Nat} {news' : List (Addr × Obj)} (hret : ∀ (t : Tok) (h' : Heap) (tk' : Nat), Fr h₀ L h' m → News h₀ L h' news → Q (.int x t) { s with heap := h', toks := tk' }) (e : y = x) (F : Fr h₀ L h' m) (N : News h₀ L h' news') (hs : ∀ p ∈ news, p ∈ news') : Q (.int y t) { s with heap := h', toks := tk' } := by
  subst e; exact hret t h' tk' F (cb_drop N hs)
theorem endB {x y : Bool} {h' : Heap} {tk' : Nat} {news' : List (Addr × Obj)} (hret : ∀ (t : Tok) (h' : Heap) (tk' : Nat), Fr h₀ L h' m → News h₀ L h' news → Q (.bool x) { s with heap := h', toks := tk' }) (e : y = x) (F : Fr h₀ L h' m) (N : News h₀ L h' news') (hs : ∀ p ∈ news, p ∈ news') : Q (.bool y) { s with heap := h', toks := tk' } := by
  subst e; exact hret 0 h' tk' F (cb_drop N hs)
theorem endT {ds es : List Int} {D : Addr} {ws : Array Value} {c : Nat} {h' : Heap} {tk' : Nat} {news' : List (Addr × Obj)}
    (hret : ∀ (D : Addr) (ws : List Value) (c : Nat) (h' : Heap) (tk' : Nat), IntsAre ws ds → Fr h₀ L h' m → News h₀ L h' ((D, tupO ws c) :: news) → Q (.ref D) { s with heap := h', toks := tk' })
    (F : Fr h₀ L h' m) (N : News h₀ L h' news') (hm : (D, ({ cls := .type "tuple", data := .seq ws c } : Obj)) ∈ news') (I : IntsAre ws.toList es) (e : es = ds) (hs : ∀ p ∈ news, p ∈ news') : Q (.ref D) { s with heap := h', toks := tk' } := by
  subst e
  refine hret D ws.toList c h' tk' I F fun p hp => ?_
  rcases List.mem_cons.mp hp with rfl | hp
  · exact N _ hm
  · exact N p (hs p hp)
end

structure JMark : Prop where
structure JoinV (x : Str) (v : Int) (h₀ : Heap) (L : Addr) (m : Str → Option Value) (news : List (Addr × Obj)) (s : Shared) (f : Flow) (s' : Shared) : Prop where
  next : f = .next
  here : ∃ (t : Tok) (h : Heap) (tk : Nat), s' = { s with heap := h, toks := tk } ∧ Fr h₀ L h (fun y => if y = x then some (.int v t) else m y) ∧ News h₀ L h news
section
variable {M : Model} {A : Around} {E : Value → Shared → Prop} {s : Shared} {env : Env} {h₀ : Heap} {L : Addr} {m : Str → Option Value} {news : List (Addr × Obj)}
theorem join_int {st : Stmt} {Q : Flow → Shared → Prop} (x : Str) (v : Int) (F : Fr h₀ L s.heap m) (N : News h₀ L s.heap news)
    (h1 : JMark → wpAny M A (exec st env) (fun f s' => JoinV x v h₀ L m news s f s') E s)
    (h2 : ∀ (t : Tok) (h : Heap) (tk : Nat), Fr h₀ L h (fun y => if y = x then some (.int v t) else m y) → News h₀ L h news → Q .next { s with heap := h, toks := tk }) : wpAny M A (exec st env) Q E s := by
  refine wpAny_mono (h1 ⟨⟩) (fun f s₂ hq => ?_) fun _ _ h => h
  obtain ⟨rfl, t, h, tk, rfl, F', N'⟩ := hq
  exact h2 t h tk F' N'
theorem join_end {x : Str} {v v' : Int} {t : Tok} {h : Heap} {tk : Nat} {m' : Str → Option Value} {news' : List (Addr × Obj)} (F : Fr h₀ L h m') (N : News h₀ L h news') (hm : m' = fun y => if y = x then some (.int v' t) else m y) (hs : ∀ p ∈ news, p ∈ news') (e : v' = v) :
    JoinV x v h₀ L m news s .next { s with heap := h, toks := tk } := by
  subst e; subst hm
  exact ⟨rfl, t, h, tk, rfl, F, cb_drop N hs⟩
theorem join_same {x : Str} {v v' : Int} {t : Tok} {h : Heap} {tk : Nat} {news' : List (Addr × Obj)} (F : Fr h₀ L h m) (N : News h₀ L h news') (hm : m x = some (.int v' t)) (hs : ∀ p ∈ news, p ∈ news') (e : v' = v) :
    JoinV x v h₀ L m news s .next { s with heap := h, toks := tk } := by
  subst e
  have e : (fun y => if y = x then some (Value.int v' t) else m y) = m := by
    funext y
    by_cases hy : y = x
    · rw [if_pos hy, hy, hm]
    · rw [if_neg hy]
  exact ⟨rfl, t, h, tk, rfl, e.symm ▸ F, cb_drop N hs⟩
end

section
variable {prog : Program} {w : World} {A : Around} {E : Value → Shared → Prop} {s : Shared}
theorem mod_pos {a b : Int} {t u : Tok} {Q : Value → Shared → Prop} (hb : 0 < b) (h : Q (.int (a % b) s.toks) { s with toks := s.toks + 1 }) : wpAny (model prog w) A (binaryOp .Mod (.int a t) (.int b u)) Q E s := by
  refine mod_int (by omega) ?_
  rw [Int.fmod_eq_emod_of_nonneg _ (Int.le_of_lt hb)]
  exact h
theorem div_pos {a b : Int} {t u : Tok} {Q : Value → Shared → Prop} (hb : 0 < b ∧ b < 1073741824) (h : Q (.int (a / b) s.toks) { s with toks := s.toks + 1 }) : wpAny (model prog w) A (binaryOp .FloorDiv (.int a t) (.int b u)) Q E s := by
  refine floordiv_int (by omega) ?_ (Or.inl (PyProof.noPylong_small (by omega)))
  rw [Int.fdiv_eq_ediv_of_nonneg _ (Int.le_of_lt hb.1)]
  exact h
theorem in4 {t : Addr} {x a b c d : Int} {t1 t2 t3 t4 u : Tok} {Q : Value → Shared → Prop} (ht : IsTup s.heap t #[.int a t1, .int b t2, .int c t3, .int d t4])
    (h : Q (.bool (decide (x = a ∨ x = b ∨ x = c ∨ x = d))) s) : wpAny (model prog w) A (compareOp .In (.int x u) (.ref t)) Q E s := by
  refine in_tuple_ints (ns := [a, b, c, d]) ht (.cons _ _ (.cons _ _ (.cons _ _ (.cons _ _ .nil)))) ?_
  have e : ([a, b, c, d].any (· == x)) = decide (x = a ∨ x = b ∨ x = c ∨ x = d) := by
    rw [Bool.eq_iff_iff]; simp only [List.any_cons, List.any_nil, Bool.or_false, Bool.or_eq_true, beq_iff_eq, decide_eq_true_eq]; omega
  rw [e]; exact h
theorem tupK {K : Frag} {h₀ h : Heap} {L a : Addr} {m : Str → Option Value} {o : Obj} {items : Array Value} {n : Nat} (F : Fr h₀ L h m) (X : K.In h₀) (e : K.lookup a = some o) (hc : o.cls = .type "tuple") (hd : o.data = .seq items n) : IsTup h a items :=
  ⟨o, F.keep _ _ (X _ _ e), hc, n, hd⟩
end
/-! the cut of a tuple from its head, and the loop over it -/
theorem cut_ends (k n : Nat) (h : k ≤ n) : Builtin.Slice.sliceAdjust none (some (k : Int)) 1 (n : Int) = (0, (k : Int)) := by
  unfold Builtin.Slice.sliceAdjust
  have h1 : ¬ ((1 : Int) < 0) := by omega
  have h2 : ¬ ((k : Int) < 0) := by omega
  simp only [h1, h2, if_false]
  congr 1
  omega
theorem cut_count (k : Nat) : Builtin.Slice.slicePlaces (0 : Int) (k : Int) 1 = k := by
  unfold Builtin.Slice.slicePlaces
  have h1 : (1 : Int) > 0 := by omega
  simp only [h1, if_true, Int.ediv_one]
  split <;> omega
theorem cut_items (xs : Array Value) (k : Nat) : ((List.range k).filterMap fun (i : Nat) => xs[((0 : Int) + (i : Int) * 1).toNat]?).toArray = (xs.toList.take k).toArray := by
  have e : (fun (i : Nat) => xs[((0 : Int) + (i : Int) * 1).toNat]?) = fun i => xs[i]? := by
    funext i
    have : ((0 : Int) + (i : Int) * 1).toNat = i := by omega
    rw [this]
  rw [e]
  have := pick_run xs 0 k
  rw [List.filterMap_map] at this
  have e2 : ((fun x => xs[x]?) ∘ fun x => 0 + x) = fun i => xs[i]? := by funext i; simp
  rw [e2] at this
  rw [this, List.drop_zero]
section
variable {prog : Program} {w : World} {A : Around} {E : Value → Shared → Prop} {s : Shared}
theorem cut_parts {sl : Addr} {k n : Nat} {u : Tok} {Q : Int × Int × Nat → Shared → Prop} (hs : s.heap.IsSliceOf sl .none (.int k u) .none) (hk : k ≤ n) (h : Q ((0 : Int), 1, k) s) :
    wpAny (model prog w) A (Builtin.Slice.sliceApplied (.ref sl) (pure (n : Int))) Q E s := by
  obtain ⟨os, hos, hcs, hds⟩ := id hs
  unfold Builtin.Slice.sliceApplied Builtin.Slice.sliceFields
  refine wpAny_bind (wpAny_bind (wpAny_field hos hds (x := .none) rfl (wpAny_bind (wpAny_field hos hds (x := .int k u) rfl (wpAny_bind (wpAny_field hos hds (x := .none) rfl (wpAny_pure ?_)))))))
  refine wpAny_bind (slicePart_none ?_)
  show wpAny _ _ (if ((1 : Int) == 0) = true then _ else _) _ _ s
  rw [if_neg (by decide)]
  refine wpAny_bind (slicePart_none (wpAny_bind (slicePart_int (wpAny_bind (wpAny_pure ?_)))))
  show wpAny _ _ (match Builtin.Slice.sliceAdjust none (some (k : Int)) 1 (n : Int) with | (lo, hi) => pure (lo, (1 : Int), Builtin.Slice.slicePlaces lo hi 1)) _ _ s
  rw [cut_ends k n hk]
  show wpAny _ _ (pure ((0 : Int), (1 : Int), Builtin.Slice.slicePlaces (0 : Int) (k : Int) 1)) _ _ s
  rw [cut_count k]
  exact wpAny_pure h
theorem cut_get {t sl : Addr} {items : Array Value} {k : Nat} {u : Tok} {Q : Value → Shared → Prop} (ht : IsTup s.heap t items) (hs : s.heap.IsSliceOf sl .none (.int k u) .none) (hk : k < items.size)
    (h : Q (.ref s.heap.objs.size) { s with heap := s.heap.push { cls := .type "tuple", data := .seq (items.toList.take k).toArray } })
    (hsz : items.size ≤ sizeLine) : wpAny (model prog w) A (getItem (.ref t) (.ref sl)) Q E s := by
  have hok : sizeOk (.seq (items.toList.take k).toArray) := by
    show (items.toList.take k).toArray.size ≤ sizeLine
    rw [List.size_toArray, List.length_take, Array.length_toList]
    omega
  obtain ⟨os, hos, hcs, hds⟩ := id hs
  have hTs : s.TypeIs (.ref sl) "slice" := ⟨os, hos, hcs⟩
  unfold getItem
  try with_reducible refine wpAny_holding ?_
  first | refine wpAny_bind (wpAny_pure ?_) | skip
  refine wpAny_bind (wpAny_sequenceKey ht.typeIs (by decide) ?_)
  refine wpAny_bind (wpAny_callSpecial?_slot (name := Str.ofString "__getitem__") ht.typeIs slot_tuple_getitem
    (wpAny_call_entry slot_tuple_getitem ht.typeIs entry_tuple_getitem ?_ (args_tuple_getitem _ _)))
  show wpAny _ _ (Builtin.Tuple.tupleItemsOf (.ref t) >>= _) _ _ s
  refine wpAny_bind (tupleItemsOf_ ht ?_)
  refine wpAny_bind (wpAny_typeOf hTs ?_)
  rw [if_pos (by decide)]
  refine wpAny_bind (cut_parts hs (Nat.le_of_lt hk) ?_)
  have hno : ¬ (((0 : Int) == 0 && (1 : Int) == 1 && k == items.size) = true) := by
    have : (k == items.size) = false := by rw [beq_eq_false_iff_ne]; omega
    rw [this]; simp
  show wpAny _ _ (if ((0 : Int) == 0 && (1 : Int) == 1 && k == items.size) = true then _ else _) _ _ s
  rw [if_neg hno, cut_items items k]
  first
    | exact wpAny_bind (m := Builtin.Tuple.tupleExact _) (wpAny_newObj_type (wpAny_pure ⟨_, rfl, wpAny_pure h⟩) hok)
    | exact wpAny_bind (m := Builtin.Tuple.tupleExact _) (wpAny_newObj_type (wpAny_bind (wpAny_pure (wpAny_pure ⟨_, rfl, wpAny_pure h⟩))) hok)
    | exact wpAny_bind (wpAny_bind (m := Builtin.Tuple.tupleExact _) (wpAny_newObj_type (wpAny_pure (wpAny_pure ⟨_, rfl, wpAny_pure h⟩)) hok))
    | exact wpAny_bind (wpAny_bind (m := Builtin.Tuple.tupleExact _) (wpAny_newObj_type (wpAny_pure ⟨_, rfl, wpAny_pure h⟩) hok))
end
section
variable {prog : Program} {w : World} {A : Around} {E : Value → Shared → Prop} {s : Shared} {h₀ : Heap} {L : Addr} {m : Str → Option Value} {news : List (Addr × Obj)}
theorem cut_tuple {value slice : Expr} {t : Addr} {items : Array Value} {x : Int} {u : Tok} {Q : Value → Shared → Prop}
    (F : Fr h₀ L s.heap m) (N : News h₀ L s.heap news) (ht : IsTup s.heap t items) (h0 : 0 ≤ x) (hk : x < items.size) (hsz : items.size ≤ sizeLine)
    (h : ∀ (D : Addr) h', Fr h₀ L h' m → News h₀ L h' ((D, { cls := .type "tuple", data := .seq (items.toList.take x.toNat).toArray }) :: news) → Q (.ref D) { s with heap := h' })
    (hs : subscripted slice false (.ref t) (.ref s.heap.objs.size) = operate [.ref s.heap.objs.size, .ref t] (getItem (.ref t) (.ref s.heap.objs.size)) := by with_unfolding_all rfl)
    (hg : ∀ r, letTemporaryGo value (.ref t) r = pure () := by intro _; with_unfolding_all rfl) :
    wpAny (model prog w) A (subscriptTail value slice (.ref t) (.ref s.heap.objs.size)) Q E { s with heap := s.heap.push { cls := .type "slice", data := .fields #[.none, .int x u, .none] } } := by
  obtain ⟨k, rfl⟩ := Int.eq_ofNat_of_zero_le h0
  have ht' : IsTup (s.heap.push { cls := .type "slice", data := .fields #[.none, .int (k : Int) u, .none] }) t items := ht.keeps fun _ _ e => Heap.get?_push_of_some _ e
  refine subscriptTail_ops (s := { s with heap := s.heap.push { cls := .type "slice", data := .fields #[.none, .int (k : Int) u, .none] } }) ht'.typeIs slot_tuple_getitem.lookup
    (cut_get ht' (Heap.IsSliceOf.new ..) (by omega) ?_ hsz) hs hg
  have N1 := News.push (F.push { cls := .type "slice", data := .fields #[.none, .int (k : Int) u, .none] }) (N.grown fun _ _ e => Heap.get?_push_of_some _ e) { cls := .type "tuple", data := .seq (items.toList.take k).toArray }
  rw [Heap.size_push] at N1
  show Q (.ref (s.heap.push _).objs.size) _
  rw [Heap.size_push]
  exact h _ _ ((F.push _).push _) N1
end

section
variable {prog : Program} {w : World} {A : Around} {E : Value → Shared → Prop} {s : Shared} {h₀ : Heap} {L a D : Addr} {m : Str → Option Value} {news : List (Addr × Obj)} {cn x y : Str} {cs : Scope} {ccd : Value} {cl : List (Str × Addr)} {Q : Flow → Shared → Prop} {p1 p2 p3 : Pos} {ws : List Value} {c : Nat} {n₀ : Int} {t₀ : Tok}
def sumMap (m : Str → Option Value) (x y : Str) (u : Option Value) (n : Int) (t : Tok) : Str → Option Value := fun z => if z = x then u else if z = y then some (.int n t) else m z
theorem tup_loop (F : Fr h₀ L s.heap m) (N : News h₀ L s.heap ((D, tupO ws c) :: news)) (hw : ∀ v ∈ ws, ∃ n t, v = Value.int n t) (hxy : x ≠ y) (hm : m y = some (.int n₀ t₀))
    (hh : A.handled = none) (hk : cs.kind = .function) (hx : (envX cn cs L a ccd cl).kindOf x = some .local) (hy : (envX cn cs L a ccd cl).kindOf y = some .local) (hxd : (x == ("__debug__" : Str)) = false)
    (done : ∀ n t u h tk, Fr h₀ L h (fun z => if z = x then u else if z = y then some (.int n t) else m z) → News h₀ L h news → Q .next { s with heap := h, toks := tk }) :
    wpAny (model prog w) A (pyIter (.ref D)) (fun it s₂ => LoopAtV prog w A h₀ (envX cn cs L a ccd cl) x [.AugAssign (.Name y p1) .Add (.Name x p2) p3] Q E it s₂) E s := by
  have hD := N _ (List.mem_cons_self)
  have hls : s.heap.IsTuple D ws.toArray := ⟨_, hD.1, rfl, _, rfl⟩
  have hlt : D < s.heap.objs.size := Heap.lt_size hD.1
  have hne : D ≠ s.heap.objs.size := Nat.ne_of_lt hlt
  have N0 : News h₀ L s.heap news := fun p hp => N p (List.mem_cons_of_mem _ hp)
  refine wpAny_pyIter_tuple hls ?_
  refine ⟨s.heap.objs.size, [s.heap.objs.size, D], [s.heap.objs.size], ws.toArray.size, _, _, m, news, fun _ m₁ nx => nx = news ∧ ∃ u n t, m₁ = sumMap m x y u n t, rfl,
    Walks.tuple hh _ D hne ws.toArray, ?_, ?_, ?_, ⟨⟨_, Heap.get?_push_size _ rfl, rfl, rfl⟩, hls.at fun o e => Heap.get?_push_of_some _ e⟩, F.push _,
    fun p hp => ⟨Heap.get?_push_of_some _ (N0 p hp).1, (N0 p hp).2⟩, ⟨rfl, m x, n₀, t₀, ?_⟩, ?_, ?_⟩
  · intro hmem
    rcases List.mem_cons.mp hmem with e | hmem
    · exact absurd F.ns.lt (e ▸ Nat.lt_irrefl _)
    · exact hD.2.1 (List.mem_singleton.mp hmem).symm
  · intro b hb
    rw [List.mem_singleton.mp hb]
    exact next_is_new F
  · intro p hp hI
    exact absurd (Heap.lt_size (N0 p hp).1) ((List.mem_singleton.mp hI) ▸ Nat.lt_irrefl _)
  · funext z
    unfold sumMap
    by_cases h1 : z = x
    · rw [if_pos h1, h1]
    · rw [if_neg h1]
      by_cases h2 : z = y
      · rw [if_pos h2, h2, hm]
      · rw [if_neg h2]
  · rintro i v m₁ nx s₁ own ⟨hh', tk', rfl⟩ hi hP ⟨rfl, u, n, t, rfl⟩ hoff hown _ _ _ F₁ N₁
    obtain ⟨n', t', rfl⟩ := hw v (by
      have : ws[i]? = some v := by simpa using hP
      exact List.mem_of_getElem? this)
    refine wpAny_execs_cons (wpAny_AugAssign_Name (wpAny_loadName_local hk hy F₁.ns (v := .int n t) (by
      show (if y = x then _ else sumMap m x y u n t y) = _
      rw [if_neg (Ne.symm hxy)]
      unfold sumMap
      rw [if_neg (Ne.symm hxy), if_pos rfl]) ?_))
    refine nameX_L F₁ (v := .int n' t') (by show (if x = x then _ else _) = _; rw [if_pos rfl]) ?_ hk hx hxd
    refine iadd_int ?_
    refine storeX_L F₁ N₁ (fun h' F₂ N₂ => ?_) hk hy
    refine wpAny_execs_nil ?_
    refine LoopStepV.next ⟨rfl, h', _, _, nx, rfl, F₂, N₂, hoff, rfl, some (.int n' t'), n + n', tk', ?_⟩
    funext z
    unfold sumMap
    by_cases h1 : z = y
    · rw [if_pos h1, if_neg (h1 ▸ Ne.symm hxy), if_pos h1]
    · rw [if_neg h1]
      by_cases h2 : z = x
      · rw [if_pos h2, if_pos h2]
      · rw [if_neg h2, if_neg h2, if_neg h2, if_neg h1, if_neg h1]
  · rintro h' tk m' nx F' N' _ ⟨rfl, u, n, t, rfl⟩
    exact done n t u h' tk F' N'
end

/-- a contract whose answer is a pair; the first item is not told -/
def ConE (w : World) (mean : ExcName → Option Value) (mg mb : Str → Option Value) (f : Addr) (k : Nat) (news : List (Addr × Obj)) (pre : Prop) (vs : List Value) (y : Int) : Prop :=
  ∀ (dp un : Nat) (gd : Option (List Code)) (cn : Str) (cs : Scope) (a : Addr) (ccd : Value) (cl : List (Str × Addr)) (outer : List Env) (A₀ : Around) (base h₀ : Heap) (L : Addr) (m : Str → Option Value) (s : Shared) (Q E : Value → Shared → Prop),
    Below A₀ base outer h₀ → Fr h₀ L s.heap m → (Kf w).In h₀ → News h₀ L s.heap news → Tp mean mg mb h₀ → cs.kind = .function →
    pre → dp + k < recursionLimit → un + 8 * k < cLine →
    (∀ (x : Int) (D : Addr) (t1 t2 : Tok) (c : Nat) (h' : Heap) (tk' : Nat), Fr h₀ L h' m → News h₀ L h' ((D, { cls := .type "tuple", data := .seq #[.int x t1, .int y t2] c }) :: news) → Q (.ref D) { s with heap := h', toks := tk' }) →
    wpAny (model (PySem.Challenge.rw_bh0015_01.row.prog) w) (ktrTop dp un gd cn cs L a ccd cl outer) (call (.ref f) vs) Q E s
section
variable {w : World} {mean : ExcName → Option Value} {mg mb : Str → Option Value} {f : Addr} {k : Nat} {news : List (Addr × Obj)} {pre : Prop} {vs : List Value}
  {dp un : Nat} {gd : Option (List Code)} {cn : Str} {cs : Scope} {a : Addr} {ccd : Value} {cl : List (Str × Addr)} {outer : List Env} {A₀ : Around} {base h₀ : Heap} {L : Addr} {m : Str → Option Value} {s : Shared} {Q E : Value → Shared → Prop}
theorem useE {y : Int} (C : ConE w mean mg mb f k news pre vs y) (B : Below A₀ base outer h₀) (F : Fr h₀ L s.heap m) (X : (Kf w).In h₀) (N : News h₀ L s.heap news) (T : Tp mean mg mb h₀) (hk : cs.kind = .function)
    (hp : pre) (hd : dp + k < recursionLimit) (hu : un + 8 * k < cLine)
    (ret : ∀ (x : Int) (D : Addr) (t1 t2 : Tok) (c : Nat) (h' : Heap) (tk' : Nat), Fr h₀ L h' m → News h₀ L h' ((D, { cls := .type "tuple", data := .seq #[.int x t1, .int y t2] c }) :: news) → Q (.ref D) { s with heap := h', toks := tk' }) :
    wpAny (model (PySem.Challenge.rw_bh0015_01.row.prog) w) (ktrTop dp un gd cn cs L a ccd cl outer) (call (.ref f) vs) Q E s :=
  C _ _ _ _ _ _ _ _ _ _ _ _ _ _ _ _ _ B F X N T hk hp hd hu ret
theorem endE {x y y' : Int} {t1 t2 : Tok} {D : Addr} {c : Nat} {h' : Heap} {tk' : Nat} {news' : List (Addr × Obj)}
    (hret : ∀ (x : Int) (D : Addr) (t1 t2 : Tok) (c : Nat) (h' : Heap) (tk' : Nat), Fr h₀ L h' m → News h₀ L h' ((D, { cls := .type "tuple", data := .seq #[.int x t1, .int y t2] c }) :: news) → Q (.ref D) { s with heap := h', toks := tk' })
    (F : Fr h₀ L h' m) (N : News h₀ L h' news') (hm : (D, ({ cls := .type "tuple", data := .seq #[.int x t1, .int y' t2] c } : Obj)) ∈ news') (e : y' = y) (hs : ∀ p ∈ news, p ∈ news') : Q (.ref D) { s with heap := h', toks := tk' } := by
  subst e
  refine hret x D t1 t2 c h' tk' F fun p hp => ?_
  rcases List.mem_cons.mp hp with rfl | hp
  · exact N _ hm
  · exact N p (hs p hp)
end
theorem all_ints {xs : List Value} {ns : List Int} (h : IntsAre xs ns) {k : Nat} : ∀ v ∈ xs.take k, ∃ n t, v = Value.int n t := by
  intro v hv
  have hm := List.mem_of_mem_take hv
  clear hv
  induction h with
  | nil => cases hm
  | cons n t _ ih =>
    rcases List.mem_cons.mp hm with rfl | hm
    · exact ⟨n, t, rfl⟩
    · exact ih hm
structure JoinA (x : Str) (h₀ : Heap) (L : Addr) (m : Str → Option Value) (news : List (Addr × Obj)) (s : Shared) (f : Flow) (s' : Shared) : Prop where
  next : f = .next
  here : ∃ (v : Int) (t : Tok) (h : Heap) (tk : Nat), s' = { s with heap := h, toks := tk } ∧ Fr h₀ L h (fun y => if y = x then some (.int v t) else m y) ∧ News h₀ L h news
section
variable {M : Model} {A : Around} {E : Value → Shared → Prop} {s : Shared} {env : Env} {h₀ : Heap} {L : Addr} {m : Str → Option Value} {news : List (Addr × Obj)}
theorem join_any {st : Stmt} {Q : Flow → Shared → Prop} (x : Str) (F : Fr h₀ L s.heap m) (N : News h₀ L s.heap news)
    (h1 : JMark → wpAny M A (exec st env) (fun f s' => JoinA x h₀ L m news s f s') E s)
    (h2 : ∀ (v : Int) (t : Tok) (h : Heap) (tk : Nat), Fr h₀ L h (fun y => if y = x then some (.int v t) else m y) → News h₀ L h news → Q .next { s with heap := h, toks := tk }) : wpAny M A (exec st env) Q E s := by
  refine wpAny_mono (h1 ⟨⟩) (fun f s₂ hq => ?_) fun _ _ h => h
  obtain ⟨rfl, v, t, h, tk, rfl, F', N'⟩ := hq
  exact h2 v t h tk F' N'
theorem joinA_end {x : Str} {v : Int} {t : Tok} {h : Heap} {tk : Nat} {m' : Str → Option Value} {news' : List (Addr × Obj)} (F : Fr h₀ L h m') (N : News h₀ L h news') (hm : m' = fun y => if y = x then some (.int v t) else m y) (hs : ∀ p ∈ news, p ∈ news') :
    JoinA x h₀ L m news s .next { s with heap := h, toks := tk } := by
  subst hm
  exact ⟨rfl, v, t, h, tk, rfl, F, cb_drop N hs⟩
theorem joinA_same {x : Str} {v : Int} {t : Tok} {h : Heap} {tk : Nat} {news' : List (Addr × Obj)} (F : Fr h₀ L h m) (N : News h₀ L h news') (hm : m x = some (.int v t)) (hs : ∀ p ∈ news, p ∈ news') :
    JoinA x h₀ L m news s .next { s with heap := h, toks := tk } := by
  have e : (fun y => if y = x then some (Value.int v t) else m y) = m := by
    funext y
    by_cases hy : y = x
    · rw [if_pos hy, hy, hm]
    · rw [if_neg hy]
  exact ⟨rfl, v, t, h, tk, rfl, e.symm ▸ F, cb_drop N hs⟩
end

section
variable {M : Model} {A : Around} {E : Value → Shared → Prop} {s : Shared} {env : Env}
theorem starMeth {o : Expr} {name : Str} {apos pos : Pos} {args : List Expr} {Q : Value → Shared → Prop}
    (h : wpAny M A (eval o env) (fun ov s₁ => wpAny M A (getAttr ov name true) (fun f s₂ => wpAny M A (callWith pos f [] (backTo pos (starEach args env)) []) Q E s₂) E s₁) E s)
    (he : eval (.Call (.Attribute o name apos) args [] pos) env = (do
      let ov ← eval o env
      standAt apos.atName
      let (f, first) ← holding [ov] (do pure (← getAttr ov name true, []))
      callWith pos f first (backTo pos (starEach args env)) []) := by rfl) :
    wpAny M A (eval (.Call (.Attribute o name apos) args [] pos) env) Q E s := by
  rw [he]
  refine wpAny_bind (wpAny_mono h (fun ov s₁ h₁ => wpAny_bind (wpAny_standAt (wpAny_bind (wpAny_holding (wpAny_bind (wpAny_mono h₁ (fun f s₂ h₂ => wpAny_pure ?_) fun _ _ x => x)))))) fun _ _ x => x)
  exact h₂
end

section
variable {M : Model} {A : Around} {E : Value → Shared → Prop} {s : Shared} {K : Frag} {env : Env} {pos p : Pos} {first : List Value} {Q : Value → Shared → Prop} {h₀ : Heap} {L : Addr} {news : List (Addr × Obj)} {q g : Addr} {self : Value} {e : Expr}
theorem callWith_SM (_X : K.In h₀) (_N : News h₀ L s.heap news) (_q : (q, methodObj (.ref g) self) ∈ news) (hf : fnIn K g = true)
    (h : wpAny M A (eval e env) (fun v s₁ => StarOf M A E v (fun vs s₂ => MethP K q g self s₂.heap ∧ wpAny M A (call (.ref q) (first ++ vs)) Q E s₂) s₁) E s)
    (he : starEach [.Starred e p] env = [(true, eval e env)] := by rfl) :
    wpAny M A (callWith pos (.ref q) first (backTo pos (starEach [.Starred e p] env)) []) Q E s := by
  rw [he]
  exact ks_call rfl (keeps_M hf) (ks_lone h)
end

theorem ite_eqY {a b : Int} {P Q : Prop} (h : a = b) (k : P) : if (a == b) = true then P else Q := by rw [if_pos (beq_iff_eq.mpr h)]; exact k
theorem ite_eqN {a b : Int} {P Q : Prop} (h : a ≠ b) (k : Q) : if (a == b) = true then P else Q := by rw [if_neg (fun e => h (beq_iff_eq.mp e))]; exact k
local macro_rules | `(tactic| walk_at "binaryOp Mod int int") => `(tactic| (refine mod_pos (by first | decide | omega) ?_))
local macro_rules | `(tactic| walk_at "binaryOp FloorDiv int int") => `(tactic| (refine div_pos (by first | decide | omega) ?_))
local macro_rules | `(tactic| walk_at "compareOp In int ref") => `(tactic| (k_here; (with_reducible show wpAny _ _ (compareOp CmpOp.In (Value.int _ _) (Value.ref _)) _ _ _); k_dflt (refine' in4 (tupK ?k1 ?k2 ?k3 ?k4 ?k5) ?_; (case k1 => k_asm); (case k2 => k_asm); (case k3 => k_is); (case k4 => exact rfl); (case k5 => exact rfl))))
local macro_rules | `(tactic| walk_at "compareOp In int ref") => `(tactic| (k_here; (with_reducible show wpAny _ _ (compareOp CmpOp.In (Value.int _ _) (Value.ref _)) _ _ _); k_dflt (refine' in4 (News.isTup ?k1 ?k2) ?_; (case k1 => k_asm); (case k2 => k_mem))))
local macro_rules | `(tactic| walk_at "eval Call Attribute") => `(tactic| ((with_reducible show wpAny _ _ (eval (Expr.Call (Expr.Attribute _ _ _) [Expr.Starred _ _] [] _) _) _ _ _); k_dflt (refine starMeth ?_)))
local macro_rules | `(tactic| walk_at "eval Call") => `(tactic| ((with_reducible show wpAny _ _ (eval (Expr.Call (Expr.Name _ _) _ [] _) _) _ _ _); k_dflt (refine Call_ ?_)))
def leapB (y : Int) : Bool := decide (y % 4 = 0) && (decide (y % 100 ≠ 0) || decide (y % 400 = 0))

theorem c_isleap (w mean mg mb) : ∀ news y ty, ConV w mean mg mb 22 1 news (True) [.int y ty] (fun _ => .bool (leapB y)) := by
  intro news y ty
  unfold ConV
  dsimp only [Kf, Tp]
  k_fill
  intro dp' un' gd' cn' cs' a' ccd' cl' outer' A' base' h' L' fr' s' Q' E' hB hF hX hN hT hk hpre hd hu hret
  all_goals (
  refine wpAny_call ?_
  k_dflt (refine' code_def ?k1 ?k2 ?k3 ?k4 ?k5 ?kA ?kF ?kK ?k6 ?k7 ?k8 ?k9 ?kB ?_ ?c2 ?c3 ?c4 ?c5; (case kA => exact rfl); (case kF => exact rfl); (case kK => assumption); (case k1 => k_asm); (case k2 => k_asm); (case k3 => k_asm); (case k4 => k_asm); (case k5 => k_asm); (case k6 => k_is); (case k7 => k_is); (case k8 => ktr_room); (case k9 => first | exact BindsTo.of_eq rfl | exact binds_K (by k_in) rfl (by k_is) rfl rfl rfl); (case c5 => decide); (case kB => exact locs rfl); (case c2 => exact rfl); (case c3 => exact rfl); (case c4 => exact rfl); k_whole; intro g' L' h' FG' F' N' B' X' T'; (try dsimp only); (try k_lift B'); (try k_fold))
  k_steps)
  all_goals (refine' endB hret ?e1 ?e2 ?e3 ?e4; (case e2 => k_asm); (case e3 => k_asm); (case e4 => first | exact fun _ h => h | exact fun _ h => .tail _ h | exact fun _ h => .tail _ (.tail _ h) | exact fun _ h => .tail _ (.tail _ (.tail _ h)) | exact fun _ h => .tail _ (.tail _ (.tail _ (.tail _ h))) | exact fun _ h => .tail _ (.tail _ (.tail _ (.tail _ (.tail _ h)))) | exact fun _ h => .tail _ (.tail _ (.tail _ (.tail _ (.tail _ (.tail _ h))))) | exact fun _ h => .tail _ (.tail _ (.tail _ (.tail _ (.tail _ (.tail _ (.tail _ h)))))) | exact fun _ h => .tail _ (.tail _ (.tail _ (.tail _ (.tail _ (.tail _ (.tail _ (.tail _ h))))))) | kcj_all); (case e1 => simp [leapB, *] <;> (try rfl) <;> (try omega)))
local macro_rules | `(tactic| walk_at "call ref") => `(tactic| ((with_reducible show wpAny _ _ (call (Value.ref 22) _) _ _ _); k_here; k_dflt (refine' useV (c_isleap _ _ _ _ _ _ _) ?k1 ?k2 ?k3 ?k4 ?k5 ?kK ?kp ?kd ?ku ?_; (case k1 => k_asm); (case k2 => k_asm); (case k3 => k_asm); (case k4 => k_asm); (case k5 => k_asm); (case kK => first | exact rfl | assumption); (case kp => exact True.intro); (case kd => ktr_room); (case ku => ktr_units); intro t9 h9 tk9 F9 N9; (try dsimp only); (try k_fold))))
def dimg (y m : Int) : Int := if m = 2 then (if leapB y then 29 else 28) else if m = 4 ∨ m = 6 ∨ m = 9 ∨ m = 11 then 30 else 31
theorem dimg_ge (y m : Int) : 28 ≤ dimg y m := by unfold dimg; repeat' split <;> try omega
theorem pre_n (y g : Int) : 0 < 22 - (if leapB g = true then (1 : Int) else 0) ∧ 22 - (if leapB g = true then (1 : Int) else 0) ≤ dimg y 3 := by
  have := dimg_ge y 3
  split <;> omega

section
local macro_rules | `(tactic| walk_at "exec Raise some none") => `(tactic| (k_here; exfalso; (rename (_ ∧ _ ≤ dimg _ _) => h9); simp [dimg, *] at h9 <;> omega))
theorem c_legal_g (w mean mg mb) : ∀ news y ty m tm d td, ConV w mean mg mb 86 2 news (0 < d ∧ d ≤ dimg y m) [.int y ty, .int m tm, .int d td] (fun _ => .bool (true)) := by
  intro news y ty m tm d td
  unfold ConV
  dsimp only [Kf, Tp]
  k_fill
  intro dp' un' gd' cn' cs' a' ccd' cl' outer' A' base' h' L' fr' s' Q' E' hB hF hX hN hT hk hpre hd hu hret
  all_goals (
  refine wpAny_call ?_
  k_dflt (refine' code_def ?k1 ?k2 ?k3 ?k4 ?k5 ?kA ?kF ?kK ?k6 ?k7 ?k8 ?k9 ?kB ?_ ?c2 ?c3 ?c4 ?c5; (case kA => exact rfl); (case kF => exact rfl); (case kK => assumption); (case k1 => k_asm); (case k2 => k_asm); (case k3 => k_asm); (case k4 => k_asm); (case k5 => k_asm); (case k6 => k_is); (case k7 => k_is); (case k8 => ktr_room); (case k9 => first | exact BindsTo.of_eq rfl | exact binds_K (by k_in) rfl (by k_is) rfl rfl rfl); (case c5 => decide); (case kB => exact locs rfl); (case c2 => exact rfl); (case c3 => exact rfl); (case c4 => exact rfl); k_whole; intro g' L' h' FG' F' N' B' X' T'; (try dsimp only); (try k_lift B'); (try k_fold))
  k_steps)
  all_goals (refine' endB hret ?e1 ?e2 ?e3 ?e4; (case e2 => k_asm); (case e3 => k_asm); (case e4 => first | exact fun _ h => h | exact fun _ h => .tail _ h | exact fun _ h => .tail _ (.tail _ h) | exact fun _ h => .tail _ (.tail _ (.tail _ h)) | exact fun _ h => .tail _ (.tail _ (.tail _ (.tail _ h))) | exact fun _ h => .tail _ (.tail _ (.tail _ (.tail _ (.tail _ h)))) | exact fun _ h => .tail _ (.tail _ (.tail _ (.tail _ (.tail _ (.tail _ h))))) | exact fun _ h => .tail _ (.tail _ (.tail _ (.tail _ (.tail _ (.tail _ (.tail _ h)))))) | exact fun _ h => .tail _ (.tail _ (.tail _ (.tail _ (.tail _ (.tail _ (.tail _ (.tail _ h))))))) | kcj_all); (case e1 => rfl))
end
local macro_rules | `(tactic| walk_at "call ref") => `(tactic| ((with_reducible show wpAny _ _ (call (Value.ref 86) _) _ _ _); k_here; k_dflt (refine' useV (c_legal_g _ _ _ _ _ _ _ _ _ _ _) ?k1 ?k2 ?k3 ?k4 ?k5 ?kK ?kp ?kd ?ku ?_; (case k1 => k_asm); (case k2 => k_asm); (case k3 => k_asm); (case k4 => k_asm); (case k5 => k_asm); (case kK => first | exact rfl | assumption); (case kp => first | with_reducible assumption | assumption | exact ⟨by decide, Int.le_trans (by decide) (dimg_ge _ _)⟩ | exact pre_n _ _); (case kd => ktr_room); (case ku => ktr_units); intro t9 h9 tk9 F9 N9; (try dsimp only); (try k_fold))))
def tjg (y m d : Int) : Int := 1721426 - 1 + 365 * (y - 1) + (y - 1) / 4 + -((y - 1) / 100) + (y - 1) / 400 + ((367 * m - 362) / 12 + (if m ≤ 2 then 0 else if leapB y then -1 else -2) + d)

section
set_option hygiene false in
local macro_rules | `(tactic| walk_at "exec If") => `(tactic| ((with_reducible show wpAny _ _ (exec (Stmt.If (Expr.Compare _ _ _ _) _ _ _) _) _ _ _); (fail_if_success (rename JMark => hM)); k_here; (rename Fr _ _ _ _ => cF'); (rename News _ _ _ _ => cN'); k_dflt (refine' join_int (Str.ofString "leap_adj") (if m ≤ 2 then 0 else if leapB y then -1 else -2) cF' cN' (fun hM => ?_) (fun t9 h9 tk9 F9 N9 => ?_)); (all_goals (try k_fold)); (all_goals (try k_sweep))))
local macro_rules | `(tactic| walk_at "JoinV") => `(tactic| (first | (refine' join_end ?jf ?jn ?jm ?js ?je; (case jf => k_asm); (case jn => k_asm); (case jm => first | exact rfl | with_unfolding_all rfl); (case js => first | exact fun _ h => h | exact fun _ h => .tail _ h | exact fun _ h => .tail _ (.tail _ h) | exact fun _ h => .tail _ (.tail _ (.tail _ h)) | exact fun _ h => .tail _ (.tail _ (.tail _ (.tail _ h))) | exact fun _ h => .tail _ (.tail _ (.tail _ (.tail _ (.tail _ h)))) | exact fun _ h => .tail _ (.tail _ (.tail _ (.tail _ (.tail _ (.tail _ h))))) | exact fun _ h => .tail _ (.tail _ (.tail _ (.tail _ (.tail _ (.tail _ (.tail _ h)))))) | exact fun _ h => .tail _ (.tail _ (.tail _ (.tail _ (.tail _ (.tail _ (.tail _ (.tail _ h))))))) | kcj_all); (case je => first | rfl | (simp [*]))) | (refine' join_same ?jf ?jn ?jm ?js ?je; (case jf => k_asm); (case jn => k_asm); (case jm => first | exact rfl | with_unfolding_all rfl); (case js => first | exact fun _ h => h | exact fun _ h => .tail _ h | exact fun _ h => .tail _ (.tail _ h) | exact fun _ h => .tail _ (.tail _ (.tail _ h)) | exact fun _ h => .tail _ (.tail _ (.tail _ (.tail _ h))) | exact fun _ h => .tail _ (.tail _ (.tail _ (.tail _ (.tail _ h)))) | exact fun _ h => .tail _ (.tail _ (.tail _ (.tail _ (.tail _ (.tail _ h))))) | exact fun _ h => .tail _ (.tail _ (.tail _ (.tail _ (.tail _ (.tail _ (.tail _ h)))))) | exact fun _ h => .tail _ (.tail _ (.tail _ (.tail _ (.tail _ (.tail _ (.tail _ (.tail _ h))))))) | kcj_all); (case je => first | rfl | (simp [*])))))
theorem c_to_jd_g (w mean mg mb) : ∀ news y ty m tm d td, ConV w mean mg mb 93 3 news (0 < d ∧ d ≤ dimg y m) [.int y ty, .int m tm, .int d td] (fun t => .int (tjg y m d) t) := by
  intro news y ty m tm d td
  unfold ConV
  dsimp only [Kf, Tp]
  k_fill
  intro dp' un' gd' cn' cs' a' ccd' cl' outer' A' base' h' L' fr' s' Q' E' hB hF hX hN hT hk hpre hd hu hret
  all_goals (
  refine wpAny_call ?_
  k_dflt (refine' code_def ?k1 ?k2 ?k3 ?k4 ?k5 ?kA ?kF ?kK ?k6 ?k7 ?k8 ?k9 ?kB ?_ ?c2 ?c3 ?c4 ?c5; (case kA => exact rfl); (case kF => exact rfl); (case kK => assumption); (case k1 => k_asm); (case k2 => k_asm); (case k3 => k_asm); (case k4 => k_asm); (case k5 => k_asm); (case k6 => k_is); (case k7 => k_is); (case k8 => ktr_room); (case k9 => first | exact BindsTo.of_eq rfl | exact binds_K (by k_in) rfl (by k_is) rfl rfl rfl); (case c5 => decide); (case kB => exact locs rfl); (case c2 => exact rfl); (case c3 => exact rfl); (case c4 => exact rfl); k_whole; intro g' L' h' FG' F' N' B' X' T'; (try dsimp only); (try k_lift B'); (try k_fold))
  k_steps)
  all_goals (refine' endI hret ?e1 ?e2 ?e3 ?e4; (case e2 => k_asm); (case e3 => k_asm); (case e4 => first | exact fun _ h => h | exact fun _ h => .tail _ h | exact fun _ h => .tail _ (.tail _ h) | exact fun _ h => .tail _ (.tail _ (.tail _ h)) | exact fun _ h => .tail _ (.tail _ (.tail _ (.tail _ h))) | exact fun _ h => .tail _ (.tail _ (.tail _ (.tail _ (.tail _ h)))) | exact fun _ h => .tail _ (.tail _ (.tail _ (.tail _ (.tail _ (.tail _ h))))) | exact fun _ h => .tail _ (.tail _ (.tail _ (.tail _ (.tail _ (.tail _ (.tail _ h)))))) | exact fun _ h => .tail _ (.tail _ (.tail _ (.tail _ (.tail _ (.tail _ (.tail _ (.tail _ h))))))) | kcj_all); (case e1 => rfl))
end
local macro_rules | `(tactic| walk_at "call ref") => `(tactic| ((with_reducible show wpAny _ _ (call (Value.ref 93) _) _ _ _); k_here; k_dflt (refine' useV (c_to_jd_g _ _ _ _ _ _ _ _ _ _ _) ?k1 ?k2 ?k3 ?k4 ?k5 ?kK ?kp ?kd ?ku ?_; (case k1 => k_asm); (case k2 => k_asm); (case k3 => k_asm); (case k4 => k_asm); (case k5 => k_asm); (case kK => first | exact rfl | assumption); (case kp => first | with_reducible assumption | assumption | exact ⟨by decide, Int.le_trans (by decide) (dimg_ge _ _)⟩ | exact pre_n _ _); (case kd => ktr_room); (case ku => ktr_units); intro t9 h9 tk9 F9 N9; (try dsimp only); (try k_fold))))
def fyg (n : Int) : Int := (n - 1721426) / 146097 * 400 + (n - 1721426) % 146097 / 36524 * 100 + (n - 1721426) % 146097 % 36524 / 1461 * 4 + (n - 1721426) % 146097 % 36524 % 1461 / 365 + (if (n - 1721426) % 146097 / 36524 = 4 ∨ (n - 1721426) % 146097 % 36524 % 1461 / 365 = 4 then 0 else 1)
def adjg (y yd : Int) : Int := if yd < 58 + (if leapB y then 1 else 0) then 0 else if leapB y then 1 else 2
def fmg (n : Int) : Int := ((n - tjg (fyg n) 1 1 + adjg (fyg n) (n - tjg (fyg n) 1 1)) * 12 + 373) / 367
def fdg (n : Int) : Int := n - tjg (fyg n) (fmg n) 1 + 1

section
set_option hygiene false in
local macro_rules | `(tactic| walk_at "exec If") => `(tactic| ((with_reducible show wpAny _ _ (exec (Stmt.If (Expr.UnaryOp _ _ _) _ _ _) _) _ _ _); (fail_if_success (rename JMark => hM)); k_here; (rename Fr _ _ _ _ => cF'); (rename News _ _ _ _ => cN'); k_dflt (refine' join_int (Str.ofString "year") (fyg n) cF' cN' (fun hM => ?_) (fun t9 h9 tk9 F9 N9 => ?_)); (all_goals (try k_fold)); (all_goals (try k_sweep))))
local macro_rules | `(tactic| walk_at "JoinV") => `(tactic| (first | (refine' join_end ?jf ?jn ?jm ?js ?je; (case jf => k_asm); (case jn => k_asm); (case jm => first | exact rfl | with_unfolding_all rfl); (case js => first | exact fun _ h => h | exact fun _ h => .tail _ h | exact fun _ h => .tail _ (.tail _ h) | exact fun _ h => .tail _ (.tail _ (.tail _ h)) | exact fun _ h => .tail _ (.tail _ (.tail _ (.tail _ h))) | exact fun _ h => .tail _ (.tail _ (.tail _ (.tail _ (.tail _ h)))) | exact fun _ h => .tail _ (.tail _ (.tail _ (.tail _ (.tail _ (.tail _ h))))) | exact fun _ h => .tail _ (.tail _ (.tail _ (.tail _ (.tail _ (.tail _ (.tail _ h)))))) | exact fun _ h => .tail _ (.tail _ (.tail _ (.tail _ (.tail _ (.tail _ (.tail _ (.tail _ h))))))) | kcj_all); (case je => first | rfl | (simp [fyg, *]))) | (refine' join_same ?jf ?jn ?jm ?js ?je; (case jf => k_asm); (case jn => k_asm); (case jm => first | exact rfl | with_unfolding_all rfl); (case js => first | exact fun _ h => h | exact fun _ h => .tail _ h | exact fun _ h => .tail _ (.tail _ h) | exact fun _ h => .tail _ (.tail _ (.tail _ h)) | exact fun _ h => .tail _ (.tail _ (.tail _ (.tail _ h))) | exact fun _ h => .tail _ (.tail _ (.tail _ (.tail _ (.tail _ h)))) | exact fun _ h => .tail _ (.tail _ (.tail _ (.tail _ (.tail _ (.tail _ h))))) | exact fun _ h => .tail _ (.tail _ (.tail _ (.tail _ (.tail _ (.tail _ (.tail _ h)))))) | exact fun _ h => .tail _ (.tail _ (.tail _ (.tail _ (.tail _ (.tail _ (.tail _ (.tail _ h))))))) | kcj_all); (case je => first | rfl | (simp [fyg, *])))))
set_option hygiene false in
local macro_rules | `(tactic| walk_at "exec If") => `(tactic| ((with_reducible show wpAny _ _ (exec (Stmt.If (Expr.Compare _ _ _ _) _ _ _) _) _ _ _); (fail_if_success (rename JMark => hM)); k_here; (rename Fr _ _ _ _ => cF'); (rename News _ _ _ _ => cN'); k_dflt (refine' join_int (Str.ofString "leap_adj") (adjg (fyg n) (n - tjg (fyg n) 1 1)) cF' cN' (fun hM => ?_) (fun t9 h9 tk9 F9 N9 => ?_)); (all_goals (try k_fold)); (all_goals (try k_sweep))))
local macro_rules | `(tactic| walk_at "JoinV") => `(tactic| (first | (refine' join_end ?jf ?jn ?jm ?js ?je; (case jf => k_asm); (case jn => k_asm); (case jm => first | exact rfl | with_unfolding_all rfl); (case js => first | exact fun _ h => h | exact fun _ h => .tail _ h | exact fun _ h => .tail _ (.tail _ h) | exact fun _ h => .tail _ (.tail _ (.tail _ h)) | exact fun _ h => .tail _ (.tail _ (.tail _ (.tail _ h))) | exact fun _ h => .tail _ (.tail _ (.tail _ (.tail _ (.tail _ h)))) | exact fun _ h => .tail _ (.tail _ (.tail _ (.tail _ (.tail _ (.tail _ h))))) | exact fun _ h => .tail _ (.tail _ (.tail _ (.tail _ (.tail _ (.tail _ (.tail _ h)))))) | exact fun _ h => .tail _ (.tail _ (.tail _ (.tail _ (.tail _ (.tail _ (.tail _ (.tail _ h))))))) | kcj_all); (case je => first | rfl | (((try unfold adjg); first | exact (if_pos (by first | assumption | exact Bool.eq_false_iff.mp (by assumption))).symm | exact ((if_neg (by first | assumption | exact Bool.eq_false_iff.mp (by assumption))).trans (if_pos (by first | assumption | exact Bool.eq_false_iff.mp (by assumption)))).symm | exact ((if_neg (by first | assumption | exact Bool.eq_false_iff.mp (by assumption))).trans (if_neg (by first | assumption | exact Bool.eq_false_iff.mp (by assumption)))).symm | exact (if_neg (by first | assumption | exact Bool.eq_false_iff.mp (by assumption))).symm)))) | (refine' join_same ?jf ?jn ?jm ?js ?je; (case jf => k_asm); (case jn => k_asm); (case jm => first | exact rfl | with_unfolding_all rfl); (case js => first | exact fun _ h => h | exact fun _ h => .tail _ h | exact fun _ h => .tail _ (.tail _ h) | exact fun _ h => .tail _ (.tail _ (.tail _ h)) | exact fun _ h => .tail _ (.tail _ (.tail _ (.tail _ h))) | exact fun _ h => .tail _ (.tail _ (.tail _ (.tail _ (.tail _ h)))) | exact fun _ h => .tail _ (.tail _ (.tail _ (.tail _ (.tail _ (.tail _ h))))) | exact fun _ h => .tail _ (.tail _ (.tail _ (.tail _ (.tail _ (.tail _ (.tail _ h)))))) | exact fun _ h => .tail _ (.tail _ (.tail _ (.tail _ (.tail _ (.tail _ (.tail _ (.tail _ h))))))) | kcj_all); (case je => first | rfl | (((try unfold adjg); first | exact (if_pos (by first | assumption | exact Bool.eq_false_iff.mp (by assumption))).symm | exact ((if_neg (by first | assumption | exact Bool.eq_false_iff.mp (by assumption))).trans (if_pos (by first | assumption | exact Bool.eq_false_iff.mp (by assumption)))).symm | exact ((if_neg (by first | assumption | exact Bool.eq_false_iff.mp (by assumption))).trans (if_neg (by first | assumption | exact Bool.eq_false_iff.mp (by assumption)))).symm | exact (if_neg (by first | assumption | exact Bool.eq_false_iff.mp (by assumption))).symm))))))
theorem c_from_jd_g (w mean mg mb) : ∀ news n tn, ConT w mean mg mb 100 4 news (True) [.int n tn] [fyg n, fmg n, fdg n] := by
  intro news n tn
  unfold ConT
  dsimp only [Kf, Tp]
  k_fill
  intro dp' un' gd' cn' cs' a' ccd' cl' outer' A' base' h' L' fr' s' Q' E' hB hF hX hN hT hk hpre hd hu hret
  all_goals (
  refine wpAny_call ?_
  k_dflt (refine' code_def ?k1 ?k2 ?k3 ?k4 ?k5 ?kA ?kF ?kK ?k6 ?k7 ?k8 ?k9 ?kB ?_ ?c2 ?c3 ?c4 ?c5; (case kA => exact rfl); (case kF => exact rfl); (case kK => assumption); (case k1 => k_asm); (case k2 => k_asm); (case k3 => k_asm); (case k4 => k_asm); (case k5 => k_asm); (case k6 => k_is); (case k7 => k_is); (case k8 => ktr_room); (case k9 => first | exact BindsTo.of_eq rfl | exact binds_K (by k_in) rfl (by k_is) rfl rfl rfl); (case c5 => decide); (case kB => exact locs rfl); (case c2 => exact rfl); (case c3 => exact rfl); (case c4 => exact rfl); k_whole; intro g' L' h' FG' F' N' B' X' T'; (try dsimp only); (try k_lift B'); (try k_fold))
  k_steps)
  all_goals (refine' endT hret ?e2 ?e3 ?e5 ?e6 ?e1 ?e4; (case e2 => k_asm); (case e3 => k_asm); (case e5 => k_mem); (case e6 => (repeat constructor)); (case e4 => first | exact fun _ h => h | exact fun _ h => .tail _ h | exact fun _ h => .tail _ (.tail _ h) | exact fun _ h => .tail _ (.tail _ (.tail _ h)) | exact fun _ h => .tail _ (.tail _ (.tail _ (.tail _ h))) | exact fun _ h => .tail _ (.tail _ (.tail _ (.tail _ (.tail _ h)))) | exact fun _ h => .tail _ (.tail _ (.tail _ (.tail _ (.tail _ (.tail _ h))))) | exact fun _ h => .tail _ (.tail _ (.tail _ (.tail _ (.tail _ (.tail _ (.tail _ h)))))) | exact fun _ h => .tail _ (.tail _ (.tail _ (.tail _ (.tail _ (.tail _ (.tail _ (.tail _ h))))))) | kcj_all); (case e1 => rfl))
end
local macro_rules | `(tactic| walk_at "call ref") => `(tactic| ((with_reducible show wpAny _ _ (call (Value.ref 100) _) _ _ _); k_here; k_dflt (refine' useT3 (c_from_jd_g _ _ _ _ _ _ _) ?k1 ?k2 ?k3 ?k4 ?k5 ?kK ?kp ?kd ?ku ?_; (case k1 => k_asm); (case k2 => k_asm); (case k3 => k_asm); (case k4 => k_asm); (case k5 => k_asm); (case kK => first | exact rfl | assumption); (case kp => exact True.intro); (case kd => ktr_room); (case ku => ktr_units); intro D9 t90 t91 t92 c9 h9 tk9 F9 N9; (try dsimp only); (try k_fold))))
def dimj (y m : Int) : Int := if m = 2 then (if (y % 4 == 0) = true then 29 else 28) else if m = 4 ∨ m = 6 ∨ m = 9 ∨ m = 11 then 30 else 31
theorem dimj_ge (y m : Int) : 28 ≤ dimj y m := by unfold dimj; repeat' split <;> try omega
def cj (n : Int) : Int := (20 * (n + 1524) - 2442) / 7305
def dj (n : Int) : Int := 1461 * cj n / 4
def ej (n : Int) : Int := (n + 1524 - dj n) * 10000 / 306001
def mj (n : Int) : Int := if ej n < 14 then ej n - 1 else ej n - 13
def yj (n : Int) : Int := if mj n > 2 then cj n - 4716 else cj n - 4715
def ddj (n : Int) : Int := n + 1524 - dj n - 306001 * ej n / 10000
def tjj (y m d : Int) : Int := if m ≤ 2 then 1461 * (y - 1 + 4716) / 4 + 306001 * (m + 12 + 1) / 10000 + d - 1524 else 1461 * (y + 4716) / 4 + 306001 * (m + 1) / 10000 + d - 1524

theorem c_leap_j (w mean mg mb) : ∀ news y ty, ConV w mean mg mb 115 1 news (True) [.int y ty] (fun _ => .bool (y % 4 == 0)) := by
  intro news y ty
  unfold ConV
  dsimp only [Kf, Tp]
  k_fill
  intro dp' un' gd' cn' cs' a' ccd' cl' outer' A' base' h' L' fr' s' Q' E' hB hF hX hN hT hk hpre hd hu hret
  all_goals (
  refine wpAny_call ?_
  k_dflt (refine' code_def ?k1 ?k2 ?k3 ?k4 ?k5 ?kA ?kF ?kK ?k6 ?k7 ?k8 ?k9 ?kB ?_ ?c2 ?c3 ?c4 ?c5; (case kA => exact rfl); (case kF => exact rfl); (case kK => assumption); (case k1 => k_asm); (case k2 => k_asm); (case k3 => k_asm); (case k4 => k_asm); (case k5 => k_asm); (case k6 => k_is); (case k7 => k_is); (case k8 => ktr_room); (case k9 => first | exact BindsTo.of_eq rfl | exact binds_K (by k_in) rfl (by k_is) rfl rfl rfl); (case c5 => decide); (case kB => exact locs rfl); (case c2 => exact rfl); (case c3 => exact rfl); (case c4 => exact rfl); k_whole; intro g' L' h' FG' F' N' B' X' T'; (try dsimp only); (try k_lift B'); (try k_fold))
  k_steps)
  all_goals (refine' endB hret ?e1 ?e2 ?e3 ?e4; (case e2 => k_asm); (case e3 => k_asm); (case e4 => first | exact fun _ h => h | exact fun _ h => .tail _ h | exact fun _ h => .tail _ (.tail _ h) | exact fun _ h => .tail _ (.tail _ (.tail _ h)) | exact fun _ h => .tail _ (.tail _ (.tail _ (.tail _ h))) | exact fun _ h => .tail _ (.tail _ (.tail _ (.tail _ (.tail _ h)))) | exact fun _ h => .tail _ (.tail _ (.tail _ (.tail _ (.tail _ (.tail _ h))))) | exact fun _ h => .tail _ (.tail _ (.tail _ (.tail _ (.tail _ (.tail _ (.tail _ h)))))) | exact fun _ h => .tail _ (.tail _ (.tail _ (.tail _ (.tail _ (.tail _ (.tail _ (.tail _ h))))))) | kcj_all); (case e1 => rfl))
local macro_rules | `(tactic| walk_at "call ref") => `(tactic| ((with_reducible show wpAny _ _ (call (Value.ref 115) _) _ _ _); k_here; k_dflt (refine' useV (c_leap_j _ _ _ _ _ _ _) ?k1 ?k2 ?k3 ?k4 ?k5 ?kK ?kp ?kd ?ku ?_; (case k1 => k_asm); (case k2 => k_asm); (case k3 => k_asm); (case k4 => k_asm); (case k5 => k_asm); (case kK => first | exact rfl | assumption); (case kp => exact True.intro); (case kd => ktr_room); (case ku => ktr_units); intro t9 h9 tk9 F9 N9; (try dsimp only); (try k_fold))))
theorem c_mlen_j (w mean mg mb) : ∀ news y ty m tm, ConV w mean mg mb 122 2 news (True) [.int y ty, .int m tm] (fun t => .int (dimj y m) t) := by
  intro news y ty m tm
  unfold ConV
  dsimp only [Kf, Tp]
  k_fill
  intro dp' un' gd' cn' cs' a' ccd' cl' outer' A' base' h' L' fr' s' Q' E' hB hF hX hN hT hk hpre hd hu hret
  all_goals (
  refine wpAny_call ?_
  k_dflt (refine' code_def ?k1 ?k2 ?k3 ?k4 ?k5 ?kA ?kF ?kK ?k6 ?k7 ?k8 ?k9 ?kB ?_ ?c2 ?c3 ?c4 ?c5; (case kA => exact rfl); (case kF => exact rfl); (case kK => assumption); (case k1 => k_asm); (case k2 => k_asm); (case k3 => k_asm); (case k4 => k_asm); (case k5 => k_asm); (case k6 => k_is); (case k7 => k_is); (case k8 => ktr_room); (case k9 => first | exact BindsTo.of_eq rfl | exact binds_K (by k_in) rfl (by k_is) rfl rfl rfl); (case c5 => decide); (case kB => exact locs rfl); (case c2 => exact rfl); (case c3 => exact rfl); (case c4 => exact rfl); k_whole; intro g' L' h' FG' F' N' B' X' T'; (try dsimp only); (try k_lift B'); (try k_fold))
  k_steps)
  all_goals (refine' endI hret ?e1 ?e2 ?e3 ?e4; (case e2 => k_asm); (case e3 => k_asm); (case e4 => first | exact fun _ h => h | exact fun _ h => .tail _ h | exact fun _ h => .tail _ (.tail _ h) | exact fun _ h => .tail _ (.tail _ (.tail _ h)) | exact fun _ h => .tail _ (.tail _ (.tail _ (.tail _ h))) | exact fun _ h => .tail _ (.tail _ (.tail _ (.tail _ (.tail _ h)))) | exact fun _ h => .tail _ (.tail _ (.tail _ (.tail _ (.tail _ (.tail _ h))))) | exact fun _ h => .tail _ (.tail _ (.tail _ (.tail _ (.tail _ (.tail _ (.tail _ h)))))) | exact fun _ h => .tail _ (.tail _ (.tail _ (.tail _ (.tail _ (.tail _ (.tail _ (.tail _ h))))))) | kcj_all); (case e1 => simp [dimj, *]))
local macro_rules | `(tactic| walk_at "call ref") => `(tactic| ((with_reducible show wpAny _ _ (call (Value.ref 122) _) _ _ _); k_here; k_dflt (refine' useV (c_mlen_j _ _ _ _ _ _ _ _ _) ?k1 ?k2 ?k3 ?k4 ?k5 ?kK ?kp ?kd ?ku ?_; (case k1 => k_asm); (case k2 => k_asm); (case k3 => k_asm); (case k4 => k_asm); (case k5 => k_asm); (case kK => first | exact rfl | assumption); (case kp => exact True.intro); (case kd => ktr_room); (case ku => ktr_units); intro t9 h9 tk9 F9 N9; (try dsimp only); (try k_fold))))
section
local macro_rules | `(tactic| walk_at "exec Raise some none") => `(tactic| (k_here; exfalso; (rename (_ ∧ _ ≤ dimj _ _) => h9); omega))
theorem c_legal_j (w mean mg mb) : ∀ news y ty m tm d td, ConV w mean mg mb 129 3 news (0 < d ∧ d ≤ dimj y m) [.int y ty, .int m tm, .int d td] (fun _ => .bool (true)) := by
  intro news y ty m tm d td
  unfold ConV
  dsimp only [Kf, Tp]
  k_fill
  intro dp' un' gd' cn' cs' a' ccd' cl' outer' A' base' h' L' fr' s' Q' E' hB hF hX hN hT hk hpre hd hu hret
  all_goals (
  refine wpAny_call ?_
  k_dflt (refine' code_def ?k1 ?k2 ?k3 ?k4 ?k5 ?kA ?kF ?kK ?k6 ?k7 ?k8 ?k9 ?kB ?_ ?c2 ?c3 ?c4 ?c5; (case kA => exact rfl); (case kF => exact rfl); (case kK => assumption); (case k1 => k_asm); (case k2 => k_asm); (case k3 => k_asm); (case k4 => k_asm); (case k5 => k_asm); (case k6 => k_is); (case k7 => k_is); (case k8 => ktr_room); (case k9 => first | exact BindsTo.of_eq rfl | exact binds_K (by k_in) rfl (by k_is) rfl rfl rfl); (case c5 => decide); (case kB => exact locs rfl); (case c2 => exact rfl); (case c3 => exact rfl); (case c4 => exact rfl); k_whole; intro g' L' h' FG' F' N' B' X' T'; (try dsimp only); (try k_lift B'); (try k_fold))
  k_steps)
  all_goals (refine' endB hret ?e1 ?e2 ?e3 ?e4; (case e2 => k_asm); (case e3 => k_asm); (case e4 => first | exact fun _ h => h | exact fun _ h => .tail _ h | exact fun _ h => .tail _ (.tail _ h) | exact fun _ h => .tail _ (.tail _ (.tail _ h)) | exact fun _ h => .tail _ (.tail _ (.tail _ (.tail _ h))) | exact fun _ h => .tail _ (.tail _ (.tail _ (.tail _ (.tail _ h)))) | exact fun _ h => .tail _ (.tail _ (.tail _ (.tail _ (.tail _ (.tail _ h))))) | exact fun _ h => .tail _ (.tail _ (.tail _ (.tail _ (.tail _ (.tail _ (.tail _ h)))))) | exact fun _ h => .tail _ (.tail _ (.tail _ (.tail _ (.tail _ (.tail _ (.tail _ (.tail _ h))))))) | kcj_all); (case e1 => rfl))
end
local macro_rules | `(tactic| walk_at "call ref") => `(tactic| ((with_reducible show wpAny _ _ (call (Value.ref 129) _) _ _ _); k_here; k_dflt (refine' useV (c_legal_j _ _ _ _ _ _ _ _ _ _ _) ?k1 ?k2 ?k3 ?k4 ?k5 ?kK ?kp ?kd ?ku ?_; (case k1 => k_asm); (case k2 => k_asm); (case k3 => k_asm); (case k4 => k_asm); (case k5 => k_asm); (case kK => first | exact rfl | assumption); (case kp => first | with_reducible assumption | assumption | exact ⟨by decide, Int.le_trans (by decide) (dimj_ge _ _)⟩); (case kd => ktr_room); (case ku => ktr_units); intro t9 h9 tk9 F9 N9; (try dsimp only); (try k_fold))))
section
set_option hygiene false in
local macro_rules | `(tactic| walk_at "exec If") => `(tactic| ((with_reducible show wpAny _ _ (exec (Stmt.If (Expr.Compare (Expr.Name (Str.ofString "e") _) _ _ _) _ _ _) _) _ _ _); (fail_if_success (rename JMark => hM)); k_here; (rename Fr _ _ _ _ => cF'); (rename News _ _ _ _ => cN'); k_dflt (refine' join_int (Str.ofString "month") (mj n) cF' cN' (fun hM => ?_) (fun t9 h9 tk9 F9 N9 => ?_)); (all_goals (try k_fold)); (all_goals (try k_sweep))))
local macro_rules | `(tactic| walk_at "JoinV") => `(tactic| (first | (refine' join_end ?jf ?jn ?jm ?js ?je; (case jf => k_asm); (case jn => k_asm); (case jm => first | exact rfl | with_unfolding_all rfl); (case js => first | exact fun _ h => h | exact fun _ h => .tail _ h | exact fun _ h => .tail _ (.tail _ h) | exact fun _ h => .tail _ (.tail _ (.tail _ h)) | exact fun _ h => .tail _ (.tail _ (.tail _ (.tail _ h))) | exact fun _ h => .tail _ (.tail _ (.tail _ (.tail _ (.tail _ h)))) | exact fun _ h => .tail _ (.tail _ (.tail _ (.tail _ (.tail _ (.tail _ h))))) | exact fun _ h => .tail _ (.tail _ (.tail _ (.tail _ (.tail _ (.tail _ (.tail _ h)))))) | exact fun _ h => .tail _ (.tail _ (.tail _ (.tail _ (.tail _ (.tail _ (.tail _ (.tail _ h))))))) | kcj_all); (case je => first | rfl | (((try unfold mj ej dj cj); first | exact (if_pos (by first | assumption | exact Bool.eq_false_iff.mp (by assumption))).symm | exact ((if_neg (by first | assumption | exact Bool.eq_false_iff.mp (by assumption))).trans (if_pos (by first | assumption | exact Bool.eq_false_iff.mp (by assumption)))).symm | exact ((if_neg (by first | assumption | exact Bool.eq_false_iff.mp (by assumption))).trans (if_neg (by first | assumption | exact Bool.eq_false_iff.mp (by assumption)))).symm | exact (if_neg (by first | assumption | exact Bool.eq_false_iff.mp (by assumption))).symm)))) | (refine' join_same ?jf ?jn ?jm ?js ?je; (case jf => k_asm); (case jn => k_asm); (case jm => first | exact rfl | with_unfolding_all rfl); (case js => first | exact fun _ h => h | exact fun _ h => .tail _ h | exact fun _ h => .tail _ (.tail _ h) | exact fun _ h => .tail _ (.tail _ (.tail _ h)) | exact fun _ h => .tail _ (.tail _ (.tail _ (.tail _ h))) | exact fun _ h => .tail _ (.tail _ (.tail _ (.tail _ (.tail _ h)))) | exact fun _ h => .tail _ (.tail _ (.tail _ (.tail _ (.tail _ (.tail _ h))))) | exact fun _ h => .tail _ (.tail _ (.tail _ (.tail _ (.tail _ (.tail _ (.tail _ h)))))) | exact fun _ h => .tail _ (.tail _ (.tail _ (.tail _ (.tail _ (.tail _ (.tail _ (.tail _ h))))))) | kcj_all); (case je => first | rfl | (((try unfold mj ej dj cj); first | exact (if_pos (by first | assumption | exact Bool.eq_false_iff.mp (by assumption))).symm | exact ((if_neg (by first | assumption | exact Bool.eq_false_iff.mp (by assumption))).trans (if_pos (by first | assumption | exact Bool.eq_false_iff.mp (by assumption)))).symm | exact ((if_neg (by first | assumption | exact Bool.eq_false_iff.mp (by assumption))).trans (if_neg (by first | assumption | exact Bool.eq_false_iff.mp (by assumption)))).symm | exact (if_neg (by first | assumption | exact Bool.eq_false_iff.mp (by assumption))).symm))))))
set_option hygiene false in
local macro_rules | `(tactic| walk_at "exec If") => `(tactic| ((with_reducible show wpAny _ _ (exec (Stmt.If (Expr.Compare (Expr.Name (Str.ofString "month") _) _ _ _) _ _ _) _) _ _ _); (fail_if_success (rename JMark => hM)); k_here; (rename Fr _ _ _ _ => cF'); (rename News _ _ _ _ => cN'); k_dflt (refine' join_int (Str.ofString "year") (yj n) cF' cN' (fun hM => ?_) (fun t9 h9 tk9 F9 N9 => ?_)); (all_goals (try k_fold)); (all_goals (try k_sweep))))
local macro_rules | `(tactic| walk_at "JoinV") => `(tactic| (first | (refine' join_end ?jf ?jn ?jm ?js ?je; (case jf => k_asm); (case jn => k_asm); (case jm => first | exact rfl | with_unfolding_all rfl); (case js => first | exact fun _ h => h | exact fun _ h => .tail _ h | exact fun _ h => .tail _ (.tail _ h) | exact fun _ h => .tail _ (.tail _ (.tail _ h)) | exact fun _ h => .tail _ (.tail _ (.tail _ (.tail _ h))) | exact fun _ h => .tail _ (.tail _ (.tail _ (.tail _ (.tail _ h)))) | exact fun _ h => .tail _ (.tail _ (.tail _ (.tail _ (.tail _ (.tail _ h))))) | exact fun _ h => .tail _ (.tail _ (.tail _ (.tail _ (.tail _ (.tail _ (.tail _ h)))))) | exact fun _ h => .tail _ (.tail _ (.tail _ (.tail _ (.tail _ (.tail _ (.tail _ (.tail _ h))))))) | kcj_all); (case je => first | rfl | (((try unfold yj cj); first | exact (if_pos (by first | assumption | exact Bool.eq_false_iff.mp (by assumption))).symm | exact ((if_neg (by first | assumption | exact Bool.eq_false_iff.mp (by assumption))).trans (if_pos (by first | assumption | exact Bool.eq_false_iff.mp (by assumption)))).symm | exact ((if_neg (by first | assumption | exact Bool.eq_false_iff.mp (by assumption))).trans (if_neg (by first | assumption | exact Bool.eq_false_iff.mp (by assumption)))).symm | exact (if_neg (by first | assumption | exact Bool.eq_false_iff.mp (by assumption))).symm)))) | (refine' join_same ?jf ?jn ?jm ?js ?je; (case jf => k_asm); (case jn => k_asm); (case jm => first | exact rfl | with_unfolding_all rfl); (case js => first | exact fun _ h => h | exact fun _ h => .tail _ h | exact fun _ h => .tail _ (.tail _ h) | exact fun _ h => .tail _ (.tail _ (.tail _ h)) | exact fun _ h => .tail _ (.tail _ (.tail _ (.tail _ h))) | exact fun _ h => .tail _ (.tail _ (.tail _ (.tail _ (.tail _ h)))) | exact fun _ h => .tail _ (.tail _ (.tail _ (.tail _ (.tail _ (.tail _ h))))) | exact fun _ h => .tail _ (.tail _ (.tail _ (.tail _ (.tail _ (.tail _ (.tail _ h)))))) | exact fun _ h => .tail _ (.tail _ (.tail _ (.tail _ (.tail _ (.tail _ (.tail _ (.tail _ h))))))) | kcj_all); (case je => first | rfl | (((try unfold yj cj); first | exact (if_pos (by first | assumption | exact Bool.eq_false_iff.mp (by assumption))).symm | exact ((if_neg (by first | assumption | exact Bool.eq_false_iff.mp (by assumption))).trans (if_pos (by first | assumption | exact Bool.eq_false_iff.mp (by assumption)))).symm | exact ((if_neg (by first | assumption | exact Bool.eq_false_iff.mp (by assumption))).trans (if_neg (by first | assumption | exact Bool.eq_false_iff.mp (by assumption)))).symm | exact (if_neg (by first | assumption | exact Bool.eq_false_iff.mp (by assumption))).symm))))))
theorem c_from_jd_j (w mean mg mb) : ∀ news n tn, ConT w mean mg mb 136 2 news (True) [.int n tn] [yj n, mj n, ddj n] := by
  intro news n tn
  unfold ConT
  dsimp only [Kf, Tp]
  k_fill
  intro dp' un' gd' cn' cs' a' ccd' cl' outer' A' base' h' L' fr' s' Q' E' hB hF hX hN hT hk hpre hd hu hret
  all_goals (
  refine wpAny_call ?_
  k_dflt (refine' code_def ?k1 ?k2 ?k3 ?k4 ?k5 ?kA ?kF ?kK ?k6 ?k7 ?k8 ?k9 ?kB ?_ ?c2 ?c3 ?c4 ?c5; (case kA => exact rfl); (case kF => exact rfl); (case kK => assumption); (case k1 => k_asm); (case k2 => k_asm); (case k3 => k_asm); (case k4 => k_asm); (case k5 => k_asm); (case k6 => k_is); (case k7 => k_is); (case k8 => ktr_room); (case k9 => first | exact BindsTo.of_eq rfl | exact binds_K (by k_in) rfl (by k_is) rfl rfl rfl); (case c5 => decide); (case kB => exact locs rfl); (case c2 => exact rfl); (case c3 => exact rfl); (case c4 => exact rfl); k_whole; intro g' L' h' FG' F' N' B' X' T'; (try dsimp only); (try k_lift B'); (try k_fold))
  k_steps)
  all_goals (refine' endT hret ?e2 ?e3 ?e5 ?e6 ?e1 ?e4; (case e2 => k_asm); (case e3 => k_asm); (case e5 => k_mem); (case e6 => (repeat constructor)); (case e4 => first | exact fun _ h => h | exact fun _ h => .tail _ h | exact fun _ h => .tail _ (.tail _ h) | exact fun _ h => .tail _ (.tail _ (.tail _ h)) | exact fun _ h => .tail _ (.tail _ (.tail _ (.tail _ h))) | exact fun _ h => .tail _ (.tail _ (.tail _ (.tail _ (.tail _ h)))) | exact fun _ h => .tail _ (.tail _ (.tail _ (.tail _ (.tail _ (.tail _ h))))) | exact fun _ h => .tail _ (.tail _ (.tail _ (.tail _ (.tail _ (.tail _ (.tail _ h)))))) | exact fun _ h => .tail _ (.tail _ (.tail _ (.tail _ (.tail _ (.tail _ (.tail _ (.tail _ h))))))) | kcj_all); (case e1 => rfl))
end
local macro_rules | `(tactic| walk_at "call ref") => `(tactic| ((with_reducible show wpAny _ _ (call (Value.ref 136) _) _ _ _); k_here; k_dflt (refine' useT3 (c_from_jd_j _ _ _ _ _ _ _) ?k1 ?k2 ?k3 ?k4 ?k5 ?kK ?kp ?kd ?ku ?_; (case k1 => k_asm); (case k2 => k_asm); (case k3 => k_asm); (case k4 => k_asm); (case k5 => k_asm); (case kK => first | exact rfl | assumption); (case kp => exact True.intro); (case kd => ktr_room); (case ku => ktr_units); intro D9 t90 t91 t92 c9 h9 tk9 F9 N9; (try dsimp only); (try k_fold))))
theorem c_to_jd_j (w mean mg mb) : ∀ news y ty m tm d td, ConV w mean mg mb 143 4 news (0 < d ∧ d ≤ dimj y m) [.int y ty, .int m tm, .int d td] (fun t => .int (tjj y m d) t) := by
  intro news y ty m tm d td
  unfold ConV
  dsimp only [Kf, Tp]
  k_fill
  intro dp' un' gd' cn' cs' a' ccd' cl' outer' A' base' h' L' fr' s' Q' E' hB hF hX hN hT hk hpre hd hu hret
  all_goals (
  refine wpAny_call ?_
  k_dflt (refine' code_def ?k1 ?k2 ?k3 ?k4 ?k5 ?kA ?kF ?kK ?k6 ?k7 ?k8 ?k9 ?kB ?_ ?c2 ?c3 ?c4 ?c5; (case kA => exact rfl); (case kF => exact rfl); (case kK => assumption); (case k1 => k_asm); (case k2 => k_asm); (case k3 => k_asm); (case k4 => k_asm); (case k5 => k_asm); (case k6 => k_is); (case k7 => k_is); (case k8 => ktr_room); (case k9 => first | exact BindsTo.of_eq rfl | exact binds_K (by k_in) rfl (by k_is) rfl rfl rfl); (case c5 => decide); (case kB => exact locs rfl); (case c2 => exact rfl); (case c3 => exact rfl); (case c4 => exact rfl); k_whole; intro g' L' h' FG' F' N' B' X' T'; (try dsimp only); (try k_lift B'); (try k_fold))
  k_steps)
  all_goals (refine' endI hret ?e1 ?e2 ?e3 ?e4; (case e2 => k_asm); (case e3 => k_asm); (case e4 => first | exact fun _ h => h | exact fun _ h => .tail _ h | exact fun _ h => .tail _ (.tail _ h) | exact fun _ h => .tail _ (.tail _ (.tail _ h)) | exact fun _ h => .tail _ (.tail _ (.tail _ (.tail _ h))) | exact fun _ h => .tail _ (.tail _ (.tail _ (.tail _ (.tail _ h)))) | exact fun _ h => .tail _ (.tail _ (.tail _ (.tail _ (.tail _ (.tail _ h))))) | exact fun _ h => .tail _ (.tail _ (.tail _ (.tail _ (.tail _ (.tail _ (.tail _ h)))))) | exact fun _ h => .tail _ (.tail _ (.tail _ (.tail _ (.tail _ (.tail _ (.tail _ (.tail _ h))))))) | kcj_all); (case e1 => ((try unfold tjj); first | exact (if_pos (by first | assumption | exact Bool.eq_false_iff.mp (by assumption))).symm | exact ((if_neg (by first | assumption | exact Bool.eq_false_iff.mp (by assumption))).trans (if_pos (by first | assumption | exact Bool.eq_false_iff.mp (by assumption)))).symm | exact ((if_neg (by first | assumption | exact Bool.eq_false_iff.mp (by assumption))).trans (if_neg (by first | assumption | exact Bool.eq_false_iff.mp (by assumption)))).symm | exact (if_neg (by first | assumption | exact Bool.eq_false_iff.mp (by assumption))).symm)))
local macro_rules | `(tactic| walk_at "call ref") => `(tactic| ((with_reducible show wpAny _ _ (call (Value.ref 143) _) _ _ _); k_here; k_dflt (refine' useV (c_to_jd_j _ _ _ _ _ _ _ _ _ _ _) ?k1 ?k2 ?k3 ?k4 ?k5 ?kK ?kp ?kd ?ku ?_; (case k1 => k_asm); (case k2 => k_asm); (case k3 => k_asm); (case k4 => k_asm); (case k5 => k_asm); (case kK => first | exact rfl | assumption); (case kp => first | with_reducible assumption | assumption | exact ⟨by decide, Int.le_trans (by decide) (dimj_ge _ _)⟩); (case kd => ktr_room); (case ku => ktr_units); intro t9 h9 tk9 F9 N9; (try dsimp only); (try k_fold))))
theorem c_from_g_j (w mean mg mb) : ∀ news y ty m tm d td, ConT w mean mg mb 150 5 news (0 < d ∧ d ≤ dimg y m) [.int y ty, .int m tm, .int d td] [yj (tjg y m d), mj (tjg y m d), ddj (tjg y m d)] := by
  intro news y ty m tm d td
  unfold ConT
  dsimp only [Kf, Tp]
  k_fill
  intro dp' un' gd' cn' cs' a' ccd' cl' outer' A' base' h' L' fr' s' Q' E' hB hF hX hN hT hk hpre hd hu hret
  all_goals (
  refine wpAny_call ?_
  k_dflt (refine' code_def ?k1 ?k2 ?k3 ?k4 ?k5 ?kA ?kF ?kK ?k6 ?k7 ?k8 ?k9 ?kB ?_ ?c2 ?c3 ?c4 ?c5; (case kA => exact rfl); (case kF => exact rfl); (case kK => assumption); (case k1 => k_asm); (case k2 => k_asm); (case k3 => k_asm); (case k4 => k_asm); (case k5 => k_asm); (case k6 => k_is); (case k7 => k_is); (case k8 => ktr_room); (case k9 => first | exact BindsTo.of_eq rfl | exact binds_K (by k_in) rfl (by k_is) rfl rfl rfl); (case c5 => decide); (case kB => exact locs rfl); (case c2 => exact rfl); (case c3 => exact rfl); (case c4 => exact rfl); k_whole; intro g' L' h' FG' F' N' B' X' T'; (try dsimp only); (try k_lift B'); (try k_fold))
  k_steps)
  all_goals (refine' endT hret ?e2 ?e3 ?e5 ?e6 ?e1 ?e4; (case e2 => k_asm); (case e3 => k_asm); (case e5 => k_mem); (case e6 => (repeat constructor)); (case e4 => first | exact fun _ h => h | exact fun _ h => .tail _ h | exact fun _ h => .tail _ (.tail _ h) | exact fun _ h => .tail _ (.tail _ (.tail _ h)) | exact fun _ h => .tail _ (.tail _ (.tail _ (.tail _ h))) | exact fun _ h => .tail _ (.tail _ (.tail _ (.tail _ (.tail _ h)))) | exact fun _ h => .tail _ (.tail _ (.tail _ (.tail _ (.tail _ (.tail _ h))))) | exact fun _ h => .tail _ (.tail _ (.tail _ (.tail _ (.tail _ (.tail _ (.tail _ h)))))) | exact fun _ h => .tail _ (.tail _ (.tail _ (.tail _ (.tail _ (.tail _ (.tail _ (.tail _ h))))))) | kcj_all); (case e1 => rfl))
local macro_rules | `(tactic| walk_at "call ref") => `(tactic| ((with_reducible show wpAny _ _ (call (Value.ref 150) _) _ _ _); k_here; k_dflt (refine' useT3 (c_from_g_j _ _ _ _ _ _ _ _ _ _ _) ?k1 ?k2 ?k3 ?k4 ?k5 ?kK ?kp ?kd ?ku ?_; (case k1 => k_asm); (case k2 => k_asm); (case k3 => k_asm); (case k4 => k_asm); (case k5 => k_asm); (case kK => first | exact rfl | assumption); (case kp => first | with_reducible assumption | assumption | exact ⟨by decide, Int.le_trans (by decide) (dimg_ge _ _)⟩); (case kd => ktr_room); (case ku => ktr_units); intro D9 t90 t91 t92 c9 h9 tk9 F9 N9; (try dsimp only); (try k_fold))))
theorem c_to_g_j (w mean mg mb) : ∀ news y ty m tm d td, ConT w mean mg mb 157 5 news (0 < d ∧ d ≤ dimj y m) [.int y ty, .int m tm, .int d td] [fyg (tjj y m d), fmg (tjj y m d), fdg (tjj y m d)] := by
  intro news y ty m tm d td
  unfold ConT
  dsimp only [Kf, Tp]
  k_fill
  intro dp' un' gd' cn' cs' a' ccd' cl' outer' A' base' h' L' fr' s' Q' E' hB hF hX hN hT hk hpre hd hu hret
  all_goals (
  refine wpAny_call ?_
  k_dflt (refine' code_def ?k1 ?k2 ?k3 ?k4 ?k5 ?kA ?kF ?kK ?k6 ?k7 ?k8 ?k9 ?kB ?_ ?c2 ?c3 ?c4 ?c5; (case kA => exact rfl); (case kF => exact rfl); (case kK => assumption); (case k1 => k_asm); (case k2 => k_asm); (case k3 => k_asm); (case k4 => k_asm); (case k5 => k_asm); (case k6 => k_is); (case k7 => k_is); (case k8 => ktr_room); (case k9 => first | exact BindsTo.of_eq rfl | exact binds_K (by k_in) rfl (by k_is) rfl rfl rfl); (case c5 => decide); (case kB => exact locs rfl); (case c2 => exact rfl); (case c3 => exact rfl); (case c4 => exact rfl); k_whole; intro g' L' h' FG' F' N' B' X' T'; (try dsimp only); (try k_lift B'); (try k_fold))
  k_steps)
  all_goals (refine' endT hret ?e2 ?e3 ?e5 ?e6 ?e1 ?e4; (case e2 => k_asm); (case e3 => k_asm); (case e5 => k_mem); (case e6 => (repeat constructor)); (case e4 => first | exact fun _ h => h | exact fun _ h => .tail _ h | exact fun _ h => .tail _ (.tail _ h) | exact fun _ h => .tail _ (.tail _ (.tail _ h)) | exact fun _ h => .tail _ (.tail _ (.tail _ (.tail _ h))) | exact fun _ h => .tail _ (.tail _ (.tail _ (.tail _ (.tail _ h)))) | exact fun _ h => .tail _ (.tail _ (.tail _ (.tail _ (.tail _ (.tail _ h))))) | exact fun _ h => .tail _ (.tail _ (.tail _ (.tail _ (.tail _ (.tail _ (.tail _ h)))))) | exact fun _ h => .tail _ (.tail _ (.tail _ (.tail _ (.tail _ (.tail _ (.tail _ (.tail _ h))))))) | kcj_all); (case e1 => rfl))
local macro_rules | `(tactic| walk_at "call ref") => `(tactic| ((with_reducible show wpAny _ _ (call (Value.ref 157) _) _ _ _); k_here; k_dflt (refine' useT3 (c_to_g_j _ _ _ _ _ _ _ _ _ _ _) ?k1 ?k2 ?k3 ?k4 ?k5 ?kK ?kp ?kd ?ku ?_; (case k1 => k_asm); (case k2 => k_asm); (case k3 => k_asm); (case k4 => k_asm); (case k5 => k_asm); (case kK => first | exact rfl | assumption); (case kp => first | with_reducible assumption | assumption | exact ⟨by decide, Int.le_trans (by decide) (dimj_ge _ _)⟩); (case kd => ktr_room); (case ku => ktr_units); intro D9 t90 t91 t92 c9 h9 tk9 F9 N9; (try dsimp only); (try k_fold))))
def ya (n : Int) : Int := (n - 1922502 - 1) / 365
def ma (n : Int) : Int := (n - 1922502 - 1) % 365 / 30 + 1
def da (n : Int) : Int := n - 1922502 - 365 * ((n - 1922502 - 1) / 365) - 30 * ((n - 1922502 - 1) % 365 / 30)
def ys0 (n : Int) : Int := 4 * (n - 2117211) / 1461
def ds0 (n : Int) : Int := n - 2117211 - (365 * ys0 n + ys0 n / 4)
def ys1 (n : Int) : Int := if ds0 n = 0 then ys0 n - 1 else ys0 n
def ds1 (n : Int) : Int := if ds0 n = 0 then (if ys0 n % 4 = 0 then 366 else 365) else ds0 n
def okA (y m d : Int) : Prop := 1 ≤ m ∧ m ≤ 13 ∧ 1 ≤ y ∧ 1 ≤ d ∧ d ≤ (if m = 13 then 5 else 30)
def okS (y m d : Int) : Prop := 1 ≤ m ∧ m ≤ 13 ∧ 533 ≤ y ∧ 1 ≤ d ∧ d ≤ (if m = 13 then (if (y % 4 == 0) = true then 6 else 5) else 30)

theorem c_trunc (w mean mg mb) : ∀ news a ta b tb, ConV w mean mg mb 36 1 news (0 ≤ a ∧ 0 < b ∧ b < 1073741824) [.int a ta, .int b tb] (fun t => .int (a / b) t) := by
  intro news a ta b tb
  unfold ConV
  dsimp only [Kf, Tp]
  k_fill
  intro dp' un' gd' cn' cs' a' ccd' cl' outer' A' base' h' L' fr' s' Q' E' hB hF hX hN hT hk hpre hd hu hret
  all_goals (
  refine wpAny_call ?_
  k_dflt (refine' code_def ?k1 ?k2 ?k3 ?k4 ?k5 ?kA ?kF ?kK ?k6 ?k7 ?k8 ?k9 ?kB ?_ ?c2 ?c3 ?c4 ?c5; (case kA => exact rfl); (case kF => exact rfl); (case kK => assumption); (case k1 => k_asm); (case k2 => k_asm); (case k3 => k_asm); (case k4 => k_asm); (case k5 => k_asm); (case k6 => k_is); (case k7 => k_is); (case k8 => ktr_room); (case k9 => first | exact BindsTo.of_eq rfl | exact binds_K (by k_in) rfl (by k_is) rfl rfl rfl); (case c5 => decide); (case kB => exact locs rfl); (case c2 => exact rfl); (case c3 => exact rfl); (case c4 => exact rfl); k_whole; intro g' L' h' FG' F' N' B' X' T'; (try dsimp only); (try k_lift B'); (try k_fold))
  k_steps)
  all_goals (refine' endI hret ?e1 ?e2 ?e3 ?e4; (case e2 => k_asm); (case e3 => k_asm); (case e4 => first | exact fun _ h => h | exact fun _ h => .tail _ h | exact fun _ h => .tail _ (.tail _ h) | exact fun _ h => .tail _ (.tail _ (.tail _ h)) | exact fun _ h => .tail _ (.tail _ (.tail _ (.tail _ h))) | exact fun _ h => .tail _ (.tail _ (.tail _ (.tail _ (.tail _ h)))) | exact fun _ h => .tail _ (.tail _ (.tail _ (.tail _ (.tail _ (.tail _ h))))) | exact fun _ h => .tail _ (.tail _ (.tail _ (.tail _ (.tail _ (.tail _ (.tail _ h)))))) | exact fun _ h => .tail _ (.tail _ (.tail _ (.tail _ (.tail _ (.tail _ (.tail _ (.tail _ h))))))) | kcj_all); (case e1 => first | (rw [if_neg (by omega), if_neg (by omega)]; done) | (exfalso; (rename (_ = false) => h9); rw [decide_eq_false (by omega), decide_eq_false (by omega)] at h9; cases h9)))
local macro_rules | `(tactic| walk_at "call ref") => `(tactic| ((with_reducible show wpAny _ _ (call (Value.ref 36) _) _ _ _); k_here; k_dflt (refine' useV (c_trunc _ _ _ _ _ _ _ _ _) ?k1 ?k2 ?k3 ?k4 ?k5 ?kK ?kp ?kd ?ku ?_; (case k1 => k_asm); (case k2 => k_asm); (case k3 => k_asm); (case k4 => k_asm); (case k5 => k_asm); (case kK => first | exact rfl | assumption); (case kp => omega); (case kd => ktr_room); (case ku => ktr_units); intro t9 h9 tk9 F9 N9; (try dsimp only); (try k_fold))))
theorem c_leap_a (w mean mg mb) : ∀ news y ty, ConV w mean mg mb 235 1 news (533 ≤ y) [.int y ty] (fun _ => .bool (y % 4 == 0)) := by
  intro news y ty
  unfold ConV
  dsimp only [Kf, Tp]
  k_fill
  intro dp' un' gd' cn' cs' a' ccd' cl' outer' A' base' h' L' fr' s' Q' E' hB hF hX hN hT hk hpre hd hu hret
  all_goals (
  refine wpAny_call ?_
  k_dflt (refine' code_def ?k1 ?k2 ?k3 ?k4 ?k5 ?kA ?kF ?kK ?k6 ?k7 ?k8 ?k9 ?kB ?_ ?c2 ?c3 ?c4 ?c5; (case kA => exact rfl); (case kF => exact rfl); (case kK => assumption); (case k1 => k_asm); (case k2 => k_asm); (case k3 => k_asm); (case k4 => k_asm); (case k5 => k_asm); (case k6 => k_is); (case k7 => k_is); (case k8 => ktr_room); (case k9 => first | exact BindsTo.of_eq rfl | exact binds_K (by k_in) rfl (by k_is) rfl rfl rfl); (case c5 => decide); (case kB => exact locs rfl); (case c2 => exact rfl); (case c3 => exact rfl); (case c4 => exact rfl); k_whole; intro g' L' h' FG' F' N' B' X' T'; (try dsimp only); (try k_lift B'); (try k_fold))
  k_steps)
  all_goals (refine' endB hret ?e1 ?e2 ?e3 ?e4; (case e2 => k_asm); (case e3 => k_asm); (case e4 => first | exact fun _ h => h | exact fun _ h => .tail _ h | exact fun _ h => .tail _ (.tail _ h) | exact fun _ h => .tail _ (.tail _ (.tail _ h)) | exact fun _ h => .tail _ (.tail _ (.tail _ (.tail _ h))) | exact fun _ h => .tail _ (.tail _ (.tail _ (.tail _ (.tail _ h)))) | exact fun _ h => .tail _ (.tail _ (.tail _ (.tail _ (.tail _ (.tail _ h))))) | exact fun _ h => .tail _ (.tail _ (.tail _ (.tail _ (.tail _ (.tail _ (.tail _ h)))))) | exact fun _ h => .tail _ (.tail _ (.tail _ (.tail _ (.tail _ (.tail _ (.tail _ (.tail _ h))))))) | kcj_all); (case e1 => rfl))
local macro_rules | `(tactic| walk_at "call ref") => `(tactic| ((with_reducible show wpAny _ _ (call (Value.ref 235) _) _ _ _); k_here; k_dflt (refine' useV (c_leap_a _ _ _ _ _ _ _) ?k1 ?k2 ?k3 ?k4 ?k5 ?kK ?kp ?kd ?ku ?_; (case k1 => k_asm); (case k2 => k_asm); (case k3 => k_asm); (case k4 => k_asm); (case k5 => k_asm); (case kK => first | exact rfl | assumption); (case kp => omega); (case kd => ktr_room); (case ku => ktr_units); intro t9 h9 tk9 F9 N9; (try dsimp only); (try k_fold))))
section
set_option hygiene false in
local macro_rules | `(tactic| walk_at "exec If") => `(tactic| ((with_reducible show wpAny _ _ (exec (Stmt.If (Expr.Compare (Expr.Name (Str.ofString "month") _) _ _ _) _ _ _) _) _ _ _); (fail_if_success (rename JMark => hM)); k_here; (rename Fr _ _ _ _ => cF'); (rename News _ _ _ _ => cN'); k_dflt (refine' join_int (Str.ofString "day_max") (if m = 13 then 5 else 30) cF' cN' (fun hM => ?_) (fun t9 h9 tk9 F9 N9 => ?_)); (all_goals (try k_fold)); (all_goals (try k_sweep))))
local macro_rules | `(tactic| walk_at "JoinV") => `(tactic| (first | (refine' join_end ?jf ?jn ?jm ?js ?je; (case jf => k_asm); (case jn => k_asm); (case jm => first | exact rfl | with_unfolding_all rfl); (case js => first | exact fun _ h => h | exact fun _ h => .tail _ h | exact fun _ h => .tail _ (.tail _ h) | exact fun _ h => .tail _ (.tail _ (.tail _ h)) | exact fun _ h => .tail _ (.tail _ (.tail _ (.tail _ h))) | exact fun _ h => .tail _ (.tail _ (.tail _ (.tail _ (.tail _ h)))) | exact fun _ h => .tail _ (.tail _ (.tail _ (.tail _ (.tail _ (.tail _ h))))) | exact fun _ h => .tail _ (.tail _ (.tail _ (.tail _ (.tail _ (.tail _ (.tail _ h)))))) | exact fun _ h => .tail _ (.tail _ (.tail _ (.tail _ (.tail _ (.tail _ (.tail _ (.tail _ h))))))) | kcj_all); (case je => first | rfl | ((first | exact (if_pos (by first | assumption | exact Bool.eq_false_iff.mp (by assumption))).symm | exact ((if_neg (by first | assumption | exact Bool.eq_false_iff.mp (by assumption))).trans (if_pos (by first | assumption | exact Bool.eq_false_iff.mp (by assumption)))).symm | exact ((if_neg (by first | assumption | exact Bool.eq_false_iff.mp (by assumption))).trans (if_neg (by first | assumption | exact Bool.eq_false_iff.mp (by assumption)))).symm | exact (if_neg (by first | assumption | exact Bool.eq_false_iff.mp (by assumption))).symm)))) | (refine' join_same ?jf ?jn ?jm ?js ?je; (case jf => k_asm); (case jn => k_asm); (case jm => first | exact rfl | with_unfolding_all rfl); (case js => first | exact fun _ h => h | exact fun _ h => .tail _ h | exact fun _ h => .tail _ (.tail _ h) | exact fun _ h => .tail _ (.tail _ (.tail _ h)) | exact fun _ h => .tail _ (.tail _ (.tail _ (.tail _ h))) | exact fun _ h => .tail _ (.tail _ (.tail _ (.tail _ (.tail _ h)))) | exact fun _ h => .tail _ (.tail _ (.tail _ (.tail _ (.tail _ (.tail _ h))))) | exact fun _ h => .tail _ (.tail _ (.tail _ (.tail _ (.tail _ (.tail _ (.tail _ h)))))) | exact fun _ h => .tail _ (.tail _ (.tail _ (.tail _ (.tail _ (.tail _ (.tail _ (.tail _ h))))))) | kcj_all); (case je => first | rfl | ((first | exact (if_pos (by first | assumption | exact Bool.eq_false_iff.mp (by assumption))).symm | exact ((if_neg (by first | assumption | exact Bool.eq_false_iff.mp (by assumption))).trans (if_pos (by first | assumption | exact Bool.eq_false_iff.mp (by assumption)))).symm | exact ((if_neg (by first | assumption | exact Bool.eq_false_iff.mp (by assumption))).trans (if_neg (by first | assumption | exact Bool.eq_false_iff.mp (by assumption)))).symm | exact (if_neg (by first | assumption | exact Bool.eq_false_iff.mp (by assumption))).symm))))))
theorem c_valid_a (w mean mg mb) : ∀ news y ty m tm d td, ConV w mean mg mb 228 2 news (okA y m d) [.int y ty, .int m tm, .int d td, .none] (fun _ => .bool (true)) := by
  intro news y ty m tm d td
  unfold ConV
  dsimp only [Kf, Tp]
  k_fill
  intro dp' un' gd' cn' cs' a' ccd' cl' outer' A' base' h' L' fr' s' Q' E' hB hF hX hN hT hk hpre hd hu hret
  obtain ⟨p1, p2, p3, p4, p5⟩ := hpre
  all_goals (
  refine wpAny_call ?_
  k_dflt (refine' code_def ?k1 ?k2 ?k3 ?k4 ?k5 ?kA ?kF ?kK ?k6 ?k7 ?k8 ?k9 ?kB ?_ ?c2 ?c3 ?c4 ?c5; (case kA => exact rfl); (case kF => exact rfl); (case kK => assumption); (case k1 => k_asm); (case k2 => k_asm); (case k3 => k_asm); (case k4 => k_asm); (case k5 => k_asm); (case k6 => k_is); (case k7 => k_is); (case k8 => ktr_room); (case k9 => first | exact BindsTo.of_eq rfl | exact binds_K (by k_in) rfl (by k_is) rfl rfl rfl); (case c5 => decide); (case kB => exact locs rfl); (case c2 => exact rfl); (case c3 => exact rfl); (case c4 => exact rfl); k_whole; intro g' L' h' FG' F' N' B' X' T'; (try dsimp only); (try k_lift B'); (try k_fold))
  k_steps)
  all_goals (refine' endB hret ?e1 ?e2 ?e3 ?e4; (case e2 => k_asm); (case e3 => k_asm); (case e4 => first | exact fun _ h => h | exact fun _ h => .tail _ h | exact fun _ h => .tail _ (.tail _ h) | exact fun _ h => .tail _ (.tail _ (.tail _ h)) | exact fun _ h => .tail _ (.tail _ (.tail _ (.tail _ h))) | exact fun _ h => .tail _ (.tail _ (.tail _ (.tail _ (.tail _ h)))) | exact fun _ h => .tail _ (.tail _ (.tail _ (.tail _ (.tail _ (.tail _ h))))) | exact fun _ h => .tail _ (.tail _ (.tail _ (.tail _ (.tail _ (.tail _ (.tail _ h)))))) | exact fun _ h => .tail _ (.tail _ (.tail _ (.tail _ (.tail _ (.tail _ (.tail _ (.tail _ h))))))) | kcj_all); (case e1 => rfl))
end
local macro_rules | `(tactic| walk_at "call ref") => `(tactic| ((with_reducible show wpAny _ _ (call (Value.ref 228) _) _ _ _); k_here; k_dflt (refine' useV (c_valid_a _ _ _ _ _ _ _ _ _ _ _) ?k1 ?k2 ?k3 ?k4 ?k5 ?kK ?kp ?kd ?ku ?_; (case k1 => k_asm); (case k2 => k_asm); (case k3 => k_asm); (case k4 => k_asm); (case k5 => k_asm); (case kK => first | exact rfl | assumption); (case kp => first | with_reducible assumption | assumption); (case kd => ktr_room); (case ku => ktr_units); intro t9 h9 tk9 F9 N9; (try dsimp only); (try k_fold))))
section
set_option hygiene false in
local macro_rules | `(tactic| walk_at "exec If") => `(tactic| ((with_reducible show wpAny _ _ (exec (Stmt.If (Expr.Compare (Expr.Name (Str.ofString "month") _) _ _ _) _ _ _) _) _ _ _); (fail_if_success (rename JMark => hM)); k_here; (rename Fr _ _ _ _ => cF'); (rename News _ _ _ _ => cN'); k_dflt (refine' join_int (Str.ofString "day_max") (if m = 13 then (if (y % 4 == 0) = true then 6 else 5) else 30) cF' cN' (fun hM => ?_) (fun t9 h9 tk9 F9 N9 => ?_)); (all_goals (try k_fold)); (all_goals (try k_sweep))))
local macro_rules | `(tactic| walk_at "JoinV") => `(tactic| (first | (refine' join_end ?jf ?jn ?jm ?js ?je; (case jf => k_asm); (case jn => k_asm); (case jm => first | exact rfl | with_unfolding_all rfl); (case js => first | exact fun _ h => h | exact fun _ h => .tail _ h | exact fun _ h => .tail _ (.tail _ h) | exact fun _ h => .tail _ (.tail _ (.tail _ h)) | exact fun _ h => .tail _ (.tail _ (.tail _ (.tail _ h))) | exact fun _ h => .tail _ (.tail _ (.tail _ (.tail _ (.tail _ h)))) | exact fun _ h => .tail _ (.tail _ (.tail _ (.tail _ (.tail _ (.tail _ h))))) | exact fun _ h => .tail _ (.tail _ (.tail _ (.tail _ (.tail _ (.tail _ (.tail _ h)))))) | exact fun _ h => .tail _ (.tail _ (.tail _ (.tail _ (.tail _ (.tail _ (.tail _ (.tail _ h))))))) | kcj_all); (case je => first | rfl | (simp [*]))) | (refine' join_same ?jf ?jn ?jm ?js ?je; (case jf => k_asm); (case jn => k_asm); (case jm => first | exact rfl | with_unfolding_all rfl); (case js => first | exact fun _ h => h | exact fun _ h => .tail _ h | exact fun _ h => .tail _ (.tail _ h) | exact fun _ h => .tail _ (.tail _ (.tail _ h)) | exact fun _ h => .tail _ (.tail _ (.tail _ (.tail _ h))) | exact fun _ h => .tail _ (.tail _ (.tail _ (.tail _ (.tail _ h)))) | exact fun _ h => .tail _ (.tail _ (.tail _ (.tail _ (.tail _ (.tail _ h))))) | exact fun _ h => .tail _ (.tail _ (.tail _ (.tail _ (.tail _ (.tail _ (.tail _ h)))))) | exact fun _ h => .tail _ (.tail _ (.tail _ (.tail _ (.tail _ (.tail _ (.tail _ (.tail _ h))))))) | kcj_all); (case je => first | rfl | (simp [*])))))
theorem c_valid_s (w mean mg mb) : ∀ news y ty m tm d td tS, ConV w mean mg mb 228 2 news (okS y m d) [.int y ty, .int m tm, .int d td, .str (Str.ofString "sarkawag") tS] (fun _ => .bool (true)) := by
  intro news y ty m tm d td tS
  unfold ConV
  dsimp only [Kf, Tp]
  k_fill
  intro dp' un' gd' cn' cs' a' ccd' cl' outer' A' base' h' L' fr' s' Q' E' hB hF hX hN hT hk hpre hd hu hret
  obtain ⟨p1, p2, p3, p4, p5⟩ := hpre
  all_goals (
  refine wpAny_call ?_
  k_dflt (refine' code_def ?k1 ?k2 ?k3 ?k4 ?k5 ?kA ?kF ?kK ?k6 ?k7 ?k8 ?k9 ?kB ?_ ?c2 ?c3 ?c4 ?c5; (case kA => exact rfl); (case kF => exact rfl); (case kK => assumption); (case k1 => k_asm); (case k2 => k_asm); (case k3 => k_asm); (case k4 => k_asm); (case k5 => k_asm); (case k6 => k_is); (case k7 => k_is); (case k8 => ktr_room); (case k9 => first | exact BindsTo.of_eq rfl | exact binds_K (by k_in) rfl (by k_is) rfl rfl rfl); (case c5 => decide); (case kB => exact locs rfl); (case c2 => exact rfl); (case c3 => exact rfl); (case c4 => exact rfl); k_whole; intro g' L' h' FG' F' N' B' X' T'; (try dsimp only); (try k_lift B'); (try k_fold))
  k_steps)
  all_goals (refine' endB hret ?e1 ?e2 ?e3 ?e4; (case e2 => k_asm); (case e3 => k_asm); (case e4 => first | exact fun _ h => h | exact fun _ h => .tail _ h | exact fun _ h => .tail _ (.tail _ h) | exact fun _ h => .tail _ (.tail _ (.tail _ h)) | exact fun _ h => .tail _ (.tail _ (.tail _ (.tail _ h))) | exact fun _ h => .tail _ (.tail _ (.tail _ (.tail _ (.tail _ h)))) | exact fun _ h => .tail _ (.tail _ (.tail _ (.tail _ (.tail _ (.tail _ h))))) | exact fun _ h => .tail _ (.tail _ (.tail _ (.tail _ (.tail _ (.tail _ (.tail _ h)))))) | exact fun _ h => .tail _ (.tail _ (.tail _ (.tail _ (.tail _ (.tail _ (.tail _ (.tail _ h))))))) | kcj_all); (case e1 => rfl))
end
local macro_rules | `(tactic| walk_at "call ref") => `(tactic| ((with_reducible show wpAny _ _ (call (Value.ref 228) _) _ _ _); k_here; k_dflt (refine' useV (c_valid_s _ _ _ _ _ _ _ _ _ _ _ _) ?k1 ?k2 ?k3 ?k4 ?k5 ?kK ?kp ?kd ?ku ?_; (case k1 => k_asm); (case k2 => k_asm); (case k3 => k_asm); (case k4 => k_asm); (case k5 => k_asm); (case kK => first | exact rfl | assumption); (case kp => first | with_reducible assumption | assumption); (case kd => ktr_room); (case ku => ktr_units); intro t9 h9 tk9 F9 N9; (try dsimp only); (try k_fold))))
def tja (y m d : Int) : Int := 1922502 + 365 * y + ((m - 1) * 30 + d)
def tjs (y m d : Int) : Int := 2117211 + 365 * (y - 533) + (y - 533) / 4 + ((m - 1) * 30 + d)

theorem c_to_jd_a (w mean mg mb) : ∀ news y ty m tm d td, ConV w mean mg mb 243 3 news (okA y m d) [.int y ty, .int m tm, .int d td, .none] (fun t => .int (tja y m d) t) := by
  intro news y ty m tm d td
  unfold ConV
  dsimp only [Kf, Tp]
  k_fill
  intro dp' un' gd' cn' cs' a' ccd' cl' outer' A' base' h' L' fr' s' Q' E' hB hF hX hN hT hk hpre hd hu hret
  all_goals (
  refine wpAny_call ?_
  k_dflt (refine' code_def ?k1 ?k2 ?k3 ?k4 ?k5 ?kA ?kF ?kK ?k6 ?k7 ?k8 ?k9 ?kB ?_ ?c2 ?c3 ?c4 ?c5; (case kA => exact rfl); (case kF => exact rfl); (case kK => assumption); (case k1 => k_asm); (case k2 => k_asm); (case k3 => k_asm); (case k4 => k_asm); (case k5 => k_asm); (case k6 => k_is); (case k7 => k_is); (case k8 => ktr_room); (case k9 => first | exact BindsTo.of_eq rfl | exact binds_K (by k_in) rfl (by k_is) rfl rfl rfl); (case c5 => decide); (case kB => exact locs rfl); (case c2 => exact rfl); (case c3 => exact rfl); (case c4 => exact rfl); k_whole; intro g' L' h' FG' F' N' B' X' T'; (try dsimp only); (try k_lift B'); (try k_fold))
  k_steps)
  all_goals (refine' endI hret ?e1 ?e2 ?e3 ?e4; (case e2 => k_asm); (case e3 => k_asm); (case e4 => first | exact fun _ h => h | exact fun _ h => .tail _ h | exact fun _ h => .tail _ (.tail _ h) | exact fun _ h => .tail _ (.tail _ (.tail _ h)) | exact fun _ h => .tail _ (.tail _ (.tail _ (.tail _ h))) | exact fun _ h => .tail _ (.tail _ (.tail _ (.tail _ (.tail _ h)))) | exact fun _ h => .tail _ (.tail _ (.tail _ (.tail _ (.tail _ (.tail _ h))))) | exact fun _ h => .tail _ (.tail _ (.tail _ (.tail _ (.tail _ (.tail _ (.tail _ h)))))) | exact fun _ h => .tail _ (.tail _ (.tail _ (.tail _ (.tail _ (.tail _ (.tail _ (.tail _ h))))))) | kcj_all); (case e1 => rfl))
local macro_rules | `(tactic| walk_at "call ref") => `(tactic| ((with_reducible show wpAny _ _ (call (Value.ref 243) _) _ _ _); k_here; k_dflt (refine' useV (c_to_jd_a _ _ _ _ _ _ _ _ _ _ _) ?k1 ?k2 ?k3 ?k4 ?k5 ?kK ?kp ?kd ?ku ?_; (case k1 => k_asm); (case k2 => k_asm); (case k3 => k_asm); (case k4 => k_asm); (case k5 => k_asm); (case kK => first | exact rfl | assumption); (case kp => first | with_reducible assumption | assumption); (case kd => ktr_room); (case ku => ktr_units); intro t9 h9 tk9 F9 N9; (try dsimp only); (try k_fold))))
theorem c_to_jd_a3 (w mean mg mb) : ∀ news y ty m tm d td, ConV w mean mg mb 243 3 news (okA y m d) [.int y ty, .int m tm, .int d td] (fun t => .int (tja y m d) t) := by
  intro news y ty m tm d td
  unfold ConV
  dsimp only [Kf, Tp]
  k_fill
  intro dp' un' gd' cn' cs' a' ccd' cl' outer' A' base' h' L' fr' s' Q' E' hB hF hX hN hT hk hpre hd hu hret
  all_goals (
  refine wpAny_call ?_
  k_dflt (refine' code_def ?k1 ?k2 ?k3 ?k4 ?k5 ?kA ?kF ?kK ?k6 ?k7 ?k8 ?k9 ?kB ?_ ?c2 ?c3 ?c4 ?c5; (case kA => exact rfl); (case kF => exact rfl); (case kK => assumption); (case k1 => k_asm); (case k2 => k_asm); (case k3 => k_asm); (case k4 => k_asm); (case k5 => k_asm); (case k6 => k_is); (case k7 => k_is); (case k8 => ktr_room); (case k9 => first | exact BindsTo.of_eq rfl | exact binds_K (by k_in) rfl (by k_is) rfl rfl rfl); (case c5 => decide); (case kB => exact locs rfl); (case c2 => exact rfl); (case c3 => exact rfl); (case c4 => exact rfl); k_whole; intro g' L' h' FG' F' N' B' X' T'; (try dsimp only); (try k_lift B'); (try k_fold))
  k_steps)
  all_goals (refine' endI hret ?e1 ?e2 ?e3 ?e4; (case e2 => k_asm); (case e3 => k_asm); (case e4 => first | exact fun _ h => h | exact fun _ h => .tail _ h | exact fun _ h => .tail _ (.tail _ h) | exact fun _ h => .tail _ (.tail _ (.tail _ h)) | exact fun _ h => .tail _ (.tail _ (.tail _ (.tail _ h))) | exact fun _ h => .tail _ (.tail _ (.tail _ (.tail _ (.tail _ h)))) | exact fun _ h => .tail _ (.tail _ (.tail _ (.tail _ (.tail _ (.tail _ h))))) | exact fun _ h => .tail _ (.tail _ (.tail _ (.tail _ (.tail _ (.tail _ (.tail _ h)))))) | exact fun _ h => .tail _ (.tail _ (.tail _ (.tail _ (.tail _ (.tail _ (.tail _ (.tail _ h))))))) | kcj_all); (case e1 => rfl))
local macro_rules | `(tactic| walk_at "call ref") => `(tactic| ((with_reducible show wpAny _ _ (call (Value.ref 243) _) _ _ _); k_here; k_dflt (refine' useV (c_to_jd_a3 _ _ _ _ _ _ _ _ _ _ _) ?k1 ?k2 ?k3 ?k4 ?k5 ?kK ?kp ?kd ?ku ?_; (case k1 => k_asm); (case k2 => k_asm); (case k3 => k_asm); (case k4 => k_asm); (case k5 => k_asm); (case kK => first | exact rfl | assumption); (case kp => first | with_reducible assumption | assumption); (case kd => ktr_room); (case ku => ktr_units); intro t9 h9 tk9 F9 N9; (try dsimp only); (try k_fold))))
theorem c_to_jd_s (w mean mg mb) : ∀ news y ty m tm d td tS, ConV w mean mg mb 243 3 news (okS y m d) [.int y ty, .int m tm, .int d td, .str (Str.ofString "sarkawag") tS] (fun t => .int (tjs y m d) t) := by
  intro news y ty m tm d td tS
  unfold ConV
  dsimp only [Kf, Tp]
  k_fill
  intro dp' un' gd' cn' cs' a' ccd' cl' outer' A' base' h' L' fr' s' Q' E' hB hF hX hN hT hk hpre hd hu hret
  have p3 := hpre.2.2.1
  all_goals (
  refine wpAny_call ?_
  k_dflt (refine' code_def ?k1 ?k2 ?k3 ?k4 ?k5 ?kA ?kF ?kK ?k6 ?k7 ?k8 ?k9 ?kB ?_ ?c2 ?c3 ?c4 ?c5; (case kA => exact rfl); (case kF => exact rfl); (case kK => assumption); (case k1 => k_asm); (case k2 => k_asm); (case k3 => k_asm); (case k4 => k_asm); (case k5 => k_asm); (case k6 => k_is); (case k7 => k_is); (case k8 => ktr_room); (case k9 => first | exact BindsTo.of_eq rfl | exact binds_K (by k_in) rfl (by k_is) rfl rfl rfl); (case c5 => decide); (case kB => exact locs rfl); (case c2 => exact rfl); (case c3 => exact rfl); (case c4 => exact rfl); k_whole; intro g' L' h' FG' F' N' B' X' T'; (try dsimp only); (try k_lift B'); (try k_fold))
  k_steps)
  all_goals (refine' endI hret ?e1 ?e2 ?e3 ?e4; (case e2 => k_asm); (case e3 => k_asm); (case e4 => first | exact fun _ h => h | exact fun _ h => .tail _ h | exact fun _ h => .tail _ (.tail _ h) | exact fun _ h => .tail _ (.tail _ (.tail _ h)) | exact fun _ h => .tail _ (.tail _ (.tail _ (.tail _ h))) | exact fun _ h => .tail _ (.tail _ (.tail _ (.tail _ (.tail _ h)))) | exact fun _ h => .tail _ (.tail _ (.tail _ (.tail _ (.tail _ (.tail _ h))))) | exact fun _ h => .tail _ (.tail _ (.tail _ (.tail _ (.tail _ (.tail _ (.tail _ h)))))) | exact fun _ h => .tail _ (.tail _ (.tail _ (.tail _ (.tail _ (.tail _ (.tail _ (.tail _ h))))))) | kcj_all); (case e1 => rfl))
local macro_rules | `(tactic| walk_at "call ref") => `(tactic| ((with_reducible show wpAny _ _ (call (Value.ref 243) _) _ _ _); k_here; k_dflt (refine' useV (c_to_jd_s _ _ _ _ _ _ _ _ _ _ _ _) ?k1 ?k2 ?k3 ?k4 ?k5 ?kK ?kp ?kd ?ku ?_; (case k1 => k_asm); (case k2 => k_asm); (case k3 => k_asm); (case k4 => k_asm); (case k5 => k_asm); (case kK => first | exact rfl | assumption); (case kp => first | with_reducible assumption | assumption); (case kd => ktr_room); (case ku => ktr_units); intro t9 h9 tk9 F9 N9; (try dsimp only); (try k_fold))))
theorem c_from_jd_a (w mean mg mb) : ∀ news n tn, ConT w mean mg mb 251 2 news (1922502 < n) [.int n tn, .none] [ya n, ma n, da n] := by
  intro news n tn
  unfold ConT
  dsimp only [Kf, Tp]
  k_fill
  intro dp' un' gd' cn' cs' a' ccd' cl' outer' A' base' h' L' fr' s' Q' E' hB hF hX hN hT hk hpre hd hu hret
  all_goals (
  refine wpAny_call ?_
  k_dflt (refine' code_def ?k1 ?k2 ?k3 ?k4 ?k5 ?kA ?kF ?kK ?k6 ?k7 ?k8 ?k9 ?kB ?_ ?c2 ?c3 ?c4 ?c5; (case kA => exact rfl); (case kF => exact rfl); (case kK => assumption); (case k1 => k_asm); (case k2 => k_asm); (case k3 => k_asm); (case k4 => k_asm); (case k5 => k_asm); (case k6 => k_is); (case k7 => k_is); (case k8 => ktr_room); (case k9 => first | exact BindsTo.of_eq rfl | exact binds_K (by k_in) rfl (by k_is) rfl rfl rfl); (case c5 => decide); (case kB => exact locs rfl); (case c2 => exact rfl); (case c3 => exact rfl); (case c4 => exact rfl); k_whole; intro g' L' h' FG' F' N' B' X' T'; (try dsimp only); (try k_lift B'); (try k_fold))
  k_steps)
  all_goals (refine' endT hret ?e2 ?e3 ?e5 ?e6 ?e1 ?e4; (case e2 => k_asm); (case e3 => k_asm); (case e5 => k_mem); (case e6 => (repeat constructor)); (case e4 => first | exact fun _ h => h | exact fun _ h => .tail _ h | exact fun _ h => .tail _ (.tail _ h) | exact fun _ h => .tail _ (.tail _ (.tail _ h)) | exact fun _ h => .tail _ (.tail _ (.tail _ (.tail _ h))) | exact fun _ h => .tail _ (.tail _ (.tail _ (.tail _ (.tail _ h)))) | exact fun _ h => .tail _ (.tail _ (.tail _ (.tail _ (.tail _ (.tail _ h))))) | exact fun _ h => .tail _ (.tail _ (.tail _ (.tail _ (.tail _ (.tail _ (.tail _ h)))))) | exact fun _ h => .tail _ (.tail _ (.tail _ (.tail _ (.tail _ (.tail _ (.tail _ (.tail _ h))))))) | kcj_all); (case e1 => rfl))
local macro_rules | `(tactic| walk_at "call ref") => `(tactic| ((with_reducible show wpAny _ _ (call (Value.ref 251) _) _ _ _); k_here; k_dflt (refine' useT3 (c_from_jd_a _ _ _ _ _ _ _) ?k1 ?k2 ?k3 ?k4 ?k5 ?kK ?kp ?kd ?ku ?_; (case k1 => k_asm); (case k2 => k_asm); (case k3 => k_asm); (case k4 => k_asm); (case k5 => k_asm); (case kK => first | exact rfl | assumption); (case kp => first | with_reducible assumption | assumption | omega); (case kd => ktr_room); (case ku => ktr_units); intro D9 t90 t91 t92 c9 h9 tk9 F9 N9; (try dsimp only); (try k_fold))))
theorem c_from_jd_a1 (w mean mg mb) : ∀ news n tn, ConT w mean mg mb 251 2 news (1922502 < n) [.int n tn] [ya n, ma n, da n] := by
  intro news n tn
  unfold ConT
  dsimp only [Kf, Tp]
  k_fill
  intro dp' un' gd' cn' cs' a' ccd' cl' outer' A' base' h' L' fr' s' Q' E' hB hF hX hN hT hk hpre hd hu hret
  all_goals (
  refine wpAny_call ?_
  k_dflt (refine' code_def ?k1 ?k2 ?k3 ?k4 ?k5 ?kA ?kF ?kK ?k6 ?k7 ?k8 ?k9 ?kB ?_ ?c2 ?c3 ?c4 ?c5; (case kA => exact rfl); (case kF => exact rfl); (case kK => assumption); (case k1 => k_asm); (case k2 => k_asm); (case k3 => k_asm); (case k4 => k_asm); (case k5 => k_asm); (case k6 => k_is); (case k7 => k_is); (case k8 => ktr_room); (case k9 => first | exact BindsTo.of_eq rfl | exact binds_K (by k_in) rfl (by k_is) rfl rfl rfl); (case c5 => decide); (case kB => exact locs rfl); (case c2 => exact rfl); (case c3 => exact rfl); (case c4 => exact rfl); k_whole; intro g' L' h' FG' F' N' B' X' T'; (try dsimp only); (try k_lift B'); (try k_fold))
  k_steps)
  all_goals (refine' endT hret ?e2 ?e3 ?e5 ?e6 ?e1 ?e4; (case e2 => k_asm); (case e3 => k_asm); (case e5 => k_mem); (case e6 => (repeat constructor)); (case e4 => first | exact fun _ h => h | exact fun _ h => .tail _ h | exact fun _ h => .tail _ (.tail _ h) | exact fun _ h => .tail _ (.tail _ (.tail _ h)) | exact fun _ h => .tail _ (.tail _ (.tail _ (.tail _ h))) | exact fun _ h => .tail _ (.tail _ (.tail _ (.tail _ (.tail _ h)))) | exact fun _ h => .tail _ (.tail _ (.tail _ (.tail _ (.tail _ (.tail _ h))))) | exact fun _ h => .tail _ (.tail _ (.tail _ (.tail _ (.tail _ (.tail _ (.tail _ h)))))) | exact fun _ h => .tail _ (.tail _ (.tail _ (.tail _ (.tail _ (.tail _ (.tail _ (.tail _ h))))))) | kcj_all); (case e1 => rfl))
local macro_rules | `(tactic| walk_at "call ref") => `(tactic| ((with_reducible show wpAny _ _ (call (Value.ref 251) _) _ _ _); k_here; k_dflt (refine' useT3 (c_from_jd_a1 _ _ _ _ _ _ _) ?k1 ?k2 ?k3 ?k4 ?k5 ?kK ?kp ?kd ?ku ?_; (case k1 => k_asm); (case k2 => k_asm); (case k3 => k_asm); (case k4 => k_asm); (case k5 => k_asm); (case kK => first | exact rfl | assumption); (case kp => first | with_reducible assumption | assumption | omega); (case kd => ktr_room); (case ku => ktr_units); intro D9 t90 t91 t92 c9 h9 tk9 F9 N9; (try dsimp only); (try k_fold))))
theorem c_from_jd_s (w mean mg mb) : ∀ news n tn tS, ConT w mean mg mb 251 2 news (2117211 < n) [.int n tn, .str (Str.ofString "sarkawag") tS] [ys1 n + 533, (ds1 n - 1) / 30 + 1, ds1 n - 30 * ((ds1 n - 1) / 30)] := by
  intro news n tn tS
  unfold ConT
  dsimp only [Kf, Tp]
  k_fill
  intro dp' un' gd' cn' cs' a' ccd' cl' outer' A' base' h' L' fr' s' Q' E' hB hF hX hN hT hk hpre hd hu hret
  all_goals (
  refine wpAny_call ?_
  k_dflt (refine' code_def ?k1 ?k2 ?k3 ?k4 ?k5 ?kA ?kF ?kK ?k6 ?k7 ?k8 ?k9 ?kB ?_ ?c2 ?c3 ?c4 ?c5; (case kA => exact rfl); (case kF => exact rfl); (case kK => assumption); (case k1 => k_asm); (case k2 => k_asm); (case k3 => k_asm); (case k4 => k_asm); (case k5 => k_asm); (case k6 => k_is); (case k7 => k_is); (case k8 => ktr_room); (case k9 => first | exact BindsTo.of_eq rfl | exact binds_K (by k_in) rfl (by k_is) rfl rfl rfl); (case c5 => decide); (case kB => exact locs rfl); (case c2 => exact rfl); (case c3 => exact rfl); (case c4 => exact rfl); k_whole; intro g' L' h' FG' F' N' B' X' T'; (try dsimp only); (try k_lift B'); (try k_fold))
  k_steps)
  all_goals (refine' endT hret ?e2 ?e3 ?e5 ?e6 ?e1 ?e4; (case e2 => k_asm); (case e3 => k_asm); (case e5 => k_mem); (case e6 => (repeat constructor)); (case e4 => first | exact fun _ h => h | exact fun _ h => .tail _ h | exact fun _ h => .tail _ (.tail _ h) | exact fun _ h => .tail _ (.tail _ (.tail _ h)) | exact fun _ h => .tail _ (.tail _ (.tail _ (.tail _ h))) | exact fun _ h => .tail _ (.tail _ (.tail _ (.tail _ (.tail _ h)))) | exact fun _ h => .tail _ (.tail _ (.tail _ (.tail _ (.tail _ (.tail _ h))))) | exact fun _ h => .tail _ (.tail _ (.tail _ (.tail _ (.tail _ (.tail _ (.tail _ h)))))) | exact fun _ h => .tail _ (.tail _ (.tail _ (.tail _ (.tail _ (.tail _ (.tail _ (.tail _ h))))))) | kcj_all); (case e1 => simp only [ys1, ds1, ds0, ys0, *, if_true, if_false, if_pos, if_neg, not_false_eq_true]))
local macro_rules | `(tactic| walk_at "call ref") => `(tactic| ((with_reducible show wpAny _ _ (call (Value.ref 251) _) _ _ _); k_here; k_dflt (refine' useT3 (c_from_jd_s _ _ _ _ _ _ _ _) ?k1 ?k2 ?k3 ?k4 ?k5 ?kK ?kp ?kd ?ku ?_; (case k1 => k_asm); (case k2 => k_asm); (case k3 => k_asm); (case k4 => k_asm); (case k5 => k_asm); (case kK => first | exact rfl | assumption); (case kp => first | with_reducible assumption | assumption | omega); (case kd => ktr_room); (case ku => ktr_units); intro D9 t90 t91 t92 c9 h9 tk9 F9 N9; (try dsimp only); (try k_fold))))
theorem c_to_j_a (w mean mg mb) : ∀ news y ty m tm d td, ConT w mean mg mb 259 4 news (okA y m d) [.int y ty, .int m tm, .int d td] [yj (tja y m d), mj (tja y m d), ddj (tja y m d)] := by
  intro news y ty m tm d td
  unfold ConT
  dsimp only [Kf, Tp]
  k_fill
  intro dp' un' gd' cn' cs' a' ccd' cl' outer' A' base' h' L' fr' s' Q' E' hB hF hX hN hT hk hpre hd hu hret
  all_goals (
  refine wpAny_call ?_
  k_dflt (refine' code_def ?k1 ?k2 ?k3 ?k4 ?k5 ?kA ?kF ?kK ?k6 ?k7 ?k8 ?k9 ?kB ?_ ?c2 ?c3 ?c4 ?c5; (case kA => exact rfl); (case kF => exact rfl); (case kK => assumption); (case k1 => k_asm); (case k2 => k_asm); (case k3 => k_asm); (case k4 => k_asm); (case k5 => k_asm); (case k6 => k_is); (case k7 => k_is); (case k8 => ktr_room); (case k9 => first | exact BindsTo.of_eq rfl | exact binds_K (by k_in) rfl (by k_is) rfl rfl rfl); (case c5 => decide); (case kB => exact locs rfl); (case c2 => exact rfl); (case c3 => exact rfl); (case c4 => exact rfl); k_whole; intro g' L' h' FG' F' N' B' X' T'; (try dsimp only); (try k_lift B'); (try k_fold))
  k_steps)
  all_goals (refine' endT hret ?e2 ?e3 ?e5 ?e6 ?e1 ?e4; (case e2 => k_asm); (case e3 => k_asm); (case e5 => k_mem); (case e6 => (repeat constructor)); (case e4 => first | exact fun _ h => h | exact fun _ h => .tail _ h | exact fun _ h => .tail _ (.tail _ h) | exact fun _ h => .tail _ (.tail _ (.tail _ h)) | exact fun _ h => .tail _ (.tail _ (.tail _ (.tail _ h))) | exact fun _ h => .tail _ (.tail _ (.tail _ (.tail _ (.tail _ h)))) | exact fun _ h => .tail _ (.tail _ (.tail _ (.tail _ (.tail _ (.tail _ h))))) | exact fun _ h => .tail _ (.tail _ (.tail _ (.tail _ (.tail _ (.tail _ (.tail _ h)))))) | exact fun _ h => .tail _ (.tail _ (.tail _ (.tail _ (.tail _ (.tail _ (.tail _ (.tail _ h))))))) | kcj_all); (case e1 => rfl))
local macro_rules | `(tactic| walk_at "call ref") => `(tactic| ((with_reducible show wpAny _ _ (call (Value.ref 259) _) _ _ _); k_here; k_dflt (refine' useT3 (c_to_j_a _ _ _ _ _ _ _ _ _ _ _) ?k1 ?k2 ?k3 ?k4 ?k5 ?kK ?kp ?kd ?ku ?_; (case k1 => k_asm); (case k2 => k_asm); (case k3 => k_asm); (case k4 => k_asm); (case k5 => k_asm); (case kK => first | exact rfl | assumption); (case kp => first | with_reducible assumption | assumption); (case kd => ktr_room); (case ku => ktr_units); intro D9 t90 t91 t92 c9 h9 tk9 F9 N9; (try dsimp only); (try k_fold))))
theorem c_to_j_s (w mean mg mb) : ∀ news y ty m tm d td tS, ConT w mean mg mb 259 4 news (okS y m d) [.int y ty, .int m tm, .int d td, .str (Str.ofString "sarkawag") tS] [yj (tjs y m d), mj (tjs y m d), ddj (tjs y m d)] := by
  intro news y ty m tm d td tS
  unfold ConT
  dsimp only [Kf, Tp]
  k_fill
  intro dp' un' gd' cn' cs' a' ccd' cl' outer' A' base' h' L' fr' s' Q' E' hB hF hX hN hT hk hpre hd hu hret
  all_goals (
  refine wpAny_call ?_
  k_dflt (refine' code_def ?k1 ?k2 ?k3 ?k4 ?k5 ?kA ?kF ?kK ?k6 ?k7 ?k8 ?k9 ?kB ?_ ?c2 ?c3 ?c4 ?c5; (case kA => exact rfl); (case kF => exact rfl); (case kK => assumption); (case k1 => k_asm); (case k2 => k_asm); (case k3 => k_asm); (case k4 => k_asm); (case k5 => k_asm); (case k6 => k_is); (case k7 => k_is); (case k8 => ktr_room); (case k9 => first | exact BindsTo.of_eq rfl | exact binds_K (by k_in) rfl (by k_is) rfl rfl rfl); (case c5 => decide); (case kB => exact locs rfl); (case c2 => exact rfl); (case c3 => exact rfl); (case c4 => exact rfl); k_whole; intro g' L' h' FG' F' N' B' X' T'; (try dsimp only); (try k_lift B'); (try k_fold))
  k_steps)
  all_goals (refine' endT hret ?e2 ?e3 ?e5 ?e6 ?e1 ?e4; (case e2 => k_asm); (case e3 => k_asm); (case e5 => k_mem); (case e6 => (repeat constructor)); (case e4 => first | exact fun _ h => h | exact fun _ h => .tail _ h | exact fun _ h => .tail _ (.tail _ h) | exact fun _ h => .tail _ (.tail _ (.tail _ h)) | exact fun _ h => .tail _ (.tail _ (.tail _ (.tail _ h))) | exact fun _ h => .tail _ (.tail _ (.tail _ (.tail _ (.tail _ h)))) | exact fun _ h => .tail _ (.tail _ (.tail _ (.tail _ (.tail _ (.tail _ h))))) | exact fun _ h => .tail _ (.tail _ (.tail _ (.tail _ (.tail _ (.tail _ (.tail _ h)))))) | exact fun _ h => .tail _ (.tail _ (.tail _ (.tail _ (.tail _ (.tail _ (.tail _ (.tail _ h))))))) | kcj_all); (case e1 => rfl))
local macro_rules | `(tactic| walk_at "call ref") => `(tactic| ((with_reducible show wpAny _ _ (call (Value.ref 259) _) _ _ _); k_here; k_dflt (refine' useT3 (c_to_j_s _ _ _ _ _ _ _ _ _ _ _ _) ?k1 ?k2 ?k3 ?k4 ?k5 ?kK ?kp ?kd ?ku ?_; (case k1 => k_asm); (case k2 => k_asm); (case k3 => k_asm); (case k4 => k_asm); (case k5 => k_asm); (case kK => first | exact rfl | assumption); (case kp => first | with_reducible assumption | assumption); (case kd => ktr_room); (case ku => ktr_units); intro D9 t90 t91 t92 c9 h9 tk9 F9 N9; (try dsimp only); (try k_fold))))
theorem c_from_j_a (w mean mg mb) : ∀ news y ty m tm d td, ConT w mean mg mb 267 5 news ((0 < d ∧ d ≤ dimj y m) ∧ 1922502 < tjj y m d) [.int y ty, .int m tm, .int d td] [ya (tjj y m d), ma (tjj y m d), da (tjj y m d)] := by
  intro news y ty m tm d td
  unfold ConT
  dsimp only [Kf, Tp]
  k_fill
  intro dp' un' gd' cn' cs' a' ccd' cl' outer' A' base' h' L' fr' s' Q' E' hB hF hX hN hT hk hpre hd hu hret
  obtain ⟨p1, p2⟩ := hpre
  all_goals (
  refine wpAny_call ?_
  k_dflt (refine' code_def ?k1 ?k2 ?k3 ?k4 ?k5 ?kA ?kF ?kK ?k6 ?k7 ?k8 ?k9 ?kB ?_ ?c2 ?c3 ?c4 ?c5; (case kA => exact rfl); (case kF => exact rfl); (case kK => assumption); (case k1 => k_asm); (case k2 => k_asm); (case k3 => k_asm); (case k4 => k_asm); (case k5 => k_asm); (case k6 => k_is); (case k7 => k_is); (case k8 => ktr_room); (case k9 => first | exact BindsTo.of_eq rfl | exact binds_K (by k_in) rfl (by k_is) rfl rfl rfl); (case c5 => decide); (case kB => exact locs rfl); (case c2 => exact rfl); (case c3 => exact rfl); (case c4 => exact rfl); k_whole; intro g' L' h' FG' F' N' B' X' T'; (try dsimp only); (try k_lift B'); (try k_fold))
  k_steps)
  all_goals (refine' endT hret ?e2 ?e3 ?e5 ?e6 ?e1 ?e4; (case e2 => k_asm); (case e3 => k_asm); (case e5 => k_mem); (case e6 => (repeat constructor)); (case e4 => first | exact fun _ h => h | exact fun _ h => .tail _ h | exact fun _ h => .tail _ (.tail _ h) | exact fun _ h => .tail _ (.tail _ (.tail _ h)) | exact fun _ h => .tail _ (.tail _ (.tail _ (.tail _ h))) | exact fun _ h => .tail _ (.tail _ (.tail _ (.tail _ (.tail _ h)))) | exact fun _ h => .tail _ (.tail _ (.tail _ (.tail _ (.tail _ (.tail _ h))))) | exact fun _ h => .tail _ (.tail _ (.tail _ (.tail _ (.tail _ (.tail _ (.tail _ h)))))) | exact fun _ h => .tail _ (.tail _ (.tail _ (.tail _ (.tail _ (.tail _ (.tail _ (.tail _ h))))))) | kcj_all); (case e1 => rfl))
local macro_rules | `(tactic| walk_at "call ref") => `(tactic| ((with_reducible show wpAny _ _ (call (Value.ref 267) _) _ _ _); k_here; k_dflt (refine' useT3 (c_from_j_a _ _ _ _ _ _ _ _ _ _ _) ?k1 ?k2 ?k3 ?k4 ?k5 ?kK ?kp ?kd ?ku ?_; (case k1 => k_asm); (case k2 => k_asm); (case k3 => k_asm); (case k4 => k_asm); (case k5 => k_asm); (case kK => first | exact rfl | assumption); (case kp => first | with_reducible assumption | assumption); (case kd => ktr_room); (case ku => ktr_units); intro D9 t90 t91 t92 c9 h9 tk9 F9 N9; (try dsimp only); (try k_fold))))
theorem c_from_j_s (w mean mg mb) : ∀ news y ty m tm d td tS, ConT w mean mg mb 267 5 news ((0 < d ∧ d ≤ dimj y m) ∧ 2117211 < tjj y m d) [.int y ty, .int m tm, .int d td, .str (Str.ofString "sarkawag") tS] [ys1 (tjj y m d) + 533, (ds1 (tjj y m d) - 1) / 30 + 1, ds1 (tjj y m d) - 30 * ((ds1 (tjj y m d) - 1) / 30)] := by
  intro news y ty m tm d td tS
  unfold ConT
  dsimp only [Kf, Tp]
  k_fill
  intro dp' un' gd' cn' cs' a' ccd' cl' outer' A' base' h' L' fr' s' Q' E' hB hF hX hN hT hk hpre hd hu hret
  obtain ⟨p1, p2⟩ := hpre
  all_goals (
  refine wpAny_call ?_
  k_dflt (refine' code_def ?k1 ?k2 ?k3 ?k4 ?k5 ?kA ?kF ?kK ?k6 ?k7 ?k8 ?k9 ?kB ?_ ?c2 ?c3 ?c4 ?c5; (case kA => exact rfl); (case kF => exact rfl); (case kK => assumption); (case k1 => k_asm); (case k2 => k_asm); (case k3 => k_asm); (case k4 => k_asm); (case k5 => k_asm); (case k6 => k_is); (case k7 => k_is); (case k8 => ktr_room); (case k9 => first | exact BindsTo.of_eq rfl | exact binds_K (by k_in) rfl (by k_is) rfl rfl rfl); (case c5 => decide); (case kB => exact locs rfl); (case c2 => exact rfl); (case c3 => exact rfl); (case c4 => exact rfl); k_whole; intro g' L' h' FG' F' N' B' X' T'; (try dsimp only); (try k_lift B'); (try k_fold))
  k_steps)
  all_goals (refine' endT hret ?e2 ?e3 ?e5 ?e6 ?e1 ?e4; (case e2 => k_asm); (case e3 => k_asm); (case e5 => k_mem); (case e6 => (repeat constructor)); (case e4 => first | exact fun _ h => h | exact fun _ h => .tail _ h | exact fun _ h => .tail _ (.tail _ h) | exact fun _ h => .tail _ (.tail _ (.tail _ h)) | exact fun _ h => .tail _ (.tail _ (.tail _ (.tail _ h))) | exact fun _ h => .tail _ (.tail _ (.tail _ (.tail _ (.tail _ h)))) | exact fun _ h => .tail _ (.tail _ (.tail _ (.tail _ (.tail _ (.tail _ h))))) | exact fun _ h => .tail _ (.tail _ (.tail _ (.tail _ (.tail _ (.tail _ (.tail _ h)))))) | exact fun _ h => .tail _ (.tail _ (.tail _ (.tail _ (.tail _ (.tail _ (.tail _ (.tail _ h))))))) | kcj_all); (case e1 => rfl))
local macro_rules | `(tactic| walk_at "call ref") => `(tactic| ((with_reducible show wpAny _ _ (call (Value.ref 267) _) _ _ _); k_here; k_dflt (refine' useT3 (c_from_j_s _ _ _ _ _ _ _ _ _ _ _ _) ?k1 ?k2 ?k3 ?k4 ?k5 ?kK ?kp ?kd ?ku ?_; (case k1 => k_asm); (case k2 => k_asm); (case k3 => k_asm); (case k4 => k_asm); (case k5 => k_asm); (case kK => first | exact rfl | assumption); (case kp => first | with_reducible assumption | assumption); (case kd => ktr_room); (case ku => ktr_units); intro D9 t90 t91 t92 c9 h9 tk9 F9 N9; (try dsimp only); (try k_fold))))
theorem c_to_g_a (w mean mg mb) : ∀ news y ty m tm d td, ConT w mean mg mb 275 5 news (okA y m d) [.int y ty, .int m tm, .int d td] [fyg (tja y m d), fmg (tja y m d), fdg (tja y m d)] := by
  intro news y ty m tm d td
  unfold ConT
  dsimp only [Kf, Tp]
  k_fill
  intro dp' un' gd' cn' cs' a' ccd' cl' outer' A' base' h' L' fr' s' Q' E' hB hF hX hN hT hk hpre hd hu hret
  all_goals (
  refine wpAny_call ?_
  k_dflt (refine' code_def ?k1 ?k2 ?k3 ?k4 ?k5 ?kA ?kF ?kK ?k6 ?k7 ?k8 ?k9 ?kB ?_ ?c2 ?c3 ?c4 ?c5; (case kA => exact rfl); (case kF => exact rfl); (case kK => assumption); (case k1 => k_asm); (case k2 => k_asm); (case k3 => k_asm); (case k4 => k_asm); (case k5 => k_asm); (case k6 => k_is); (case k7 => k_is); (case k8 => ktr_room); (case k9 => first | exact BindsTo.of_eq rfl | exact binds_K (by k_in) rfl (by k_is) rfl rfl rfl); (case c5 => decide); (case kB => exact locs rfl); (case c2 => exact rfl); (case c3 => exact rfl); (case c4 => exact rfl); k_whole; intro g' L' h' FG' F' N' B' X' T'; (try dsimp only); (try k_lift B'); (try k_fold))
  k_steps)
  all_goals (refine' endT hret ?e2 ?e3 ?e5 ?e6 ?e1 ?e4; (case e2 => k_asm); (case e3 => k_asm); (case e5 => k_mem); (case e6 => (repeat constructor)); (case e4 => first | exact fun _ h => h | exact fun _ h => .tail _ h | exact fun _ h => .tail _ (.tail _ h) | exact fun _ h => .tail _ (.tail _ (.tail _ h)) | exact fun _ h => .tail _ (.tail _ (.tail _ (.tail _ h))) | exact fun _ h => .tail _ (.tail _ (.tail _ (.tail _ (.tail _ h)))) | exact fun _ h => .tail _ (.tail _ (.tail _ (.tail _ (.tail _ (.tail _ h))))) | exact fun _ h => .tail _ (.tail _ (.tail _ (.tail _ (.tail _ (.tail _ (.tail _ h)))))) | exact fun _ h => .tail _ (.tail _ (.tail _ (.tail _ (.tail _ (.tail _ (.tail _ (.tail _ h))))))) | kcj_all); (case e1 => rfl))
local macro_rules | `(tactic| walk_at "call ref") => `(tactic| ((with_reducible show wpAny _ _ (call (Value.ref 275) _) _ _ _); k_here; k_dflt (refine' useT3 (c_to_g_a _ _ _ _ _ _ _ _ _ _ _) ?k1 ?k2 ?k3 ?k4 ?k5 ?kK ?kp ?kd ?ku ?_; (case k1 => k_asm); (case k2 => k_asm); (case k3 => k_asm); (case k4 => k_asm); (case k5 => k_asm); (case kK => first | exact rfl | assumption); (case kp => first | with_reducible assumption | assumption); (case kd => ktr_room); (case ku => ktr_units); intro D9 t90 t91 t92 c9 h9 tk9 F9 N9; (try dsimp only); (try k_fold))))
theorem c_to_g_s (w mean mg mb) : ∀ news y ty m tm d td tS, ConT w mean mg mb 275 5 news (okS y m d) [.int y ty, .int m tm, .int d td, .str (Str.ofString "sarkawag") tS] [fyg (tjs y m d), fmg (tjs y m d), fdg (tjs y m d)] := by
  intro news y ty m tm d td tS
  unfold ConT
  dsimp only [Kf, Tp]
  k_fill
  intro dp' un' gd' cn' cs' a' ccd' cl' outer' A' base' h' L' fr' s' Q' E' hB hF hX hN hT hk hpre hd hu hret
  all_goals (
  refine wpAny_call ?_
  k_dflt (refine' code_def ?k1 ?k2 ?k3 ?k4 ?k5 ?kA ?kF ?kK ?k6 ?k7 ?k8 ?k9 ?kB ?_ ?c2 ?c3 ?c4 ?c5; (case kA => exact rfl); (case kF => exact rfl); (case kK => assumption); (case k1 => k_asm); (case k2 => k_asm); (case k3 => k_asm); (case k4 => k_asm); (case k5 => k_asm); (case k6 => k_is); (case k7 => k_is); (case k8 => ktr_room); (case k9 => first | exact BindsTo.of_eq rfl | exact binds_K (by k_in) rfl (by k_is) rfl rfl rfl); (case c5 => decide); (case kB => exact locs rfl); (case c2 => exact rfl); (case c3 => exact rfl); (case c4 => exact rfl); k_whole; intro g' L' h' FG' F' N' B' X' T'; (try dsimp only); (try k_lift B'); (try k_fold))
  k_steps)
  all_goals (refine' endT hret ?e2 ?e3 ?e5 ?e6 ?e1 ?e4; (case e2 => k_asm); (case e3 => k_asm); (case e5 => k_mem); (case e6 => (repeat constructor)); (case e4 => first | exact fun _ h => h | exact fun _ h => .tail _ h | exact fun _ h => .tail _ (.tail _ h) | exact fun _ h => .tail _ (.tail _ (.tail _ h)) | exact fun _ h => .tail _ (.tail _ (.tail _ (.tail _ h))) | exact fun _ h => .tail _ (.tail _ (.tail _ (.tail _ (.tail _ h)))) | exact fun _ h => .tail _ (.tail _ (.tail _ (.tail _ (.tail _ (.tail _ h))))) | exact fun _ h => .tail _ (.tail _ (.tail _ (.tail _ (.tail _ (.tail _ (.tail _ h)))))) | exact fun _ h => .tail _ (.tail _ (.tail _ (.tail _ (.tail _ (.tail _ (.tail _ (.tail _ h))))))) | kcj_all); (case e1 => rfl))
local macro_rules | `(tactic| walk_at "call ref") => `(tactic| ((with_reducible show wpAny _ _ (call (Value.ref 275) _) _ _ _); k_here; k_dflt (refine' useT3 (c_to_g_s _ _ _ _ _ _ _ _ _ _ _ _) ?k1 ?k2 ?k3 ?k4 ?k5 ?kK ?kp ?kd ?ku ?_; (case k1 => k_asm); (case k2 => k_asm); (case k3 => k_asm); (case k4 => k_asm); (case k5 => k_asm); (case kK => first | exact rfl | assumption); (case kp => first | with_reducible assumption | assumption); (case kd => ktr_room); (case ku => ktr_units); intro D9 t90 t91 t92 c9 h9 tk9 F9 N9; (try dsimp only); (try k_fold))))
theorem c_from_g_a (w mean mg mb) : ∀ news y ty m tm d td, ConT w mean mg mb 283 4 news ((0 < d ∧ d ≤ dimg y m) ∧ 1922502 < tjg y m d) [.int y ty, .int m tm, .int d td] [ya (tjg y m d), ma (tjg y m d), da (tjg y m d)] := by
  intro news y ty m tm d td
  unfold ConT
  dsimp only [Kf, Tp]
  k_fill
  intro dp' un' gd' cn' cs' a' ccd' cl' outer' A' base' h' L' fr' s' Q' E' hB hF hX hN hT hk hpre hd hu hret
  obtain ⟨p1, p2⟩ := hpre
  all_goals (
  refine wpAny_call ?_
  k_dflt (refine' code_def ?k1 ?k2 ?k3 ?k4 ?k5 ?kA ?kF ?kK ?k6 ?k7 ?k8 ?k9 ?kB ?_ ?c2 ?c3 ?c4 ?c5; (case kA => exact rfl); (case kF => exact rfl); (case kK => assumption); (case k1 => k_asm); (case k2 => k_asm); (case k3 => k_asm); (case k4 => k_asm); (case k5 => k_asm); (case k6 => k_is); (case k7 => k_is); (case k8 => ktr_room); (case k9 => first | exact BindsTo.of_eq rfl | exact binds_K (by k_in) rfl (by k_is) rfl rfl rfl); (case c5 => decide); (case kB => exact locs rfl); (case c2 => exact rfl); (case c3 => exact rfl); (case c4 => exact rfl); k_whole; intro g' L' h' FG' F' N' B' X' T'; (try dsimp only); (try k_lift B'); (try k_fold))
  k_steps)
  all_goals (refine' endT hret ?e2 ?e3 ?e5 ?e6 ?e1 ?e4; (case e2 => k_asm); (case e3 => k_asm); (case e5 => k_mem); (case e6 => (repeat constructor)); (case e4 => first | exact fun _ h => h | exact fun _ h => .tail _ h | exact fun _ h => .tail _ (.tail _ h) | exact fun _ h => .tail _ (.tail _ (.tail _ h)) | exact fun _ h => .tail _ (.tail _ (.tail _ (.tail _ h))) | exact fun _ h => .tail _ (.tail _ (.tail _ (.tail _ (.tail _ h)))) | exact fun _ h => .tail _ (.tail _ (.tail _ (.tail _ (.tail _ (.tail _ h))))) | exact fun _ h => .tail _ (.tail _ (.tail _ (.tail _ (.tail _ (.tail _ (.tail _ h)))))) | exact fun _ h => .tail _ (.tail _ (.tail _ (.tail _ (.tail _ (.tail _ (.tail _ (.tail _ h))))))) | kcj_all); (case e1 => rfl))
local macro_rules | `(tactic| walk_at "call ref") => `(tactic| ((with_reducible show wpAny _ _ (call (Value.ref 283) _) _ _ _); k_here; k_dflt (refine' useT3 (c_from_g_a _ _ _ _ _ _ _ _ _ _ _) ?k1 ?k2 ?k3 ?k4 ?k5 ?kK ?kp ?kd ?ku ?_; (case k1 => k_asm); (case k2 => k_asm); (case k3 => k_asm); (case k4 => k_asm); (case k5 => k_asm); (case kK => first | exact rfl | assumption); (case kp => first | with_reducible assumption | assumption); (case kd => ktr_room); (case ku => ktr_units); intro D9 t90 t91 t92 c9 h9 tk9 F9 N9; (try dsimp only); (try k_fold))))
theorem c_from_g_s (w mean mg mb) : ∀ news y ty m tm d td tS, ConT w mean mg mb 283 4 news ((0 < d ∧ d ≤ dimg y m) ∧ 2117211 < tjg y m d) [.int y ty, .int m tm, .int d td, .str (Str.ofString "sarkawag") tS] [ys1 (tjg y m d) + 533, (ds1 (tjg y m d) - 1) / 30 + 1, ds1 (tjg y m d) - 30 * ((ds1 (tjg y m d) - 1) / 30)] := by
  intro news y ty m tm d td tS
  unfold ConT
  dsimp only [Kf, Tp]
  k_fill
  intro dp' un' gd' cn' cs' a' ccd' cl' outer' A' base' h' L' fr' s' Q' E' hB hF hX hN hT hk hpre hd hu hret
  obtain ⟨p1, p2⟩ := hpre
  all_goals (
  refine wpAny_call ?_
  k_dflt (refine' code_def ?k1 ?k2 ?k3 ?k4 ?k5 ?kA ?kF ?kK ?k6 ?k7 ?k8 ?k9 ?kB ?_ ?c2 ?c3 ?c4 ?c5; (case kA => exact rfl); (case kF => exact rfl); (case kK => assumption); (case k1 => k_asm); (case k2 => k_asm); (case k3 => k_asm); (case k4 => k_asm); (case k5 => k_asm); (case k6 => k_is); (case k7 => k_is); (case k8 => ktr_room); (case k9 => first | exact BindsTo.of_eq rfl | exact binds_K (by k_in) rfl (by k_is) rfl rfl rfl); (case c5 => decide); (case kB => exact locs rfl); (case c2 => exact rfl); (case c3 => exact rfl); (case c4 => exact rfl); k_whole; intro g' L' h' FG' F' N' B' X' T'; (try dsimp only); (try k_lift B'); (try k_fold))
  k_steps)
  all_goals (refine' endT hret ?e2 ?e3 ?e5 ?e6 ?e1 ?e4; (case e2 => k_asm); (case e3 => k_asm); (case e5 => k_mem); (case e6 => (repeat constructor)); (case e4 => first | exact fun _ h => h | exact fun _ h => .tail _ h | exact fun _ h => .tail _ (.tail _ h) | exact fun _ h => .tail _ (.tail _ (.tail _ h)) | exact fun _ h => .tail _ (.tail _ (.tail _ (.tail _ h))) | exact fun _ h => .tail _ (.tail _ (.tail _ (.tail _ (.tail _ h)))) | exact fun _ h => .tail _ (.tail _ (.tail _ (.tail _ (.tail _ (.tail _ h))))) | exact fun _ h => .tail _ (.tail _ (.tail _ (.tail _ (.tail _ (.tail _ (.tail _ h)))))) | exact fun _ h => .tail _ (.tail _ (.tail _ (.tail _ (.tail _ (.tail _ (.tail _ (.tail _ h))))))) | kcj_all); (case e1 => rfl))
local macro_rules | `(tactic| walk_at "call ref") => `(tactic| ((with_reducible show wpAny _ _ (call (Value.ref 283) _) _ _ _); k_here; k_dflt (refine' useT3 (c_from_g_s _ _ _ _ _ _ _ _ _ _ _ _) ?k1 ?k2 ?k3 ?k4 ?k5 ?kK ?kp ?kd ?ku ?_; (case k1 => k_asm); (case k2 => k_asm); (case k3 => k_asm); (case k4 => k_asm); (case k5 => k_asm); (case kK => first | exact rfl | assumption); (case kp => first | with_reducible assumption | assumption); (case kd => ktr_room); (case ku => ktr_units); intro D9 t90 t91 t92 c9 h9 tk9 F9 N9; (try dsimp only); (try k_fold))))
def tjc (y m d : Int) : Int := d + (m - 1) * 30 + (y - 1) * 365 + y / 4 + 1825030 - 1
def yc (n : Int) : Int := (4 * (n - 1825030) + 1463) / 1461
def mc (n : Int) : Int := (n - tjc (yc n) 1 1) / 30 + 1
def dc (n : Int) : Int := n - tjc (yc n) 1 1 - (mc n - 1) * 30 + 1
def tji (y m d : Int) : Int := d + -(-59 * (m - 1) / 2) + (y - 1) * 354 + (3 + 11 * y) / 30 + 1948440 - 1
def yi (n : Int) : Int := (30 * (n - 1948440) + 10646) / 10631
def mi (n : Int) : Int := if -(-2 * (n - (29 + tji (yi n) 1 1)) / 59) + 1 < 12 then -(-2 * (n - (29 + tji (yi n) 1 1)) / 59) + 1 else 12
def di (n : Int) : Int := n - tji (yi n) (mi n) 1 + 1

theorem c_to_jd_c (w mean mg mb) : ∀ news y ty m tm d td, ConV w mean mg mb 290 1 news (True) [.int y ty, .int m tm, .int d td] (fun t => .int (tjc y m d) t) := by
  intro news y ty m tm d td
  unfold ConV
  dsimp only [Kf, Tp]
  k_fill
  intro dp' un' gd' cn' cs' a' ccd' cl' outer' A' base' h' L' fr' s' Q' E' hB hF hX hN hT hk hpre hd hu hret
  all_goals (
  refine wpAny_call ?_
  k_dflt (refine' code_def ?k1 ?k2 ?k3 ?k4 ?k5 ?kA ?kF ?kK ?k6 ?k7 ?k8 ?k9 ?kB ?_ ?c2 ?c3 ?c4 ?c5; (case kA => exact rfl); (case kF => exact rfl); (case kK => assumption); (case k1 => k_asm); (case k2 => k_asm); (case k3 => k_asm); (case k4 => k_asm); (case k5 => k_asm); (case k6 => k_is); (case k7 => k_is); (case k8 => ktr_room); (case k9 => first | exact BindsTo.of_eq rfl | exact binds_K (by k_in) rfl (by k_is) rfl rfl rfl); (case c5 => decide); (case kB => exact locs rfl); (case c2 => exact rfl); (case c3 => exact rfl); (case c4 => exact rfl); k_whole; intro g' L' h' FG' F' N' B' X' T'; (try dsimp only); (try k_lift B'); (try k_fold))
  k_steps)
  all_goals (refine' endI hret ?e1 ?e2 ?e3 ?e4; (case e2 => k_asm); (case e3 => k_asm); (case e4 => first | exact fun _ h => h | exact fun _ h => .tail _ h | exact fun _ h => .tail _ (.tail _ h) | exact fun _ h => .tail _ (.tail _ (.tail _ h)) | exact fun _ h => .tail _ (.tail _ (.tail _ (.tail _ h))) | exact fun _ h => .tail _ (.tail _ (.tail _ (.tail _ (.tail _ h)))) | exact fun _ h => .tail _ (.tail _ (.tail _ (.tail _ (.tail _ (.tail _ h))))) | exact fun _ h => .tail _ (.tail _ (.tail _ (.tail _ (.tail _ (.tail _ (.tail _ h)))))) | exact fun _ h => .tail _ (.tail _ (.tail _ (.tail _ (.tail _ (.tail _ (.tail _ (.tail _ h))))))) | kcj_all); (case e1 => rfl))
local macro_rules | `(tactic| walk_at "call ref") => `(tactic| ((with_reducible show wpAny _ _ (call (Value.ref 290) _) _ _ _); k_here; k_dflt (refine' useV (c_to_jd_c _ _ _ _ _ _ _ _ _ _ _) ?k1 ?k2 ?k3 ?k4 ?k5 ?kK ?kp ?kd ?ku ?_; (case k1 => k_asm); (case k2 => k_asm); (case k3 => k_asm); (case k4 => k_asm); (case k5 => k_asm); (case kK => first | exact rfl | assumption); (case kp => exact True.intro); (case kd => ktr_room); (case ku => ktr_units); intro t9 h9 tk9 F9 N9; (try dsimp only); (try k_fold))))
theorem c_from_jd_c (w mean mg mb) : ∀ news n tn, ConT w mean mg mb 297 2 news (True) [.int n tn] [yc n, mc n, dc n] := by
  intro news n tn
  unfold ConT
  dsimp only [Kf, Tp]
  k_fill
  intro dp' un' gd' cn' cs' a' ccd' cl' outer' A' base' h' L' fr' s' Q' E' hB hF hX hN hT hk hpre hd hu hret
  all_goals (
  refine wpAny_call ?_
  k_dflt (refine' code_def ?k1 ?k2 ?k3 ?k4 ?k5 ?kA ?kF ?kK ?k6 ?k7 ?k8 ?k9 ?kB ?_ ?c2 ?c3 ?c4 ?c5; (case kA => exact rfl); (case kF => exact rfl); (case kK => assumption); (case k1 => k_asm); (case k2 => k_asm); (case k3 => k_asm); (case k4 => k_asm); (case k5 => k_asm); (case k6 => k_is); (case k7 => k_is); (case k8 => ktr_room); (case k9 => first | exact BindsTo.of_eq rfl | exact binds_K (by k_in) rfl (by k_is) rfl rfl rfl); (case c5 => decide); (case kB => exact locs rfl); (case c2 => exact rfl); (case c3 => exact rfl); (case c4 => exact rfl); k_whole; intro g' L' h' FG' F' N' B' X' T'; (try dsimp only); (try k_lift B'); (try k_fold))
  k_steps)
  all_goals (refine' endT hret ?e2 ?e3 ?e5 ?e6 ?e1 ?e4; (case e2 => k_asm); (case e3 => k_asm); (case e5 => k_mem); (case e6 => (repeat constructor)); (case e4 => first | exact fun _ h => h | exact fun _ h => .tail _ h | exact fun _ h => .tail _ (.tail _ h) | exact fun _ h => .tail _ (.tail _ (.tail _ h)) | exact fun _ h => .tail _ (.tail _ (.tail _ (.tail _ h))) | exact fun _ h => .tail _ (.tail _ (.tail _ (.tail _ (.tail _ h)))) | exact fun _ h => .tail _ (.tail _ (.tail _ (.tail _ (.tail _ (.tail _ h))))) | exact fun _ h => .tail _ (.tail _ (.tail _ (.tail _ (.tail _ (.tail _ (.tail _ h)))))) | exact fun _ h => .tail _ (.tail _ (.tail _ (.tail _ (.tail _ (.tail _ (.tail _ (.tail _ h))))))) | kcj_all); (case e1 => rfl))
local macro_rules | `(tactic| walk_at "call ref") => `(tactic| ((with_reducible show wpAny _ _ (call (Value.ref 297) _) _ _ _); k_here; k_dflt (refine' useT3 (c_from_jd_c _ _ _ _ _ _ _) ?k1 ?k2 ?k3 ?k4 ?k5 ?kK ?kp ?kd ?ku ?_; (case k1 => k_asm); (case k2 => k_asm); (case k3 => k_asm); (case k4 => k_asm); (case k5 => k_asm); (case kK => first | exact rfl | assumption); (case kp => exact True.intro); (case kd => ktr_room); (case ku => ktr_units); intro D9 t90 t91 t92 c9 h9 tk9 F9 N9; (try dsimp only); (try k_fold))))
theorem c_to_g_c (w mean mg mb) : ∀ news y ty m tm d td, ConT w mean mg mb 304 5 news (True) [.int y ty, .int m tm, .int d td] [fyg (tjc y m d), fmg (tjc y m d), fdg (tjc y m d)] := by
  intro news y ty m tm d td
  unfold ConT
  dsimp only [Kf, Tp]
  k_fill
  intro dp' un' gd' cn' cs' a' ccd' cl' outer' A' base' h' L' fr' s' Q' E' hB hF hX hN hT hk hpre hd hu hret
  all_goals (
  refine wpAny_call ?_
  k_dflt (refine' code_def ?k1 ?k2 ?k3 ?k4 ?k5 ?kA ?kF ?kK ?k6 ?k7 ?k8 ?k9 ?kB ?_ ?c2 ?c3 ?c4 ?c5; (case kA => exact rfl); (case kF => exact rfl); (case kK => assumption); (case k1 => k_asm); (case k2 => k_asm); (case k3 => k_asm); (case k4 => k_asm); (case k5 => k_asm); (case k6 => k_is); (case k7 => k_is); (case k8 => ktr_room); (case k9 => first | exact BindsTo.of_eq rfl | exact binds_K (by k_in) rfl (by k_is) rfl rfl rfl); (case c5 => decide); (case kB => exact locs rfl); (case c2 => exact rfl); (case c3 => exact rfl); (case c4 => exact rfl); k_whole; intro g' L' h' FG' F' N' B' X' T'; (try dsimp only); (try k_lift B'); (try k_fold))
  k_steps)
  all_goals (refine' endT hret ?e2 ?e3 ?e5 ?e6 ?e1 ?e4; (case e2 => k_asm); (case e3 => k_asm); (case e5 => k_mem); (case e6 => (repeat constructor)); (case e4 => first | exact fun _ h => h | exact fun _ h => .tail _ h | exact fun _ h => .tail _ (.tail _ h) | exact fun _ h => .tail _ (.tail _ (.tail _ h)) | exact fun _ h => .tail _ (.tail _ (.tail _ (.tail _ h))) | exact fun _ h => .tail _ (.tail _ (.tail _ (.tail _ (.tail _ h)))) | exact fun _ h => .tail _ (.tail _ (.tail _ (.tail _ (.tail _ (.tail _ h))))) | exact fun _ h => .tail _ (.tail _ (.tail _ (.tail _ (.tail _ (.tail _ (.tail _ h)))))) | exact fun _ h => .tail _ (.tail _ (.tail _ (.tail _ (.tail _ (.tail _ (.tail _ (.tail _ h))))))) | kcj_all); (case e1 => rfl))
local macro_rules | `(tactic| walk_at "call ref") => `(tactic| ((with_reducible show wpAny _ _ (call (Value.ref 304) _) _ _ _); k_here; k_dflt (refine' useT3 (c_to_g_c _ _ _ _ _ _ _ _ _ _ _) ?k1 ?k2 ?k3 ?k4 ?k5 ?kK ?kp ?kd ?ku ?_; (case k1 => k_asm); (case k2 => k_asm); (case k3 => k_asm); (case k4 => k_asm); (case k5 => k_asm); (case kK => first | exact rfl | assumption); (case kp => exact True.intro); (case kd => ktr_room); (case ku => ktr_units); intro D9 t90 t91 t92 c9 h9 tk9 F9 N9; (try dsimp only); (try k_fold))))
theorem c_from_g_c (w mean mg mb) : ∀ news y ty m tm d td, ConT w mean mg mb 311 4 news (0 < d ∧ d ≤ dimg y m) [.int y ty, .int m tm, .int d td] [yc (tjg y m d), mc (tjg y m d), dc (tjg y m d)] := by
  intro news y ty m tm d td
  unfold ConT
  dsimp only [Kf, Tp]
  k_fill
  intro dp' un' gd' cn' cs' a' ccd' cl' outer' A' base' h' L' fr' s' Q' E' hB hF hX hN hT hk hpre hd hu hret
  all_goals (
  refine wpAny_call ?_
  k_dflt (refine' code_def ?k1 ?k2 ?k3 ?k4 ?k5 ?kA ?kF ?kK ?k6 ?k7 ?k8 ?k9 ?kB ?_ ?c2 ?c3 ?c4 ?c5; (case kA => exact rfl); (case kF => exact rfl); (case kK => assumption); (case k1 => k_asm); (case k2 => k_asm); (case k3 => k_asm); (case k4 => k_asm); (case k5 => k_asm); (case k6 => k_is); (case k7 => k_is); (case k8 => ktr_room); (case k9 => first | exact BindsTo.of_eq rfl | exact binds_K (by k_in) rfl (by k_is) rfl rfl rfl); (case c5 => decide); (case kB => exact locs rfl); (case c2 => exact rfl); (case c3 => exact rfl); (case c4 => exact rfl); k_whole; intro g' L' h' FG' F' N' B' X' T'; (try dsimp only); (try k_lift B'); (try k_fold))
  k_steps)
  all_goals (refine' endT hret ?e2 ?e3 ?e5 ?e6 ?e1 ?e4; (case e2 => k_asm); (case e3 => k_asm); (case e5 => k_mem); (case e6 => (repeat constructor)); (case e4 => first | exact fun _ h => h | exact fun _ h => .tail _ h | exact fun _ h => .tail _ (.tail _ h) | exact fun _ h => .tail _ (.tail _ (.tail _ h)) | exact fun _ h => .tail _ (.tail _ (.tail _ (.tail _ h))) | exact fun _ h => .tail _ (.tail _ (.tail _ (.tail _ (.tail _ h)))) | exact fun _ h => .tail _ (.tail _ (.tail _ (.tail _ (.tail _ (.tail _ h))))) | exact fun _ h => .tail _ (.tail _ (.tail _ (.tail _ (.tail _ (.tail _ (.tail _ h)))))) | exact fun _ h => .tail _ (.tail _ (.tail _ (.tail _ (.tail _ (.tail _ (.tail _ (.tail _ h))))))) | kcj_all); (case e1 => rfl))
local macro_rules | `(tactic| walk_at "call ref") => `(tactic| ((with_reducible show wpAny _ _ (call (Value.ref 311) _) _ _ _); k_here; k_dflt (refine' useT3 (c_from_g_c _ _ _ _ _ _ _ _ _ _ _) ?k1 ?k2 ?k3 ?k4 ?k5 ?kK ?kp ?kd ?ku ?_; (case k1 => k_asm); (case k2 => k_asm); (case k3 => k_asm); (case k4 => k_asm); (case k5 => k_asm); (case kK => first | exact rfl | assumption); (case kp => first | with_reducible assumption | assumption | exact ⟨by decide, Int.le_trans (by decide) (dimg_ge _ _)⟩); (case kd => ktr_room); (case ku => ktr_units); intro D9 t90 t91 t92 c9 h9 tk9 F9 N9; (try dsimp only); (try k_fold))))
theorem c_to_jd_i (w mean mg mb) : ∀ news y ty m tm d td, ConV w mean mg mb 346 1 news (True) [.int y ty, .int m tm, .int d td] (fun t => .int (tji y m d) t) := by
  intro news y ty m tm d td
  unfold ConV
  dsimp only [Kf, Tp]
  k_fill
  intro dp' un' gd' cn' cs' a' ccd' cl' outer' A' base' h' L' fr' s' Q' E' hB hF hX hN hT hk hpre hd hu hret
  all_goals (
  refine wpAny_call ?_
  k_dflt (refine' code_def ?k1 ?k2 ?k3 ?k4 ?k5 ?kA ?kF ?kK ?k6 ?k7 ?k8 ?k9 ?kB ?_ ?c2 ?c3 ?c4 ?c5; (case kA => exact rfl); (case kF => exact rfl); (case kK => assumption); (case k1 => k_asm); (case k2 => k_asm); (case k3 => k_asm); (case k4 => k_asm); (case k5 => k_asm); (case k6 => k_is); (case k7 => k_is); (case k8 => ktr_room); (case k9 => first | exact BindsTo.of_eq rfl | exact binds_K (by k_in) rfl (by k_is) rfl rfl rfl); (case c5 => decide); (case kB => exact locs rfl); (case c2 => exact rfl); (case c3 => exact rfl); (case c4 => exact rfl); k_whole; intro g' L' h' FG' F' N' B' X' T'; (try dsimp only); (try k_lift B'); (try k_fold))
  k_steps)
  all_goals (refine' endI hret ?e1 ?e2 ?e3 ?e4; (case e2 => k_asm); (case e3 => k_asm); (case e4 => first | exact fun _ h => h | exact fun _ h => .tail _ h | exact fun _ h => .tail _ (.tail _ h) | exact fun _ h => .tail _ (.tail _ (.tail _ h)) | exact fun _ h => .tail _ (.tail _ (.tail _ (.tail _ h))) | exact fun _ h => .tail _ (.tail _ (.tail _ (.tail _ (.tail _ h)))) | exact fun _ h => .tail _ (.tail _ (.tail _ (.tail _ (.tail _ (.tail _ h))))) | exact fun _ h => .tail _ (.tail _ (.tail _ (.tail _ (.tail _ (.tail _ (.tail _ h)))))) | exact fun _ h => .tail _ (.tail _ (.tail _ (.tail _ (.tail _ (.tail _ (.tail _ (.tail _ h))))))) | kcj_all); (case e1 => rfl))
local macro_rules | `(tactic| walk_at "call ref") => `(tactic| ((with_reducible show wpAny _ _ (call (Value.ref 346) _) _ _ _); k_here; k_dflt (refine' useV (c_to_jd_i _ _ _ _ _ _ _ _ _ _ _) ?k1 ?k2 ?k3 ?k4 ?k5 ?kK ?kp ?kd ?ku ?_; (case k1 => k_asm); (case k2 => k_asm); (case k3 => k_asm); (case k4 => k_asm); (case k5 => k_asm); (case kK => first | exact rfl | assumption); (case kp => exact True.intro); (case kd => ktr_room); (case ku => ktr_units); intro t9 h9 tk9 F9 N9; (try dsimp only); (try k_fold))))
theorem c_from_jd_i (w mean mg mb) : ∀ news n tn, ConT w mean mg mb 353 2 news (True) [.int n tn] [yi n, mi n, di n] := by
  intro news n tn
  unfold ConT
  dsimp only [Kf, Tp]
  k_fill
  intro dp' un' gd' cn' cs' a' ccd' cl' outer' A' base' h' L' fr' s' Q' E' hB hF hX hN hT hk hpre hd hu hret
  all_goals (
  refine wpAny_call ?_
  k_dflt (refine' code_def ?k1 ?k2 ?k3 ?k4 ?k5 ?kA ?kF ?kK ?k6 ?k7 ?k8 ?k9 ?kB ?_ ?c2 ?c3 ?c4 ?c5; (case kA => exact rfl); (case kF => exact rfl); (case kK => assumption); (case k1 => k_asm); (case k2 => k_asm); (case k3 => k_asm); (case k4 => k_asm); (case k5 => k_asm); (case k6 => k_is); (case k7 => k_is); (case k8 => ktr_room); (case k9 => first | exact BindsTo.of_eq rfl | exact binds_K (by k_in) rfl (by k_is) rfl rfl rfl); (case c5 => decide); (case kB => exact locs rfl); (case c2 => exact rfl); (case c3 => exact rfl); (case c4 => exact rfl); k_whole; intro g' L' h' FG' F' N' B' X' T'; (try dsimp only); (try k_lift B'); (try k_fold))
  k_steps)
  all_goals (refine' endT hret ?e2 ?e3 ?e5 ?e6 ?e1 ?e4; (case e2 => k_asm); (case e3 => k_asm); (case e5 => k_mem); (case e6 => (repeat constructor)); (case e4 => first | exact fun _ h => h | exact fun _ h => .tail _ h | exact fun _ h => .tail _ (.tail _ h) | exact fun _ h => .tail _ (.tail _ (.tail _ h)) | exact fun _ h => .tail _ (.tail _ (.tail _ (.tail _ h))) | exact fun _ h => .tail _ (.tail _ (.tail _ (.tail _ (.tail _ h)))) | exact fun _ h => .tail _ (.tail _ (.tail _ (.tail _ (.tail _ (.tail _ h))))) | exact fun _ h => .tail _ (.tail _ (.tail _ (.tail _ (.tail _ (.tail _ (.tail _ h)))))) | exact fun _ h => .tail _ (.tail _ (.tail _ (.tail _ (.tail _ (.tail _ (.tail _ (.tail _ h))))))) | kcj_all); (case e1 => rfl))
local macro_rules | `(tactic| walk_at "call ref") => `(tactic| ((with_reducible show wpAny _ _ (call (Value.ref 353) _) _ _ _); k_here; k_dflt (refine' useT3 (c_from_jd_i _ _ _ _ _ _ _) ?k1 ?k2 ?k3 ?k4 ?k5 ?kK ?kp ?kd ?ku ?_; (case k1 => k_asm); (case k2 => k_asm); (case k3 => k_asm); (case k4 => k_asm); (case k5 => k_asm); (case kK => first | exact rfl | assumption); (case kp => exact True.intro); (case kd => ktr_room); (case ku => ktr_units); intro D9 t90 t91 t92 c9 h9 tk9 F9 N9; (try dsimp only); (try k_fold))))
theorem c_from_g_i (w mean mg mb) : ∀ news y ty m tm d td, ConT w mean mg mb 360 4 news (0 < d ∧ d ≤ dimg y m) [.int y ty, .int m tm, .int d td] [yi (tjg y m d), mi (tjg y m d), di (tjg y m d)] := by
  intro news y ty m tm d td
  unfold ConT
  dsimp only [Kf, Tp]
  k_fill
  intro dp' un' gd' cn' cs' a' ccd' cl' outer' A' base' h' L' fr' s' Q' E' hB hF hX hN hT hk hpre hd hu hret
  all_goals (
  refine wpAny_call ?_
  k_dflt (refine' code_def ?k1 ?k2 ?k3 ?k4 ?k5 ?kA ?kF ?kK ?k6 ?k7 ?k8 ?k9 ?kB ?_ ?c2 ?c3 ?c4 ?c5; (case kA => exact rfl); (case kF => exact rfl); (case kK => assumption); (case k1 => k_asm); (case k2 => k_asm); (case k3 => k_asm); (case k4 => k_asm); (case k5 => k_asm); (case k6 => k_is); (case k7 => k_is); (case k8 => ktr_room); (case k9 => first | exact BindsTo.of_eq rfl | exact binds_K (by k_in) rfl (by k_is) rfl rfl rfl); (case c5 => decide); (case kB => exact locs rfl); (case c2 => exact rfl); (case c3 => exact rfl); (case c4 => exact rfl); k_whole; intro g' L' h' FG' F' N' B' X' T'; (try dsimp only); (try k_lift B'); (try k_fold))
  k_steps)
  all_goals (refine' endT hret ?e2 ?e3 ?e5 ?e6 ?e1 ?e4; (case e2 => k_asm); (case e3 => k_asm); (case e5 => k_mem); (case e6 => (repeat constructor)); (case e4 => first | exact fun _ h => h | exact fun _ h => .tail _ h | exact fun _ h => .tail _ (.tail _ h) | exact fun _ h => .tail _ (.tail _ (.tail _ h)) | exact fun _ h => .tail _ (.tail _ (.tail _ (.tail _ h))) | exact fun _ h => .tail _ (.tail _ (.tail _ (.tail _ (.tail _ h)))) | exact fun _ h => .tail _ (.tail _ (.tail _ (.tail _ (.tail _ (.tail _ h))))) | exact fun _ h => .tail _ (.tail _ (.tail _ (.tail _ (.tail _ (.tail _ (.tail _ h)))))) | exact fun _ h => .tail _ (.tail _ (.tail _ (.tail _ (.tail _ (.tail _ (.tail _ (.tail _ h))))))) | kcj_all); (case e1 => rfl))
local macro_rules | `(tactic| walk_at "call ref") => `(tactic| ((with_reducible show wpAny _ _ (call (Value.ref 360) _) _ _ _); k_here; k_dflt (refine' useT3 (c_from_g_i _ _ _ _ _ _ _ _ _ _ _) ?k1 ?k2 ?k3 ?k4 ?k5 ?kK ?kp ?kd ?ku ?_; (case k1 => k_asm); (case k2 => k_asm); (case k3 => k_asm); (case k4 => k_asm); (case k5 => k_asm); (case kK => first | exact rfl | assumption); (case kp => first | with_reducible assumption | assumption | exact ⟨by decide, Int.le_trans (by decide) (dimg_ge _ _)⟩); (case kd => ktr_room); (case ku => ktr_units); intro D9 t90 t91 t92 c9 h9 tk9 F9 N9; (try dsimp only); (try k_fold))))
theorem c_to_g_i (w mean mg mb) : ∀ news y ty m tm d td, ConT w mean mg mb 367 5 news (True) [.int y ty, .int m tm, .int d td] [fyg (tji y m d), fmg (tji y m d), fdg (tji y m d)] := by
  intro news y ty m tm d td
  unfold ConT
  dsimp only [Kf, Tp]
  k_fill
  intro dp' un' gd' cn' cs' a' ccd' cl' outer' A' base' h' L' fr' s' Q' E' hB hF hX hN hT hk hpre hd hu hret
  all_goals (
  refine wpAny_call ?_
  k_dflt (refine' code_def ?k1 ?k2 ?k3 ?k4 ?k5 ?kA ?kF ?kK ?k6 ?k7 ?k8 ?k9 ?kB ?_ ?c2 ?c3 ?c4 ?c5; (case kA => exact rfl); (case kF => exact rfl); (case kK => assumption); (case k1 => k_asm); (case k2 => k_asm); (case k3 => k_asm); (case k4 => k_asm); (case k5 => k_asm); (case k6 => k_is); (case k7 => k_is); (case k8 => ktr_room); (case k9 => first | exact BindsTo.of_eq rfl | exact binds_K (by k_in) rfl (by k_is) rfl rfl rfl); (case c5 => decide); (case kB => exact locs rfl); (case c2 => exact rfl); (case c3 => exact rfl); (case c4 => exact rfl); k_whole; intro g' L' h' FG' F' N' B' X' T'; (try dsimp only); (try k_lift B'); (try k_fold))
  k_steps)
  all_goals (refine' endT hret ?e2 ?e3 ?e5 ?e6 ?e1 ?e4; (case e2 => k_asm); (case e3 => k_asm); (case e5 => k_mem); (case e6 => (repeat constructor)); (case e4 => first | exact fun _ h => h | exact fun _ h => .tail _ h | exact fun _ h => .tail _ (.tail _ h) | exact fun _ h => .tail _ (.tail _ (.tail _ h)) | exact fun _ h => .tail _ (.tail _ (.tail _ (.tail _ h))) | exact fun _ h => .tail _ (.tail _ (.tail _ (.tail _ (.tail _ h)))) | exact fun _ h => .tail _ (.tail _ (.tail _ (.tail _ (.tail _ (.tail _ h))))) | exact fun _ h => .tail _ (.tail _ (.tail _ (.tail _ (.tail _ (.tail _ (.tail _ h)))))) | exact fun _ h => .tail _ (.tail _ (.tail _ (.tail _ (.tail _ (.tail _ (.tail _ (.tail _ h))))))) | kcj_all); (case e1 => rfl))
local macro_rules | `(tactic| walk_at "call ref") => `(tactic| ((with_reducible show wpAny _ _ (call (Value.ref 367) _) _ _ _); k_here; k_dflt (refine' useT3 (c_to_g_i _ _ _ _ _ _ _ _ _ _ _) ?k1 ?k2 ?k3 ?k4 ?k5 ?kK ?kp ?kd ?ku ?_; (case k1 => k_asm); (case k2 => k_asm); (case k3 => k_asm); (case k4 => k_asm); (case k5 => k_asm); (case kK => first | exact rfl | assumption); (case kp => exact True.intro); (case kd => ktr_room); (case ku => ktr_units); intro D9 t90 t91 t92 c9 h9 tk9 F9 N9; (try dsimp only); (try k_fold))))
def lp (y : Int) : Int := if leapB y = true then 1 else 0
def ctr (y : Int) : Int := if leapB y = true then 31 else 30
def tjn (y m d : Int) : Int :=
  if m = 1 then tjg (y + 78) 3 (22 - (if leapB (y + 78) = true then 1 else 0)) + (d - 1)
  else if 8 ≤ m then tjg (y + 78) 3 (22 - (if leapB (y + 78) = true then 1 else 0)) + ctr (y + 78) + (if 5 < m - 2 then 5 else m - 2) * 31 + (m - 7) * 30 + (d - 1)
  else tjg (y + 78) 3 (22 - (if leapB (y + 78) = true then 1 else 0)) + ctr (y + 78) + (if 5 < m - 2 then 5 else m - 2) * 31 + (d - 1)
def ydn (n : Int) : Int := n - tjg (fyg n) 1 1
def sdn (n : Int) : Int := if ydn n < 80 then ydn n + (ctr (fyg n) + 31 * 5 + 30 * 3 + 10 + 80) - 80 else ydn n - 80
def yn (n : Int) : Int := if ydn n < 80 then fyg n - 78 - 1 else fyg n - 78
def mn (n : Int) : Int := if sdn n < ctr (fyg n) then 1 else if sdn n - ctr (fyg n) < 31 * 5 then (sdn n - ctr (fyg n)) / 31 + 2 else (sdn n - ctr (fyg n) - 31 * 5) / 30 + 7
def dn (n : Int) : Int := if sdn n < ctr (fyg n) then sdn n + 1 else if sdn n - ctr (fyg n) < 31 * 5 then (sdn n - ctr (fyg n)) % 31 + 1 else (sdn n - ctr (fyg n) - 31 * 5) % 30 + 1
def tjm (b k t u d : Int) : Int := 584283 + b * 144000 + k * 7200 + t * 360 + u * 20 + d

section
set_option hygiene false in
local macro_rules | `(tactic| walk_at "exec If") => `(tactic| ((with_reducible show wpAny _ _ (exec (Stmt.If (Expr.Name _ _) _ _ _) _) _ _ _); (fail_if_success (rename JMark => hM)); k_here; (rename Fr _ _ _ _ => cF'); (rename News _ _ _ _ => cN'); k_dflt (refine' join_int (Str.ofString "caitra") (ctr (y + 78)) cF' cN' (fun hM => ?_) (fun t9 h9 tk9 F9 N9 => ?_)); (all_goals (try k_fold)); (all_goals (try k_sweep))))
local macro_rules | `(tactic| walk_at "JoinV") => `(tactic| (first | (refine' join_end ?jf ?jn ?jm ?js ?je; (case jf => k_asm); (case jn => k_asm); (case jm => first | exact rfl | with_unfolding_all rfl); (case js => first | exact fun _ h => h | exact fun _ h => .tail _ h | exact fun _ h => .tail _ (.tail _ h) | exact fun _ h => .tail _ (.tail _ (.tail _ h)) | exact fun _ h => .tail _ (.tail _ (.tail _ (.tail _ h))) | exact fun _ h => .tail _ (.tail _ (.tail _ (.tail _ (.tail _ h)))) | exact fun _ h => .tail _ (.tail _ (.tail _ (.tail _ (.tail _ (.tail _ h))))) | exact fun _ h => .tail _ (.tail _ (.tail _ (.tail _ (.tail _ (.tail _ (.tail _ h)))))) | exact fun _ h => .tail _ (.tail _ (.tail _ (.tail _ (.tail _ (.tail _ (.tail _ (.tail _ h))))))) | kcj_all); (case je => first | rfl | (((try unfold ctr); first | exact (if_pos (by first | assumption | exact Bool.eq_false_iff.mp (by assumption))).symm | exact ((if_neg (by first | assumption | exact Bool.eq_false_iff.mp (by assumption))).trans (if_pos (by first | assumption | exact Bool.eq_false_iff.mp (by assumption)))).symm | exact ((if_neg (by first | assumption | exact Bool.eq_false_iff.mp (by assumption))).trans (if_neg (by first | assumption | exact Bool.eq_false_iff.mp (by assumption)))).symm | exact (if_neg (by first | assumption | exact Bool.eq_false_iff.mp (by assumption))).symm)))) | (refine' join_same ?jf ?jn ?jm ?js ?je; (case jf => k_asm); (case jn => k_asm); (case jm => first | exact rfl | with_unfolding_all rfl); (case js => first | exact fun _ h => h | exact fun _ h => .tail _ h | exact fun _ h => .tail _ (.tail _ h) | exact fun _ h => .tail _ (.tail _ (.tail _ h)) | exact fun _ h => .tail _ (.tail _ (.tail _ (.tail _ h))) | exact fun _ h => .tail _ (.tail _ (.tail _ (.tail _ (.tail _ h)))) | exact fun _ h => .tail _ (.tail _ (.tail _ (.tail _ (.tail _ (.tail _ h))))) | exact fun _ h => .tail _ (.tail _ (.tail _ (.tail _ (.tail _ (.tail _ (.tail _ h)))))) | exact fun _ h => .tail _ (.tail _ (.tail _ (.tail _ (.tail _ (.tail _ (.tail _ (.tail _ h))))))) | kcj_all); (case je => first | rfl | (((try unfold ctr); first | exact (if_pos (by first | assumption | exact Bool.eq_false_iff.mp (by assumption))).symm | exact ((if_neg (by first | assumption | exact Bool.eq_false_iff.mp (by assumption))).trans (if_pos (by first | assumption | exact Bool.eq_false_iff.mp (by assumption)))).symm | exact ((if_neg (by first | assumption | exact Bool.eq_false_iff.mp (by assumption))).trans (if_neg (by first | assumption | exact Bool.eq_false_iff.mp (by assumption)))).symm | exact (if_neg (by first | assumption | exact Bool.eq_false_iff.mp (by assumption))).symm))))))
theorem c_to_jd_n (w mean mg mb) : ∀ news y ty m tm d td, ConV w mean mg mb 318 4 news (True) [.int y ty, .int m tm, .int d td] (fun t => .int (tjn y m d) t) := by
  intro news y ty m tm d td
  unfold ConV
  dsimp only [Kf, Tp]
  k_fill
  intro dp' un' gd' cn' cs' a' ccd' cl' outer' A' base' h' L' fr' s' Q' E' hB hF hX hN hT hk hpre hd hu hret
  all_goals (
  refine wpAny_call ?_
  k_dflt (refine' code_def ?k1 ?k2 ?k3 ?k4 ?k5 ?kA ?kF ?kK ?k6 ?k7 ?k8 ?k9 ?kB ?_ ?c2 ?c3 ?c4 ?c5; (case kA => exact rfl); (case kF => exact rfl); (case kK => assumption); (case k1 => k_asm); (case k2 => k_asm); (case k3 => k_asm); (case k4 => k_asm); (case k5 => k_asm); (case k6 => k_is); (case k7 => k_is); (case k8 => ktr_room); (case k9 => first | exact BindsTo.of_eq rfl | exact binds_K (by k_in) rfl (by k_is) rfl rfl rfl); (case c5 => decide); (case kB => exact locs rfl); (case c2 => exact rfl); (case c3 => exact rfl); (case c4 => exact rfl); k_whole; intro g' L' h' FG' F' N' B' X' T'; (try dsimp only); (try k_lift B'); (try k_fold))
  k_steps)
  all_goals (refine' endI hret ?e1 ?e2 ?e3 ?e4; (case e2 => k_asm); (case e3 => k_asm); (case e4 => first | exact fun _ h => h | exact fun _ h => .tail _ h | exact fun _ h => .tail _ (.tail _ h) | exact fun _ h => .tail _ (.tail _ (.tail _ h)) | exact fun _ h => .tail _ (.tail _ (.tail _ (.tail _ h))) | exact fun _ h => .tail _ (.tail _ (.tail _ (.tail _ (.tail _ h)))) | exact fun _ h => .tail _ (.tail _ (.tail _ (.tail _ (.tail _ (.tail _ h))))) | exact fun _ h => .tail _ (.tail _ (.tail _ (.tail _ (.tail _ (.tail _ (.tail _ h)))))) | exact fun _ h => .tail _ (.tail _ (.tail _ (.tail _ (.tail _ (.tail _ (.tail _ (.tail _ h))))))) | kcj_all); (case e1 => first | rfl | ((try unfold tjn); first | exact (if_pos (by first | assumption | exact Bool.eq_false_iff.mp (by assumption))).symm | exact ((if_neg (by first | assumption | exact Bool.eq_false_iff.mp (by assumption))).trans (if_pos (by first | assumption | exact Bool.eq_false_iff.mp (by assumption)))).symm | exact ((if_neg (by first | assumption | exact Bool.eq_false_iff.mp (by assumption))).trans (if_neg (by first | assumption | exact Bool.eq_false_iff.mp (by assumption)))).symm | exact (if_neg (by first | assumption | exact Bool.eq_false_iff.mp (by assumption))).symm)))
end
local macro_rules | `(tactic| walk_at "call ref") => `(tactic| ((with_reducible show wpAny _ _ (call (Value.ref 318) _) _ _ _); k_here; k_dflt (refine' useV (c_to_jd_n _ _ _ _ _ _ _ _ _ _ _) ?k1 ?k2 ?k3 ?k4 ?k5 ?kK ?kp ?kd ?ku ?_; (case k1 => k_asm); (case k2 => k_asm); (case k3 => k_asm); (case k4 => k_asm); (case k5 => k_asm); (case kK => first | exact rfl | assumption); (case kp => exact True.intro); (case kd => ktr_room); (case ku => ktr_units); intro t9 h9 tk9 F9 N9; (try dsimp only); (try k_fold))))
section
set_option hygiene false in
local macro_rules | `(tactic| walk_at "exec If") => `(tactic| ((with_reducible show wpAny _ _ (exec (Stmt.If (Expr.Name _ _) _ _ _) _) _ _ _); (fail_if_success (rename JMark => hM)); k_here; (rename Fr _ _ _ _ => cF'); (rename News _ _ _ _ => cN'); k_dflt (refine' join_int (Str.ofString "caitra") (ctr (fyg n)) cF' cN' (fun hM => ?_) (fun t9 h9 tk9 F9 N9 => ?_)); (all_goals (try k_fold)); (all_goals (try k_sweep))))
local macro_rules | `(tactic| walk_at "JoinV") => `(tactic| (first | (refine' join_end ?jf ?jn ?jm ?js ?je; (case jf => k_asm); (case jn => k_asm); (case jm => first | exact rfl | with_unfolding_all rfl); (case js => first | exact fun _ h => h | exact fun _ h => .tail _ h | exact fun _ h => .tail _ (.tail _ h) | exact fun _ h => .tail _ (.tail _ (.tail _ h)) | exact fun _ h => .tail _ (.tail _ (.tail _ (.tail _ h))) | exact fun _ h => .tail _ (.tail _ (.tail _ (.tail _ (.tail _ h)))) | exact fun _ h => .tail _ (.tail _ (.tail _ (.tail _ (.tail _ (.tail _ h))))) | exact fun _ h => .tail _ (.tail _ (.tail _ (.tail _ (.tail _ (.tail _ (.tail _ h)))))) | exact fun _ h => .tail _ (.tail _ (.tail _ (.tail _ (.tail _ (.tail _ (.tail _ (.tail _ h))))))) | kcj_all); (case je => first | rfl | (((try unfold ctr); first | exact (if_pos (by first | assumption | exact Bool.eq_false_iff.mp (by assumption))).symm | exact ((if_neg (by first | assumption | exact Bool.eq_false_iff.mp (by assumption))).trans (if_pos (by first | assumption | exact Bool.eq_false_iff.mp (by assumption)))).symm | exact ((if_neg (by first | assumption | exact Bool.eq_false_iff.mp (by assumption))).trans (if_neg (by first | assumption | exact Bool.eq_false_iff.mp (by assumption)))).symm | exact (if_neg (by first | assumption | exact Bool.eq_false_iff.mp (by assumption))).symm)))) | (refine' join_same ?jf ?jn ?jm ?js ?je; (case jf => k_asm); (case jn => k_asm); (case jm => first | exact rfl | with_unfolding_all rfl); (case js => first | exact fun _ h => h | exact fun _ h => .tail _ h | exact fun _ h => .tail _ (.tail _ h) | exact fun _ h => .tail _ (.tail _ (.tail _ h)) | exact fun _ h => .tail _ (.tail _ (.tail _ (.tail _ h))) | exact fun _ h => .tail _ (.tail _ (.tail _ (.tail _ (.tail _ h)))) | exact fun _ h => .tail _ (.tail _ (.tail _ (.tail _ (.tail _ (.tail _ h))))) | exact fun _ h => .tail _ (.tail _ (.tail _ (.tail _ (.tail _ (.tail _ (.tail _ h)))))) | exact fun _ h => .tail _ (.tail _ (.tail _ (.tail _ (.tail _ (.tail _ (.tail _ (.tail _ h))))))) | kcj_all); (case je => first | rfl | (((try unfold ctr); first | exact (if_pos (by first | assumption | exact Bool.eq_false_iff.mp (by assumption))).symm | exact ((if_neg (by first | assumption | exact Bool.eq_false_iff.mp (by assumption))).trans (if_pos (by first | assumption | exact Bool.eq_false_iff.mp (by assumption)))).symm | exact ((if_neg (by first | assumption | exact Bool.eq_false_iff.mp (by assumption))).trans (if_neg (by first | assumption | exact Bool.eq_false_iff.mp (by assumption)))).symm | exact (if_neg (by first | assumption | exact Bool.eq_false_iff.mp (by assumption))).symm))))))
theorem c_from_jd_n (w mean mg mb) : ∀ news n tn, ConT w mean mg mb 325 5 news (True) [.int n tn] [yn n, mn n, dn n] := by
  intro news n tn
  unfold ConT
  dsimp only [Kf, Tp]
  k_fill
  intro dp' un' gd' cn' cs' a' ccd' cl' outer' A' base' h' L' fr' s' Q' E' hB hF hX hN hT hk hpre hd hu hret
  all_goals (
  refine wpAny_call ?_
  k_dflt (refine' code_def ?k1 ?k2 ?k3 ?k4 ?k5 ?kA ?kF ?kK ?k6 ?k7 ?k8 ?k9 ?kB ?_ ?c2 ?c3 ?c4 ?c5; (case kA => exact rfl); (case kF => exact rfl); (case kK => assumption); (case k1 => k_asm); (case k2 => k_asm); (case k3 => k_asm); (case k4 => k_asm); (case k5 => k_asm); (case k6 => k_is); (case k7 => k_is); (case k8 => ktr_room); (case k9 => first | exact BindsTo.of_eq rfl | exact binds_K (by k_in) rfl (by k_is) rfl rfl rfl); (case c5 => decide); (case kB => exact locs rfl); (case c2 => exact rfl); (case c3 => exact rfl); (case c4 => exact rfl); k_whole; intro g' L' h' FG' F' N' B' X' T'; (try dsimp only); (try k_lift B'); (try k_fold))
  k_steps)
  all_goals (refine' endT hret ?e2 ?e3 ?e5 ?e6 ?e1 ?e4; (case e2 => k_asm); (case e3 => k_asm); (case e5 => k_mem); (case e6 => (repeat constructor)); (case e4 => first | exact fun _ h => h | exact fun _ h => .tail _ h | exact fun _ h => .tail _ (.tail _ h) | exact fun _ h => .tail _ (.tail _ (.tail _ h)) | exact fun _ h => .tail _ (.tail _ (.tail _ (.tail _ h))) | exact fun _ h => .tail _ (.tail _ (.tail _ (.tail _ (.tail _ h)))) | exact fun _ h => .tail _ (.tail _ (.tail _ (.tail _ (.tail _ (.tail _ h))))) | exact fun _ h => .tail _ (.tail _ (.tail _ (.tail _ (.tail _ (.tail _ (.tail _ h)))))) | exact fun _ h => .tail _ (.tail _ (.tail _ (.tail _ (.tail _ (.tail _ (.tail _ (.tail _ h))))))) | kcj_all); (case e1 => simp only [yn, mn, dn, sdn, ydn, *, if_true, if_false, if_pos, if_neg, not_false_eq_true]))
end
local macro_rules | `(tactic| walk_at "call ref") => `(tactic| ((with_reducible show wpAny _ _ (call (Value.ref 325) _) _ _ _); k_here; k_dflt (refine' useT3 (c_from_jd_n _ _ _ _ _ _ _) ?k1 ?k2 ?k3 ?k4 ?k5 ?kK ?kp ?kd ?ku ?_; (case k1 => k_asm); (case k2 => k_asm); (case k3 => k_asm); (case k4 => k_asm); (case k5 => k_asm); (case kK => first | exact rfl | assumption); (case kp => exact True.intro); (case kd => ktr_room); (case ku => ktr_units); intro D9 t90 t91 t92 c9 h9 tk9 F9 N9; (try dsimp only); (try k_fold))))
theorem c_from_g_n (w mean mg mb) : ∀ news y ty m tm d td, ConT w mean mg mb 332 6 news (0 < d ∧ d ≤ dimg y m) [.int y ty, .int m tm, .int d td] [yn (tjg y m d), mn (tjg y m d), dn (tjg y m d)] := by
  intro news y ty m tm d td
  unfold ConT
  dsimp only [Kf, Tp]
  k_fill
  intro dp' un' gd' cn' cs' a' ccd' cl' outer' A' base' h' L' fr' s' Q' E' hB hF hX hN hT hk hpre hd hu hret
  all_goals (
  refine wpAny_call ?_
  k_dflt (refine' code_def ?k1 ?k2 ?k3 ?k4 ?k5 ?kA ?kF ?kK ?k6 ?k7 ?k8 ?k9 ?kB ?_ ?c2 ?c3 ?c4 ?c5; (case kA => exact rfl); (case kF => exact rfl); (case kK => assumption); (case k1 => k_asm); (case k2 => k_asm); (case k3 => k_asm); (case k4 => k_asm); (case k5 => k_asm); (case k6 => k_is); (case k7 => k_is); (case k8 => ktr_room); (case k9 => first | exact BindsTo.of_eq rfl | exact binds_K (by k_in) rfl (by k_is) rfl rfl rfl); (case c5 => decide); (case kB => exact locs rfl); (case c2 => exact rfl); (case c3 => exact rfl); (case c4 => exact rfl); k_whole; intro g' L' h' FG' F' N' B' X' T'; (try dsimp only); (try k_lift B'); (try k_fold))
  k_steps)
  all_goals (refine' endT hret ?e2 ?e3 ?e5 ?e6 ?e1 ?e4; (case e2 => k_asm); (case e3 => k_asm); (case e5 => k_mem); (case e6 => (repeat constructor)); (case e4 => first | exact fun _ h => h | exact fun _ h => .tail _ h | exact fun _ h => .tail _ (.tail _ h) | exact fun _ h => .tail _ (.tail _ (.tail _ h)) | exact fun _ h => .tail _ (.tail _ (.tail _ (.tail _ h))) | exact fun _ h => .tail _ (.tail _ (.tail _ (.tail _ (.tail _ h)))) | exact fun _ h => .tail _ (.tail _ (.tail _ (.tail _ (.tail _ (.tail _ h))))) | exact fun _ h => .tail _ (.tail _ (.tail _ (.tail _ (.tail _ (.tail _ (.tail _ h)))))) | exact fun _ h => .tail _ (.tail _ (.tail _ (.tail _ (.tail _ (.tail _ (.tail _ (.tail _ h))))))) | kcj_all); (case e1 => rfl))
local macro_rules | `(tactic| walk_at "call ref") => `(tactic| ((with_reducible show wpAny _ _ (call (Value.ref 332) _) _ _ _); k_here; k_dflt (refine' useT3 (c_from_g_n _ _ _ _ _ _ _ _ _ _ _) ?k1 ?k2 ?k3 ?k4 ?k5 ?kK ?kp ?kd ?ku ?_; (case k1 => k_asm); (case k2 => k_asm); (case k3 => k_asm); (case k4 => k_asm); (case k5 => k_asm); (case kK => first | exact rfl | assumption); (case kp => first | with_reducible assumption | assumption | exact ⟨by decide, Int.le_trans (by decide) (dimg_ge _ _)⟩); (case kd => ktr_room); (case ku => ktr_units); intro D9 t90 t91 t92 c9 h9 tk9 F9 N9; (try dsimp only); (try k_fold))))
theorem c_to_g_n (w mean mg mb) : ∀ news y ty m tm d td, ConT w mean mg mb 339 5 news (True) [.int y ty, .int m tm, .int d td] [fyg (tjn y m d), fmg (tjn y m d), fdg (tjn y m d)] := by
  intro news y ty m tm d td
  unfold ConT
  dsimp only [Kf, Tp]
  k_fill
  intro dp' un' gd' cn' cs' a' ccd' cl' outer' A' base' h' L' fr' s' Q' E' hB hF hX hN hT hk hpre hd hu hret
  all_goals (
  refine wpAny_call ?_
  k_dflt (refine' code_def ?k1 ?k2 ?k3 ?k4 ?k5 ?kA ?kF ?kK ?k6 ?k7 ?k8 ?k9 ?kB ?_ ?c2 ?c3 ?c4 ?c5; (case kA => exact rfl); (case kF => exact rfl); (case kK => assumption); (case k1 => k_asm); (case k2 => k_asm); (case k3 => k_asm); (case k4 => k_asm); (case k5 => k_asm); (case k6 => k_is); (case k7 => k_is); (case k8 => ktr_room); (case k9 => first | exact BindsTo.of_eq rfl | exact binds_K (by k_in) rfl (by k_is) rfl rfl rfl); (case c5 => decide); (case kB => exact locs rfl); (case c2 => exact rfl); (case c3 => exact rfl); (case c4 => exact rfl); k_whole; intro g' L' h' FG' F' N' B' X' T'; (try dsimp only); (try k_lift B'); (try k_fold))
  k_steps)
  all_goals (refine' endT hret ?e2 ?e3 ?e5 ?e6 ?e1 ?e4; (case e2 => k_asm); (case e3 => k_asm); (case e5 => k_mem); (case e6 => (repeat constructor)); (case e4 => first | exact fun _ h => h | exact fun _ h => .tail _ h | exact fun _ h => .tail _ (.tail _ h) | exact fun _ h => .tail _ (.tail _ (.tail _ h)) | exact fun _ h => .tail _ (.tail _ (.tail _ (.tail _ h))) | exact fun _ h => .tail _ (.tail _ (.tail _ (.tail _ (.tail _ h)))) | exact fun _ h => .tail _ (.tail _ (.tail _ (.tail _ (.tail _ (.tail _ h))))) | exact fun _ h => .tail _ (.tail _ (.tail _ (.tail _ (.tail _ (.tail _ (.tail _ h)))))) | exact fun _ h => .tail _ (.tail _ (.tail _ (.tail _ (.tail _ (.tail _ (.tail _ (.tail _ h))))))) | kcj_all); (case e1 => rfl))
local macro_rules | `(tactic| walk_at "call ref") => `(tactic| ((with_reducible show wpAny _ _ (call (Value.ref 339) _) _ _ _); k_here; k_dflt (refine' useT3 (c_to_g_n _ _ _ _ _ _ _ _ _ _ _) ?k1 ?k2 ?k3 ?k4 ?k5 ?kK ?kp ?kd ?ku ?_; (case k1 => k_asm); (case k2 => k_asm); (case k3 => k_asm); (case k4 => k_asm); (case k5 => k_asm); (case kK => first | exact rfl | assumption); (case kp => exact True.intro); (case kd => ktr_room); (case ku => ktr_units); intro D9 t90 t91 t92 c9 h9 tk9 F9 N9; (try dsimp only); (try k_fold))))
theorem c_to_g_0 (w mean mg mb) : ∀ news n tn, ConT w mean mg mb 409 5 news (True) [.int n tn] [fyg n, fmg n, fdg n] := by
  intro news n tn
  unfold ConT
  dsimp only [Kf, Tp]
  k_fill
  intro dp' un' gd' cn' cs' a' ccd' cl' outer' A' base' h' L' fr' s' Q' E' hB hF hX hN hT hk hpre hd hu hret
  all_goals (
  refine wpAny_call ?_
  k_dflt (refine' code_def ?k1 ?k2 ?k3 ?k4 ?k5 ?kA ?kF ?kK ?k6 ?k7 ?k8 ?k9 ?kB ?_ ?c2 ?c3 ?c4 ?c5; (case kA => exact rfl); (case kF => exact rfl); (case kK => assumption); (case k1 => k_asm); (case k2 => k_asm); (case k3 => k_asm); (case k4 => k_asm); (case k5 => k_asm); (case k6 => k_is); (case k7 => k_is); (case k8 => ktr_room); (case k9 => first | exact BindsTo.of_eq rfl | exact binds_K (by k_in) rfl (by k_is) rfl rfl rfl); (case c5 => decide); (case kB => exact locs rfl); (case c2 => exact rfl); (case c3 => exact rfl); (case c4 => exact rfl); k_whole; intro g' L' h' FG' F' N' B' X' T'; (try dsimp only); (try k_lift B'); (try k_fold))
  k_steps)
  all_goals (refine' endT hret ?e2 ?e3 ?e5 ?e6 ?e1 ?e4; (case e2 => k_asm); (case e3 => k_asm); (case e5 => k_mem); (case e6 => (repeat constructor)); (case e4 => first | exact fun _ h => h | exact fun _ h => .tail _ h | exact fun _ h => .tail _ (.tail _ h) | exact fun _ h => .tail _ (.tail _ (.tail _ h)) | exact fun _ h => .tail _ (.tail _ (.tail _ (.tail _ h))) | exact fun _ h => .tail _ (.tail _ (.tail _ (.tail _ (.tail _ h)))) | exact fun _ h => .tail _ (.tail _ (.tail _ (.tail _ (.tail _ (.tail _ h))))) | exact fun _ h => .tail _ (.tail _ (.tail _ (.tail _ (.tail _ (.tail _ (.tail _ h)))))) | exact fun _ h => .tail _ (.tail _ (.tail _ (.tail _ (.tail _ (.tail _ (.tail _ (.tail _ h))))))) | kcj_all); (case e1 => rfl))
local macro_rules | `(tactic| walk_at "call ref") => `(tactic| ((with_reducible show wpAny _ _ (call (Value.ref 409) _) _ _ _); k_here; k_dflt (refine' useT3 (c_to_g_0 _ _ _ _ _ _ _) ?k1 ?k2 ?k3 ?k4 ?k5 ?kK ?kp ?kd ?ku ?_; (case k1 => k_asm); (case k2 => k_asm); (case k3 => k_asm); (case k4 => k_asm); (case k5 => k_asm); (case kK => first | exact rfl | assumption); (case kp => exact True.intro); (case kd => ktr_room); (case ku => ktr_units); intro D9 t90 t91 t92 c9 h9 tk9 F9 N9; (try dsimp only); (try k_fold))))
theorem c_from_g_0 (w mean mg mb) : ∀ news y ty m tm d td, ConV w mean mg mb 416 4 news (0 < d ∧ d ≤ dimg y m) [.int y ty, .int m tm, .int d td] (fun t => .int (tjg y m d) t) := by
  intro news y ty m tm d td
  unfold ConV
  dsimp only [Kf, Tp]
  k_fill
  intro dp' un' gd' cn' cs' a' ccd' cl' outer' A' base' h' L' fr' s' Q' E' hB hF hX hN hT hk hpre hd hu hret
  all_goals (
  refine wpAny_call ?_
  k_dflt (refine' code_def ?k1 ?k2 ?k3 ?k4 ?k5 ?kA ?kF ?kK ?k6 ?k7 ?k8 ?k9 ?kB ?_ ?c2 ?c3 ?c4 ?c5; (case kA => exact rfl); (case kF => exact rfl); (case kK => assumption); (case k1 => k_asm); (case k2 => k_asm); (case k3 => k_asm); (case k4 => k_asm); (case k5 => k_asm); (case k6 => k_is); (case k7 => k_is); (case k8 => ktr_room); (case k9 => first | exact BindsTo.of_eq rfl | exact binds_K (by k_in) rfl (by k_is) rfl rfl rfl); (case c5 => decide); (case kB => exact locs rfl); (case c2 => exact rfl); (case c3 => exact rfl); (case c4 => exact rfl); k_whole; intro g' L' h' FG' F' N' B' X' T'; (try dsimp only); (try k_lift B'); (try k_fold))
  k_steps)
  all_goals (refine' endI hret ?e1 ?e2 ?e3 ?e4; (case e2 => k_asm); (case e3 => k_asm); (case e4 => first | exact fun _ h => h | exact fun _ h => .tail _ h | exact fun _ h => .tail _ (.tail _ h) | exact fun _ h => .tail _ (.tail _ (.tail _ h)) | exact fun _ h => .tail _ (.tail _ (.tail _ (.tail _ h))) | exact fun _ h => .tail _ (.tail _ (.tail _ (.tail _ (.tail _ h)))) | exact fun _ h => .tail _ (.tail _ (.tail _ (.tail _ (.tail _ (.tail _ h))))) | exact fun _ h => .tail _ (.tail _ (.tail _ (.tail _ (.tail _ (.tail _ (.tail _ h)))))) | exact fun _ h => .tail _ (.tail _ (.tail _ (.tail _ (.tail _ (.tail _ (.tail _ (.tail _ h))))))) | kcj_all); (case e1 => rfl))
local macro_rules | `(tactic| walk_at "call ref") => `(tactic| ((with_reducible show wpAny _ _ (call (Value.ref 416) _) _ _ _); k_here; k_dflt (refine' useV (c_from_g_0 _ _ _ _ _ _ _ _ _ _ _) ?k1 ?k2 ?k3 ?k4 ?k5 ?kK ?kp ?kd ?ku ?_; (case k1 => k_asm); (case k2 => k_asm); (case k3 => k_asm); (case k4 => k_asm); (case k5 => k_asm); (case kK => first | exact rfl | assumption); (case kp => first | with_reducible assumption | assumption | exact ⟨by decide, Int.le_trans (by decide) (dimg_ge _ _)⟩); (case kd => ktr_room); (case ku => ktr_units); intro t9 h9 tk9 F9 N9; (try dsimp only); (try k_fold))))
theorem c_to_j_0 (w mean mg mb) : ∀ news n tn, ConT w mean mg mb 423 3 news (True) [.int n tn] [yj n, mj n, ddj n] := by
  intro news n tn
  unfold ConT
  dsimp only [Kf, Tp]
  k_fill
  intro dp' un' gd' cn' cs' a' ccd' cl' outer' A' base' h' L' fr' s' Q' E' hB hF hX hN hT hk hpre hd hu hret
  all_goals (
  refine wpAny_call ?_
  k_dflt (refine' code_def ?k1 ?k2 ?k3 ?k4 ?k5 ?kA ?kF ?kK ?k6 ?k7 ?k8 ?k9 ?kB ?_ ?c2 ?c3 ?c4 ?c5; (case kA => exact rfl); (case kF => exact rfl); (case kK => assumption); (case k1 => k_asm); (case k2 => k_asm); (case k3 => k_asm); (case k4 => k_asm); (case k5 => k_asm); (case k6 => k_is); (case k7 => k_is); (case k8 => ktr_room); (case k9 => first | exact BindsTo.of_eq rfl | exact binds_K (by k_in) rfl (by k_is) rfl rfl rfl); (case c5 => decide); (case kB => exact locs rfl); (case c2 => exact rfl); (case c3 => exact rfl); (case c4 => exact rfl); k_whole; intro g' L' h' FG' F' N' B' X' T'; (try dsimp only); (try k_lift B'); (try k_fold))
  k_steps)
  all_goals (refine' endT hret ?e2 ?e3 ?e5 ?e6 ?e1 ?e4; (case e2 => k_asm); (case e3 => k_asm); (case e5 => k_mem); (case e6 => (repeat constructor)); (case e4 => first | exact fun _ h => h | exact fun _ h => .tail _ h | exact fun _ h => .tail _ (.tail _ h) | exact fun _ h => .tail _ (.tail _ (.tail _ h)) | exact fun _ h => .tail _ (.tail _ (.tail _ (.tail _ h))) | exact fun _ h => .tail _ (.tail _ (.tail _ (.tail _ (.tail _ h)))) | exact fun _ h => .tail _ (.tail _ (.tail _ (.tail _ (.tail _ (.tail _ h))))) | exact fun _ h => .tail _ (.tail _ (.tail _ (.tail _ (.tail _ (.tail _ (.tail _ h)))))) | exact fun _ h => .tail _ (.tail _ (.tail _ (.tail _ (.tail _ (.tail _ (.tail _ (.tail _ h))))))) | kcj_all); (case e1 => rfl))
local macro_rules | `(tactic| walk_at "call ref") => `(tactic| ((with_reducible show wpAny _ _ (call (Value.ref 423) _) _ _ _); k_here; k_dflt (refine' useT3 (c_to_j_0 _ _ _ _ _ _ _) ?k1 ?k2 ?k3 ?k4 ?k5 ?kK ?kp ?kd ?ku ?_; (case k1 => k_asm); (case k2 => k_asm); (case k3 => k_asm); (case k4 => k_asm); (case k5 => k_asm); (case kK => first | exact rfl | assumption); (case kp => exact True.intro); (case kd => ktr_room); (case ku => ktr_units); intro D9 t90 t91 t92 c9 h9 tk9 F9 N9; (try dsimp only); (try k_fold))))
theorem c_from_j_0 (w mean mg mb) : ∀ news y ty m tm d td, ConV w mean mg mb 430 5 news (0 < d ∧ d ≤ dimj y m) [.int y ty, .int m tm, .int d td] (fun t => .int (tjj y m d) t) := by
  intro news y ty m tm d td
  unfold ConV
  dsimp only [Kf, Tp]
  k_fill
  intro dp' un' gd' cn' cs' a' ccd' cl' outer' A' base' h' L' fr' s' Q' E' hB hF hX hN hT hk hpre hd hu hret
  all_goals (
  refine wpAny_call ?_
  k_dflt (refine' code_def ?k1 ?k2 ?k3 ?k4 ?k5 ?kA ?kF ?kK ?k6 ?k7 ?k8 ?k9 ?kB ?_ ?c2 ?c3 ?c4 ?c5; (case kA => exact rfl); (case kF => exact rfl); (case kK => assumption); (case k1 => k_asm); (case k2 => k_asm); (case k3 => k_asm); (case k4 => k_asm); (case k5 => k_asm); (case k6 => k_is); (case k7 => k_is); (case k8 => ktr_room); (case k9 => first | exact BindsTo.of_eq rfl | exact binds_K (by k_in) rfl (by k_is) rfl rfl rfl); (case c5 => decide); (case kB => exact locs rfl); (case c2 => exact rfl); (case c3 => exact rfl); (case c4 => exact rfl); k_whole; intro g' L' h' FG' F' N' B' X' T'; (try dsimp only); (try k_lift B'); (try k_fold))
  k_steps)
  all_goals (refine' endI hret ?e1 ?e2 ?e3 ?e4; (case e2 => k_asm); (case e3 => k_asm); (case e4 => first | exact fun _ h => h | exact fun _ h => .tail _ h | exact fun _ h => .tail _ (.tail _ h) | exact fun _ h => .tail _ (.tail _ (.tail _ h)) | exact fun _ h => .tail _ (.tail _ (.tail _ (.tail _ h))) | exact fun _ h => .tail _ (.tail _ (.tail _ (.tail _ (.tail _ h)))) | exact fun _ h => .tail _ (.tail _ (.tail _ (.tail _ (.tail _ (.tail _ h))))) | exact fun _ h => .tail _ (.tail _ (.tail _ (.tail _ (.tail _ (.tail _ (.tail _ h)))))) | exact fun _ h => .tail _ (.tail _ (.tail _ (.tail _ (.tail _ (.tail _ (.tail _ (.tail _ h))))))) | kcj_all); (case e1 => rfl))
local macro_rules | `(tactic| walk_at "call ref") => `(tactic| ((with_reducible show wpAny _ _ (call (Value.ref 430) _) _ _ _); k_here; k_dflt (refine' useV (c_from_j_0 _ _ _ _ _ _ _ _ _ _ _) ?k1 ?k2 ?k3 ?k4 ?k5 ?kK ?kp ?kd ?ku ?_; (case k1 => k_asm); (case k2 => k_asm); (case k3 => k_asm); (case k4 => k_asm); (case k5 => k_asm); (case kK => first | exact rfl | assumption); (case kp => first | with_reducible assumption | assumption | exact ⟨by decide, Int.le_trans (by decide) (dimj_ge _ _)⟩); (case kd => ktr_room); (case ku => ktr_units); intro t9 h9 tk9 F9 N9; (try dsimp only); (try k_fold))))
theorem c_to_jd_m (w mean mg mb) : ∀ news b1 tb1 b2 tb2 b3 tb3 b4 tb4 b5 tb5, ConV w mean mg mb 437 1 news (True) [.int b1 tb1, .int b2 tb2, .int b3 tb3, .int b4 tb4, .int b5 tb5] (fun t => .int (tjm b1 b2 b3 b4 b5) t) := by
  intro news b1 tb1 b2 tb2 b3 tb3 b4 tb4 b5 tb5
  unfold ConV
  dsimp only [Kf, Tp]
  k_fill
  intro dp' un' gd' cn' cs' a' ccd' cl' outer' A' base' h' L' fr' s' Q' E' hB hF hX hN hT hk hpre hd hu hret
  all_goals (
  refine wpAny_call ?_
  k_dflt (refine' code_def ?k1 ?k2 ?k3 ?k4 ?k5 ?kA ?kF ?kK ?k6 ?k7 ?k8 ?k9 ?kB ?_ ?c2 ?c3 ?c4 ?c5; (case kA => exact rfl); (case kF => exact rfl); (case kK => assumption); (case k1 => k_asm); (case k2 => k_asm); (case k3 => k_asm); (case k4 => k_asm); (case k5 => k_asm); (case k6 => k_is); (case k7 => k_is); (case k8 => ktr_room); (case k9 => first | exact BindsTo.of_eq rfl | exact binds_K (by k_in) rfl (by k_is) rfl rfl rfl); (case c5 => decide); (case kB => exact locs rfl); (case c2 => exact rfl); (case c3 => exact rfl); (case c4 => exact rfl); k_whole; intro g' L' h' FG' F' N' B' X' T'; (try dsimp only); (try k_lift B'); (try k_fold))
  k_steps)
  all_goals (refine' endI hret ?e1 ?e2 ?e3 ?e4; (case e2 => k_asm); (case e3 => k_asm); (case e4 => first | exact fun _ h => h | exact fun _ h => .tail _ h | exact fun _ h => .tail _ (.tail _ h) | exact fun _ h => .tail _ (.tail _ (.tail _ h)) | exact fun _ h => .tail _ (.tail _ (.tail _ (.tail _ h))) | exact fun _ h => .tail _ (.tail _ (.tail _ (.tail _ (.tail _ h)))) | exact fun _ h => .tail _ (.tail _ (.tail _ (.tail _ (.tail _ (.tail _ h))))) | exact fun _ h => .tail _ (.tail _ (.tail _ (.tail _ (.tail _ (.tail _ (.tail _ h)))))) | exact fun _ h => .tail _ (.tail _ (.tail _ (.tail _ (.tail _ (.tail _ (.tail _ (.tail _ h))))))) | kcj_all); (case e1 => rfl))
local macro_rules | `(tactic| walk_at "call ref") => `(tactic| ((with_reducible show wpAny _ _ (call (Value.ref 437) _) _ _ _); k_here; k_dflt (refine' useV (c_to_jd_m _ _ _ _ _ _ _ _ _ _ _ _ _ _ _) ?k1 ?k2 ?k3 ?k4 ?k5 ?kK ?kp ?kd ?ku ?_; (case k1 => k_asm); (case k2 => k_asm); (case k3 => k_asm); (case k4 => k_asm); (case k5 => k_asm); (case kK => first | exact rfl | assumption); (case kp => exact True.intro); (case kd => ktr_room); (case ku => ktr_units); intro t9 h9 tk9 F9 N9; (try dsimp only); (try k_fold))))
theorem c_from_jd_m (w mean mg mb) : ∀ news n tn, ConT w mean mg mb 444 1 news (584283 ≤ n) [.int n tn] [(n - 584283) / 144000, (n - 584283) % 144000 / 7200, (n - 584283) % 144000 % 7200 / 360, (n - 584283) % 144000 % 7200 % 360 / 20, (n - 584283) % 144000 % 7200 % 360 % 20] := by
  intro news n tn
  unfold ConT
  dsimp only [Kf, Tp]
  k_fill
  intro dp' un' gd' cn' cs' a' ccd' cl' outer' A' base' h' L' fr' s' Q' E' hB hF hX hN hT hk hpre hd hu hret
  all_goals (
  refine wpAny_call ?_
  k_dflt (refine' code_def ?k1 ?k2 ?k3 ?k4 ?k5 ?kA ?kF ?kK ?k6 ?k7 ?k8 ?k9 ?kB ?_ ?c2 ?c3 ?c4 ?c5; (case kA => exact rfl); (case kF => exact rfl); (case kK => assumption); (case k1 => k_asm); (case k2 => k_asm); (case k3 => k_asm); (case k4 => k_asm); (case k5 => k_asm); (case k6 => k_is); (case k7 => k_is); (case k8 => ktr_room); (case k9 => first | exact BindsTo.of_eq rfl | exact binds_K (by k_in) rfl (by k_is) rfl rfl rfl); (case c5 => decide); (case kB => exact locs rfl); (case c2 => exact rfl); (case c3 => exact rfl); (case c4 => exact rfl); k_whole; intro g' L' h' FG' F' N' B' X' T'; (try dsimp only); (try k_lift B'); (try k_fold))
  k_steps)
  all_goals (refine' endT hret ?e2 ?e3 ?e5 ?e6 ?e1 ?e4; (case e2 => k_asm); (case e3 => k_asm); (case e5 => k_mem); (case e6 => (repeat constructor)); (case e4 => first | exact fun _ h => h | exact fun _ h => .tail _ h | exact fun _ h => .tail _ (.tail _ h) | exact fun _ h => .tail _ (.tail _ (.tail _ h)) | exact fun _ h => .tail _ (.tail _ (.tail _ (.tail _ h))) | exact fun _ h => .tail _ (.tail _ (.tail _ (.tail _ (.tail _ h)))) | exact fun _ h => .tail _ (.tail _ (.tail _ (.tail _ (.tail _ (.tail _ h))))) | exact fun _ h => .tail _ (.tail _ (.tail _ (.tail _ (.tail _ (.tail _ (.tail _ h)))))) | exact fun _ h => .tail _ (.tail _ (.tail _ (.tail _ (.tail _ (.tail _ (.tail _ (.tail _ h))))))) | kcj_all); (case e1 => rfl))
local macro_rules | `(tactic| walk_at "call ref") => `(tactic| ((with_reducible show wpAny _ _ (call (Value.ref 444) _) _ _ _); k_here; k_dflt (refine' useT5 (c_from_jd_m _ _ _ _ _ _ _) ?k1 ?k2 ?k3 ?k4 ?k5 ?kK ?kp ?kd ?ku ?_; (case k1 => k_asm); (case k2 => k_asm); (case k3 => k_asm); (case k4 => k_asm); (case k5 => k_asm); (case kK => first | exact rfl | assumption); (case kp => first | with_reducible assumption | assumption | omega); (case kd => ktr_room); (case ku => ktr_units); intro D9 t90 t91 t92 t93 t94 c9 h9 tk9 F9 N9; (try dsimp only); (try k_fold))))
theorem c_to_g_m (w mean mg mb) : ∀ news b1 tb1 b2 tb2 b3 tb3 b4 tb4 b5 tb5, ConT w mean mg mb 451 5 news (True) [.int b1 tb1, .int b2 tb2, .int b3 tb3, .int b4 tb4, .int b5 tb5] [fyg (tjm b1 b2 b3 b4 b5), fmg (tjm b1 b2 b3 b4 b5), fdg (tjm b1 b2 b3 b4 b5)] := by
  intro news b1 tb1 b2 tb2 b3 tb3 b4 tb4 b5 tb5
  unfold ConT
  dsimp only [Kf, Tp]
  k_fill
  intro dp' un' gd' cn' cs' a' ccd' cl' outer' A' base' h' L' fr' s' Q' E' hB hF hX hN hT hk hpre hd hu hret
  all_goals (
  refine wpAny_call ?_
  k_dflt (refine' code_def ?k1 ?k2 ?k3 ?k4 ?k5 ?kA ?kF ?kK ?k6 ?k7 ?k8 ?k9 ?kB ?_ ?c2 ?c3 ?c4 ?c5; (case kA => exact rfl); (case kF => exact rfl); (case kK => assumption); (case k1 => k_asm); (case k2 => k_asm); (case k3 => k_asm); (case k4 => k_asm); (case k5 => k_asm); (case k6 => k_is); (case k7 => k_is); (case k8 => ktr_room); (case k9 => first | exact BindsTo.of_eq rfl | exact binds_K (by k_in) rfl (by k_is) rfl rfl rfl); (case c5 => decide); (case kB => exact locs rfl); (case c2 => exact rfl); (case c3 => exact rfl); (case c4 => exact rfl); k_whole; intro g' L' h' FG' F' N' B' X' T'; (try dsimp only); (try k_lift B'); (try k_fold))
  k_steps)
  all_goals (refine' endT hret ?e2 ?e3 ?e5 ?e6 ?e1 ?e4; (case e2 => k_asm); (case e3 => k_asm); (case e5 => k_mem); (case e6 => (repeat constructor)); (case e4 => first | exact fun _ h => h | exact fun _ h => .tail _ h | exact fun _ h => .tail _ (.tail _ h) | exact fun _ h => .tail _ (.tail _ (.tail _ h)) | exact fun _ h => .tail _ (.tail _ (.tail _ (.tail _ h))) | exact fun _ h => .tail _ (.tail _ (.tail _ (.tail _ (.tail _ h)))) | exact fun _ h => .tail _ (.tail _ (.tail _ (.tail _ (.tail _ (.tail _ h))))) | exact fun _ h => .tail _ (.tail _ (.tail _ (.tail _ (.tail _ (.tail _ (.tail _ h)))))) | exact fun _ h => .tail _ (.tail _ (.tail _ (.tail _ (.tail _ (.tail _ (.tail _ (.tail _ h))))))) | kcj_all); (case e1 => rfl))
local macro_rules | `(tactic| walk_at "call ref") => `(tactic| ((with_reducible show wpAny _ _ (call (Value.ref 451) _) _ _ _); k_here; k_dflt (refine' useT3 (c_to_g_m _ _ _ _ _ _ _ _ _ _ _ _ _ _ _) ?k1 ?k2 ?k3 ?k4 ?k5 ?kK ?kp ?kd ?ku ?_; (case k1 => k_asm); (case k2 => k_asm); (case k3 => k_asm); (case k4 => k_asm); (case k5 => k_asm); (case kK => first | exact rfl | assumption); (case kp => exact True.intro); (case kd => ktr_room); (case ku => ktr_units); intro D9 t90 t91 t92 c9 h9 tk9 F9 N9; (try dsimp only); (try k_fold))))
theorem c_from_g_m (w mean mg mb) : ∀ news y ty m tm d td, ConT w mean mg mb 458 4 news ((0 < d ∧ d ≤ dimg y m) ∧ 584283 ≤ tjg y m d) [.int y ty, .int m tm, .int d td] [(tjg y m d - 584283) / 144000, (tjg y m d - 584283) % 144000 / 7200, (tjg y m d - 584283) % 144000 % 7200 / 360, (tjg y m d - 584283) % 144000 % 7200 % 360 / 20, (tjg y m d - 584283) % 144000 % 7200 % 360 % 20] := by
  intro news y ty m tm d td
  unfold ConT
  dsimp only [Kf, Tp]
  k_fill
  intro dp' un' gd' cn' cs' a' ccd' cl' outer' A' base' h' L' fr' s' Q' E' hB hF hX hN hT hk hpre hd hu hret
  obtain ⟨p1, p2⟩ := hpre
  all_goals (
  refine wpAny_call ?_
  k_dflt (refine' code_def ?k1 ?k2 ?k3 ?k4 ?k5 ?kA ?kF ?kK ?k6 ?k7 ?k8 ?k9 ?kB ?_ ?c2 ?c3 ?c4 ?c5; (case kA => exact rfl); (case kF => exact rfl); (case kK => assumption); (case k1 => k_asm); (case k2 => k_asm); (case k3 => k_asm); (case k4 => k_asm); (case k5 => k_asm); (case k6 => k_is); (case k7 => k_is); (case k8 => ktr_room); (case k9 => first | exact BindsTo.of_eq rfl | exact binds_K (by k_in) rfl (by k_is) rfl rfl rfl); (case c5 => decide); (case kB => exact locs rfl); (case c2 => exact rfl); (case c3 => exact rfl); (case c4 => exact rfl); k_whole; intro g' L' h' FG' F' N' B' X' T'; (try dsimp only); (try k_lift B'); (try k_fold))
  k_steps)
  all_goals (refine' endT hret ?e2 ?e3 ?e5 ?e6 ?e1 ?e4; (case e2 => k_asm); (case e3 => k_asm); (case e5 => k_mem); (case e6 => (repeat constructor)); (case e4 => first | exact fun _ h => h | exact fun _ h => .tail _ h | exact fun _ h => .tail _ (.tail _ h) | exact fun _ h => .tail _ (.tail _ (.tail _ h)) | exact fun _ h => .tail _ (.tail _ (.tail _ (.tail _ h))) | exact fun _ h => .tail _ (.tail _ (.tail _ (.tail _ (.tail _ h)))) | exact fun _ h => .tail _ (.tail _ (.tail _ (.tail _ (.tail _ (.tail _ h))))) | exact fun _ h => .tail _ (.tail _ (.tail _ (.tail _ (.tail _ (.tail _ (.tail _ h)))))) | exact fun _ h => .tail _ (.tail _ (.tail _ (.tail _ (.tail _ (.tail _ (.tail _ (.tail _ h))))))) | kcj_all); (case e1 => rfl))
local macro_rules | `(tactic| walk_at "call ref") => `(tactic| ((with_reducible show wpAny _ _ (call (Value.ref 458) _) _ _ _); k_here; k_dflt (refine' useT5 (c_from_g_m _ _ _ _ _ _ _ _ _ _ _) ?k1 ?k2 ?k3 ?k4 ?k5 ?kK ?kp ?kd ?ku ?_; (case k1 => k_asm); (case k2 => k_asm); (case k3 => k_asm); (case k4 => k_asm); (case k5 => k_asm); (case kK => first | exact rfl | assumption); (case kp => first | with_reducible assumption | assumption); (case kd => ktr_room); (case ku => ktr_units); intro D9 t90 t91 t92 t93 t94 c9 h9 tk9 F9 N9; (try dsimp only); (try k_fold))))
def okG (n : Int) : Prop := 0 < fdg n ∧ fdg n ≤ dimg (fyg n) (fmg n)
def tjo (y d : Int) : Int := tjg y 1 1 + d - 1
def mo1 (m : Int) : Int := if m + 1 ≤ 3 then m + 1 + 12 else m + 1
def to1 (y m d : Int) : Int := 306 * mo1 m / 10 + d - 122 + 59 + (if leapB y = true then 1 else 0)
def tor (y m d : Int) : Int := if to1 y m d > 365 + (if leapB y = true then 1 else 0) then to1 y m d - 365 - (if leapB y = true then 1 else 0) else to1 y m d
def ado (y d : Int) : Int := if d < 59 + (if leapB y = true then 1 else 0) then 0 else if leapB y = true then 1 else 2
theorem ado_ge (y d : Int) : 0 ≤ ado y d := by unfold ado; repeat' split <;> try omega
theorem mo1_ge {m : Int} (h : 1 ≤ m) : 0 ≤ 306 * mo1 m := by unfold mo1; split <;> omega
def mor (y d : Int) : Int := ((d - 1 + ado y d) * 12 + 373) / 367
def yp0 (n : Int) : Int := (n - 1721426) / 146097 * 400 + (n - 1721426) % 146097 / 36524 * 100 + (n - 1721426) % 146097 % 36524 / 1461 * 4 + (n - 1721426) % 146097 % 36524 % 1461 / 365
def yip (n : Int) : Int := (n - 1721426) % 146097 % 36524 % 1461 / 365
def ypp (n : Int) : Int := if yip n = 4 then yp0 n - 1 else yp0 n
def dpp (n : Int) : Int := if yip n = 4 then 365 else n - 1721426 - (n - 1721426) / 146097 * 146097 - (n - 1721426) % 146097 / 36524 * 36524 - (n - 1721426) % 146097 % 36524 / 1461 * 1461 - yip n * 365
def okP (y m d : Int) : Prop := 1 ≤ y ∧ 0 < m ∧ m ≤ 14 ∧ 0 < d ∧ d ≤ 28 ∧ (m = 14 → leapB (y + 1789 - 1) = true → d ≤ 2) ∧ (m = 14 → leapB (y + 1789 - 1) = false → d ≤ 1)
def tjp (y m d : Int) : Int := 1721426 - 1 + 365 * (y + 1789 - 1 - 1) + (y + 1789 - 1 - 1) / 4 + -((y + 1789 - 1 - 1) / 100) + (y + 1789 - 1 - 1) / 400 + (m - 1) * 28 + d

theorem c_to_jd_o (w mean mg mb) : ∀ news y ty d td, ConV w mean mg mb 465 4 news (True) [.int y ty, .int d td] (fun t => .int (tjo y d) t) := by
  intro news y ty d td
  unfold ConV
  dsimp only [Kf, Tp]
  k_fill
  intro dp' un' gd' cn' cs' a' ccd' cl' outer' A' base' h' L' fr' s' Q' E' hB hF hX hN hT hk hpre hd hu hret
  all_goals (
  refine wpAny_call ?_
  k_dflt (refine' code_def ?k1 ?k2 ?k3 ?k4 ?k5 ?kA ?kF ?kK ?k6 ?k7 ?k8 ?k9 ?kB ?_ ?c2 ?c3 ?c4 ?c5; (case kA => exact rfl); (case kF => exact rfl); (case kK => assumption); (case k1 => k_asm); (case k2 => k_asm); (case k3 => k_asm); (case k4 => k_asm); (case k5 => k_asm); (case k6 => k_is); (case k7 => k_is); (case k8 => ktr_room); (case k9 => first | exact BindsTo.of_eq rfl | exact binds_K (by k_in) rfl (by k_is) rfl rfl rfl); (case c5 => decide); (case kB => exact locs rfl); (case c2 => exact rfl); (case c3 => exact rfl); (case c4 => exact rfl); k_whole; intro g' L' h' FG' F' N' B' X' T'; (try dsimp only); (try k_lift B'); (try k_fold))
  k_steps)
  all_goals (refine' endI hret ?e1 ?e2 ?e3 ?e4; (case e2 => k_asm); (case e3 => k_asm); (case e4 => first | exact fun _ h => h | exact fun _ h => .tail _ h | exact fun _ h => .tail _ (.tail _ h) | exact fun _ h => .tail _ (.tail _ (.tail _ h)) | exact fun _ h => .tail _ (.tail _ (.tail _ (.tail _ h))) | exact fun _ h => .tail _ (.tail _ (.tail _ (.tail _ (.tail _ h)))) | exact fun _ h => .tail _ (.tail _ (.tail _ (.tail _ (.tail _ (.tail _ h))))) | exact fun _ h => .tail _ (.tail _ (.tail _ (.tail _ (.tail _ (.tail _ (.tail _ h)))))) | exact fun _ h => .tail _ (.tail _ (.tail _ (.tail _ (.tail _ (.tail _ (.tail _ (.tail _ h))))))) | kcj_all); (case e1 => rfl))
local macro_rules | `(tactic| walk_at "call ref") => `(tactic| ((with_reducible show wpAny _ _ (call (Value.ref 465) _) _ _ _); k_here; k_dflt (refine' useV (c_to_jd_o _ _ _ _ _ _ _ _ _) ?k1 ?k2 ?k3 ?k4 ?k5 ?kK ?kp ?kd ?ku ?_; (case k1 => k_asm); (case k2 => k_asm); (case k3 => k_asm); (case k4 => k_asm); (case k5 => k_asm); (case kK => first | exact rfl | assumption); (case kp => exact True.intro); (case kd => ktr_room); (case ku => ktr_units); intro t9 h9 tk9 F9 N9; (try dsimp only); (try k_fold))))
theorem c_from_jd_o (w mean mg mb) : ∀ news n tn, ConT w mean mg mb 472 5 news (okG n) [.int n tn] [fyg n, tjg (fyg n) (fmg n) (fdg n) - tjg (fyg n) 1 1 + 1] := by
  intro news n tn
  unfold ConT
  dsimp only [Kf, Tp]
  k_fill
  intro dp' un' gd' cn' cs' a' ccd' cl' outer' A' base' h' L' fr' s' Q' E' hB hF hX hN hT hk hpre hd hu hret
  unfold okG at hpre
  all_goals (
  refine wpAny_call ?_
  k_dflt (refine' code_def ?k1 ?k2 ?k3 ?k4 ?k5 ?kA ?kF ?kK ?k6 ?k7 ?k8 ?k9 ?kB ?_ ?c2 ?c3 ?c4 ?c5; (case kA => exact rfl); (case kF => exact rfl); (case kK => assumption); (case k1 => k_asm); (case k2 => k_asm); (case k3 => k_asm); (case k4 => k_asm); (case k5 => k_asm); (case k6 => k_is); (case k7 => k_is); (case k8 => ktr_room); (case k9 => first | exact BindsTo.of_eq rfl | exact binds_K (by k_in) rfl (by k_is) rfl rfl rfl); (case c5 => decide); (case kB => exact locs rfl); (case c2 => exact rfl); (case c3 => exact rfl); (case c4 => exact rfl); k_whole; intro g' L' h' FG' F' N' B' X' T'; (try dsimp only); (try k_lift B'); (try k_fold))
  k_steps)
  all_goals (refine' endT hret ?e2 ?e3 ?e5 ?e6 ?e1 ?e4; (case e2 => k_asm); (case e3 => k_asm); (case e5 => k_mem); (case e6 => (repeat constructor)); (case e4 => first | exact fun _ h => h | exact fun _ h => .tail _ h | exact fun _ h => .tail _ (.tail _ h) | exact fun _ h => .tail _ (.tail _ (.tail _ h)) | exact fun _ h => .tail _ (.tail _ (.tail _ (.tail _ h))) | exact fun _ h => .tail _ (.tail _ (.tail _ (.tail _ (.tail _ h)))) | exact fun _ h => .tail _ (.tail _ (.tail _ (.tail _ (.tail _ (.tail _ h))))) | exact fun _ h => .tail _ (.tail _ (.tail _ (.tail _ (.tail _ (.tail _ (.tail _ h)))))) | exact fun _ h => .tail _ (.tail _ (.tail _ (.tail _ (.tail _ (.tail _ (.tail _ (.tail _ h))))))) | kcj_all); (case e1 => rfl))
local macro_rules | `(tactic| walk_at "call ref") => `(tactic| ((with_reducible show wpAny _ _ (call (Value.ref 472) _) _ _ _); k_here; k_dflt (refine' useT2 (c_from_jd_o _ _ _ _ _ _ _) ?k1 ?k2 ?k3 ?k4 ?k5 ?kK ?kp ?kd ?ku ?_; (case k1 => k_asm); (case k2 => k_asm); (case k3 => k_asm); (case k4 => k_asm); (case k5 => k_asm); (case kK => first | exact rfl | assumption); (case kp => first | with_reducible assumption | assumption); (case kd => ktr_room); (case ku => ktr_units); intro D9 t90 t91 c9 h9 tk9 F9 N9; (try dsimp only); (try k_fold))))
section
set_option hygiene false in
local macro_rules | `(tactic| walk_at "exec If") => `(tactic| ((with_reducible show wpAny _ _ (exec (Stmt.If (Expr.Compare (Expr.Name (Str.ofString "m") _) _ _ _) _ _ _) _) _ _ _); (fail_if_success (rename JMark => hM)); k_here; (rename Fr _ _ _ _ => cF'); (rename News _ _ _ _ => cN'); k_dflt (refine' join_int (Str.ofString "m") (mo1 m) cF' cN' (fun hM => ?_) (fun t9 h9 tk9 F9 N9 => ?_)); (all_goals (try k_fold)); (all_goals (try k_sweep))))
local macro_rules | `(tactic| walk_at "JoinV") => `(tactic| (first | (refine' join_end ?jf ?jn ?jm ?js ?je; (case jf => k_asm); (case jn => k_asm); (case jm => first | exact rfl | with_unfolding_all rfl); (case js => first | exact fun _ h => h | exact fun _ h => .tail _ h | exact fun _ h => .tail _ (.tail _ h) | exact fun _ h => .tail _ (.tail _ (.tail _ h)) | exact fun _ h => .tail _ (.tail _ (.tail _ (.tail _ h))) | exact fun _ h => .tail _ (.tail _ (.tail _ (.tail _ (.tail _ h)))) | exact fun _ h => .tail _ (.tail _ (.tail _ (.tail _ (.tail _ (.tail _ h))))) | exact fun _ h => .tail _ (.tail _ (.tail _ (.tail _ (.tail _ (.tail _ (.tail _ h)))))) | exact fun _ h => .tail _ (.tail _ (.tail _ (.tail _ (.tail _ (.tail _ (.tail _ (.tail _ h))))))) | kcj_all); (case je => first | rfl | (((try unfold mo1); first | exact (if_pos (by first | assumption | exact Bool.eq_false_iff.mp (by assumption))).symm | exact ((if_neg (by first | assumption | exact Bool.eq_false_iff.mp (by assumption))).trans (if_pos (by first | assumption | exact Bool.eq_false_iff.mp (by assumption)))).symm | exact ((if_neg (by first | assumption | exact Bool.eq_false_iff.mp (by assumption))).trans (if_neg (by first | assumption | exact Bool.eq_false_iff.mp (by assumption)))).symm | exact (if_neg (by first | assumption | exact Bool.eq_false_iff.mp (by assumption))).symm)))) | (refine' join_same ?jf ?jn ?jm ?js ?je; (case jf => k_asm); (case jn => k_asm); (case jm => first | exact rfl | with_unfolding_all rfl); (case js => first | exact fun _ h => h | exact fun _ h => .tail _ h | exact fun _ h => .tail _ (.tail _ h) | exact fun _ h => .tail _ (.tail _ (.tail _ h)) | exact fun _ h => .tail _ (.tail _ (.tail _ (.tail _ h))) | exact fun _ h => .tail _ (.tail _ (.tail _ (.tail _ (.tail _ h)))) | exact fun _ h => .tail _ (.tail _ (.tail _ (.tail _ (.tail _ (.tail _ h))))) | exact fun _ h => .tail _ (.tail _ (.tail _ (.tail _ (.tail _ (.tail _ (.tail _ h)))))) | exact fun _ h => .tail _ (.tail _ (.tail _ (.tail _ (.tail _ (.tail _ (.tail _ (.tail _ h))))))) | kcj_all); (case je => first | rfl | (((try unfold mo1); first | exact (if_pos (by first | assumption | exact Bool.eq_false_iff.mp (by assumption))).symm | exact ((if_neg (by first | assumption | exact Bool.eq_false_iff.mp (by assumption))).trans (if_pos (by first | assumption | exact Bool.eq_false_iff.mp (by assumption)))).symm | exact ((if_neg (by first | assumption | exact Bool.eq_false_iff.mp (by assumption))).trans (if_neg (by first | assumption | exact Bool.eq_false_iff.mp (by assumption)))).symm | exact (if_neg (by first | assumption | exact Bool.eq_false_iff.mp (by assumption))).symm))))))
theorem c_from_g_o (w mean mg mb) : ∀ news y ty m tm d td, ConT w mean mg mb 479 2 news (1 ≤ m) [.int y ty, .int m tm, .int d td] [y, tor y m d] := by
  intro news y ty m tm d td
  unfold ConT
  dsimp only [Kf, Tp]
  k_fill
  intro dp' un' gd' cn' cs' a' ccd' cl' outer' A' base' h' L' fr' s' Q' E' hB hF hX hN hT hk hpre hd hu hret
  have p1 := mo1_ge hpre
  all_goals (
  refine wpAny_call ?_
  k_dflt (refine' code_def ?k1 ?k2 ?k3 ?k4 ?k5 ?kA ?kF ?kK ?k6 ?k7 ?k8 ?k9 ?kB ?_ ?c2 ?c3 ?c4 ?c5; (case kA => exact rfl); (case kF => exact rfl); (case kK => assumption); (case k1 => k_asm); (case k2 => k_asm); (case k3 => k_asm); (case k4 => k_asm); (case k5 => k_asm); (case k6 => k_is); (case k7 => k_is); (case k8 => ktr_room); (case k9 => first | exact BindsTo.of_eq rfl | exact binds_K (by k_in) rfl (by k_is) rfl rfl rfl); (case c5 => decide); (case kB => exact locs rfl); (case c2 => exact rfl); (case c3 => exact rfl); (case c4 => exact rfl); k_whole; intro g' L' h' FG' F' N' B' X' T'; (try dsimp only); (try k_lift B'); (try k_fold))
  k_steps)
  all_goals (refine' endT hret ?e2 ?e3 ?e5 ?e6 ?e1 ?e4; (case e2 => k_asm); (case e3 => k_asm); (case e5 => k_mem); (case e6 => (repeat constructor)); (case e4 => first | exact fun _ h => h | exact fun _ h => .tail _ h | exact fun _ h => .tail _ (.tail _ h) | exact fun _ h => .tail _ (.tail _ (.tail _ h)) | exact fun _ h => .tail _ (.tail _ (.tail _ (.tail _ h))) | exact fun _ h => .tail _ (.tail _ (.tail _ (.tail _ (.tail _ h)))) | exact fun _ h => .tail _ (.tail _ (.tail _ (.tail _ (.tail _ (.tail _ h))))) | exact fun _ h => .tail _ (.tail _ (.tail _ (.tail _ (.tail _ (.tail _ (.tail _ h)))))) | exact fun _ h => .tail _ (.tail _ (.tail _ (.tail _ (.tail _ (.tail _ (.tail _ (.tail _ h))))))) | kcj_all); (case e1 => simp only [tor, to1, *, if_true, if_false, if_pos, if_neg, not_false_eq_true, gt_iff_lt]))
end
local macro_rules | `(tactic| walk_at "call ref") => `(tactic| ((with_reducible show wpAny _ _ (call (Value.ref 479) _) _ _ _); k_here; k_dflt (refine' useT2 (c_from_g_o _ _ _ _ _ _ _ _ _ _ _) ?k1 ?k2 ?k3 ?k4 ?k5 ?kK ?kp ?kd ?ku ?_; (case k1 => k_asm); (case k2 => k_asm); (case k3 => k_asm); (case k4 => k_asm); (case k5 => k_asm); (case kK => first | exact rfl | assumption); (case kp => first | with_reducible assumption | assumption | omega); (case kd => ktr_room); (case ku => ktr_units); intro D9 t90 t91 c9 h9 tk9 F9 N9; (try dsimp only); (try k_fold))))
section
set_option hygiene false in
local macro_rules | `(tactic| walk_at "exec If") => `(tactic| ((with_reducible show wpAny _ _ (exec (Stmt.If (Expr.Compare (Expr.Name (Str.ofString "dayofyear") _) _ _ _) _ _ _) _) _ _ _); (fail_if_success (rename JMark => hM)); k_here; (rename Fr _ _ _ _ => cF'); (rename News _ _ _ _ => cN'); k_dflt (refine' join_int (Str.ofString "leap_adj") (ado y d) cF' cN' (fun hM => ?_) (fun t9 h9 tk9 F9 N9 => ?_)); (all_goals (try k_fold)); (all_goals (try k_sweep))))
local macro_rules | `(tactic| walk_at "JoinV") => `(tactic| (first | (refine' join_end ?jf ?jn ?jm ?js ?je; (case jf => k_asm); (case jn => k_asm); (case jm => first | exact rfl | with_unfolding_all rfl); (case js => first | exact fun _ h => h | exact fun _ h => .tail _ h | exact fun _ h => .tail _ (.tail _ h) | exact fun _ h => .tail _ (.tail _ (.tail _ h)) | exact fun _ h => .tail _ (.tail _ (.tail _ (.tail _ h))) | exact fun _ h => .tail _ (.tail _ (.tail _ (.tail _ (.tail _ h)))) | exact fun _ h => .tail _ (.tail _ (.tail _ (.tail _ (.tail _ (.tail _ h))))) | exact fun _ h => .tail _ (.tail _ (.tail _ (.tail _ (.tail _ (.tail _ (.tail _ h)))))) | exact fun _ h => .tail _ (.tail _ (.tail _ (.tail _ (.tail _ (.tail _ (.tail _ (.tail _ h))))))) | kcj_all); (case je => first | rfl | (((try unfold ado); first | exact (if_pos (by first | assumption | exact Bool.eq_false_iff.mp (by assumption))).symm | exact ((if_neg (by first | assumption | exact Bool.eq_false_iff.mp (by assumption))).trans (if_pos (by first | assumption | exact Bool.eq_false_iff.mp (by assumption)))).symm | exact ((if_neg (by first | assumption | exact Bool.eq_false_iff.mp (by assumption))).trans (if_neg (by first | assumption | exact Bool.eq_false_iff.mp (by assumption)))).symm | exact (if_neg (by first | assumption | exact Bool.eq_false_iff.mp (by assumption))).symm)))) | (refine' join_same ?jf ?jn ?jm ?js ?je; (case jf => k_asm); (case jn => k_asm); (case jm => first | exact rfl | with_unfolding_all rfl); (case js => first | exact fun _ h => h | exact fun _ h => .tail _ h | exact fun _ h => .tail _ (.tail _ h) | exact fun _ h => .tail _ (.tail _ (.tail _ h)) | exact fun _ h => .tail _ (.tail _ (.tail _ (.tail _ h))) | exact fun _ h => .tail _ (.tail _ (.tail _ (.tail _ (.tail _ h)))) | exact fun _ h => .tail _ (.tail _ (.tail _ (.tail _ (.tail _ (.tail _ h))))) | exact fun _ h => .tail _ (.tail _ (.tail _ (.tail _ (.tail _ (.tail _ (.tail _ h)))))) | exact fun _ h => .tail _ (.tail _ (.tail _ (.tail _ (.tail _ (.tail _ (.tail _ (.tail _ h))))))) | kcj_all); (case je => first | rfl | (((try unfold ado); first | exact (if_pos (by first | assumption | exact Bool.eq_false_iff.mp (by assumption))).symm | exact ((if_neg (by first | assumption | exact Bool.eq_false_iff.mp (by assumption))).trans (if_pos (by first | assumption | exact Bool.eq_false_iff.mp (by assumption)))).symm | exact ((if_neg (by first | assumption | exact Bool.eq_false_iff.mp (by assumption))).trans (if_neg (by first | assumption | exact Bool.eq_false_iff.mp (by assumption)))).symm | exact (if_neg (by first | assumption | exact Bool.eq_false_iff.mp (by assumption))).symm))))))
theorem c_to_g_o (w mean mg mb) : ∀ news y ty d td, ConT w mean mg mb 486 3 news (1 ≤ d) [.int y ty, .int d td] [y, mor y d, d - tor y (mor y d) 1 + 1] := by
  intro news y ty d td
  unfold ConT
  dsimp only [Kf, Tp]
  k_fill
  intro dp' un' gd' cn' cs' a' ccd' cl' outer' A' base' h' L' fr' s' Q' E' hB hF hX hN hT hk hpre hd hu hret
  have p1 := ado_ge y d
  have p2 : 1 ≤ ((d - 1 + ado y d) * 12 + 373) / 367 := by omega
  all_goals (
  refine wpAny_call ?_
  k_dflt (refine' code_def ?k1 ?k2 ?k3 ?k4 ?k5 ?kA ?kF ?kK ?k6 ?k7 ?k8 ?k9 ?kB ?_ ?c2 ?c3 ?c4 ?c5; (case kA => exact rfl); (case kF => exact rfl); (case kK => assumption); (case k1 => k_asm); (case k2 => k_asm); (case k3 => k_asm); (case k4 => k_asm); (case k5 => k_asm); (case k6 => k_is); (case k7 => k_is); (case k8 => ktr_room); (case k9 => first | exact BindsTo.of_eq rfl | exact binds_K (by k_in) rfl (by k_is) rfl rfl rfl); (case c5 => decide); (case kB => exact locs rfl); (case c2 => exact rfl); (case c3 => exact rfl); (case c4 => exact rfl); k_whole; intro g' L' h' FG' F' N' B' X' T'; (try dsimp only); (try k_lift B'); (try k_fold))
  k_steps)
  all_goals (refine' endT hret ?e2 ?e3 ?e5 ?e6 ?e1 ?e4; (case e2 => k_asm); (case e3 => k_asm); (case e5 => k_mem); (case e6 => (repeat constructor)); (case e4 => first | exact fun _ h => h | exact fun _ h => .tail _ h | exact fun _ h => .tail _ (.tail _ h) | exact fun _ h => .tail _ (.tail _ (.tail _ h)) | exact fun _ h => .tail _ (.tail _ (.tail _ (.tail _ h))) | exact fun _ h => .tail _ (.tail _ (.tail _ (.tail _ (.tail _ h)))) | exact fun _ h => .tail _ (.tail _ (.tail _ (.tail _ (.tail _ (.tail _ h))))) | exact fun _ h => .tail _ (.tail _ (.tail _ (.tail _ (.tail _ (.tail _ (.tail _ h)))))) | exact fun _ h => .tail _ (.tail _ (.tail _ (.tail _ (.tail _ (.tail _ (.tail _ (.tail _ h))))))) | kcj_all); (case e1 => rfl))
end
local macro_rules | `(tactic| walk_at "call ref") => `(tactic| ((with_reducible show wpAny _ _ (call (Value.ref 486) _) _ _ _); k_here; k_dflt (refine' useT3 (c_to_g_o _ _ _ _ _ _ _ _ _) ?k1 ?k2 ?k3 ?k4 ?k5 ?kK ?kp ?kd ?ku ?_; (case k1 => k_asm); (case k2 => k_asm); (case k3 => k_asm); (case k4 => k_asm); (case k5 => k_asm); (case kK => first | exact rfl | assumption); (case kp => first | with_reducible assumption | assumption | omega); (case kd => ktr_room); (case ku => ktr_units); intro D9 t90 t91 t92 c9 h9 tk9 F9 N9; (try dsimp only); (try k_fold))))
theorem c_legal_p (w mean mg mb) : ∀ news y ty m tm d td, ConV w mean mg mb 493 2 news (okP y m d) [.int y ty, .int m tm, .int d td] (fun _ => .bool (true)) := by
  intro news y ty m tm d td
  unfold ConV
  dsimp only [Kf, Tp]
  k_fill
  intro dp' un' gd' cn' cs' a' ccd' cl' outer' A' base' h' L' fr' s' Q' E' hB hF hX hN hT hk hpre hd hu hret
  obtain ⟨p1, p2, p3, p4, p5, p6, p7⟩ := hpre
  have p9 : (m = 14 ∧ leapB (y + 1789 - 1) = true ∧ d ≤ 2) ∨ (m = 14 ∧ leapB (y + 1789 - 1) = false ∧ d = 1) ∨ ¬ m = 14 := by
    by_cases pm : m = 14
    · cases pl : leapB (y + 1789 - 1)
      · exact Or.inr (Or.inl ⟨pm, rfl, by have := p7 pm pl; omega⟩)
      · exact Or.inl ⟨pm, rfl, p6 pm pl⟩
    · exact Or.inr (Or.inr pm)
  clear p6 p7
  rcases p9 with ⟨pm, pl, pd⟩ | ⟨pm, pl, rfl⟩ | pm
  all_goals (
  refine wpAny_call ?_
  k_dflt (refine' code_def ?k1 ?k2 ?k3 ?k4 ?k5 ?kA ?kF ?kK ?k6 ?k7 ?k8 ?k9 ?kB ?_ ?c2 ?c3 ?c4 ?c5; (case kA => exact rfl); (case kF => exact rfl); (case kK => assumption); (case k1 => k_asm); (case k2 => k_asm); (case k3 => k_asm); (case k4 => k_asm); (case k5 => k_asm); (case k6 => k_is); (case k7 => k_is); (case k8 => ktr_room); (case k9 => first | exact BindsTo.of_eq rfl | exact binds_K (by k_in) rfl (by k_is) rfl rfl rfl); (case c5 => decide); (case kB => exact locs rfl); (case c2 => exact rfl); (case c3 => exact rfl); (case c4 => exact rfl); k_whole; intro g' L' h' FG' F' N' B' X' T'; (try dsimp only); (try k_lift B'); (try k_fold))
  k_steps)
  all_goals (refine' endB hret ?e1 ?e2 ?e3 ?e4; (case e2 => k_asm); (case e3 => k_asm); (case e4 => first | exact fun _ h => h | exact fun _ h => .tail _ h | exact fun _ h => .tail _ (.tail _ h) | exact fun _ h => .tail _ (.tail _ (.tail _ h)) | exact fun _ h => .tail _ (.tail _ (.tail _ (.tail _ h))) | exact fun _ h => .tail _ (.tail _ (.tail _ (.tail _ (.tail _ h)))) | exact fun _ h => .tail _ (.tail _ (.tail _ (.tail _ (.tail _ (.tail _ h))))) | exact fun _ h => .tail _ (.tail _ (.tail _ (.tail _ (.tail _ (.tail _ (.tail _ h)))))) | exact fun _ h => .tail _ (.tail _ (.tail _ (.tail _ (.tail _ (.tail _ (.tail _ (.tail _ h))))))) | kcj_all); (case e1 => rfl))
local macro_rules | `(tactic| walk_at "call ref") => `(tactic| ((with_reducible show wpAny _ _ (call (Value.ref 493) _) _ _ _); k_here; k_dflt (refine' useV (c_legal_p _ _ _ _ _ _ _ _ _ _ _) ?k1 ?k2 ?k3 ?k4 ?k5 ?kK ?kp ?kd ?ku ?_; (case k1 => k_asm); (case k2 => k_asm); (case k3 => k_asm); (case k4 => k_asm); (case k5 => k_asm); (case kK => first | exact rfl | assumption); (case kp => first | with_reducible assumption | assumption); (case kd => ktr_room); (case ku => ktr_units); intro t9 h9 tk9 F9 N9; (try dsimp only); (try k_fold))))
theorem c_to_jd_p (w mean mg mb) : ∀ news y ty m tm d td, ConV w mean mg mb 500 3 news (okP y m d) [.int y ty, .int m tm, .int d td] (fun t => .int (tjp y m d) t) := by
  intro news y ty m tm d td
  unfold ConV
  dsimp only [Kf, Tp]
  k_fill
  intro dp' un' gd' cn' cs' a' ccd' cl' outer' A' base' h' L' fr' s' Q' E' hB hF hX hN hT hk hpre hd hu hret
  all_goals (
  refine wpAny_call ?_
  k_dflt (refine' code_def ?k1 ?k2 ?k3 ?k4 ?k5 ?kA ?kF ?kK ?k6 ?k7 ?k8 ?k9 ?kB ?_ ?c2 ?c3 ?c4 ?c5; (case kA => exact rfl); (case kF => exact rfl); (case kK => assumption); (case k1 => k_asm); (case k2 => k_asm); (case k3 => k_asm); (case k4 => k_asm); (case k5 => k_asm); (case k6 => k_is); (case k7 => k_is); (case k8 => ktr_room); (case k9 => first | exact BindsTo.of_eq rfl | exact binds_K (by k_in) rfl (by k_is) rfl rfl rfl); (case c5 => decide); (case kB => exact locs rfl); (case c2 => exact rfl); (case c3 => exact rfl); (case c4 => exact rfl); k_whole; intro g' L' h' FG' F' N' B' X' T'; (try dsimp only); (try k_lift B'); (try k_fold))
  k_steps)
  all_goals (refine' endI hret ?e1 ?e2 ?e3 ?e4; (case e2 => k_asm); (case e3 => k_asm); (case e4 => first | exact fun _ h => h | exact fun _ h => .tail _ h | exact fun _ h => .tail _ (.tail _ h) | exact fun _ h => .tail _ (.tail _ (.tail _ h)) | exact fun _ h => .tail _ (.tail _ (.tail _ (.tail _ h))) | exact fun _ h => .tail _ (.tail _ (.tail _ (.tail _ (.tail _ h)))) | exact fun _ h => .tail _ (.tail _ (.tail _ (.tail _ (.tail _ (.tail _ h))))) | exact fun _ h => .tail _ (.tail _ (.tail _ (.tail _ (.tail _ (.tail _ (.tail _ h)))))) | exact fun _ h => .tail _ (.tail _ (.tail _ (.tail _ (.tail _ (.tail _ (.tail _ (.tail _ h))))))) | kcj_all); (case e1 => rfl))
local macro_rules | `(tactic| walk_at "call ref") => `(tactic| ((with_reducible show wpAny _ _ (call (Value.ref 500) _) _ _ _); k_here; k_dflt (refine' useV (c_to_jd_p _ _ _ _ _ _ _ _ _ _ _) ?k1 ?k2 ?k3 ?k4 ?k5 ?kK ?kp ?kd ?ku ?_; (case k1 => k_asm); (case k2 => k_asm); (case k3 => k_asm); (case k4 => k_asm); (case k5 => k_asm); (case kK => first | exact rfl | assumption); (case kp => first | with_reducible assumption | assumption); (case kd => ktr_room); (case ku => ktr_units); intro t9 h9 tk9 F9 N9; (try dsimp only); (try k_fold))))
theorem c_from_jd_p (w mean mg mb) : ∀ news n tn, ConT w mean mg mb 507 2 news (2374480 ≤ n) [.int n tn] [ypp n - 1789 + 2, dpp n / 28 + 1, dpp n - dpp n / 28 * 28 + 1] := by
  intro news n tn
  unfold ConT
  dsimp only [Kf, Tp]
  k_fill
  intro dp' un' gd' cn' cs' a' ccd' cl' outer' A' base' h' L' fr' s' Q' E' hB hF hX hN hT hk hpre hd hu hret
  all_goals (
  refine wpAny_call ?_
  k_dflt (refine' code_def ?k1 ?k2 ?k3 ?k4 ?k5 ?kA ?kF ?kK ?k6 ?k7 ?k8 ?k9 ?kB ?_ ?c2 ?c3 ?c4 ?c5; (case kA => exact rfl); (case kF => exact rfl); (case kK => assumption); (case k1 => k_asm); (case k2 => k_asm); (case k3 => k_asm); (case k4 => k_asm); (case k5 => k_asm); (case k6 => k_is); (case k7 => k_is); (case k8 => ktr_room); (case k9 => first | exact BindsTo.of_eq rfl | exact binds_K (by k_in) rfl (by k_is) rfl rfl rfl); (case c5 => decide); (case kB => exact locs rfl); (case c2 => exact rfl); (case c3 => exact rfl); (case c4 => exact rfl); k_whole; intro g' L' h' FG' F' N' B' X' T'; (try dsimp only); (try k_lift B'); (try k_fold))
  k_steps)
  all_goals (refine' endT hret ?e2 ?e3 ?e5 ?e6 ?e1 ?e4; (case e2 => k_asm); (case e3 => k_asm); (case e5 => k_mem); (case e6 => (repeat constructor)); (case e4 => first | exact fun _ h => h | exact fun _ h => .tail _ h | exact fun _ h => .tail _ (.tail _ h) | exact fun _ h => .tail _ (.tail _ (.tail _ h)) | exact fun _ h => .tail _ (.tail _ (.tail _ (.tail _ h))) | exact fun _ h => .tail _ (.tail _ (.tail _ (.tail _ (.tail _ h)))) | exact fun _ h => .tail _ (.tail _ (.tail _ (.tail _ (.tail _ (.tail _ h))))) | exact fun _ h => .tail _ (.tail _ (.tail _ (.tail _ (.tail _ (.tail _ (.tail _ h)))))) | exact fun _ h => .tail _ (.tail _ (.tail _ (.tail _ (.tail _ (.tail _ (.tail _ (.tail _ h))))))) | kcj_all); (case e1 => simp only [ypp, dpp, yip, yp0, *, if_true, if_false, if_pos, if_neg, not_false_eq_true]))
local macro_rules | `(tactic| walk_at "call ref") => `(tactic| ((with_reducible show wpAny _ _ (call (Value.ref 507) _) _ _ _); k_here; k_dflt (refine' useT3 (c_from_jd_p _ _ _ _ _ _ _) ?k1 ?k2 ?k3 ?k4 ?k5 ?kK ?kp ?kd ?ku ?_; (case k1 => k_asm); (case k2 => k_asm); (case k3 => k_asm); (case k4 => k_asm); (case k5 => k_asm); (case kK => first | exact rfl | assumption); (case kp => first | with_reducible assumption | assumption | omega); (case kd => ktr_room); (case ku => ktr_units); intro D9 t90 t91 t92 c9 h9 tk9 F9 N9; (try dsimp only); (try k_fold))))
theorem c_from_g_p (w mean mg mb) : ∀ news y ty m tm d td, ConT w mean mg mb 514 4 news ((0 < d ∧ d ≤ dimg y m) ∧ 2374480 ≤ tjg y m d) [.int y ty, .int m tm, .int d td] [ypp (tjg y m d) - 1789 + 2, dpp (tjg y m d) / 28 + 1, dpp (tjg y m d) - dpp (tjg y m d) / 28 * 28 + 1] := by
  intro news y ty m tm d td
  unfold ConT
  dsimp only [Kf, Tp]
  k_fill
  intro dp' un' gd' cn' cs' a' ccd' cl' outer' A' base' h' L' fr' s' Q' E' hB hF hX hN hT hk hpre hd hu hret
  obtain ⟨p1, p2⟩ := hpre
  all_goals (
  refine wpAny_call ?_
  k_dflt (refine' code_def ?k1 ?k2 ?k3 ?k4 ?k5 ?kA ?kF ?kK ?k6 ?k7 ?k8 ?k9 ?kB ?_ ?c2 ?c3 ?c4 ?c5; (case kA => exact rfl); (case kF => exact rfl); (case kK => assumption); (case k1 => k_asm); (case k2 => k_asm); (case k3 => k_asm); (case k4 => k_asm); (case k5 => k_asm); (case k6 => k_is); (case k7 => k_is); (case k8 => ktr_room); (case k9 => first | exact BindsTo.of_eq rfl | exact binds_K (by k_in) rfl (by k_is) rfl rfl rfl); (case c5 => decide); (case kB => exact locs rfl); (case c2 => exact rfl); (case c3 => exact rfl); (case c4 => exact rfl); k_whole; intro g' L' h' FG' F' N' B' X' T'; (try dsimp only); (try k_lift B'); (try k_fold))
  k_steps)
  all_goals (refine' endT hret ?e2 ?e3 ?e5 ?e6 ?e1 ?e4; (case e2 => k_asm); (case e3 => k_asm); (case e5 => k_mem); (case e6 => (repeat constructor)); (case e4 => first | exact fun _ h => h | exact fun _ h => .tail _ h | exact fun _ h => .tail _ (.tail _ h) | exact fun _ h => .tail _ (.tail _ (.tail _ h)) | exact fun _ h => .tail _ (.tail _ (.tail _ (.tail _ h))) | exact fun _ h => .tail _ (.tail _ (.tail _ (.tail _ (.tail _ h)))) | exact fun _ h => .tail _ (.tail _ (.tail _ (.tail _ (.tail _ (.tail _ h))))) | exact fun _ h => .tail _ (.tail _ (.tail _ (.tail _ (.tail _ (.tail _ (.tail _ h)))))) | exact fun _ h => .tail _ (.tail _ (.tail _ (.tail _ (.tail _ (.tail _ (.tail _ (.tail _ h))))))) | kcj_all); (case e1 => rfl))
local macro_rules | `(tactic| walk_at "call ref") => `(tactic| ((with_reducible show wpAny _ _ (call (Value.ref 514) _) _ _ _); k_here; k_dflt (refine' useT3 (c_from_g_p _ _ _ _ _ _ _ _ _ _ _) ?k1 ?k2 ?k3 ?k4 ?k5 ?kK ?kp ?kd ?ku ?_; (case k1 => k_asm); (case k2 => k_asm); (case k3 => k_asm); (case k4 => k_asm); (case k5 => k_asm); (case kK => first | exact rfl | assumption); (case kp => first | with_reducible assumption | assumption); (case kd => ktr_room); (case ku => ktr_units); intro D9 t90 t91 t92 c9 h9 tk9 F9 N9; (try dsimp only); (try k_fold))))
theorem c_to_g_p (w mean mg mb) : ∀ news y ty m tm d td, ConT w mean mg mb 521 5 news (okP y m d) [.int y ty, .int m tm, .int d td] [fyg (tjp y m d), fmg (tjp y m d), fdg (tjp y m d)] := by
  intro news y ty m tm d td
  unfold ConT
  dsimp only [Kf, Tp]
  k_fill
  intro dp' un' gd' cn' cs' a' ccd' cl' outer' A' base' h' L' fr' s' Q' E' hB hF hX hN hT hk hpre hd hu hret
  all_goals (
  refine wpAny_call ?_
  k_dflt (refine' code_def ?k1 ?k2 ?k3 ?k4 ?k5 ?kA ?kF ?kK ?k6 ?k7 ?k8 ?k9 ?kB ?_ ?c2 ?c3 ?c4 ?c5; (case kA => exact rfl); (case kF => exact rfl); (case kK => assumption); (case k1 => k_asm); (case k2 => k_asm); (case k3 => k_asm); (case k4 => k_asm); (case k5 => k_asm); (case k6 => k_is); (case k7 => k_is); (case k8 => ktr_room); (case k9 => first | exact BindsTo.of_eq rfl | exact binds_K (by k_in) rfl (by k_is) rfl rfl rfl); (case c5 => decide); (case kB => exact locs rfl); (case c2 => exact rfl); (case c3 => exact rfl); (case c4 => exact rfl); k_whole; intro g' L' h' FG' F' N' B' X' T'; (try dsimp only); (try k_lift B'); (try k_fold))
  k_steps)
  all_goals (refine' endT hret ?e2 ?e3 ?e5 ?e6 ?e1 ?e4; (case e2 => k_asm); (case e3 => k_asm); (case e5 => k_mem); (case e6 => (repeat constructor)); (case e4 => first | exact fun _ h => h | exact fun _ h => .tail _ h | exact fun _ h => .tail _ (.tail _ h) | exact fun _ h => .tail _ (.tail _ (.tail _ h)) | exact fun _ h => .tail _ (.tail _ (.tail _ (.tail _ h))) | exact fun _ h => .tail _ (.tail _ (.tail _ (.tail _ (.tail _ h)))) | exact fun _ h => .tail _ (.tail _ (.tail _ (.tail _ (.tail _ (.tail _ h))))) | exact fun _ h => .tail _ (.tail _ (.tail _ (.tail _ (.tail _ (.tail _ (.tail _ h)))))) | exact fun _ h => .tail _ (.tail _ (.tail _ (.tail _ (.tail _ (.tail _ (.tail _ (.tail _ h))))))) | kcj_all); (case e1 => rfl))
local macro_rules | `(tactic| walk_at "call ref") => `(tactic| ((with_reducible show wpAny _ _ (call (Value.ref 521) _) _ _ _); k_here; k_dflt (refine' useT3 (c_to_g_p _ _ _ _ _ _ _ _ _ _ _) ?k1 ?k2 ?k3 ?k4 ?k5 ?kK ?kp ?kd ?ku ?_; (case k1 => k_asm); (case k2 => k_asm); (case k3 => k_asm); (case k4 => k_asm); (case k5 => k_asm); (case kK => first | exact rfl | assumption); (case kp => first | with_reducible assumption | assumption); (case kd => ktr_room); (case ku => ktr_units); intro D9 t90 t91 t92 c9 h9 tk9 F9 N9; (try dsimp only); (try k_fold))))
def w1 (y : Int) : Int := if tjg y 1 1 % 7 > 3 then tjg y 1 1 - tjg y 1 1 % 7 + 7 else tjg y 1 1 - tjg y 1 1 % 7
def pw (j : Int) : Int := j + -1 * 1 - (j + -1 * 1 - 6) % 7
def tjw (y k d : Int) : Int := d + (7 * k + pw (tjg (y - 1) 12 28))
def isY (y t : Int) : Int := if (t - w1 y).fdiv 7 < 0 then y - 1 else if 52 ≤ (t - w1 y).fdiv 7 ∧ w1 (y + 1) ≤ t then y + 1 else y
def isW (y t : Int) : Int := if (t - w1 y).fdiv 7 < 0 then (t - w1 (y - 1)).fdiv 7 else if 52 ≤ (t - w1 y).fdiv 7 ∧ w1 (y + 1) ≤ t then 0 else (t - w1 y).fdiv 7
def isD (y t : Int) : Int := if (t - w1 y).fdiv 7 < 0 then (t - w1 (y - 1)).fmod 7 else (t - w1 y).fmod 7

theorem c_jwday (w mean mg mb) : ∀ news j tj, ConV w mean mg mb 43 1 news (True) [.int j tj] (fun t => .int (j % 7) t) := by
  intro news j tj
  unfold ConV
  dsimp only [Kf, Tp]
  k_fill
  intro dp' un' gd' cn' cs' a' ccd' cl' outer' A' base' h' L' fr' s' Q' E' hB hF hX hN hT hk hpre hd hu hret
  all_goals (
  refine wpAny_call ?_
  k_dflt (refine' code_def ?k1 ?k2 ?k3 ?k4 ?k5 ?kA ?kF ?kK ?k6 ?k7 ?k8 ?k9 ?kB ?_ ?c2 ?c3 ?c4 ?c5; (case kA => exact rfl); (case kF => exact rfl); (case kK => assumption); (case k1 => k_asm); (case k2 => k_asm); (case k3 => k_asm); (case k4 => k_asm); (case k5 => k_asm); (case k6 => k_is); (case k7 => k_is); (case k8 => ktr_room); (case k9 => first | exact BindsTo.of_eq rfl | exact binds_K (by k_in) rfl (by k_is) rfl rfl rfl); (case c5 => decide); (case kB => exact locs rfl); (case c2 => exact rfl); (case c3 => exact rfl); (case c4 => exact rfl); k_whole; intro g' L' h' FG' F' N' B' X' T'; (try dsimp only); (try k_lift B'); (try k_fold))
  k_steps)
  all_goals (refine' endI hret ?e1 ?e2 ?e3 ?e4; (case e2 => k_asm); (case e3 => k_asm); (case e4 => first | exact fun _ h => h | exact fun _ h => .tail _ h | exact fun _ h => .tail _ (.tail _ h) | exact fun _ h => .tail _ (.tail _ (.tail _ h)) | exact fun _ h => .tail _ (.tail _ (.tail _ (.tail _ h))) | exact fun _ h => .tail _ (.tail _ (.tail _ (.tail _ (.tail _ h)))) | exact fun _ h => .tail _ (.tail _ (.tail _ (.tail _ (.tail _ (.tail _ h))))) | exact fun _ h => .tail _ (.tail _ (.tail _ (.tail _ (.tail _ (.tail _ (.tail _ h)))))) | exact fun _ h => .tail _ (.tail _ (.tail _ (.tail _ (.tail _ (.tail _ (.tail _ (.tail _ h))))))) | kcj_all); (case e1 => rfl))
local macro_rules | `(tactic| walk_at "call ref") => `(tactic| ((with_reducible show wpAny _ _ (call (Value.ref 43) _) _ _ _); k_here; k_dflt (refine' useV (c_jwday _ _ _ _ _ _ _) ?k1 ?k2 ?k3 ?k4 ?k5 ?kK ?kp ?kd ?ku ?_; (case k1 => k_asm); (case k2 => k_asm); (case k3 => k_asm); (case k4 => k_asm); (case k5 => k_asm); (case kK => first | exact rfl | assumption); (case kp => exact True.intro); (case kd => ktr_room); (case ku => ktr_units); intro t9 h9 tk9 F9 N9; (try dsimp only); (try k_fold))))
theorem c_wbef (w mean mg mb) : ∀ news x tx j tj, ConV w mean mg mb 50 2 news (True) [.int x tx, .int j tj] (fun t => .int (j - (j - x) % 7) t) := by
  intro news x tx j tj
  unfold ConV
  dsimp only [Kf, Tp]
  k_fill
  intro dp' un' gd' cn' cs' a' ccd' cl' outer' A' base' h' L' fr' s' Q' E' hB hF hX hN hT hk hpre hd hu hret
  all_goals (
  refine wpAny_call ?_
  k_dflt (refine' code_def ?k1 ?k2 ?k3 ?k4 ?k5 ?kA ?kF ?kK ?k6 ?k7 ?k8 ?k9 ?kB ?_ ?c2 ?c3 ?c4 ?c5; (case kA => exact rfl); (case kF => exact rfl); (case kK => assumption); (case k1 => k_asm); (case k2 => k_asm); (case k3 => k_asm); (case k4 => k_asm); (case k5 => k_asm); (case k6 => k_is); (case k7 => k_is); (case k8 => ktr_room); (case k9 => first | exact BindsTo.of_eq rfl | exact binds_K (by k_in) rfl (by k_is) rfl rfl rfl); (case c5 => decide); (case kB => exact locs rfl); (case c2 => exact rfl); (case c3 => exact rfl); (case c4 => exact rfl); k_whole; intro g' L' h' FG' F' N' B' X' T'; (try dsimp only); (try k_lift B'); (try k_fold))
  k_steps)
  all_goals (refine' endI hret ?e1 ?e2 ?e3 ?e4; (case e2 => k_asm); (case e3 => k_asm); (case e4 => first | exact fun _ h => h | exact fun _ h => .tail _ h | exact fun _ h => .tail _ (.tail _ h) | exact fun _ h => .tail _ (.tail _ (.tail _ h)) | exact fun _ h => .tail _ (.tail _ (.tail _ (.tail _ h))) | exact fun _ h => .tail _ (.tail _ (.tail _ (.tail _ (.tail _ h)))) | exact fun _ h => .tail _ (.tail _ (.tail _ (.tail _ (.tail _ (.tail _ h))))) | exact fun _ h => .tail _ (.tail _ (.tail _ (.tail _ (.tail _ (.tail _ (.tail _ h)))))) | exact fun _ h => .tail _ (.tail _ (.tail _ (.tail _ (.tail _ (.tail _ (.tail _ (.tail _ h))))))) | kcj_all); (case e1 => rfl))
local macro_rules | `(tactic| walk_at "call ref") => `(tactic| ((with_reducible show wpAny _ _ (call (Value.ref 50) _) _ _ _); k_here; k_dflt (refine' useV (c_wbef _ _ _ _ _ _ _ _ _) ?k1 ?k2 ?k3 ?k4 ?k5 ?kK ?kp ?kd ?ku ?_; (case k1 => k_asm); (case k2 => k_asm); (case k3 => k_asm); (case k4 => k_asm); (case k5 => k_asm); (case kK => first | exact rfl | assumption); (case kp => exact True.intro); (case kd => ktr_room); (case ku => ktr_units); intro t9 h9 tk9 F9 N9; (try dsimp only); (try k_fold))))
theorem c_swd (w mean mg mb) : ∀ news x tx j tj tl2 tl3, ConV w mean mg mb 57 3 news (True) [.int x tx, .int j tj, .int (-1) tl2, .int (1) tl3] (fun t => .int ((j + -1 * 1) - (j + -1 * 1 - x) % 7) t) := by
  intro news x tx j tj tl2 tl3
  unfold ConV
  dsimp only [Kf, Tp]
  k_fill
  intro dp' un' gd' cn' cs' a' ccd' cl' outer' A' base' h' L' fr' s' Q' E' hB hF hX hN hT hk hpre hd hu hret
  all_goals (
  refine wpAny_call ?_
  k_dflt (refine' code_def ?k1 ?k2 ?k3 ?k4 ?k5 ?kA ?kF ?kK ?k6 ?k7 ?k8 ?k9 ?kB ?_ ?c2 ?c3 ?c4 ?c5; (case kA => exact rfl); (case kF => exact rfl); (case kK => assumption); (case k1 => k_asm); (case k2 => k_asm); (case k3 => k_asm); (case k4 => k_asm); (case k5 => k_asm); (case k6 => k_is); (case k7 => k_is); (case k8 => ktr_room); (case k9 => first | exact BindsTo.of_eq rfl | exact binds_K (by k_in) rfl (by k_is) rfl rfl rfl); (case c5 => decide); (case kB => exact locs rfl); (case c2 => exact rfl); (case c3 => exact rfl); (case c4 => exact rfl); k_whole; intro g' L' h' FG' F' N' B' X' T'; (try dsimp only); (try k_lift B'); (try k_fold))
  k_steps)
  all_goals (refine' endI hret ?e1 ?e2 ?e3 ?e4; (case e2 => k_asm); (case e3 => k_asm); (case e4 => first | exact fun _ h => h | exact fun _ h => .tail _ h | exact fun _ h => .tail _ (.tail _ h) | exact fun _ h => .tail _ (.tail _ (.tail _ h)) | exact fun _ h => .tail _ (.tail _ (.tail _ (.tail _ h))) | exact fun _ h => .tail _ (.tail _ (.tail _ (.tail _ (.tail _ h)))) | exact fun _ h => .tail _ (.tail _ (.tail _ (.tail _ (.tail _ (.tail _ h))))) | exact fun _ h => .tail _ (.tail _ (.tail _ (.tail _ (.tail _ (.tail _ (.tail _ h)))))) | exact fun _ h => .tail _ (.tail _ (.tail _ (.tail _ (.tail _ (.tail _ (.tail _ (.tail _ h))))))) | kcj_all); (case e1 => rfl))
local macro_rules | `(tactic| walk_at "call ref") => `(tactic| ((with_reducible show wpAny _ _ (call (Value.ref 57) _) _ _ _); k_here; k_dflt (refine' useV (c_swd _ _ _ _ _ _ _ _ _ _ _) ?k1 ?k2 ?k3 ?k4 ?k5 ?kK ?kp ?kd ?ku ?_; (case k1 => k_asm); (case k2 => k_asm); (case k3 => k_asm); (case k4 => k_asm); (case k5 => k_asm); (case kK => first | exact rfl | assumption); (case kp => exact True.intro); (case kd => ktr_room); (case ku => ktr_units); intro t9 h9 tk9 F9 N9; (try dsimp only); (try k_fold))))
theorem c_pwd (w mean mg mb) : ∀ news x tx j tj, ConV w mean mg mb 71 4 news (True) [.int x tx, .int j tj] (fun t => .int (j + -1 * 1 - (j + -1 * 1 - x) % 7) t) := by
  intro news x tx j tj
  unfold ConV
  dsimp only [Kf, Tp]
  k_fill
  intro dp' un' gd' cn' cs' a' ccd' cl' outer' A' base' h' L' fr' s' Q' E' hB hF hX hN hT hk hpre hd hu hret
  all_goals (
  refine wpAny_call ?_
  k_dflt (refine' code_def ?k1 ?k2 ?k3 ?k4 ?k5 ?kA ?kF ?kK ?k6 ?k7 ?k8 ?k9 ?kB ?_ ?c2 ?c3 ?c4 ?c5; (case kA => exact rfl); (case kF => exact rfl); (case kK => assumption); (case k1 => k_asm); (case k2 => k_asm); (case k3 => k_asm); (case k4 => k_asm); (case k5 => k_asm); (case k6 => k_is); (case k7 => k_is); (case k8 => ktr_room); (case k9 => first | exact BindsTo.of_eq rfl | exact binds_K (by k_in) rfl (by k_is) rfl rfl rfl); (case c5 => decide); (case kB => exact locs rfl); (case c2 => exact rfl); (case c3 => exact rfl); (case c4 => exact rfl); k_whole; intro g' L' h' FG' F' N' B' X' T'; (try dsimp only); (try k_lift B'); (try k_fold))
  k_steps)
  all_goals (refine' endI hret ?e1 ?e2 ?e3 ?e4; (case e2 => k_asm); (case e3 => k_asm); (case e4 => first | exact fun _ h => h | exact fun _ h => .tail _ h | exact fun _ h => .tail _ (.tail _ h) | exact fun _ h => .tail _ (.tail _ (.tail _ h)) | exact fun _ h => .tail _ (.tail _ (.tail _ (.tail _ h))) | exact fun _ h => .tail _ (.tail _ (.tail _ (.tail _ (.tail _ h)))) | exact fun _ h => .tail _ (.tail _ (.tail _ (.tail _ (.tail _ (.tail _ h))))) | exact fun _ h => .tail _ (.tail _ (.tail _ (.tail _ (.tail _ (.tail _ (.tail _ h)))))) | exact fun _ h => .tail _ (.tail _ (.tail _ (.tail _ (.tail _ (.tail _ (.tail _ (.tail _ h))))))) | kcj_all); (case e1 => rfl))
local macro_rules | `(tactic| walk_at "call ref") => `(tactic| ((with_reducible show wpAny _ _ (call (Value.ref 71) _) _ _ _); k_here; k_dflt (refine' useV (c_pwd _ _ _ _ _ _ _ _ _) ?k1 ?k2 ?k3 ?k4 ?k5 ?kK ?kp ?kd ?ku ?_; (case k1 => k_asm); (case k2 => k_asm); (case k3 => k_asm); (case k4 => k_asm); (case k5 => k_asm); (case kK => first | exact rfl | assumption); (case kp => exact True.intro); (case kd => ktr_room); (case ku => ktr_units); intro t9 h9 tk9 F9 N9; (try dsimp only); (try k_fold))))
theorem c_nwk (w mean mg mb) : ∀ news x tx j tj n tn, ConV w mean mg mb 78 5 news (0 < n) [.int x tx, .int j tj, .int n tn] (fun t => .int (7 * n + (j + -1 * 1 - (j + -1 * 1 - x) % 7)) t) := by
  intro news x tx j tj n tn
  unfold ConV
  dsimp only [Kf, Tp]
  k_fill
  intro dp' un' gd' cn' cs' a' ccd' cl' outer' A' base' h' L' fr' s' Q' E' hB hF hX hN hT hk hpre hd hu hret
  all_goals (
  refine wpAny_call ?_
  k_dflt (refine' code_def ?k1 ?k2 ?k3 ?k4 ?k5 ?kA ?kF ?kK ?k6 ?k7 ?k8 ?k9 ?kB ?_ ?c2 ?c3 ?c4 ?c5; (case kA => exact rfl); (case kF => exact rfl); (case kK => assumption); (case k1 => k_asm); (case k2 => k_asm); (case k3 => k_asm); (case k4 => k_asm); (case k5 => k_asm); (case k6 => k_is); (case k7 => k_is); (case k8 => ktr_room); (case k9 => first | exact BindsTo.of_eq rfl | exact binds_K (by k_in) rfl (by k_is) rfl rfl rfl); (case c5 => decide); (case kB => exact locs rfl); (case c2 => exact rfl); (case c3 => exact rfl); (case c4 => exact rfl); k_whole; intro g' L' h' FG' F' N' B' X' T'; (try dsimp only); (try k_lift B'); (try k_fold))
  k_steps)
  all_goals (refine' endI hret ?e1 ?e2 ?e3 ?e4; (case e2 => k_asm); (case e3 => k_asm); (case e4 => first | exact fun _ h => h | exact fun _ h => .tail _ h | exact fun _ h => .tail _ (.tail _ h) | exact fun _ h => .tail _ (.tail _ (.tail _ h)) | exact fun _ h => .tail _ (.tail _ (.tail _ (.tail _ h))) | exact fun _ h => .tail _ (.tail _ (.tail _ (.tail _ (.tail _ h)))) | exact fun _ h => .tail _ (.tail _ (.tail _ (.tail _ (.tail _ (.tail _ h))))) | exact fun _ h => .tail _ (.tail _ (.tail _ (.tail _ (.tail _ (.tail _ (.tail _ h)))))) | exact fun _ h => .tail _ (.tail _ (.tail _ (.tail _ (.tail _ (.tail _ (.tail _ (.tail _ h))))))) | kcj_all); (case e1 => rfl))
local macro_rules | `(tactic| walk_at "call ref") => `(tactic| ((with_reducible show wpAny _ _ (call (Value.ref 78) _) _ _ _); k_here; k_dflt (refine' useV (c_nwk _ _ _ _ _ _ _ _ _ _ _) ?k1 ?k2 ?k3 ?k4 ?k5 ?kK ?kp ?kd ?ku ?_; (case k1 => k_asm); (case k2 => k_asm); (case k3 => k_asm); (case k4 => k_asm); (case k5 => k_asm); (case kK => first | exact rfl | assumption); (case kp => first | with_reducible assumption | assumption | omega); (case kd => ktr_room); (case ku => ktr_units); intro t9 h9 tk9 F9 N9; (try dsimp only); (try k_fold))))
theorem c_to_jd_w (w mean mg mb) : ∀ news y ty k2 tk2 d td, ConV w mean mg mb 374 6 news (0 < k2) [.int y ty, .int k2 tk2, .int d td] (fun t => .int (tjw y k2 d) t) := by
  intro news y ty k2 tk2 d td
  unfold ConV
  dsimp only [Kf, Tp]
  k_fill
  intro dp' un' gd' cn' cs' a' ccd' cl' outer' A' base' h' L' fr' s' Q' E' hB hF hX hN hT hk hpre hd hu hret
  all_goals (
  refine wpAny_call ?_
  k_dflt (refine' code_def ?k1 ?k2 ?k3 ?k4 ?k5 ?kA ?kF ?kK ?k6 ?k7 ?k8 ?k9 ?kB ?_ ?c2 ?c3 ?c4 ?c5; (case kA => exact rfl); (case kF => exact rfl); (case kK => assumption); (case k1 => k_asm); (case k2 => k_asm); (case k3 => k_asm); (case k4 => k_asm); (case k5 => k_asm); (case k6 => k_is); (case k7 => k_is); (case k8 => ktr_room); (case k9 => first | exact BindsTo.of_eq rfl | exact binds_K (by k_in) rfl (by k_is) rfl rfl rfl); (case c5 => decide); (case kB => exact locs rfl); (case c2 => exact rfl); (case c3 => exact rfl); (case c4 => exact rfl); k_whole; intro g' L' h' FG' F' N' B' X' T'; (try dsimp only); (try k_lift B'); (try k_fold))
  k_steps)
  all_goals (refine' endI hret ?e1 ?e2 ?e3 ?e4; (case e2 => k_asm); (case e3 => k_asm); (case e4 => first | exact fun _ h => h | exact fun _ h => .tail _ h | exact fun _ h => .tail _ (.tail _ h) | exact fun _ h => .tail _ (.tail _ (.tail _ h)) | exact fun _ h => .tail _ (.tail _ (.tail _ (.tail _ h))) | exact fun _ h => .tail _ (.tail _ (.tail _ (.tail _ (.tail _ h)))) | exact fun _ h => .tail _ (.tail _ (.tail _ (.tail _ (.tail _ (.tail _ h))))) | exact fun _ h => .tail _ (.tail _ (.tail _ (.tail _ (.tail _ (.tail _ (.tail _ h)))))) | exact fun _ h => .tail _ (.tail _ (.tail _ (.tail _ (.tail _ (.tail _ (.tail _ (.tail _ h))))))) | kcj_all); (case e1 => rfl))
local macro_rules | `(tactic| walk_at "call ref") => `(tactic| ((with_reducible show wpAny _ _ (call (Value.ref 374) _) _ _ _); k_here; k_dflt (refine' useV (c_to_jd_w _ _ _ _ _ _ _ _ _ _ _) ?k1 ?k2 ?k3 ?k4 ?k5 ?kK ?kp ?kd ?ku ?_; (case k1 => k_asm); (case k2 => k_asm); (case k3 => k_asm); (case k4 => k_asm); (case k5 => k_asm); (case kK => first | exact rfl | assumption); (case kp => first | with_reducible assumption | assumption | omega); (case kd => ktr_room); (case ku => ktr_units); intro t9 h9 tk9 F9 N9; (try dsimp only); (try k_fold))))
section
set_option hygiene false in
local macro_rules | `(tactic| walk_at "exec If") => `(tactic| ((with_reducible show wpAny _ _ (exec (Stmt.If (Expr.Compare (Expr.Name (Str.ofString "weekday") _) _ _ _) _ _ _) _) _ _ _); (fail_if_success (rename JMark => hM)); k_here; (rename Fr _ _ _ _ => cF'); (rename News _ _ _ _ => cN'); k_dflt (refine' join_int (Str.ofString "monday") (w1 y) cF' cN' (fun hM => ?_) (fun t9 h9 tk9 F9 N9 => ?_)); (all_goals (try k_fold)); (all_goals (try k_sweep))))
local macro_rules | `(tactic| walk_at "JoinV") => `(tactic| (first | (refine' join_end ?jf ?jn ?jm ?js ?je; (case jf => k_asm); (case jn => k_asm); (case jm => first | exact rfl | with_unfolding_all rfl); (case js => first | exact fun _ h => h | exact fun _ h => .tail _ h | exact fun _ h => .tail _ (.tail _ h) | exact fun _ h => .tail _ (.tail _ (.tail _ h)) | exact fun _ h => .tail _ (.tail _ (.tail _ (.tail _ h))) | exact fun _ h => .tail _ (.tail _ (.tail _ (.tail _ (.tail _ h)))) | exact fun _ h => .tail _ (.tail _ (.tail _ (.tail _ (.tail _ (.tail _ h))))) | exact fun _ h => .tail _ (.tail _ (.tail _ (.tail _ (.tail _ (.tail _ (.tail _ h)))))) | exact fun _ h => .tail _ (.tail _ (.tail _ (.tail _ (.tail _ (.tail _ (.tail _ (.tail _ h))))))) | kcj_all); (case je => first | rfl | (((try unfold w1); first | exact (if_pos (by first | assumption | exact Bool.eq_false_iff.mp (by assumption))).symm | exact ((if_neg (by first | assumption | exact Bool.eq_false_iff.mp (by assumption))).trans (if_pos (by first | assumption | exact Bool.eq_false_iff.mp (by assumption)))).symm | exact ((if_neg (by first | assumption | exact Bool.eq_false_iff.mp (by assumption))).trans (if_neg (by first | assumption | exact Bool.eq_false_iff.mp (by assumption)))).symm | exact (if_neg (by first | assumption | exact Bool.eq_false_iff.mp (by assumption))).symm)))) | (refine' join_same ?jf ?jn ?jm ?js ?je; (case jf => k_asm); (case jn => k_asm); (case jm => first | exact rfl | with_unfolding_all rfl); (case js => first | exact fun _ h => h | exact fun _ h => .tail _ h | exact fun _ h => .tail _ (.tail _ h) | exact fun _ h => .tail _ (.tail _ (.tail _ h)) | exact fun _ h => .tail _ (.tail _ (.tail _ (.tail _ h))) | exact fun _ h => .tail _ (.tail _ (.tail _ (.tail _ (.tail _ h)))) | exact fun _ h => .tail _ (.tail _ (.tail _ (.tail _ (.tail _ (.tail _ h))))) | exact fun _ h => .tail _ (.tail _ (.tail _ (.tail _ (.tail _ (.tail _ (.tail _ h)))))) | exact fun _ h => .tail _ (.tail _ (.tail _ (.tail _ (.tail _ (.tail _ (.tail _ (.tail _ h))))))) | kcj_all); (case je => first | rfl | (((try unfold w1); first | exact (if_pos (by first | assumption | exact Bool.eq_false_iff.mp (by assumption))).symm | exact ((if_neg (by first | assumption | exact Bool.eq_false_iff.mp (by assumption))).trans (if_pos (by first | assumption | exact Bool.eq_false_iff.mp (by assumption)))).symm | exact ((if_neg (by first | assumption | exact Bool.eq_false_iff.mp (by assumption))).trans (if_neg (by first | assumption | exact Bool.eq_false_iff.mp (by assumption)))).symm | exact (if_neg (by first | assumption | exact Bool.eq_false_iff.mp (by assumption))).symm))))))
theorem c_w1m (w mean mg mb) : ∀ news y ty, ConV w mean mg mb 388 4 news (True) [.int y ty] (fun t => .int (w1 y) t) := by
  intro news y ty
  unfold ConV
  dsimp only [Kf, Tp]
  k_fill
  intro dp' un' gd' cn' cs' a' ccd' cl' outer' A' base' h' L' fr' s' Q' E' hB hF hX hN hT hk hpre hd hu hret
  all_goals (
  refine wpAny_call ?_
  k_dflt (refine' code_def ?k1 ?k2 ?k3 ?k4 ?k5 ?kA ?kF ?kK ?k6 ?k7 ?k8 ?k9 ?kB ?_ ?c2 ?c3 ?c4 ?c5; (case kA => exact rfl); (case kF => exact rfl); (case kK => assumption); (case k1 => k_asm); (case k2 => k_asm); (case k3 => k_asm); (case k4 => k_asm); (case k5 => k_asm); (case k6 => k_is); (case k7 => k_is); (case k8 => ktr_room); (case k9 => first | exact BindsTo.of_eq rfl | exact binds_K (by k_in) rfl (by k_is) rfl rfl rfl); (case c5 => decide); (case kB => exact locs rfl); (case c2 => exact rfl); (case c3 => exact rfl); (case c4 => exact rfl); k_whole; intro g' L' h' FG' F' N' B' X' T'; (try dsimp only); (try k_lift B'); (try k_fold))
  k_steps)
  all_goals (refine' endI hret ?e1 ?e2 ?e3 ?e4; (case e2 => k_asm); (case e3 => k_asm); (case e4 => first | exact fun _ h => h | exact fun _ h => .tail _ h | exact fun _ h => .tail _ (.tail _ h) | exact fun _ h => .tail _ (.tail _ (.tail _ h)) | exact fun _ h => .tail _ (.tail _ (.tail _ (.tail _ h))) | exact fun _ h => .tail _ (.tail _ (.tail _ (.tail _ (.tail _ h)))) | exact fun _ h => .tail _ (.tail _ (.tail _ (.tail _ (.tail _ (.tail _ h))))) | exact fun _ h => .tail _ (.tail _ (.tail _ (.tail _ (.tail _ (.tail _ (.tail _ h)))))) | exact fun _ h => .tail _ (.tail _ (.tail _ (.tail _ (.tail _ (.tail _ (.tail _ (.tail _ h))))))) | kcj_all); (case e1 => rfl))
end
local macro_rules | `(tactic| walk_at "call ref") => `(tactic| ((with_reducible show wpAny _ _ (call (Value.ref 388) _) _ _ _); k_here; k_dflt (refine' useV (c_w1m _ _ _ _ _ _ _) ?k1 ?k2 ?k3 ?k4 ?k5 ?kK ?kp ?kd ?ku ?_; (case k1 => k_asm); (case k2 => k_asm); (case k3 => k_asm); (case k4 => k_asm); (case k5 => k_asm); (case kK => first | exact rfl | assumption); (case kp => exact True.intro); (case kd => ktr_room); (case ku => ktr_units); intro t9 h9 tk9 F9 N9; (try dsimp only); (try k_fold))))
theorem md2 {y m : Int} (h : m = 2) (l : leapB y = true) : ([0, 31, 28, 31, 30, 31, 30, 31, 31, 30, 31, 30, 31] : List Int).getD m.toNat 0 + 1 = dimg y m := by
  subst h; simp [dimg, l]
theorem md2f {y m : Int} (h : m = 2) (l : leapB y = false) : ([0, 31, 28, 31, 30, 31, 30, 31, 31, 30, 31, 30, 31] : List Int).getD m.toNat 0 + 0 = dimg y m := by
  subst h; simp [dimg, l]
theorem md0 {y m : Int} (h1 : 1 ≤ m) (h2 : m ≤ 12) (h : m ≠ 2) : ([0, 31, 28, 31, 30, 31, 30, 31, 31, 30, 31, 30, 31] : List Int).getD m.toNat 0 + 0 = dimg y m := by
  have : m = 1 ∨ m = 3 ∨ m = 4 ∨ m = 5 ∨ m = 6 ∨ m = 7 ∨ m = 8 ∨ m = 9 ∨ m = 10 ∨ m = 11 ∨ m = 12 := by omega
  rcases this with rfl | rfl | rfl | rfl | rfl | rfl | rfl | rfl | rfl | rfl | rfl <;> simp [dimg]

section
local macro_rules | `(tactic| walk_at "exec For") => `(tactic| (k_here; (rename Fr _ _ _ _ => lF'); (with_unfolding_all refine' For_invVF lF' ?k1 ?k2 ?_; (case k1 => exact rfl); (case k2 => exact rfl); k_whole)))
local macro_rules | `(tactic| walk_at "subscriptTail Name Slice ref ref") => `(tactic| (k_here; k_dflt (refine' cut_tuple ?k1 ?k2 (tupK ?k3 ?k4 ?k5 ?k6 ?k7) ?k8 ?k9 ?kz ?_; (case k1 => k_asm); (case k2 => k_asm); (case k3 => k_asm); (case k4 => k_asm); (case k5 => k_is); (case k6 => exact rfl); (case k7 => exact rfl); (case k8 => omega); (case k9 => (simp only [List.size_toArray, List.length_cons, List.length_nil]; omega)); (case kz => decide); intro D9 h9 F9 N9)))
local macro_rules | `(tactic| walk_at "pyIter ref") => `(tactic| (k_here; k_dflt (refine' tup_loop ?k1 ?k2 ?k3 ?k4 ?k5 ?k6 ?k7 ?k8 ?k9 ?ka ?_; (case k1 => k_asm); (case k2 => k_asm); (case k3 => exact all_ints (ns := [0, 31, 28, 31, 30, 31, 30, 31, 31, 30, 31, 30, 31]) (.cons _ _ (.cons _ _ (.cons _ _ (.cons _ _ (.cons _ _ (.cons _ _ (.cons _ _ (.cons _ _ (.cons _ _ (.cons _ _ (.cons _ _ (.cons _ _ (.cons _ _ (.nil))))))))))))))); (case k4 => decide); (case k5 => rfl); (case k6 => rfl); (case k7 => rfl); (case k8 => rfl); (case k9 => rfl); (case ka => decide); intro n9 t9 u9 h9 tk9 F9 N9)))
set_option hygiene false in
local macro_rules | `(tactic| walk_at "exec If") => `(tactic| ((with_reducible show wpAny _ _ (exec (Stmt.If (Expr.BoolOp _ _ _) _ _ _) _) _ _ _); (fail_if_success (rename JMark => hM)); k_here; (rename Fr _ _ _ _ => cF'); (rename News _ _ _ _ => cN'); k_dflt (refine' join_any (Str.ofString "first") cF' cN' (fun hM => ?_) (fun v9 t9 h9 tk9 F9 N9 => ?_)); (all_goals (try k_fold)); (all_goals (try k_sweep))))
local macro_rules | `(tactic| walk_at "JoinA") => `(tactic| (first | (refine' joinA_end ?jf ?jn ?jm ?js; (case jf => k_asm); (case jn => k_asm); (case jm => first | exact rfl | with_unfolding_all rfl); (case js => first | exact fun _ h => h | exact fun _ h => .tail _ h | exact fun _ h => .tail _ (.tail _ h) | exact fun _ h => .tail _ (.tail _ (.tail _ h)) | exact fun _ h => .tail _ (.tail _ (.tail _ (.tail _ h))) | exact fun _ h => .tail _ (.tail _ (.tail _ (.tail _ (.tail _ h)))) | exact fun _ h => .tail _ (.tail _ (.tail _ (.tail _ (.tail _ (.tail _ h))))) | exact fun _ h => .tail _ (.tail _ (.tail _ (.tail _ (.tail _ (.tail _ (.tail _ h)))))) | exact fun _ h => .tail _ (.tail _ (.tail _ (.tail _ (.tail _ (.tail _ (.tail _ (.tail _ h))))))) | kcj_all)) | (refine' joinA_same ?jf ?jn ?jm ?js; (case jf => k_asm); (case jn => k_asm); (case jm => first | exact rfl | with_unfolding_all rfl); (case js => first | exact fun _ h => h | exact fun _ h => .tail _ h | exact fun _ h => .tail _ (.tail _ h) | exact fun _ h => .tail _ (.tail _ (.tail _ h)) | exact fun _ h => .tail _ (.tail _ (.tail _ (.tail _ h))) | exact fun _ h => .tail _ (.tail _ (.tail _ (.tail _ (.tail _ h)))) | exact fun _ h => .tail _ (.tail _ (.tail _ (.tail _ (.tail _ (.tail _ h))))) | exact fun _ h => .tail _ (.tail _ (.tail _ (.tail _ (.tail _ (.tail _ (.tail _ h)))))) | exact fun _ h => .tail _ (.tail _ (.tail _ (.tail _ (.tail _ (.tail _ (.tail _ (.tail _ h))))))) | kcj_all))))
theorem c_mrange (w mean mg mb) : ∀ news y ty m tm, ConE w mean mg mb 29 2 news (1 ≤ m ∧ m ≤ 12) [.int y ty, .int m tm] (dimg y m) := by
  intro news y ty m tm
  unfold ConE
  dsimp only [Kf, Tp]
  k_fill
  intro dp' un' gd' cn' cs' a' ccd' cl' outer' A' base' h' L' fr' s' Q' E' hB hF hX hN hT hk hpre hd hu hret
  obtain ⟨p1, p2⟩ := hpre
  all_goals (
  refine wpAny_call ?_
  k_dflt (refine' code_def ?k1 ?k2 ?k3 ?k4 ?k5 ?kA ?kF ?kK ?k6 ?k7 ?k8 ?k9 ?kB ?_ ?c2 ?c3 ?c4 ?c5; (case kA => exact rfl); (case kF => exact rfl); (case kK => assumption); (case k1 => k_asm); (case k2 => k_asm); (case k3 => k_asm); (case k4 => k_asm); (case k5 => k_asm); (case k6 => k_is); (case k7 => k_is); (case k8 => ktr_room); (case k9 => first | exact BindsTo.of_eq rfl | exact binds_K (by k_in) rfl (by k_is) rfl rfl rfl); (case c5 => decide); (case kB => exact locs rfl); (case c2 => exact rfl); (case c3 => exact rfl); (case c4 => exact rfl); k_whole; intro g' L' h' FG' F' N' B' X' T'; (try dsimp only); (try k_lift B'); (try k_fold))
  k_steps)
  all_goals (refine' endE hret ?e2 ?e3 ?e5 ?e1 ?e4; (case e2 => k_asm); (case e3 => k_asm); (case e5 => k_mem); (case e4 => first | exact fun _ h => h | exact fun _ h => .tail _ h | exact fun _ h => .tail _ (.tail _ h) | exact fun _ h => .tail _ (.tail _ (.tail _ h)) | exact fun _ h => .tail _ (.tail _ (.tail _ (.tail _ h))) | exact fun _ h => .tail _ (.tail _ (.tail _ (.tail _ (.tail _ h)))) | exact fun _ h => .tail _ (.tail _ (.tail _ (.tail _ (.tail _ (.tail _ h))))) | exact fun _ h => .tail _ (.tail _ (.tail _ (.tail _ (.tail _ (.tail _ (.tail _ h)))))) | exact fun _ h => .tail _ (.tail _ (.tail _ (.tail _ (.tail _ (.tail _ (.tail _ (.tail _ h))))))) | kcj_all); (case e1 => first | exact md2 (by assumption) (by assumption) | exact md2f (by assumption) (by assumption) | exact md0 p1 p2 (by assumption)))
end
local macro_rules | `(tactic| walk_at "call ref") => `(tactic| ((with_reducible show wpAny _ _ (call (Value.ref 29) _) _ _ _); k_here; k_dflt (refine' useE (c_mrange _ _ _ _ _ _ _ _ _) ?k1 ?k2 ?k3 ?k4 ?k5 ?kK ?kp ?kd ?ku ?_; (case k1 => k_asm); (case k2 => k_asm); (case k3 => k_asm); (case k4 => k_asm); (case k5 => k_asm); (case kK => first | exact rfl | assumption); (case kp => first | with_reducible assumption | assumption | omega); (case kd => ktr_room); (case ku => ktr_units); intro x9 D9 t90 t91 c9 h9 tk9 F9 N9; (try dsimp only); (try k_fold))))
theorem c_mlen_g (w mean mg mb) : ∀ news y ty m tm, ConV w mean mg mb 107 3 news (1 ≤ m ∧ m ≤ 12) [.int y ty, .int m tm] (fun t => .int (dimg y m) t) := by
  intro news y ty m tm
  unfold ConV
  dsimp only [Kf, Tp]
  k_fill
  intro dp' un' gd' cn' cs' a' ccd' cl' outer' A' base' h' L' fr' s' Q' E' hB hF hX hN hT hk hpre hd hu hret
  all_goals (
  refine wpAny_call ?_
  k_dflt (refine' code_def ?k1 ?k2 ?k3 ?k4 ?k5 ?kA ?kF ?kK ?k6 ?k7 ?k8 ?k9 ?kB ?_ ?c2 ?c3 ?c4 ?c5; (case kA => exact rfl); (case kF => exact rfl); (case kK => assumption); (case k1 => k_asm); (case k2 => k_asm); (case k3 => k_asm); (case k4 => k_asm); (case k5 => k_asm); (case k6 => k_is); (case k7 => k_is); (case k8 => ktr_room); (case k9 => first | exact BindsTo.of_eq rfl | exact binds_K (by k_in) rfl (by k_is) rfl rfl rfl); (case c5 => decide); (case kB => exact locs rfl); (case c2 => exact rfl); (case c3 => exact rfl); (case c4 => exact rfl); k_whole; intro g' L' h' FG' F' N' B' X' T'; (try dsimp only); (try k_lift B'); (try k_fold))
  k_steps)
  all_goals (refine' endI hret ?e1 ?e2 ?e3 ?e4; (case e2 => k_asm); (case e3 => k_asm); (case e4 => first | exact fun _ h => h | exact fun _ h => .tail _ h | exact fun _ h => .tail _ (.tail _ h) | exact fun _ h => .tail _ (.tail _ (.tail _ h)) | exact fun _ h => .tail _ (.tail _ (.tail _ (.tail _ h))) | exact fun _ h => .tail _ (.tail _ (.tail _ (.tail _ (.tail _ h)))) | exact fun _ h => .tail _ (.tail _ (.tail _ (.tail _ (.tail _ (.tail _ h))))) | exact fun _ h => .tail _ (.tail _ (.tail _ (.tail _ (.tail _ (.tail _ (.tail _ h)))))) | exact fun _ h => .tail _ (.tail _ (.tail _ (.tail _ (.tail _ (.tail _ (.tail _ (.tail _ h))))))) | kcj_all); (case e1 => rfl))
local macro_rules | `(tactic| walk_at "call ref") => `(tactic| ((with_reducible show wpAny _ _ (call (Value.ref 107) _) _ _ _); k_here; k_dflt (refine' useV (c_mlen_g _ _ _ _ _ _ _ _ _) ?k1 ?k2 ?k3 ?k4 ?k5 ?kK ?kp ?kd ?ku ?_; (case k1 => k_asm); (case k2 => k_asm); (case k3 => k_asm); (case k4 => k_asm); (case k5 => k_asm); (case kK => first | exact rfl | assumption); (case kp => first | with_reducible assumption | assumption | omega); (case kd => ktr_room); (case ku => ktr_units); intro t9 h9 tk9 F9 N9; (try dsimp only); (try k_fold))))
theorem c_from_g_w (w mean mg mb) : ∀ news y ty m tm d td, ConT w mean mg mb 395 5 news (1 ≤ y ∧ y ≤ 9999 ∧ 1 ≤ m ∧ m ≤ 12 ∧ 0 < d ∧ d ≤ dimg y m) [.int y ty, .int m tm, .int d td] [isY y (tjg y m d), isW y (tjg y m d) + 1, isD y (tjg y m d) + 1] := by
  intro news y ty m tm d td
  unfold ConT
  dsimp only [Kf, Tp]
  k_fill
  intro dp' un' gd' cn' cs' a' ccd' cl' outer' A' base' h' L' fr' s' Q' E' hB hF hX hN hT hk hpre hd hu hret
  obtain ⟨p1, p2, p3, p4, p5, p6⟩ := hpre
  have p7 : 1 ≤ m ∧ m ≤ 12 := ⟨p3, p4⟩
  have p8 : 0 < d ∧ d ≤ dimg y m := ⟨p5, p6⟩
  all_goals (
  refine wpAny_call ?_
  k_dflt (refine' code_def ?k1 ?k2 ?k3 ?k4 ?k5 ?kA ?kF ?kK ?k6 ?k7 ?k8 ?k9 ?kB ?_ ?c2 ?c3 ?c4 ?c5; (case kA => exact rfl); (case kF => exact rfl); (case kK => assumption); (case k1 => k_asm); (case k2 => k_asm); (case k3 => k_asm); (case k4 => k_asm); (case k5 => k_asm); (case k6 => k_is); (case k7 => k_is); (case k8 => ktr_room); (case k9 => first | exact BindsTo.of_eq rfl | exact binds_K (by k_in) rfl (by k_is) rfl rfl rfl); (case c5 => decide); (case kB => exact locs rfl); (case c2 => exact rfl); (case c3 => exact rfl); (case c4 => exact rfl); k_whole; intro g' L' h' FG' F' N' B' X' T'; (try dsimp only); (try k_lift B'); (try k_fold))
  k_steps)
  all_goals (refine' endT hret ?e2 ?e3 ?e5 ?e6 ?e1 ?e4; (case e2 => k_asm); (case e3 => k_asm); (case e5 => k_mem); (case e6 => (repeat constructor)); (case e4 => first | exact fun _ h => h | exact fun _ h => .tail _ h | exact fun _ h => .tail _ (.tail _ h) | exact fun _ h => .tail _ (.tail _ (.tail _ h)) | exact fun _ h => .tail _ (.tail _ (.tail _ (.tail _ h))) | exact fun _ h => .tail _ (.tail _ (.tail _ (.tail _ (.tail _ h)))) | exact fun _ h => .tail _ (.tail _ (.tail _ (.tail _ (.tail _ (.tail _ h))))) | exact fun _ h => .tail _ (.tail _ (.tail _ (.tail _ (.tail _ (.tail _ (.tail _ h)))))) | exact fun _ h => .tail _ (.tail _ (.tail _ (.tail _ (.tail _ (.tail _ (.tail _ (.tail _ h))))))) | kcj_all); (case e1 => simp only [isY, isW, isD, *, if_true, if_false, if_pos, if_neg, not_false_eq_true, and_self, and_true, true_and, and_false, false_and]))
local macro_rules | `(tactic| walk_at "call ref") => `(tactic| ((with_reducible show wpAny _ _ (call (Value.ref 395) _) _ _ _); k_here; k_dflt (refine' useT3 (c_from_g_w _ _ _ _ _ _ _ _ _ _ _) ?k1 ?k2 ?k3 ?k4 ?k5 ?kK ?kp ?kd ?ku ?_; (case k1 => k_asm); (case k2 => k_asm); (case k3 => k_asm); (case k4 => k_asm); (case k5 => k_asm); (case kK => first | exact rfl | assumption); (case kp => first | with_reducible assumption | assumption); (case kd => ktr_room); (case ku => ktr_units); intro D9 t90 t91 t92 c9 h9 tk9 F9 N9; (try dsimp only); (try k_fold))))
theorem c_from_jd_w (w mean mg mb) : ∀ news n tn, ConT w mean mg mb 381 6 news (1 ≤ fyg n ∧ fyg n ≤ 9999 ∧ 1 ≤ fmg n ∧ fmg n ≤ 12 ∧ okG n) [.int n tn] [isY (fyg n) (tjg (fyg n) (fmg n) (fdg n)), isW (fyg n) (tjg (fyg n) (fmg n) (fdg n)) + 1, isD (fyg n) (tjg (fyg n) (fmg n) (fdg n)) + 1] := by
  intro news n tn
  unfold ConT
  dsimp only [Kf, Tp]
  k_fill
  intro dp' un' gd' cn' cs' a' ccd' cl' outer' A' base' h' L' fr' s' Q' E' hB hF hX hN hT hk hpre hd hu hret
  unfold okG at hpre
  all_goals (
  refine wpAny_call ?_
  k_dflt (refine' code_def ?k1 ?k2 ?k3 ?k4 ?k5 ?kA ?kF ?kK ?k6 ?k7 ?k8 ?k9 ?kB ?_ ?c2 ?c3 ?c4 ?c5; (case kA => exact rfl); (case kF => exact rfl); (case kK => assumption); (case k1 => k_asm); (case k2 => k_asm); (case k3 => k_asm); (case k4 => k_asm); (case k5 => k_asm); (case k6 => k_is); (case k7 => k_is); (case k8 => ktr_room); (case k9 => first | exact BindsTo.of_eq rfl | exact binds_K (by k_in) rfl (by k_is) rfl rfl rfl); (case c5 => decide); (case kB => exact locs rfl); (case c2 => exact rfl); (case c3 => exact rfl); (case c4 => exact rfl); k_whole; intro g' L' h' FG' F' N' B' X' T'; (try dsimp only); (try k_lift B'); (try k_fold))
  k_steps)
  all_goals (refine' endT hret ?e2 ?e3 ?e5 ?e6 ?e1 ?e4; (case e2 => k_asm); (case e3 => k_asm); (case e5 => k_mem); (case e6 => (repeat constructor)); (case e4 => first | exact fun _ h => h | exact fun _ h => .tail _ h | exact fun _ h => .tail _ (.tail _ h) | exact fun _ h => .tail _ (.tail _ (.tail _ h)) | exact fun _ h => .tail _ (.tail _ (.tail _ (.tail _ h))) | exact fun _ h => .tail _ (.tail _ (.tail _ (.tail _ (.tail _ h)))) | exact fun _ h => .tail _ (.tail _ (.tail _ (.tail _ (.tail _ (.tail _ h))))) | exact fun _ h => .tail _ (.tail _ (.tail _ (.tail _ (.tail _ (.tail _ (.tail _ h)))))) | exact fun _ h => .tail _ (.tail _ (.tail _ (.tail _ (.tail _ (.tail _ (.tail _ (.tail _ h))))))) | kcj_all); (case e1 => rfl))
local macro_rules | `(tactic| walk_at "call ref") => `(tactic| ((with_reducible show wpAny _ _ (call (Value.ref 381) _) _ _ _); k_here; k_dflt (refine' useT3 (c_from_jd_w _ _ _ _ _ _ _) ?k1 ?k2 ?k3 ?k4 ?k5 ?kK ?kp ?kd ?ku ?_; (case k1 => k_asm); (case k2 => k_asm); (case k3 => k_asm); (case k4 => k_asm); (case k5 => k_asm); (case kK => first | exact rfl | assumption); (case kp => first | with_reducible assumption | assumption); (case kd => ktr_room); (case ku => ktr_units); intro D9 t90 t91 t92 c9 h9 tk9 F9 N9; (try dsimp only); (try k_fold))))
theorem c_to_g_w (w mean mg mb) : ∀ news y ty k2 tk2 d td, ConT w mean mg mb 402 7 news (0 < k2) [.int y ty, .int k2 tk2, .int d td] [fyg (tjw y k2 d), fmg (tjw y k2 d), fdg (tjw y k2 d)] := by
  intro news y ty k2 tk2 d td
  unfold ConT
  dsimp only [Kf, Tp]
  k_fill
  intro dp' un' gd' cn' cs' a' ccd' cl' outer' A' base' h' L' fr' s' Q' E' hB hF hX hN hT hk hpre hd hu hret
  all_goals (
  refine wpAny_call ?_
  k_dflt (refine' code_def ?k1 ?k2 ?k3 ?k4 ?k5 ?kA ?kF ?kK ?k6 ?k7 ?k8 ?k9 ?kB ?_ ?c2 ?c3 ?c4 ?c5; (case kA => exact rfl); (case kF => exact rfl); (case kK => assumption); (case k1 => k_asm); (case k2 => k_asm); (case k3 => k_asm); (case k4 => k_asm); (case k5 => k_asm); (case k6 => k_is); (case k7 => k_is); (case k8 => ktr_room); (case k9 => first | exact BindsTo.of_eq rfl | exact binds_K (by k_in) rfl (by k_is) rfl rfl rfl); (case c5 => decide); (case kB => exact locs rfl); (case c2 => exact rfl); (case c3 => exact rfl); (case c4 => exact rfl); k_whole; intro g' L' h' FG' F' N' B' X' T'; (try dsimp only); (try k_lift B'); (try k_fold))
  k_steps)
  all_goals (refine' endT hret ?e2 ?e3 ?e5 ?e6 ?e1 ?e4; (case e2 => k_asm); (case e3 => k_asm); (case e5 => k_mem); (case e6 => (repeat constructor)); (case e4 => first | exact fun _ h => h | exact fun _ h => .tail _ h | exact fun _ h => .tail _ (.tail _ h) | exact fun _ h => .tail _ (.tail _ (.tail _ h)) | exact fun _ h => .tail _ (.tail _ (.tail _ (.tail _ h))) | exact fun _ h => .tail _ (.tail _ (.tail _ (.tail _ (.tail _ h)))) | exact fun _ h => .tail _ (.tail _ (.tail _ (.tail _ (.tail _ (.tail _ h))))) | exact fun _ h => .tail _ (.tail _ (.tail _ (.tail _ (.tail _ (.tail _ (.tail _ h)))))) | exact fun _ h => .tail _ (.tail _ (.tail _ (.tail _ (.tail _ (.tail _ (.tail _ (.tail _ h))))))) | kcj_all); (case e1 => rfl))
local macro_rules | `(tactic| walk_at "call ref") => `(tactic| ((with_reducible show wpAny _ _ (call (Value.ref 402) _) _ _ _); k_here; k_dflt (refine' useT3 (c_to_g_w _ _ _ _ _ _ _ _ _ _ _) ?k1 ?k2 ?k3 ?k4 ?k5 ?kK ?kp ?kd ?ku ?_; (case k1 => k_asm); (case k2 => k_asm); (case k3 => k_asm); (case k4 => k_asm); (case k5 => k_asm); (case kK => first | exact rfl | assumption); (case kp => first | with_reducible assumption | assumption | omega); (case kd => ktr_room); (case ku => ktr_units); intro D9 t90 t91 t92 c9 h9 tk9 F9 N9; (try dsimp only); (try k_fold))))
def dyo (n : Int) : Int := tjg (fyg n) (fmg n) (fdg n) - tjg (fyg n) 1 1 + 1
def wY (n : Int) : Int := isY (fyg n) (tjg (fyg n) (fmg n) (fdg n))
def wW (n : Int) : Int := isW (fyg n) (tjg (fyg n) (fmg n) (fdg n)) + 1
def wD (n : Int) : Int := isD (fyg n) (tjg (fyg n) (fmg n) (fdg n)) + 1
/-- the date of the day number n in the way x; the epoch of the count is e -/
def dl (x n e : Int) : List Int :=
  if x = 0 then [n] else if x = 1 then [fyg n, fmg n, fdg n] else if x = 2 then [yj n, mj n, ddj n] else if x = 3 then [yi n, mi n, di n] else if x = 4 then [yc n, mc n, dc n]
  else if x = 5 then [yn n, mn n, dn n] else if x = 6 then [fyg n, dyo n] else if x = 7 then [wY n, wW n, wD n]
  else if x = 8 then [ypp n - 1789 + 2, dpp n / 28 + 1, dpp n - dpp n / 28 * 28 + 1]
  else if x = 9 then [(n - 584283) / 144000, (n - 584283) % 144000 / 7200, (n - 584283) % 144000 % 7200 / 360, (n - 584283) % 144000 % 7200 % 360 / 20, (n - 584283) % 144000 % 7200 % 360 % 20]
  else if x = 10 then [ya n, ma n, da n] else if x = 11 then [ys1 n + 533, (ds1 n - 1) / 30 + 1, ds1 n - 30 * ((ds1 n - 1) / 30)] else [n - e]
/-- what the arithmetic says of a day number of the law -/
structure Facts (n : Int) : Prop where
  g1 : 0 < fdg n ∧ fdg n ≤ dimg (fyg n) (fmg n)
  g2 : tjg (fyg n) (fmg n) (fdg n) = n
  g3 : 1 ≤ fmg n ∧ fmg n ≤ 12
  g4 : 1 ≤ fyg n ∧ fyg n ≤ 9999
  j1 : 0 < ddj n ∧ ddj n ≤ dimj (yj n) (mj n)
  j2 : tjj (yj n) (mj n) (ddj n) = n
  i2 : tji (yi n) (mi n) (di n) = n
  c2 : tjc (yc n) (mc n) (dc n) = n
  n2 : tjn (yn n) (mn n) (dn n) = n
  o1 : 1 ≤ dyo n
  o2 : tjo (fyg n) (dyo n) = n
  o3 : mor (fyg n) (dyo n) = fmg n
  o4 : dyo n - tor (fyg n) (fmg n) 1 + 1 = fdg n
  o5 : tor (fyg n) (fmg n) (fdg n) = dyo n
  w1 : 0 < wW n
  w2 : tjw (wY n) (wW n) (wD n) = n
  p0 : 2374480 ≤ n
  p1 : okP (ypp n - 1789 + 2) (dpp n / 28 + 1) (dpp n - dpp n / 28 * 28 + 1)
  p2 : tjp (ypp n - 1789 + 2) (dpp n / 28 + 1) (dpp n - dpp n / 28 * 28 + 1) = n
  m2 : tjm ((n - 584283) / 144000) ((n - 584283) % 144000 / 7200) ((n - 584283) % 144000 % 7200 / 360) ((n - 584283) % 144000 % 7200 % 360 / 20) ((n - 584283) % 144000 % 7200 % 360 % 20) = n
  a1 : okA (ya n) (ma n) (da n)
  a2 : tja (ya n) (ma n) (da n) = n
  s1 : okS (ys1 n + 533) ((ds1 n - 1) / 30 + 1) (ds1 n - 30 * ((ds1 n - 1) / 30))
  s2 : tjs (ys1 n + 533) ((ds1 n - 1) / 30 + 1) (ds1 n - 30 * ((ds1 n - 1) / 30)) = n
theorem ints1 {ws : List Value} {a : Int} (h : IntsAre ws [a]) : ∃ t1, ws = [.int a t1] := by
  cases h with | cons _ t1 h => cases h; exact ⟨_, rfl⟩
theorem ints2 {ws : List Value} {a b : Int} (h : IntsAre ws [a, b]) : ∃ t1 t2, ws = [.int a t1, .int b t2] := by
  cases h with | cons _ t1 h => cases h with | cons _ t2 h => cases h; exact ⟨_, _, rfl⟩
theorem ints3 {ws : List Value} {a b c : Int} (h : IntsAre ws [a, b, c]) : ∃ t1 t2 t3, ws = [.int a t1, .int b t2, .int c t3] := by
  cases h with | cons _ t1 h => cases h with | cons _ t2 h => cases h with | cons _ t3 h => cases h; exact ⟨_, _, _, rfl⟩
theorem ints5 {ws : List Value} {a b c d e : Int} (h : IntsAre ws [a, b, c, d, e]) : ∃ t1 t2 t3 t4 t5, ws = [.int a t1, .int b t2, .int c t3, .int d t4, .int e t5] := by
  cases h with | cons _ t1 h => cases h with | cons _ t2 h => cases h with | cons _ t3 h => cases h with | cons _ t4 h => cases h with | cons _ t5 h => cases h; exact ⟨_, _, _, _, _, rfl⟩

section
set_option hygiene false in
local macro_rules | `(tactic| walk_at "exec Return some") => `(tactic| ((have hI9 : IntsAre ws (dl x n e) := hI); clear hI9; k_dflt (first | ((have e9 : x = 0 := by with_reducible assumption); subst e9; obtain ⟨t90, e9⟩ := ints1 (show IntsAre ws (dl 0 n e) from hI); clear hI; subst e9) | ((have e9 : x = 1 := by with_reducible assumption); subst e9; obtain ⟨t90, t91, t92, e9⟩ := ints3 (show IntsAre ws (dl 1 n e) from hI); clear hI; subst e9) | ((have e9 : x = 2 := by with_reducible assumption); subst e9; obtain ⟨t90, t91, t92, e9⟩ := ints3 (show IntsAre ws (dl 2 n e) from hI); clear hI; subst e9) | ((have e9 : x = 3 := by with_reducible assumption); subst e9; obtain ⟨t90, t91, t92, e9⟩ := ints3 (show IntsAre ws (dl 3 n e) from hI); clear hI; subst e9) | ((have e9 : x = 4 := by with_reducible assumption); subst e9; obtain ⟨t90, t91, t92, e9⟩ := ints3 (show IntsAre ws (dl 4 n e) from hI); clear hI; subst e9) | ((have e9 : x = 5 := by with_reducible assumption); subst e9; obtain ⟨t90, t91, t92, e9⟩ := ints3 (show IntsAre ws (dl 5 n e) from hI); clear hI; subst e9) | ((have e9 : x = 6 := by with_reducible assumption); subst e9; obtain ⟨t90, t91, e9⟩ := ints2 (show IntsAre ws (dl 6 n e) from hI); clear hI; subst e9) | ((have e9 : x = 7 := by with_reducible assumption); subst e9; obtain ⟨t90, t91, t92, e9⟩ := ints3 (show IntsAre ws (dl 7 n e) from hI); clear hI; subst e9) | ((have e9 : x = 8 := by with_reducible assumption); subst e9; obtain ⟨t90, t91, t92, e9⟩ := ints3 (show IntsAre ws (dl 8 n e) from hI); clear hI; subst e9) | ((have e9 : x = 9 := by with_reducible assumption); subst e9; obtain ⟨t90, t91, t92, t93, t94, e9⟩ := ints5 (show IntsAre ws (dl 9 n e) from hI); clear hI; subst e9) | ((have e9 : x = 10 := by with_reducible assumption); subst e9; obtain ⟨t90, t91, t92, e9⟩ := ints3 (show IntsAre ws (dl 10 n e) from hI); clear hI; subst e9) | ((have e9 : x = 11 := by with_reducible assumption); subst e9; obtain ⟨t90, t91, t92, e9⟩ := ints3 (show IntsAre ws (dl 11 n e) from hI); clear hI; subst e9) | ((have e9 : x = 12 := by omega); subst e9; obtain ⟨t90, e9⟩ := ints1 (show IntsAre ws (dl 12 n e) from hI); clear hI; subst e9))))
set_option hygiene false in
local macro_rules | `(tactic| walk_at "eval Call") => `(tactic| ((have hI9 : IntsAre ws (dl x n e) := hI); clear hI9; k_dflt (first | ((have e9 : x = 0 := by with_reducible assumption); subst e9; obtain ⟨t90, e9⟩ := ints1 (show IntsAre ws (dl 0 n e) from hI); clear hI; subst e9) | ((have e9 : x = 1 := by with_reducible assumption); subst e9; obtain ⟨t90, t91, t92, e9⟩ := ints3 (show IntsAre ws (dl 1 n e) from hI); clear hI; subst e9) | ((have e9 : x = 2 := by with_reducible assumption); subst e9; obtain ⟨t90, t91, t92, e9⟩ := ints3 (show IntsAre ws (dl 2 n e) from hI); clear hI; subst e9) | ((have e9 : x = 3 := by with_reducible assumption); subst e9; obtain ⟨t90, t91, t92, e9⟩ := ints3 (show IntsAre ws (dl 3 n e) from hI); clear hI; subst e9) | ((have e9 : x = 4 := by with_reducible assumption); subst e9; obtain ⟨t90, t91, t92, e9⟩ := ints3 (show IntsAre ws (dl 4 n e) from hI); clear hI; subst e9) | ((have e9 : x = 5 := by with_reducible assumption); subst e9; obtain ⟨t90, t91, t92, e9⟩ := ints3 (show IntsAre ws (dl 5 n e) from hI); clear hI; subst e9) | ((have e9 : x = 6 := by with_reducible assumption); subst e9; obtain ⟨t90, t91, e9⟩ := ints2 (show IntsAre ws (dl 6 n e) from hI); clear hI; subst e9) | ((have e9 : x = 7 := by with_reducible assumption); subst e9; obtain ⟨t90, t91, t92, e9⟩ := ints3 (show IntsAre ws (dl 7 n e) from hI); clear hI; subst e9) | ((have e9 : x = 8 := by with_reducible assumption); subst e9; obtain ⟨t90, t91, t92, e9⟩ := ints3 (show IntsAre ws (dl 8 n e) from hI); clear hI; subst e9) | ((have e9 : x = 9 := by with_reducible assumption); subst e9; obtain ⟨t90, t91, t92, t93, t94, e9⟩ := ints5 (show IntsAre ws (dl 9 n e) from hI); clear hI; subst e9) | ((have e9 : x = 10 := by with_reducible assumption); subst e9; obtain ⟨t90, t91, t92, e9⟩ := ints3 (show IntsAre ws (dl 10 n e) from hI); clear hI; subst e9) | ((have e9 : x = 11 := by with_reducible assumption); subst e9; obtain ⟨t90, t91, t92, e9⟩ := ints3 (show IntsAre ws (dl 11 n e) from hI); clear hI; subst e9) | ((have e9 : x = 12 := by omega); subst e9; obtain ⟨t90, e9⟩ := ints1 (show IntsAre ws (dl 12 n e) from hI); clear hI; subst e9))))
set_option hygiene false in
local macro_rules | `(tactic| walk_at "eval Tuple") => `(tactic| ((have hI9 : IntsAre ws (dl x n e) := hI); clear hI9; k_dflt (first | ((have e9 : x = 0 := by with_reducible assumption); subst e9; obtain ⟨t90, e9⟩ := ints1 (show IntsAre ws (dl 0 n e) from hI); clear hI; subst e9) | ((have e9 : x = 1 := by with_reducible assumption); subst e9; obtain ⟨t90, t91, t92, e9⟩ := ints3 (show IntsAre ws (dl 1 n e) from hI); clear hI; subst e9) | ((have e9 : x = 2 := by with_reducible assumption); subst e9; obtain ⟨t90, t91, t92, e9⟩ := ints3 (show IntsAre ws (dl 2 n e) from hI); clear hI; subst e9) | ((have e9 : x = 3 := by with_reducible assumption); subst e9; obtain ⟨t90, t91, t92, e9⟩ := ints3 (show IntsAre ws (dl 3 n e) from hI); clear hI; subst e9) | ((have e9 : x = 4 := by with_reducible assumption); subst e9; obtain ⟨t90, t91, t92, e9⟩ := ints3 (show IntsAre ws (dl 4 n e) from hI); clear hI; subst e9) | ((have e9 : x = 5 := by with_reducible assumption); subst e9; obtain ⟨t90, t91, t92, e9⟩ := ints3 (show IntsAre ws (dl 5 n e) from hI); clear hI; subst e9) | ((have e9 : x = 6 := by with_reducible assumption); subst e9; obtain ⟨t90, t91, e9⟩ := ints2 (show IntsAre ws (dl 6 n e) from hI); clear hI; subst e9) | ((have e9 : x = 7 := by with_reducible assumption); subst e9; obtain ⟨t90, t91, t92, e9⟩ := ints3 (show IntsAre ws (dl 7 n e) from hI); clear hI; subst e9) | ((have e9 : x = 8 := by with_reducible assumption); subst e9; obtain ⟨t90, t91, t92, e9⟩ := ints3 (show IntsAre ws (dl 8 n e) from hI); clear hI; subst e9) | ((have e9 : x = 9 := by with_reducible assumption); subst e9; obtain ⟨t90, t91, t92, t93, t94, e9⟩ := ints5 (show IntsAre ws (dl 9 n e) from hI); clear hI; subst e9) | ((have e9 : x = 10 := by with_reducible assumption); subst e9; obtain ⟨t90, t91, t92, e9⟩ := ints3 (show IntsAre ws (dl 10 n e) from hI); clear hI; subst e9) | ((have e9 : x = 11 := by with_reducible assumption); subst e9; obtain ⟨t90, t91, t92, e9⟩ := ints3 (show IntsAre ws (dl 11 n e) from hI); clear hI; subst e9) | ((have e9 : x = 12 := by omega); subst e9; obtain ⟨t90, e9⟩ := ints1 (show IntsAre ws (dl 12 n e) from hI); clear hI; subst e9))))
local macro_rules | `(tactic| walk_at "callWith ref") => `(tactic| (k_here; (with_reducible show wpAny _ _ (callWith _ (Value.ref _) _ (backTo _ (starEach [Expr.Starred _ _] _)) []) _ _ _); k_dflt (refine' callWith_SM ?k1 ?k2 ?k3 ?k4 ?_; (case k1 => k_asm); (case k2 => k_asm); (case k3 => k_mem); (case k4 => k_is); k_whole)))
local macro_rules | `(tactic| walk_at "call ref") => `(tactic| (k_here; k_dflt (refine' call_meth ?k1 ?k2 ?_; (case k1 => k_asm); (case k2 => k_mem); k_whole); k_dflt (refine' code_def ?k1 ?k2 ?k3 ?k4 ?k5 ?kA ?kF ?kK ?k6 ?k7 ?k8 ?k9 ?kB ?_ ?c2 ?c3 ?c4 ?c5; (case kA => exact rfl); (case kF => exact rfl); (case kK => first | exact rfl | assumption); (case k1 => k_asm); (case k2 => k_asm); (case k3 => k_asm); (case k4 => k_asm); (case k5 => k_asm); (case k6 => k_is); (case k7 => k_is); (case k8 => ktr_room); (case k9 => first | exact BindsTo.of_eq rfl | exact binds_K (by k_in) rfl (by k_is) rfl rfl rfl); (case c5 => decide); (case kB => exact locs rfl); (case c2 => exact rfl); (case c3 => exact rfl); (case c4 => exact rfl); k_whole; intro g' L' h' FG' F' N' B' X' T'; (try dsimp only); (try k_lift B'); (try k_fold))))
local macro_rules | `(tactic| walk_at "call ref") => `(tactic| ((with_reducible show wpAny _ _ (call (Value.ref 216) _) _ _ _); k_here; k_dflt (refine' call_cls ?k1 ?k2 ?k3 ?k4 ?k5 ?k6 ?_; (case k1 => k_asm); (case k2 => k_asm); (case k3 => k_asm); (case k4 => k_is); (case k5 => k_is); (case k6 => k_is); k_whole; intro x' d' h' F' N' l1 l2; (try k_lt l1); (try k_lt2 l2); (try k_sweep)); k_dflt (refine' code_def ?k1 ?k2 ?k3 ?k4 ?k5 ?kA ?kF ?kK ?k6 ?k7 ?k8 ?k9 ?kB ?_ ?c2 ?c3 ?c4 ?c5; (case kA => exact rfl); (case kF => exact rfl); (case kK => first | exact rfl | assumption); (case k1 => k_asm); (case k2 => k_asm); (case k3 => k_asm); (case k4 => k_asm); (case k5 => k_asm); (case k6 => k_is); (case k7 => k_is); (case k8 => ktr_room); (case k9 => first | exact BindsTo.of_eq rfl | exact binds_K (by k_in) rfl (by k_is) rfl rfl rfl); (case c5 => decide); (case kB => exact locs rfl); (case c2 => exact rfl); (case c3 => exact rfl); (case c4 => exact rfl); k_whole; intro g' L' h' FG' F' N' B' X' T'; (try dsimp only); (try k_lift B'); (try k_fold))))
local macro_rules | `(tactic| walk_at "subscriptTail Name Constant ref int") => `(tactic| (k_here; (with_reducible show wpAny _ _ (subscriptTail _ _ (Value.ref _) (Value.int _ _)) _ _ _); k_dflt (refine' item_tupleT ?t ?a ?b ?c ?d ?_; (case t => exact News.isTup (by k_asm) (by first | with_reducible assumption | exact List.mem_cons_of_mem _ (by with_reducible assumption) | exact List.mem_cons_of_mem _ (List.mem_cons_of_mem _ (by with_reducible assumption)) | exact List.mem_cons_of_mem _ (List.mem_cons_of_mem _ (List.mem_cons_of_mem _ (by with_reducible assumption))) | exact List.mem_cons_of_mem _ (List.mem_cons_of_mem _ (List.mem_cons_of_mem _ (List.mem_cons_of_mem _ (by with_reducible assumption)))) | exact List.mem_cons_of_mem _ (List.mem_cons_of_mem _ (List.mem_cons_of_mem _ (List.mem_cons_of_mem _ (List.mem_cons_of_mem _ (by with_reducible assumption))))) | exact List.mem_cons_of_mem _ (List.mem_cons_of_mem _ (List.mem_cons_of_mem _ (List.mem_cons_of_mem _ (List.mem_cons_of_mem _ (List.mem_cons_of_mem _ (by with_reducible assumption)))))) | exact List.mem_cons_of_mem _ (List.mem_cons_of_mem _ (List.mem_cons_of_mem _ (List.mem_cons_of_mem _ (List.mem_cons_of_mem _ (List.mem_cons_of_mem _ (List.mem_cons_of_mem _ (by with_reducible assumption))))))) | assumption | k_mem)); (case a => decide); (case b => decide); (case c => rfl); (case d => rfl))))
local macro_rules | `(tactic| walk_at "StarOf ref") => `(tactic| (k_here; k_dflt (refine' star_seq ?k1 ?k2 ?m ?c ?d ?T ?e ?z ?_; (case k1 => k_asm); (case k2 => k_asm); (case m => exact (by first | with_reducible assumption | exact List.mem_cons_of_mem _ (by with_reducible assumption) | exact List.mem_cons_of_mem _ (List.mem_cons_of_mem _ (by with_reducible assumption)) | exact List.mem_cons_of_mem _ (List.mem_cons_of_mem _ (List.mem_cons_of_mem _ (by with_reducible assumption))) | exact List.mem_cons_of_mem _ (List.mem_cons_of_mem _ (List.mem_cons_of_mem _ (List.mem_cons_of_mem _ (by with_reducible assumption)))) | exact List.mem_cons_of_mem _ (List.mem_cons_of_mem _ (List.mem_cons_of_mem _ (List.mem_cons_of_mem _ (List.mem_cons_of_mem _ (by with_reducible assumption))))) | exact List.mem_cons_of_mem _ (List.mem_cons_of_mem _ (List.mem_cons_of_mem _ (List.mem_cons_of_mem _ (List.mem_cons_of_mem _ (List.mem_cons_of_mem _ (by with_reducible assumption)))))) | exact List.mem_cons_of_mem _ (List.mem_cons_of_mem _ (List.mem_cons_of_mem _ (List.mem_cons_of_mem _ (List.mem_cons_of_mem _ (List.mem_cons_of_mem _ (List.mem_cons_of_mem _ (by with_reducible assumption))))))) | assumption | k_mem)); (case c => exact rfl); (case d => exact rfl); (case T => first | exact .inl rfl | exact .inr rfl); (case e => kl_lit); (case z => exact Nat.le_of_ble_eq_true rfl); k_whole); intro h' F' N'; (try k_sweep); try dsimp only [List.nil_append, List.cons_append]))
local macro_rules | `(tactic| walk_at "ite") => `(tactic| first | (refine ite_eqY (by with_reducible assumption) ?_) | (refine ite_eqN (by with_reducible assumption) ?_))
local macro_rules | `(tactic| walk_at "call ref") => `(tactic| ((with_reducible show wpAny _ _ (call (Value.ref 192) _) _ _ _); k_here; refine wpAny_call ?_; k_dflt (refine' code_def ?k1 ?k2 ?k3 ?k4 ?k5 ?kA ?kF ?kK ?k6 ?k7 ?k8 ?k9 ?kB ?_ ?c2 ?c3 ?c4 ?c5; (case kA => exact rfl); (case kF => exact rfl); (case kK => first | exact rfl | assumption); (case k1 => k_asm); (case k2 => k_asm); (case k3 => k_asm); (case k4 => k_asm); (case k5 => k_asm); (case k6 => k_is); (case k7 => k_is); (case k8 => ktr_room); (case k9 => first | exact BindsTo.of_eq rfl | exact binds_K (by k_in) rfl (by k_is) rfl rfl rfl); (case c5 => decide); (case kB => exact locs rfl); (case c2 => exact rfl); (case c3 => exact rfl); (case c4 => exact rfl); k_whole; intro g' L' h' FG' F' N' B' X' T'; (try dsimp only); (try k_lift B'); (try k_fold))))
local macro_rules | `(tactic| walk_at "call ref") => `(tactic| ((with_reducible show wpAny _ _ (call (Value.ref 199) _) _ _ _); k_here; refine wpAny_call ?_; k_dflt (refine' code_def ?k1 ?k2 ?k3 ?k4 ?k5 ?kA ?kF ?kK ?k6 ?k7 ?k8 ?k9 ?kB ?_ ?c2 ?c3 ?c4 ?c5; (case kA => exact rfl); (case kF => exact rfl); (case kK => first | exact rfl | assumption); (case k1 => k_asm); (case k2 => k_asm); (case k3 => k_asm); (case k4 => k_asm); (case k5 => k_asm); (case k6 => k_is); (case k7 => k_is); (case k8 => ktr_room); (case k9 => first | exact BindsTo.of_eq rfl | exact binds_K (by k_in) rfl (by k_is) rfl rfl rfl); (case c5 => decide); (case kB => exact locs rfl); (case c2 => exact rfl); (case c3 => exact rfl); (case c4 => exact rfl); k_whole; intro g' L' h' FG' F' N' B' X' T'; (try dsimp only); (try k_lift B'); (try k_fold))))
local macro_rules | `(tactic| walk_at "call ref") => `(tactic| ((with_reducible show wpAny _ _ (call (Value.ref 178) _) _ _ _); k_here; refine wpAny_call ?_; k_dflt (refine' code_def ?k1 ?k2 ?k3 ?k4 ?k5 ?kA ?kF ?kK ?k6 ?k7 ?k8 ?k9 ?kB ?_ ?c2 ?c3 ?c4 ?c5; (case kA => exact rfl); (case kF => exact rfl); (case kK => first | exact rfl | assumption); (case k1 => k_asm); (case k2 => k_asm); (case k3 => k_asm); (case k4 => k_asm); (case k5 => k_asm); (case k6 => k_is); (case k7 => k_is); (case k8 => ktr_room); (case k9 => first | exact BindsTo.of_eq rfl | exact binds_K (by k_in) rfl (by k_is) rfl rfl rfl); (case c5 => decide); (case kB => exact locs rfl); (case c2 => exact rfl); (case c3 => exact rfl); (case c4 => exact rfl); k_whole; intro g' L' h' FG' F' N' B' X' T'; (try dsimp only); (try k_lift B'); (try k_fold))))
local macro_rules | `(tactic| walk_at "call ref") => `(tactic| ((with_reducible show wpAny _ _ (call (Value.ref 185) _) _ _ _); k_here; refine wpAny_call ?_; k_dflt (refine' code_def ?k1 ?k2 ?k3 ?k4 ?k5 ?kA ?kF ?kK ?k6 ?k7 ?k8 ?k9 ?kB ?_ ?c2 ?c3 ?c4 ?c5; (case kA => exact rfl); (case kF => exact rfl); (case kK => first | exact rfl | assumption); (case k1 => k_asm); (case k2 => k_asm); (case k3 => k_asm); (case k4 => k_asm); (case k5 => k_asm); (case k6 => k_is); (case k7 => k_is); (case k8 => ktr_room); (case k9 => first | exact BindsTo.of_eq rfl | exact binds_K (by k_in) rfl (by k_is) rfl rfl rfl); (case c5 => decide); (case kB => exact locs rfl); (case c2 => exact rfl); (case c3 => exact rfl); (case c4 => exact rfl); k_whole; intro g' L' h' FG' F' N' B' X' T'; (try dsimp only); (try k_lift B'); (try k_fold))))
local macro_rules | `(tactic| walk_at "call ref") => `(tactic| ((with_reducible show wpAny _ _ (call (Value.ref 206) _) _ _ _); k_here; refine wpAny_call ?_; k_dflt (refine' code_def ?k1 ?k2 ?k3 ?k4 ?k5 ?kA ?kF ?kK ?k6 ?k7 ?k8 ?k9 ?kB ?_ ?c2 ?c3 ?c4 ?c5; (case kA => exact rfl); (case kF => exact rfl); (case kK => first | exact rfl | assumption); (case k1 => k_asm); (case k2 => k_asm); (case k3 => k_asm); (case k4 => k_asm); (case k5 => k_asm); (case k6 => k_is); (case k7 => k_is); (case k8 => ktr_room); (case k9 => first | exact BindsTo.of_eq rfl | exact binds_K (by k_in) rfl (by k_is) rfl rfl rfl); (case c5 => decide); (case kB => exact locs rfl); (case c2 => exact rfl); (case c3 => exact rfl); (case c4 => exact rfl); k_whole; intro g' L' h' FG' F' N' B' X' T'; (try dsimp only); (try k_lift B'); (try k_fold))))
local macro_rules | `(tactic| walk_at "call ref") => `(tactic| ((with_reducible show wpAny _ _ (call (Value.ref 213) _) _ _ _); k_here; refine wpAny_call ?_; k_dflt (refine' code_def ?k1 ?k2 ?k3 ?k4 ?k5 ?kA ?kF ?kK ?k6 ?k7 ?k8 ?k9 ?kB ?_ ?c2 ?c3 ?c4 ?c5; (case kA => exact rfl); (case kF => exact rfl); (case kK => first | exact rfl | assumption); (case k1 => k_asm); (case k2 => k_asm); (case k3 => k_asm); (case k4 => k_asm); (case k5 => k_asm); (case k6 => k_is); (case k7 => k_is); (case k8 => ktr_room); (case k9 => first | exact BindsTo.of_eq rfl | exact binds_K (by k_in) rfl (by k_is) rfl rfl rfl); (case c5 => decide); (case kB => exact locs rfl); (case c2 => exact rfl); (case c3 => exact rfl); (case c4 => exact rfl); k_whole; intro g' L' h' FG' F' N' B' X' T'; (try dsimp only); (try k_lift B'); (try k_fold))))

theorem c_lnum (w mean mg mb) : ∀ news x tx D ws c n e te, ConV w mean mg mb 528 8 news ((D, tupO ws c) ∈ news ∧ IntsAre ws (dl x n e) ∧ 0 ≤ x ∧ x < 13 ∧ Facts n) [.int x tx, .ref D, .int e te] (fun t => .int (n) t) := by
  intro news x tx D ws c n e te
  unfold ConV
  dsimp only [Kf, Tp]
  k_fill
  intro dp' un' gd' cn' cs' a' ccd' cl' outer' A' base' h' L' fr' s' Q' E' hB hF hX hN hT hk hpre hd hu hret
  obtain ⟨hmem, hI, hx0, hx1, f⟩ := hpre
  have g1 := f.g1
  have j1 := f.j1
  have w1 := f.w1
  have p1 := f.p1
  have a1 := f.a1
  have s1 := f.s1
  all_goals (
  refine wpAny_call ?_
  k_dflt (refine' code_def ?k1 ?k2 ?k3 ?k4 ?k5 ?kA ?kF ?kK ?k6 ?k7 ?k8 ?k9 ?kB ?_ ?c2 ?c3 ?c4 ?c5; (case kA => exact rfl); (case kF => exact rfl); (case kK => assumption); (case k1 => k_asm); (case k2 => k_asm); (case k3 => k_asm); (case k4 => k_asm); (case k5 => k_asm); (case k6 => k_is); (case k7 => k_is); (case k8 => ktr_room); (case k9 => first | exact BindsTo.of_eq rfl | exact binds_K (by k_in) rfl (by k_is) rfl rfl rfl); (case c5 => decide); (case kB => exact locs rfl); (case c2 => exact rfl); (case c3 => exact rfl); (case c4 => exact rfl); k_whole; intro g' L' h' FG' F' N' B' X' T'; (try dsimp only); (try k_lift B'); (try k_fold))
  k_steps)
  all_goals (refine' endI hret ?e1 ?e2 ?e3 ?e4; (case e2 => k_asm); (case e3 => k_asm); (case e4 => first | exact fun _ h => h | exact fun _ h => .tail _ h | exact fun _ h => .tail _ (.tail _ h) | exact fun _ h => .tail _ (.tail _ (.tail _ h)) | exact fun _ h => .tail _ (.tail _ (.tail _ (.tail _ h))) | exact fun _ h => .tail _ (.tail _ (.tail _ (.tail _ (.tail _ h)))) | exact fun _ h => .tail _ (.tail _ (.tail _ (.tail _ (.tail _ (.tail _ h))))) | exact fun _ h => .tail _ (.tail _ (.tail _ (.tail _ (.tail _ (.tail _ (.tail _ h)))))) | exact fun _ h => .tail _ (.tail _ (.tail _ (.tail _ (.tail _ (.tail _ (.tail _ (.tail _ h))))))) | kcj_all); (case e1 => first | rfl | assumption | (simp only [f.g2, f.j2, f.i2, f.c2, f.n2, f.o2, f.w2, f.p2, f.m2, f.a2, f.s2, f.o3, f.o4, f.o5, Int.sub_add_cancel]; first | done | rfl)))
end

local macro_rules | `(tactic| walk_at "call ref") => `(tactic| ((with_reducible show wpAny _ _ (call (Value.ref 528) _) _ _ _); k_here; k_dflt (refine' useV (c_lnum _ _ _ _ _ _ _ _ _ _ _ _ _) ?k1 ?k2 ?k3 ?k4 ?k5 ?kK ?kp ?kd ?ku ?_; (case k1 => k_asm); (case k2 => k_asm); (case k3 => k_asm); (case k4 => k_asm); (case k5 => k_asm); (case kK => first | exact rfl | assumption); (case kp => exact ⟨(by first | with_reducible assumption | exact List.mem_cons_of_mem _ (by with_reducible assumption) | exact List.mem_cons_of_mem _ (List.mem_cons_of_mem _ (by with_reducible assumption)) | exact List.mem_cons_of_mem _ (List.mem_cons_of_mem _ (List.mem_cons_of_mem _ (by with_reducible assumption))) | exact List.mem_cons_of_mem _ (List.mem_cons_of_mem _ (List.mem_cons_of_mem _ (List.mem_cons_of_mem _ (by with_reducible assumption)))) | exact List.mem_cons_of_mem _ (List.mem_cons_of_mem _ (List.mem_cons_of_mem _ (List.mem_cons_of_mem _ (List.mem_cons_of_mem _ (by with_reducible assumption))))) | exact List.mem_cons_of_mem _ (List.mem_cons_of_mem _ (List.mem_cons_of_mem _ (List.mem_cons_of_mem _ (List.mem_cons_of_mem _ (List.mem_cons_of_mem _ (by with_reducible assumption)))))) | exact List.mem_cons_of_mem _ (List.mem_cons_of_mem _ (List.mem_cons_of_mem _ (List.mem_cons_of_mem _ (List.mem_cons_of_mem _ (List.mem_cons_of_mem _ (List.mem_cons_of_mem _ (by with_reducible assumption))))))) | assumption | k_mem), by assumption, by omega, by omega, by assumption⟩); (case kd => ktr_room); (case ku => ktr_units); intro t9 h9 tk9 F9 N9; (try dsimp only); (try k_fold))))
section
local macro_rules | `(tactic| walk_at "callWith ref") => `(tactic| (k_here; (with_reducible show wpAny _ _ (callWith _ (Value.ref _) _ (backTo _ (starEach [Expr.Starred _ _] _)) []) _ _ _); k_dflt (refine' callWith_SM ?k1 ?k2 ?k3 ?k4 ?_; (case k1 => k_asm); (case k2 => k_asm); (case k3 => k_mem); (case k4 => k_is); k_whole)))
local macro_rules | `(tactic| walk_at "call ref") => `(tactic| (k_here; k_dflt (refine' call_meth ?k1 ?k2 ?_; (case k1 => k_asm); (case k2 => k_mem); k_whole); k_dflt (refine' code_def ?k1 ?k2 ?k3 ?k4 ?k5 ?kA ?kF ?kK ?k6 ?k7 ?k8 ?k9 ?kB ?_ ?c2 ?c3 ?c4 ?c5; (case kA => exact rfl); (case kF => exact rfl); (case kK => first | exact rfl | assumption); (case k1 => k_asm); (case k2 => k_asm); (case k3 => k_asm); (case k4 => k_asm); (case k5 => k_asm); (case k6 => k_is); (case k7 => k_is); (case k8 => ktr_room); (case k9 => first | exact BindsTo.of_eq rfl | exact binds_K (by k_in) rfl (by k_is) rfl rfl rfl); (case c5 => decide); (case kB => exact locs rfl); (case c2 => exact rfl); (case c3 => exact rfl); (case c4 => exact rfl); k_whole; intro g' L' h' FG' F' N' B' X' T'; (try dsimp only); (try k_lift B'); (try k_fold))))
local macro_rules | `(tactic| walk_at "call ref") => `(tactic| ((with_reducible show wpAny _ _ (call (Value.ref 216) _) _ _ _); k_here; k_dflt (refine' call_cls ?k1 ?k2 ?k3 ?k4 ?k5 ?k6 ?_; (case k1 => k_asm); (case k2 => k_asm); (case k3 => k_asm); (case k4 => k_is); (case k5 => k_is); (case k6 => k_is); k_whole; intro x' d' h' F' N' l1 l2; (try k_lt l1); (try k_lt2 l2); (try k_sweep)); k_dflt (refine' code_def ?k1 ?k2 ?k3 ?k4 ?k5 ?kA ?kF ?kK ?k6 ?k7 ?k8 ?k9 ?kB ?_ ?c2 ?c3 ?c4 ?c5; (case kA => exact rfl); (case kF => exact rfl); (case kK => first | exact rfl | assumption); (case k1 => k_asm); (case k2 => k_asm); (case k3 => k_asm); (case k4 => k_asm); (case k5 => k_asm); (case k6 => k_is); (case k7 => k_is); (case k8 => ktr_room); (case k9 => first | exact BindsTo.of_eq rfl | exact binds_K (by k_in) rfl (by k_is) rfl rfl rfl); (case c5 => decide); (case kB => exact locs rfl); (case c2 => exact rfl); (case c3 => exact rfl); (case c4 => exact rfl); k_whole; intro g' L' h' FG' F' N' B' X' T'; (try dsimp only); (try k_lift B'); (try k_fold))))
local macro_rules | `(tactic| walk_at "subscriptTail Name Constant ref int") => `(tactic| (k_here; (with_reducible show wpAny _ _ (subscriptTail _ _ (Value.ref _) (Value.int _ _)) _ _ _); k_dflt (refine' item_tupleT ?t ?a ?b ?c ?d ?_; (case t => exact News.isTup (by k_asm) (by first | with_reducible assumption | exact List.mem_cons_of_mem _ (by with_reducible assumption) | exact List.mem_cons_of_mem _ (List.mem_cons_of_mem _ (by with_reducible assumption)) | exact List.mem_cons_of_mem _ (List.mem_cons_of_mem _ (List.mem_cons_of_mem _ (by with_reducible assumption))) | exact List.mem_cons_of_mem _ (List.mem_cons_of_mem _ (List.mem_cons_of_mem _ (List.mem_cons_of_mem _ (by with_reducible assumption)))) | exact List.mem_cons_of_mem _ (List.mem_cons_of_mem _ (List.mem_cons_of_mem _ (List.mem_cons_of_mem _ (List.mem_cons_of_mem _ (by with_reducible assumption))))) | exact List.mem_cons_of_mem _ (List.mem_cons_of_mem _ (List.mem_cons_of_mem _ (List.mem_cons_of_mem _ (List.mem_cons_of_mem _ (List.mem_cons_of_mem _ (by with_reducible assumption)))))) | exact List.mem_cons_of_mem _ (List.mem_cons_of_mem _ (List.mem_cons_of_mem _ (List.mem_cons_of_mem _ (List.mem_cons_of_mem _ (List.mem_cons_of_mem _ (List.mem_cons_of_mem _ (by with_reducible assumption))))))) | assumption | k_mem)); (case a => decide); (case b => decide); (case c => rfl); (case d => rfl))))
local macro_rules | `(tactic| walk_at "StarOf ref") => `(tactic| (k_here; k_dflt (refine' star_seq ?k1 ?k2 ?m ?c ?d ?T ?e ?z ?_; (case k1 => k_asm); (case k2 => k_asm); (case m => exact (by first | with_reducible assumption | exact List.mem_cons_of_mem _ (by with_reducible assumption) | exact List.mem_cons_of_mem _ (List.mem_cons_of_mem _ (by with_reducible assumption)) | exact List.mem_cons_of_mem _ (List.mem_cons_of_mem _ (List.mem_cons_of_mem _ (by with_reducible assumption))) | exact List.mem_cons_of_mem _ (List.mem_cons_of_mem _ (List.mem_cons_of_mem _ (List.mem_cons_of_mem _ (by with_reducible assumption)))) | exact List.mem_cons_of_mem _ (List.mem_cons_of_mem _ (List.mem_cons_of_mem _ (List.mem_cons_of_mem _ (List.mem_cons_of_mem _ (by with_reducible assumption))))) | exact List.mem_cons_of_mem _ (List.mem_cons_of_mem _ (List.mem_cons_of_mem _ (List.mem_cons_of_mem _ (List.mem_cons_of_mem _ (List.mem_cons_of_mem _ (by with_reducible assumption)))))) | exact List.mem_cons_of_mem _ (List.mem_cons_of_mem _ (List.mem_cons_of_mem _ (List.mem_cons_of_mem _ (List.mem_cons_of_mem _ (List.mem_cons_of_mem _ (List.mem_cons_of_mem _ (by with_reducible assumption))))))) | assumption | k_mem)); (case c => exact rfl); (case d => exact rfl); (case T => first | exact .inl rfl | exact .inr rfl); (case e => kl_lit); (case z => exact Nat.le_of_ble_eq_true rfl); k_whole); intro h' F' N'; (try k_sweep); try dsimp only [List.nil_append, List.cons_append]))
local macro_rules | `(tactic| walk_at "ite") => `(tactic| first | (refine ite_eqY (by with_reducible assumption) ?_) | (refine ite_eqN (by with_reducible assumption) ?_))
local macro_rules | `(tactic| walk_at "call ref") => `(tactic| ((with_reducible show wpAny _ _ (call (Value.ref 192) _) _ _ _); k_here; refine wpAny_call ?_; k_dflt (refine' code_def ?k1 ?k2 ?k3 ?k4 ?k5 ?kA ?kF ?kK ?k6 ?k7 ?k8 ?k9 ?kB ?_ ?c2 ?c3 ?c4 ?c5; (case kA => exact rfl); (case kF => exact rfl); (case kK => first | exact rfl | assumption); (case k1 => k_asm); (case k2 => k_asm); (case k3 => k_asm); (case k4 => k_asm); (case k5 => k_asm); (case k6 => k_is); (case k7 => k_is); (case k8 => ktr_room); (case k9 => first | exact BindsTo.of_eq rfl | exact binds_K (by k_in) rfl (by k_is) rfl rfl rfl); (case c5 => decide); (case kB => exact locs rfl); (case c2 => exact rfl); (case c3 => exact rfl); (case c4 => exact rfl); k_whole; intro g' L' h' FG' F' N' B' X' T'; (try dsimp only); (try k_lift B'); (try k_fold))))
local macro_rules | `(tactic| walk_at "call ref") => `(tactic| ((with_reducible show wpAny _ _ (call (Value.ref 199) _) _ _ _); k_here; refine wpAny_call ?_; k_dflt (refine' code_def ?k1 ?k2 ?k3 ?k4 ?k5 ?kA ?kF ?kK ?k6 ?k7 ?k8 ?k9 ?kB ?_ ?c2 ?c3 ?c4 ?c5; (case kA => exact rfl); (case kF => exact rfl); (case kK => first | exact rfl | assumption); (case k1 => k_asm); (case k2 => k_asm); (case k3 => k_asm); (case k4 => k_asm); (case k5 => k_asm); (case k6 => k_is); (case k7 => k_is); (case k8 => ktr_room); (case k9 => first | exact BindsTo.of_eq rfl | exact binds_K (by k_in) rfl (by k_is) rfl rfl rfl); (case c5 => decide); (case kB => exact locs rfl); (case c2 => exact rfl); (case c3 => exact rfl); (case c4 => exact rfl); k_whole; intro g' L' h' FG' F' N' B' X' T'; (try dsimp only); (try k_lift B'); (try k_fold))))
local macro_rules | `(tactic| walk_at "call ref") => `(tactic| ((with_reducible show wpAny _ _ (call (Value.ref 178) _) _ _ _); k_here; refine wpAny_call ?_; k_dflt (refine' code_def ?k1 ?k2 ?k3 ?k4 ?k5 ?kA ?kF ?kK ?k6 ?k7 ?k8 ?k9 ?kB ?_ ?c2 ?c3 ?c4 ?c5; (case kA => exact rfl); (case kF => exact rfl); (case kK => first | exact rfl | assumption); (case k1 => k_asm); (case k2 => k_asm); (case k3 => k_asm); (case k4 => k_asm); (case k5 => k_asm); (case k6 => k_is); (case k7 => k_is); (case k8 => ktr_room); (case k9 => first | exact BindsTo.of_eq rfl | exact binds_K (by k_in) rfl (by k_is) rfl rfl rfl); (case c5 => decide); (case kB => exact locs rfl); (case c2 => exact rfl); (case c3 => exact rfl); (case c4 => exact rfl); k_whole; intro g' L' h' FG' F' N' B' X' T'; (try dsimp only); (try k_lift B'); (try k_fold))))
local macro_rules | `(tactic| walk_at "call ref") => `(tactic| ((with_reducible show wpAny _ _ (call (Value.ref 185) _) _ _ _); k_here; refine wpAny_call ?_; k_dflt (refine' code_def ?k1 ?k2 ?k3 ?k4 ?k5 ?kA ?kF ?kK ?k6 ?k7 ?k8 ?k9 ?kB ?_ ?c2 ?c3 ?c4 ?c5; (case kA => exact rfl); (case kF => exact rfl); (case kK => first | exact rfl | assumption); (case k1 => k_asm); (case k2 => k_asm); (case k3 => k_asm); (case k4 => k_asm); (case k5 => k_asm); (case k6 => k_is); (case k7 => k_is); (case k8 => ktr_room); (case k9 => first | exact BindsTo.of_eq rfl | exact binds_K (by k_in) rfl (by k_is) rfl rfl rfl); (case c5 => decide); (case kB => exact locs rfl); (case c2 => exact rfl); (case c3 => exact rfl); (case c4 => exact rfl); k_whole; intro g' L' h' FG' F' N' B' X' T'; (try dsimp only); (try k_lift B'); (try k_fold))))
local macro_rules | `(tactic| walk_at "call ref") => `(tactic| ((with_reducible show wpAny _ _ (call (Value.ref 206) _) _ _ _); k_here; refine wpAny_call ?_; k_dflt (refine' code_def ?k1 ?k2 ?k3 ?k4 ?k5 ?kA ?kF ?kK ?k6 ?k7 ?k8 ?k9 ?kB ?_ ?c2 ?c3 ?c4 ?c5; (case kA => exact rfl); (case kF => exact rfl); (case kK => first | exact rfl | assumption); (case k1 => k_asm); (case k2 => k_asm); (case k3 => k_asm); (case k4 => k_asm); (case k5 => k_asm); (case k6 => k_is); (case k7 => k_is); (case k8 => ktr_room); (case k9 => first | exact BindsTo.of_eq rfl | exact binds_K (by k_in) rfl (by k_is) rfl rfl rfl); (case c5 => decide); (case kB => exact locs rfl); (case c2 => exact rfl); (case c3 => exact rfl); (case c4 => exact rfl); k_whole; intro g' L' h' FG' F' N' B' X' T'; (try dsimp only); (try k_lift B'); (try k_fold))))
local macro_rules | `(tactic| walk_at "call ref") => `(tactic| ((with_reducible show wpAny _ _ (call (Value.ref 213) _) _ _ _); k_here; refine wpAny_call ?_; k_dflt (refine' code_def ?k1 ?k2 ?k3 ?k4 ?k5 ?kA ?kF ?kK ?k6 ?k7 ?k8 ?k9 ?kB ?_ ?c2 ?c3 ?c4 ?c5; (case kA => exact rfl); (case kF => exact rfl); (case kK => first | exact rfl | assumption); (case k1 => k_asm); (case k2 => k_asm); (case k3 => k_asm); (case k4 => k_asm); (case k5 => k_asm); (case k6 => k_is); (case k7 => k_is); (case k8 => ktr_room); (case k9 => first | exact BindsTo.of_eq rfl | exact binds_K (by k_in) rfl (by k_is) rfl rfl rfl); (case c5 => decide); (case kB => exact locs rfl); (case c2 => exact rfl); (case c3 => exact rfl); (case c4 => exact rfl); k_whole; intro g' L' h' FG' F' N' B' X' T'; (try dsimp only); (try k_lift B'); (try k_fold))))

theorem c_ldate (w mean mg mb) : ∀ news x tx n tn e te, ConT w mean mg mb 535 8 news (0 ≤ x ∧ x < 13 ∧ Facts n) [.int x tx, .int n tn, .int e te] (dl x n e) := by
  intro news x tx n tn e te
  unfold ConT
  dsimp only [Kf, Tp]
  k_fill
  intro dp' un' gd' cn' cs' a' ccd' cl' outer' A' base' h' L' fr' s' Q' E' hB hF hX hN hT hk hpre hd hu hret
  obtain ⟨hx0, hx1, f⟩ := hpre

  have g1 := f.g1
  have g3 := f.g3
  have g4 := f.g4
  have okg : okG n := f.g1
  have wpre : 1 ≤ fyg n ∧ fyg n ≤ 9999 ∧ 1 ≤ fmg n ∧ fmg n ≤ 12 ∧ okG n := ⟨f.g4.1, f.g4.2, f.g3.1, f.g3.2, f.g1⟩
  have p0 := f.p0
  all_goals (
  refine wpAny_call ?_
  k_dflt (refine' code_def ?k1 ?k2 ?k3 ?k4 ?k5 ?kA ?kF ?kK ?k6 ?k7 ?k8 ?k9 ?kB ?_ ?c2 ?c3 ?c4 ?c5; (case kA => exact rfl); (case kF => exact rfl); (case kK => assumption); (case k1 => k_asm); (case k2 => k_asm); (case k3 => k_asm); (case k4 => k_asm); (case k5 => k_asm); (case k6 => k_is); (case k7 => k_is); (case k8 => ktr_room); (case k9 => first | exact BindsTo.of_eq rfl | exact binds_K (by k_in) rfl (by k_is) rfl rfl rfl); (case c5 => decide); (case kB => exact locs rfl); (case c2 => exact rfl); (case c3 => exact rfl); (case c4 => exact rfl); k_whole; intro g' L' h' FG' F' N' B' X' T'; (try dsimp only); (try k_lift B'); (try k_fold))
  k_steps)
  all_goals (refine' endT hret ?e2 ?e3 ?e5 ?e6 ?e1 ?e4; (case e2 => k_asm); (case e3 => k_asm); (case e5 => first | k_mem | assumption); (case e6 => first | assumption | (repeat constructor)); (case e4 => first | exact fun _ h => h | exact fun _ h => .tail _ h | exact fun _ h => .tail _ (.tail _ h) | exact fun _ h => .tail _ (.tail _ (.tail _ h)) | exact fun _ h => .tail _ (.tail _ (.tail _ (.tail _ h))) | exact fun _ h => .tail _ (.tail _ (.tail _ (.tail _ (.tail _ h)))) | exact fun _ h => .tail _ (.tail _ (.tail _ (.tail _ (.tail _ (.tail _ h))))) | exact fun _ h => .tail _ (.tail _ (.tail _ (.tail _ (.tail _ (.tail _ (.tail _ h)))))) | exact fun _ h => .tail _ (.tail _ (.tail _ (.tail _ (.tail _ (.tail _ (.tail _ (.tail _ h))))))) | kcj_all); (case e1 => first | (show _ = _; rfl; done) | ((have e9 : x = 0 := by with_reducible assumption); subst e9; first | rfl | (simp only [f.g2, f.j2, f.i2, f.c2, f.n2, f.o2, f.w2, f.p2, f.m2, f.a2, f.s2, f.o3, f.o4, f.o5, Int.sub_add_cancel]; first | done | rfl)) | ((have e9 : x = 1 := by with_reducible assumption); subst e9; first | rfl | (simp only [f.g2, f.j2, f.i2, f.c2, f.n2, f.o2, f.w2, f.p2, f.m2, f.a2, f.s2, f.o3, f.o4, f.o5, Int.sub_add_cancel]; first | done | rfl)) | ((have e9 : x = 2 := by with_reducible assumption); subst e9; first | rfl | (simp only [f.g2, f.j2, f.i2, f.c2, f.n2, f.o2, f.w2, f.p2, f.m2, f.a2, f.s2, f.o3, f.o4, f.o5, Int.sub_add_cancel]; first | done | rfl)) | ((have e9 : x = 3 := by with_reducible assumption); subst e9; first | rfl | (simp only [f.g2, f.j2, f.i2, f.c2, f.n2, f.o2, f.w2, f.p2, f.m2, f.a2, f.s2, f.o3, f.o4, f.o5, Int.sub_add_cancel]; first | done | rfl)) | ((have e9 : x = 4 := by with_reducible assumption); subst e9; first | rfl | (simp only [f.g2, f.j2, f.i2, f.c2, f.n2, f.o2, f.w2, f.p2, f.m2, f.a2, f.s2, f.o3, f.o4, f.o5, Int.sub_add_cancel]; first | done | rfl)) | ((have e9 : x = 5 := by with_reducible assumption); subst e9; first | rfl | (simp only [f.g2, f.j2, f.i2, f.c2, f.n2, f.o2, f.w2, f.p2, f.m2, f.a2, f.s2, f.o3, f.o4, f.o5, Int.sub_add_cancel]; first | done | rfl)) | ((have e9 : x = 6 := by with_reducible assumption); subst e9; first | rfl | (simp only [f.g2, f.j2, f.i2, f.c2, f.n2, f.o2, f.w2, f.p2, f.m2, f.a2, f.s2, f.o3, f.o4, f.o5, Int.sub_add_cancel]; first | done | rfl)) | ((have e9 : x = 7 := by with_reducible assumption); subst e9; first | rfl | (simp only [f.g2, f.j2, f.i2, f.c2, f.n2, f.o2, f.w2, f.p2, f.m2, f.a2, f.s2, f.o3, f.o4, f.o5, Int.sub_add_cancel]; first | done | rfl)) | ((have e9 : x = 8 := by with_reducible assumption); subst e9; first | rfl | (simp only [f.g2, f.j2, f.i2, f.c2, f.n2, f.o2, f.w2, f.p2, f.m2, f.a2, f.s2, f.o3, f.o4, f.o5, Int.sub_add_cancel]; first | done | rfl)) | ((have e9 : x = 9 := by with_reducible assumption); subst e9; first | rfl | (simp only [f.g2, f.j2, f.i2, f.c2, f.n2, f.o2, f.w2, f.p2, f.m2, f.a2, f.s2, f.o3, f.o4, f.o5, Int.sub_add_cancel]; first | done | rfl)) | ((have e9 : x = 10 := by with_reducible assumption); subst e9; first | rfl | (simp only [f.g2, f.j2, f.i2, f.c2, f.n2, f.o2, f.w2, f.p2, f.m2, f.a2, f.s2, f.o3, f.o4, f.o5, Int.sub_add_cancel]; first | done | rfl)) | ((have e9 : x = 11 := by with_reducible assumption); subst e9; first | rfl | (simp only [f.g2, f.j2, f.i2, f.c2, f.n2, f.o2, f.w2, f.p2, f.m2, f.a2, f.s2, f.o3, f.o4, f.o5, Int.sub_add_cancel]; first | done | rfl)) | ((have e9 : x = 12 := by omega); subst e9; first | rfl | (simp only [f.g2, f.j2, f.i2, f.c2, f.n2, f.o2, f.w2, f.p2, f.m2, f.a2, f.s2, f.o3, f.o4, f.o5, Int.sub_add_cancel]; first | done | rfl))))
end

local macro_rules | `(tactic| walk_at "call ref") => `(tactic| ((with_reducible show wpAny _ _ (call (Value.ref 535) _) _ _ _); k_here; k_dflt (refine' useT (c_ldate _ _ _ _ _ _ _ _ _ _ _) ?k1 ?k2 ?k3 ?k4 ?k5 ?kK ?kp ?kd ?ku ?_; (case k1 => k_asm); (case k2 => k_asm); (case k3 => k_asm); (case k4 => k_asm); (case k5 => k_asm); (case kK => first | exact rfl | assumption); (case kp => exact ⟨by omega, by omega, by assumption⟩); (case kd => ktr_room); (case ku => ktr_units); intro D9 ws9 c9 h9 tk9 I9 F9 N9; (try dsimp only); (try k_fold))))
section
set_option hygiene false in
local macro_rules | `(tactic| walk_at "exec Return some") => `(tactic| ((have hI9 : IntsAre ws (dl x n e) := hI); clear hI9; k_dflt (first | ((have e9 : x = 0 := by with_reducible assumption); subst e9; obtain ⟨t90, e9⟩ := ints1 (show IntsAre ws (dl 0 n e) from hI); clear hI; subst e9) | ((have e9 : x = 1 := by with_reducible assumption); subst e9; obtain ⟨t90, t91, t92, e9⟩ := ints3 (show IntsAre ws (dl 1 n e) from hI); clear hI; subst e9) | ((have e9 : x = 2 := by with_reducible assumption); subst e9; obtain ⟨t90, t91, t92, e9⟩ := ints3 (show IntsAre ws (dl 2 n e) from hI); clear hI; subst e9) | ((have e9 : x = 3 := by with_reducible assumption); subst e9; obtain ⟨t90, t91, t92, e9⟩ := ints3 (show IntsAre ws (dl 3 n e) from hI); clear hI; subst e9) | ((have e9 : x = 4 := by with_reducible assumption); subst e9; obtain ⟨t90, t91, t92, e9⟩ := ints3 (show IntsAre ws (dl 4 n e) from hI); clear hI; subst e9) | ((have e9 : x = 5 := by with_reducible assumption); subst e9; obtain ⟨t90, t91, t92, e9⟩ := ints3 (show IntsAre ws (dl 5 n e) from hI); clear hI; subst e9) | ((have e9 : x = 6 := by with_reducible assumption); subst e9; obtain ⟨t90, t91, e9⟩ := ints2 (show IntsAre ws (dl 6 n e) from hI); clear hI; subst e9) | ((have e9 : x = 7 := by with_reducible assumption); subst e9; obtain ⟨t90, t91, t92, e9⟩ := ints3 (show IntsAre ws (dl 7 n e) from hI); clear hI; subst e9) | ((have e9 : x = 8 := by with_reducible assumption); subst e9; obtain ⟨t90, t91, t92, e9⟩ := ints3 (show IntsAre ws (dl 8 n e) from hI); clear hI; subst e9) | ((have e9 : x = 9 := by with_reducible assumption); subst e9; obtain ⟨t90, t91, t92, t93, t94, e9⟩ := ints5 (show IntsAre ws (dl 9 n e) from hI); clear hI; subst e9) | ((have e9 : x = 10 := by with_reducible assumption); subst e9; obtain ⟨t90, t91, t92, e9⟩ := ints3 (show IntsAre ws (dl 10 n e) from hI); clear hI; subst e9) | ((have e9 : x = 11 := by with_reducible assumption); subst e9; obtain ⟨t90, t91, t92, e9⟩ := ints3 (show IntsAre ws (dl 11 n e) from hI); clear hI; subst e9) | ((have e9 : x = 12 := by omega); subst e9; obtain ⟨t90, e9⟩ := ints1 (show IntsAre ws (dl 12 n e) from hI); clear hI; subst e9))))
set_option hygiene false in
local macro_rules | `(tactic| walk_at "eval Call") => `(tactic| ((have hI9 : IntsAre ws (dl x n e) := hI); clear hI9; k_dflt (first | ((have e9 : x = 0 := by with_reducible assumption); subst e9; obtain ⟨t90, e9⟩ := ints1 (show IntsAre ws (dl 0 n e) from hI); clear hI; subst e9) | ((have e9 : x = 1 := by with_reducible assumption); subst e9; obtain ⟨t90, t91, t92, e9⟩ := ints3 (show IntsAre ws (dl 1 n e) from hI); clear hI; subst e9) | ((have e9 : x = 2 := by with_reducible assumption); subst e9; obtain ⟨t90, t91, t92, e9⟩ := ints3 (show IntsAre ws (dl 2 n e) from hI); clear hI; subst e9) | ((have e9 : x = 3 := by with_reducible assumption); subst e9; obtain ⟨t90, t91, t92, e9⟩ := ints3 (show IntsAre ws (dl 3 n e) from hI); clear hI; subst e9) | ((have e9 : x = 4 := by with_reducible assumption); subst e9; obtain ⟨t90, t91, t92, e9⟩ := ints3 (show IntsAre ws (dl 4 n e) from hI); clear hI; subst e9) | ((have e9 : x = 5 := by with_reducible assumption); subst e9; obtain ⟨t90, t91, t92, e9⟩ := ints3 (show IntsAre ws (dl 5 n e) from hI); clear hI; subst e9) | ((have e9 : x = 6 := by with_reducible assumption); subst e9; obtain ⟨t90, t91, e9⟩ := ints2 (show IntsAre ws (dl 6 n e) from hI); clear hI; subst e9) | ((have e9 : x = 7 := by with_reducible assumption); subst e9; obtain ⟨t90, t91, t92, e9⟩ := ints3 (show IntsAre ws (dl 7 n e) from hI); clear hI; subst e9) | ((have e9 : x = 8 := by with_reducible assumption); subst e9; obtain ⟨t90, t91, t92, e9⟩ := ints3 (show IntsAre ws (dl 8 n e) from hI); clear hI; subst e9) | ((have e9 : x = 9 := by with_reducible assumption); subst e9; obtain ⟨t90, t91, t92, t93, t94, e9⟩ := ints5 (show IntsAre ws (dl 9 n e) from hI); clear hI; subst e9) | ((have e9 : x = 10 := by with_reducible assumption); subst e9; obtain ⟨t90, t91, t92, e9⟩ := ints3 (show IntsAre ws (dl 10 n e) from hI); clear hI; subst e9) | ((have e9 : x = 11 := by with_reducible assumption); subst e9; obtain ⟨t90, t91, t92, e9⟩ := ints3 (show IntsAre ws (dl 11 n e) from hI); clear hI; subst e9) | ((have e9 : x = 12 := by omega); subst e9; obtain ⟨t90, e9⟩ := ints1 (show IntsAre ws (dl 12 n e) from hI); clear hI; subst e9))))
set_option hygiene false in
local macro_rules | `(tactic| walk_at "eval Tuple") => `(tactic| ((have hI9 : IntsAre ws (dl x n e) := hI); clear hI9; k_dflt (first | ((have e9 : x = 0 := by with_reducible assumption); subst e9; obtain ⟨t90, e9⟩ := ints1 (show IntsAre ws (dl 0 n e) from hI); clear hI; subst e9) | ((have e9 : x = 1 := by with_reducible assumption); subst e9; obtain ⟨t90, t91, t92, e9⟩ := ints3 (show IntsAre ws (dl 1 n e) from hI); clear hI; subst e9) | ((have e9 : x = 2 := by with_reducible assumption); subst e9; obtain ⟨t90, t91, t92, e9⟩ := ints3 (show IntsAre ws (dl 2 n e) from hI); clear hI; subst e9) | ((have e9 : x = 3 := by with_reducible assumption); subst e9; obtain ⟨t90, t91, t92, e9⟩ := ints3 (show IntsAre ws (dl 3 n e) from hI); clear hI; subst e9) | ((have e9 : x = 4 := by with_reducible assumption); subst e9; obtain ⟨t90, t91, t92, e9⟩ := ints3 (show IntsAre ws (dl 4 n e) from hI); clear hI; subst e9) | ((have e9 : x = 5 := by with_reducible assumption); subst e9; obtain ⟨t90, t91, t92, e9⟩ := ints3 (show IntsAre ws (dl 5 n e) from hI); clear hI; subst e9) | ((have e9 : x = 6 := by with_reducible assumption); subst e9; obtain ⟨t90, t91, e9⟩ := ints2 (show IntsAre ws (dl 6 n e) from hI); clear hI; subst e9) | ((have e9 : x = 7 := by with_reducible assumption); subst e9; obtain ⟨t90, t91, t92, e9⟩ := ints3 (show IntsAre ws (dl 7 n e) from hI); clear hI; subst e9) | ((have e9 : x = 8 := by with_reducible assumption); subst e9; obtain ⟨t90, t91, t92, e9⟩ := ints3 (show IntsAre ws (dl 8 n e) from hI); clear hI; subst e9) | ((have e9 : x = 9 := by with_reducible assumption); subst e9; obtain ⟨t90, t91, t92, t93, t94, e9⟩ := ints5 (show IntsAre ws (dl 9 n e) from hI); clear hI; subst e9) | ((have e9 : x = 10 := by with_reducible assumption); subst e9; obtain ⟨t90, t91, t92, e9⟩ := ints3 (show IntsAre ws (dl 10 n e) from hI); clear hI; subst e9) | ((have e9 : x = 11 := by with_reducible assumption); subst e9; obtain ⟨t90, t91, t92, e9⟩ := ints3 (show IntsAre ws (dl 11 n e) from hI); clear hI; subst e9) | ((have e9 : x = 12 := by omega); subst e9; obtain ⟨t90, e9⟩ := ints1 (show IntsAre ws (dl 12 n e) from hI); clear hI; subst e9))))
local macro_rules | `(tactic| walk_at "callWith ref") => `(tactic| (k_here; (with_reducible show wpAny _ _ (callWith _ (Value.ref _) _ (backTo _ (starEach [Expr.Starred _ _] _)) []) _ _ _); k_dflt (refine' callWith_SM ?k1 ?k2 ?k3 ?k4 ?_; (case k1 => k_asm); (case k2 => k_asm); (case k3 => k_mem); (case k4 => k_is); k_whole)))
local macro_rules | `(tactic| walk_at "call ref") => `(tactic| (k_here; k_dflt (refine' call_meth ?k1 ?k2 ?_; (case k1 => k_asm); (case k2 => k_mem); k_whole); k_dflt (refine' code_def ?k1 ?k2 ?k3 ?k4 ?k5 ?kA ?kF ?kK ?k6 ?k7 ?k8 ?k9 ?kB ?_ ?c2 ?c3 ?c4 ?c5; (case kA => exact rfl); (case kF => exact rfl); (case kK => first | exact rfl | assumption); (case k1 => k_asm); (case k2 => k_asm); (case k3 => k_asm); (case k4 => k_asm); (case k5 => k_asm); (case k6 => k_is); (case k7 => k_is); (case k8 => ktr_room); (case k9 => first | exact BindsTo.of_eq rfl | exact binds_K (by k_in) rfl (by k_is) rfl rfl rfl); (case c5 => decide); (case kB => exact locs rfl); (case c2 => exact rfl); (case c3 => exact rfl); (case c4 => exact rfl); k_whole; intro g' L' h' FG' F' N' B' X' T'; (try dsimp only); (try k_lift B'); (try k_fold))))
local macro_rules | `(tactic| walk_at "call ref") => `(tactic| ((with_reducible show wpAny _ _ (call (Value.ref 216) _) _ _ _); k_here; k_dflt (refine' call_cls ?k1 ?k2 ?k3 ?k4 ?k5 ?k6 ?_; (case k1 => k_asm); (case k2 => k_asm); (case k3 => k_asm); (case k4 => k_is); (case k5 => k_is); (case k6 => k_is); k_whole; intro x' d' h' F' N' l1 l2; (try k_lt l1); (try k_lt2 l2); (try k_sweep)); k_dflt (refine' code_def ?k1 ?k2 ?k3 ?k4 ?k5 ?kA ?kF ?kK ?k6 ?k7 ?k8 ?k9 ?kB ?_ ?c2 ?c3 ?c4 ?c5; (case kA => exact rfl); (case kF => exact rfl); (case kK => first | exact rfl | assumption); (case k1 => k_asm); (case k2 => k_asm); (case k3 => k_asm); (case k4 => k_asm); (case k5 => k_asm); (case k6 => k_is); (case k7 => k_is); (case k8 => ktr_room); (case k9 => first | exact BindsTo.of_eq rfl | exact binds_K (by k_in) rfl (by k_is) rfl rfl rfl); (case c5 => decide); (case kB => exact locs rfl); (case c2 => exact rfl); (case c3 => exact rfl); (case c4 => exact rfl); k_whole; intro g' L' h' FG' F' N' B' X' T'; (try dsimp only); (try k_lift B'); (try k_fold))))
local macro_rules | `(tactic| walk_at "subscriptTail Name Constant ref int") => `(tactic| (k_here; (with_reducible show wpAny _ _ (subscriptTail _ _ (Value.ref _) (Value.int _ _)) _ _ _); k_dflt (refine' item_tupleT ?t ?a ?b ?c ?d ?_; (case t => exact News.isTup (by k_asm) (by first | with_reducible assumption | exact List.mem_cons_of_mem _ (by with_reducible assumption) | exact List.mem_cons_of_mem _ (List.mem_cons_of_mem _ (by with_reducible assumption)) | exact List.mem_cons_of_mem _ (List.mem_cons_of_mem _ (List.mem_cons_of_mem _ (by with_reducible assumption))) | exact List.mem_cons_of_mem _ (List.mem_cons_of_mem _ (List.mem_cons_of_mem _ (List.mem_cons_of_mem _ (by with_reducible assumption)))) | exact List.mem_cons_of_mem _ (List.mem_cons_of_mem _ (List.mem_cons_of_mem _ (List.mem_cons_of_mem _ (List.mem_cons_of_mem _ (by with_reducible assumption))))) | exact List.mem_cons_of_mem _ (List.mem_cons_of_mem _ (List.mem_cons_of_mem _ (List.mem_cons_of_mem _ (List.mem_cons_of_mem _ (List.mem_cons_of_mem _ (by with_reducible assumption)))))) | exact List.mem_cons_of_mem _ (List.mem_cons_of_mem _ (List.mem_cons_of_mem _ (List.mem_cons_of_mem _ (List.mem_cons_of_mem _ (List.mem_cons_of_mem _ (List.mem_cons_of_mem _ (by with_reducible assumption))))))) | assumption | k_mem)); (case a => decide); (case b => decide); (case c => rfl); (case d => rfl))))
local macro_rules | `(tactic| walk_at "StarOf ref") => `(tactic| (k_here; k_dflt (refine' star_seq ?k1 ?k2 ?m ?c ?d ?T ?e ?z ?_; (case k1 => k_asm); (case k2 => k_asm); (case m => exact (by first | with_reducible assumption | exact List.mem_cons_of_mem _ (by with_reducible assumption) | exact List.mem_cons_of_mem _ (List.mem_cons_of_mem _ (by with_reducible assumption)) | exact List.mem_cons_of_mem _ (List.mem_cons_of_mem _ (List.mem_cons_of_mem _ (by with_reducible assumption))) | exact List.mem_cons_of_mem _ (List.mem_cons_of_mem _ (List.mem_cons_of_mem _ (List.mem_cons_of_mem _ (by with_reducible assumption)))) | exact List.mem_cons_of_mem _ (List.mem_cons_of_mem _ (List.mem_cons_of_mem _ (List.mem_cons_of_mem _ (List.mem_cons_of_mem _ (by with_reducible assumption))))) | exact List.mem_cons_of_mem _ (List.mem_cons_of_mem _ (List.mem_cons_of_mem _ (List.mem_cons_of_mem _ (List.mem_cons_of_mem _ (List.mem_cons_of_mem _ (by with_reducible assumption)))))) | exact List.mem_cons_of_mem _ (List.mem_cons_of_mem _ (List.mem_cons_of_mem _ (List.mem_cons_of_mem _ (List.mem_cons_of_mem _ (List.mem_cons_of_mem _ (List.mem_cons_of_mem _ (by with_reducible assumption))))))) | assumption | k_mem)); (case c => exact rfl); (case d => exact rfl); (case T => first | exact .inl rfl | exact .inr rfl); (case e => kl_lit); (case z => exact Nat.le_of_ble_eq_true rfl); k_whole); intro h' F' N'; (try k_sweep); try dsimp only [List.nil_append, List.cons_append]))
local macro_rules | `(tactic| walk_at "ite") => `(tactic| first | (refine ite_eqY (by with_reducible assumption) ?_) | (refine ite_eqN (by with_reducible assumption) ?_))
local macro_rules | `(tactic| walk_at "call ref") => `(tactic| ((with_reducible show wpAny _ _ (call (Value.ref 192) _) _ _ _); k_here; refine wpAny_call ?_; k_dflt (refine' code_def ?k1 ?k2 ?k3 ?k4 ?k5 ?kA ?kF ?kK ?k6 ?k7 ?k8 ?k9 ?kB ?_ ?c2 ?c3 ?c4 ?c5; (case kA => exact rfl); (case kF => exact rfl); (case kK => first | exact rfl | assumption); (case k1 => k_asm); (case k2 => k_asm); (case k3 => k_asm); (case k4 => k_asm); (case k5 => k_asm); (case k6 => k_is); (case k7 => k_is); (case k8 => ktr_room); (case k9 => first | exact BindsTo.of_eq rfl | exact binds_K (by k_in) rfl (by k_is) rfl rfl rfl); (case c5 => decide); (case kB => exact locs rfl); (case c2 => exact rfl); (case c3 => exact rfl); (case c4 => exact rfl); k_whole; intro g' L' h' FG' F' N' B' X' T'; (try dsimp only); (try k_lift B'); (try k_fold))))
local macro_rules | `(tactic| walk_at "call ref") => `(tactic| ((with_reducible show wpAny _ _ (call (Value.ref 199) _) _ _ _); k_here; refine wpAny_call ?_; k_dflt (refine' code_def ?k1 ?k2 ?k3 ?k4 ?k5 ?kA ?kF ?kK ?k6 ?k7 ?k8 ?k9 ?kB ?_ ?c2 ?c3 ?c4 ?c5; (case kA => exact rfl); (case kF => exact rfl); (case kK => first | exact rfl | assumption); (case k1 => k_asm); (case k2 => k_asm); (case k3 => k_asm); (case k4 => k_asm); (case k5 => k_asm); (case k6 => k_is); (case k7 => k_is); (case k8 => ktr_room); (case k9 => first | exact BindsTo.of_eq rfl | exact binds_K (by k_in) rfl (by k_is) rfl rfl rfl); (case c5 => decide); (case kB => exact locs rfl); (case c2 => exact rfl); (case c3 => exact rfl); (case c4 => exact rfl); k_whole; intro g' L' h' FG' F' N' B' X' T'; (try dsimp only); (try k_lift B'); (try k_fold))))
local macro_rules | `(tactic| walk_at "call ref") => `(tactic| ((with_reducible show wpAny _ _ (call (Value.ref 178) _) _ _ _); k_here; refine wpAny_call ?_; k_dflt (refine' code_def ?k1 ?k2 ?k3 ?k4 ?k5 ?kA ?kF ?kK ?k6 ?k7 ?k8 ?k9 ?kB ?_ ?c2 ?c3 ?c4 ?c5; (case kA => exact rfl); (case kF => exact rfl); (case kK => first | exact rfl | assumption); (case k1 => k_asm); (case k2 => k_asm); (case k3 => k_asm); (case k4 => k_asm); (case k5 => k_asm); (case k6 => k_is); (case k7 => k_is); (case k8 => ktr_room); (case k9 => first | exact BindsTo.of_eq rfl | exact binds_K (by k_in) rfl (by k_is) rfl rfl rfl); (case c5 => decide); (case kB => exact locs rfl); (case c2 => exact rfl); (case c3 => exact rfl); (case c4 => exact rfl); k_whole; intro g' L' h' FG' F' N' B' X' T'; (try dsimp only); (try k_lift B'); (try k_fold))))
local macro_rules | `(tactic| walk_at "call ref") => `(tactic| ((with_reducible show wpAny _ _ (call (Value.ref 185) _) _ _ _); k_here; refine wpAny_call ?_; k_dflt (refine' code_def ?k1 ?k2 ?k3 ?k4 ?k5 ?kA ?kF ?kK ?k6 ?k7 ?k8 ?k9 ?kB ?_ ?c2 ?c3 ?c4 ?c5; (case kA => exact rfl); (case kF => exact rfl); (case kK => first | exact rfl | assumption); (case k1 => k_asm); (case k2 => k_asm); (case k3 => k_asm); (case k4 => k_asm); (case k5 => k_asm); (case k6 => k_is); (case k7 => k_is); (case k8 => ktr_room); (case k9 => first | exact BindsTo.of_eq rfl | exact binds_K (by k_in) rfl (by k_is) rfl rfl rfl); (case c5 => decide); (case kB => exact locs rfl); (case c2 => exact rfl); (case c3 => exact rfl); (case c4 => exact rfl); k_whole; intro g' L' h' FG' F' N' B' X' T'; (try dsimp only); (try k_lift B'); (try k_fold))))
local macro_rules | `(tactic| walk_at "call ref") => `(tactic| ((with_reducible show wpAny _ _ (call (Value.ref 206) _) _ _ _); k_here; refine wpAny_call ?_; k_dflt (refine' code_def ?k1 ?k2 ?k3 ?k4 ?k5 ?kA ?kF ?kK ?k6 ?k7 ?k8 ?k9 ?kB ?_ ?c2 ?c3 ?c4 ?c5; (case kA => exact rfl); (case kF => exact rfl); (case kK => first | exact rfl | assumption); (case k1 => k_asm); (case k2 => k_asm); (case k3 => k_asm); (case k4 => k_asm); (case k5 => k_asm); (case k6 => k_is); (case k7 => k_is); (case k8 => ktr_room); (case k9 => first | exact BindsTo.of_eq rfl | exact binds_K (by k_in) rfl (by k_is) rfl rfl rfl); (case c5 => decide); (case kB => exact locs rfl); (case c2 => exact rfl); (case c3 => exact rfl); (case c4 => exact rfl); k_whole; intro g' L' h' FG' F' N' B' X' T'; (try dsimp only); (try k_lift B'); (try k_fold))))
local macro_rules | `(tactic| walk_at "call ref") => `(tactic| ((with_reducible show wpAny _ _ (call (Value.ref 213) _) _ _ _); k_here; refine wpAny_call ?_; k_dflt (refine' code_def ?k1 ?k2 ?k3 ?k4 ?k5 ?kA ?kF ?kK ?k6 ?k7 ?k8 ?k9 ?kB ?_ ?c2 ?c3 ?c4 ?c5; (case kA => exact rfl); (case kF => exact rfl); (case kK => first | exact rfl | assumption); (case k1 => k_asm); (case k2 => k_asm); (case k3 => k_asm); (case k4 => k_asm); (case k5 => k_asm); (case k6 => k_is); (case k7 => k_is); (case k8 => ktr_room); (case k9 => first | exact BindsTo.of_eq rfl | exact binds_K (by k_in) rfl (by k_is) rfl rfl rfl); (case c5 => decide); (case kB => exact locs rfl); (case c2 => exact rfl); (case c3 => exact rfl); (case c4 => exact rfl); k_whole; intro g' L' h' FG' F' N' B' X' T'; (try dsimp only); (try k_lift B'); (try k_fold))))

theorem c_lgreg (w mean mg mb) : ∀ news x tx D ws c n e te, ConT w mean mg mb 542 8 news ((D, tupO ws c) ∈ news ∧ IntsAre ws (dl x n e) ∧ 0 ≤ x ∧ x < 13 ∧ Facts n) [.int x tx, .ref D, .int e te] ([fyg n, fmg n, fdg n]) := by
  intro news x tx D ws c n e te
  unfold ConT
  dsimp only [Kf, Tp]
  k_fill
  intro dp' un' gd' cn' cs' a' ccd' cl' outer' A' base' h' L' fr' s' Q' E' hB hF hX hN hT hk hpre hd hu hret
  obtain ⟨hmem, hI, hx0, hx1, f⟩ := hpre
  have g1 := f.g1
  have j1 := f.j1
  have o1 := f.o1
  have w1 := f.w1
  have p1 := f.p1
  have a1 := f.a1
  have s1 := f.s1
  all_goals (
  refine wpAny_call ?_
  k_dflt (refine' code_def ?k1 ?k2 ?k3 ?k4 ?k5 ?kA ?kF ?kK ?k6 ?k7 ?k8 ?k9 ?kB ?_ ?c2 ?c3 ?c4 ?c5; (case kA => exact rfl); (case kF => exact rfl); (case kK => assumption); (case k1 => k_asm); (case k2 => k_asm); (case k3 => k_asm); (case k4 => k_asm); (case k5 => k_asm); (case k6 => k_is); (case k7 => k_is); (case k8 => ktr_room); (case k9 => first | exact BindsTo.of_eq rfl | exact binds_K (by k_in) rfl (by k_is) rfl rfl rfl); (case c5 => decide); (case kB => exact locs rfl); (case c2 => exact rfl); (case c3 => exact rfl); (case c4 => exact rfl); k_whole; intro g' L' h' FG' F' N' B' X' T'; (try dsimp only); (try k_lift B'); (try k_fold))
  k_steps)
  all_goals (refine' endT hret ?e2 ?e3 ?e5 ?e6 ?e1 ?e4; (case e2 => k_asm); (case e3 => k_asm); (case e5 => first | k_mem | assumption); (case e6 => first | assumption | (repeat constructor)); (case e4 => first | exact fun _ h => h | exact fun _ h => .tail _ h | exact fun _ h => .tail _ (.tail _ h) | exact fun _ h => .tail _ (.tail _ (.tail _ h)) | exact fun _ h => .tail _ (.tail _ (.tail _ (.tail _ h))) | exact fun _ h => .tail _ (.tail _ (.tail _ (.tail _ (.tail _ h)))) | exact fun _ h => .tail _ (.tail _ (.tail _ (.tail _ (.tail _ (.tail _ h))))) | exact fun _ h => .tail _ (.tail _ (.tail _ (.tail _ (.tail _ (.tail _ (.tail _ h)))))) | exact fun _ h => .tail _ (.tail _ (.tail _ (.tail _ (.tail _ (.tail _ (.tail _ (.tail _ h))))))) | kcj_all); (case e1 => first | rfl | (simp only [f.g2, f.j2, f.i2, f.c2, f.n2, f.o2, f.w2, f.p2, f.m2, f.a2, f.s2, f.o3, f.o4, f.o5, Int.sub_add_cancel]; first | done | rfl)))
end

local macro_rules | `(tactic| walk_at "call ref") => `(tactic| ((with_reducible show wpAny _ _ (call (Value.ref 542) _) _ _ _); k_here; k_dflt (refine' useT (c_lgreg _ _ _ _ _ _ _ _ _ _ _ _ _) ?k1 ?k2 ?k3 ?k4 ?k5 ?kK ?kp ?kd ?ku ?_; (case k1 => k_asm); (case k2 => k_asm); (case k3 => k_asm); (case k4 => k_asm); (case k5 => k_asm); (case kK => first | exact rfl | assumption); (case kp => exact ⟨(by first | with_reducible assumption | exact List.mem_cons_of_mem _ (by with_reducible assumption) | exact List.mem_cons_of_mem _ (List.mem_cons_of_mem _ (by with_reducible assumption)) | exact List.mem_cons_of_mem _ (List.mem_cons_of_mem _ (List.mem_cons_of_mem _ (by with_reducible assumption))) | exact List.mem_cons_of_mem _ (List.mem_cons_of_mem _ (List.mem_cons_of_mem _ (List.mem_cons_of_mem _ (by with_reducible assumption)))) | exact List.mem_cons_of_mem _ (List.mem_cons_of_mem _ (List.mem_cons_of_mem _ (List.mem_cons_of_mem _ (List.mem_cons_of_mem _ (by with_reducible assumption))))) | exact List.mem_cons_of_mem _ (List.mem_cons_of_mem _ (List.mem_cons_of_mem _ (List.mem_cons_of_mem _ (List.mem_cons_of_mem _ (List.mem_cons_of_mem _ (by with_reducible assumption)))))) | exact List.mem_cons_of_mem _ (List.mem_cons_of_mem _ (List.mem_cons_of_mem _ (List.mem_cons_of_mem _ (List.mem_cons_of_mem _ (List.mem_cons_of_mem _ (List.mem_cons_of_mem _ (by with_reducible assumption))))))) | assumption | k_mem), by assumption, by omega, by omega, by assumption⟩); (case kd => ktr_room); (case ku => ktr_units); intro D9 ws9 c9 h9 tk9 I9 F9 N9; (try dsimp only); (try k_fold))))
section
local macro_rules | `(tactic| walk_at "callWith ref") => `(tactic| (k_here; (with_reducible show wpAny _ _ (callWith _ (Value.ref _) _ (backTo _ (starEach [Expr.Starred _ _] _)) []) _ _ _); k_dflt (refine' callWith_SM ?k1 ?k2 ?k3 ?k4 ?_; (case k1 => k_asm); (case k2 => k_asm); (case k3 => k_mem); (case k4 => k_is); k_whole)))
local macro_rules | `(tactic| walk_at "call ref") => `(tactic| (k_here; k_dflt (refine' call_meth ?k1 ?k2 ?_; (case k1 => k_asm); (case k2 => k_mem); k_whole); k_dflt (refine' code_def ?k1 ?k2 ?k3 ?k4 ?k5 ?kA ?kF ?kK ?k6 ?k7 ?k8 ?k9 ?kB ?_ ?c2 ?c3 ?c4 ?c5; (case kA => exact rfl); (case kF => exact rfl); (case kK => first | exact rfl | assumption); (case k1 => k_asm); (case k2 => k_asm); (case k3 => k_asm); (case k4 => k_asm); (case k5 => k_asm); (case k6 => k_is); (case k7 => k_is); (case k8 => ktr_room); (case k9 => first | exact BindsTo.of_eq rfl | exact binds_K (by k_in) rfl (by k_is) rfl rfl rfl); (case c5 => decide); (case kB => exact locs rfl); (case c2 => exact rfl); (case c3 => exact rfl); (case c4 => exact rfl); k_whole; intro g' L' h' FG' F' N' B' X' T'; (try dsimp only); (try k_lift B'); (try k_fold))))
local macro_rules | `(tactic| walk_at "call ref") => `(tactic| ((with_reducible show wpAny _ _ (call (Value.ref 216) _) _ _ _); k_here; k_dflt (refine' call_cls ?k1 ?k2 ?k3 ?k4 ?k5 ?k6 ?_; (case k1 => k_asm); (case k2 => k_asm); (case k3 => k_asm); (case k4 => k_is); (case k5 => k_is); (case k6 => k_is); k_whole; intro x' d' h' F' N' l1 l2; (try k_lt l1); (try k_lt2 l2); (try k_sweep)); k_dflt (refine' code_def ?k1 ?k2 ?k3 ?k4 ?k5 ?kA ?kF ?kK ?k6 ?k7 ?k8 ?k9 ?kB ?_ ?c2 ?c3 ?c4 ?c5; (case kA => exact rfl); (case kF => exact rfl); (case kK => first | exact rfl | assumption); (case k1 => k_asm); (case k2 => k_asm); (case k3 => k_asm); (case k4 => k_asm); (case k5 => k_asm); (case k6 => k_is); (case k7 => k_is); (case k8 => ktr_room); (case k9 => first | exact BindsTo.of_eq rfl | exact binds_K (by k_in) rfl (by k_is) rfl rfl rfl); (case c5 => decide); (case kB => exact locs rfl); (case c2 => exact rfl); (case c3 => exact rfl); (case c4 => exact rfl); k_whole; intro g' L' h' FG' F' N' B' X' T'; (try dsimp only); (try k_lift B'); (try k_fold))))
local macro_rules | `(tactic| walk_at "subscriptTail Name Constant ref int") => `(tactic| (k_here; (with_reducible show wpAny _ _ (subscriptTail _ _ (Value.ref _) (Value.int _ _)) _ _ _); k_dflt (refine' item_tupleT ?t ?a ?b ?c ?d ?_; (case t => exact News.isTup (by k_asm) (by first | with_reducible assumption | exact List.mem_cons_of_mem _ (by with_reducible assumption) | exact List.mem_cons_of_mem _ (List.mem_cons_of_mem _ (by with_reducible assumption)) | exact List.mem_cons_of_mem _ (List.mem_cons_of_mem _ (List.mem_cons_of_mem _ (by with_reducible assumption))) | exact List.mem_cons_of_mem _ (List.mem_cons_of_mem _ (List.mem_cons_of_mem _ (List.mem_cons_of_mem _ (by with_reducible assumption)))) | exact List.mem_cons_of_mem _ (List.mem_cons_of_mem _ (List.mem_cons_of_mem _ (List.mem_cons_of_mem _ (List.mem_cons_of_mem _ (by with_reducible assumption))))) | exact List.mem_cons_of_mem _ (List.mem_cons_of_mem _ (List.mem_cons_of_mem _ (List.mem_cons_of_mem _ (List.mem_cons_of_mem _ (List.mem_cons_of_mem _ (by with_reducible assumption)))))) | exact List.mem_cons_of_mem _ (List.mem_cons_of_mem _ (List.mem_cons_of_mem _ (List.mem_cons_of_mem _ (List.mem_cons_of_mem _ (List.mem_cons_of_mem _ (List.mem_cons_of_mem _ (by with_reducible assumption))))))) | assumption | k_mem)); (case a => decide); (case b => decide); (case c => rfl); (case d => rfl))))
local macro_rules | `(tactic| walk_at "StarOf ref") => `(tactic| (k_here; k_dflt (refine' star_seq ?k1 ?k2 ?m ?c ?d ?T ?e ?z ?_; (case k1 => k_asm); (case k2 => k_asm); (case m => exact (by first | with_reducible assumption | exact List.mem_cons_of_mem _ (by with_reducible assumption) | exact List.mem_cons_of_mem _ (List.mem_cons_of_mem _ (by with_reducible assumption)) | exact List.mem_cons_of_mem _ (List.mem_cons_of_mem _ (List.mem_cons_of_mem _ (by with_reducible assumption))) | exact List.mem_cons_of_mem _ (List.mem_cons_of_mem _ (List.mem_cons_of_mem _ (List.mem_cons_of_mem _ (by with_reducible assumption)))) | exact List.mem_cons_of_mem _ (List.mem_cons_of_mem _ (List.mem_cons_of_mem _ (List.mem_cons_of_mem _ (List.mem_cons_of_mem _ (by with_reducible assumption))))) | exact List.mem_cons_of_mem _ (List.mem_cons_of_mem _ (List.mem_cons_of_mem _ (List.mem_cons_of_mem _ (List.mem_cons_of_mem _ (List.mem_cons_of_mem _ (by with_reducible assumption)))))) | exact List.mem_cons_of_mem _ (List.mem_cons_of_mem _ (List.mem_cons_of_mem _ (List.mem_cons_of_mem _ (List.mem_cons_of_mem _ (List.mem_cons_of_mem _ (List.mem_cons_of_mem _ (by with_reducible assumption))))))) | assumption | k_mem)); (case c => exact rfl); (case d => exact rfl); (case T => first | exact .inl rfl | exact .inr rfl); (case e => kl_lit); (case z => exact Nat.le_of_ble_eq_true rfl); k_whole); intro h' F' N'; (try k_sweep); try dsimp only [List.nil_append, List.cons_append]))
local macro_rules | `(tactic| walk_at "ite") => `(tactic| first | (refine ite_eqY (by with_reducible assumption) ?_) | (refine ite_eqN (by with_reducible assumption) ?_))
local macro_rules | `(tactic| walk_at "call ref") => `(tactic| ((with_reducible show wpAny _ _ (call (Value.ref 192) _) _ _ _); k_here; refine wpAny_call ?_; k_dflt (refine' code_def ?k1 ?k2 ?k3 ?k4 ?k5 ?kA ?kF ?kK ?k6 ?k7 ?k8 ?k9 ?kB ?_ ?c2 ?c3 ?c4 ?c5; (case kA => exact rfl); (case kF => exact rfl); (case kK => first | exact rfl | assumption); (case k1 => k_asm); (case k2 => k_asm); (case k3 => k_asm); (case k4 => k_asm); (case k5 => k_asm); (case k6 => k_is); (case k7 => k_is); (case k8 => ktr_room); (case k9 => first | exact BindsTo.of_eq rfl | exact binds_K (by k_in) rfl (by k_is) rfl rfl rfl); (case c5 => decide); (case kB => exact locs rfl); (case c2 => exact rfl); (case c3 => exact rfl); (case c4 => exact rfl); k_whole; intro g' L' h' FG' F' N' B' X' T'; (try dsimp only); (try k_lift B'); (try k_fold))))
local macro_rules | `(tactic| walk_at "call ref") => `(tactic| ((with_reducible show wpAny _ _ (call (Value.ref 199) _) _ _ _); k_here; refine wpAny_call ?_; k_dflt (refine' code_def ?k1 ?k2 ?k3 ?k4 ?k5 ?kA ?kF ?kK ?k6 ?k7 ?k8 ?k9 ?kB ?_ ?c2 ?c3 ?c4 ?c5; (case kA => exact rfl); (case kF => exact rfl); (case kK => first | exact rfl | assumption); (case k1 => k_asm); (case k2 => k_asm); (case k3 => k_asm); (case k4 => k_asm); (case k5 => k_asm); (case k6 => k_is); (case k7 => k_is); (case k8 => ktr_room); (case k9 => first | exact BindsTo.of_eq rfl | exact binds_K (by k_in) rfl (by k_is) rfl rfl rfl); (case c5 => decide); (case kB => exact locs rfl); (case c2 => exact rfl); (case c3 => exact rfl); (case c4 => exact rfl); k_whole; intro g' L' h' FG' F' N' B' X' T'; (try dsimp only); (try k_lift B'); (try k_fold))))
local macro_rules | `(tactic| walk_at "call ref") => `(tactic| ((with_reducible show wpAny _ _ (call (Value.ref 178) _) _ _ _); k_here; refine wpAny_call ?_; k_dflt (refine' code_def ?k1 ?k2 ?k3 ?k4 ?k5 ?kA ?kF ?kK ?k6 ?k7 ?k8 ?k9 ?kB ?_ ?c2 ?c3 ?c4 ?c5; (case kA => exact rfl); (case kF => exact rfl); (case kK => first | exact rfl | assumption); (case k1 => k_asm); (case k2 => k_asm); (case k3 => k_asm); (case k4 => k_asm); (case k5 => k_asm); (case k6 => k_is); (case k7 => k_is); (case k8 => ktr_room); (case k9 => first | exact BindsTo.of_eq rfl | exact binds_K (by k_in) rfl (by k_is) rfl rfl rfl); (case c5 => decide); (case kB => exact locs rfl); (case c2 => exact rfl); (case c3 => exact rfl); (case c4 => exact rfl); k_whole; intro g' L' h' FG' F' N' B' X' T'; (try dsimp only); (try k_lift B'); (try k_fold))))
local macro_rules | `(tactic| walk_at "call ref") => `(tactic| ((with_reducible show wpAny _ _ (call (Value.ref 185) _) _ _ _); k_here; refine wpAny_call ?_; k_dflt (refine' code_def ?k1 ?k2 ?k3 ?k4 ?k5 ?kA ?kF ?kK ?k6 ?k7 ?k8 ?k9 ?kB ?_ ?c2 ?c3 ?c4 ?c5; (case kA => exact rfl); (case kF => exact rfl); (case kK => first | exact rfl | assumption); (case k1 => k_asm); (case k2 => k_asm); (case k3 => k_asm); (case k4 => k_asm); (case k5 => k_asm); (case k6 => k_is); (case k7 => k_is); (case k8 => ktr_room); (case k9 => first | exact BindsTo.of_eq rfl | exact binds_K (by k_in) rfl (by k_is) rfl rfl rfl); (case c5 => decide); (case kB => exact locs rfl); (case c2 => exact rfl); (case c3 => exact rfl); (case c4 => exact rfl); k_whole; intro g' L' h' FG' F' N' B' X' T'; (try dsimp only); (try k_lift B'); (try k_fold))))
local macro_rules | `(tactic| walk_at "call ref") => `(tactic| ((with_reducible show wpAny _ _ (call (Value.ref 206) _) _ _ _); k_here; refine wpAny_call ?_; k_dflt (refine' code_def ?k1 ?k2 ?k3 ?k4 ?k5 ?kA ?kF ?kK ?k6 ?k7 ?k8 ?k9 ?kB ?_ ?c2 ?c3 ?c4 ?c5; (case kA => exact rfl); (case kF => exact rfl); (case kK => first | exact rfl | assumption); (case k1 => k_asm); (case k2 => k_asm); (case k3 => k_asm); (case k4 => k_asm); (case k5 => k_asm); (case k6 => k_is); (case k7 => k_is); (case k8 => ktr_room); (case k9 => first | exact BindsTo.of_eq rfl | exact binds_K (by k_in) rfl (by k_is) rfl rfl rfl); (case c5 => decide); (case kB => exact locs rfl); (case c2 => exact rfl); (case c3 => exact rfl); (case c4 => exact rfl); k_whole; intro g' L' h' FG' F' N' B' X' T'; (try dsimp only); (try k_lift B'); (try k_fold))))
local macro_rules | `(tactic| walk_at "call ref") => `(tactic| ((with_reducible show wpAny _ _ (call (Value.ref 213) _) _ _ _); k_here; refine wpAny_call ?_; k_dflt (refine' code_def ?k1 ?k2 ?k3 ?k4 ?k5 ?kA ?kF ?kK ?k6 ?k7 ?k8 ?k9 ?kB ?_ ?c2 ?c3 ?c4 ?c5; (case kA => exact rfl); (case kF => exact rfl); (case kK => first | exact rfl | assumption); (case k1 => k_asm); (case k2 => k_asm); (case k3 => k_asm); (case k4 => k_asm); (case k5 => k_asm); (case k6 => k_is); (case k7 => k_is); (case k8 => ktr_room); (case k9 => first | exact BindsTo.of_eq rfl | exact binds_K (by k_in) rfl (by k_is) rfl rfl rfl); (case c5 => decide); (case kB => exact locs rfl); (case c2 => exact rfl); (case c3 => exact rfl); (case c4 => exact rfl); k_whole; intro g' L' h' FG' F' N' B' X' T'; (try dsimp only); (try k_lift B'); (try k_fold))))

theorem c_lback (w mean mg mb) : ∀ news x tx D ws c n e te, ConT w mean mg mb 549 8 news ((D, tupO ws c) ∈ news ∧ IntsAre ws [fyg n, fmg n, fdg n] ∧ 0 ≤ x ∧ x < 13 ∧ Facts n) [.int x tx, .ref D, .int e te] (dl x n e) := by
  intro news x tx D ws c n e te
  unfold ConT
  dsimp only [Kf, Tp]
  k_fill
  intro dp' un' gd' cn' cs' a' ccd' cl' outer' A' base' h' L' fr' s' Q' E' hB hF hX hN hT hk hpre hd hu hret
  obtain ⟨hmem, hI, hx0, hx1, f⟩ := hpre
  obtain ⟨t1, t2, t3, rfl⟩ := ints3 hI
  clear hI
  have g1 := f.g1
  have g3 := f.g3.1
  have p0 := f.p0
  have wpre : 1 ≤ fyg n ∧ fyg n ≤ 9999 ∧ 1 ≤ fmg n ∧ fmg n ≤ 12 ∧ 0 < fdg n ∧ fdg n ≤ dimg (fyg n) (fmg n) := ⟨f.g4.1, f.g4.2, f.g3.1, f.g3.2, f.g1.1, f.g1.2⟩
  have q1 : (0 < fdg n ∧ fdg n ≤ dimg (fyg n) (fmg n)) ∧ 2374480 ≤ tjg (fyg n) (fmg n) (fdg n) := ⟨f.g1, by rw [f.g2]; omega⟩
  have q2 : (0 < fdg n ∧ fdg n ≤ dimg (fyg n) (fmg n)) ∧ 584283 ≤ tjg (fyg n) (fmg n) (fdg n) := ⟨f.g1, by rw [f.g2]; omega⟩
  have q3 : (0 < fdg n ∧ fdg n ≤ dimg (fyg n) (fmg n)) ∧ 1922502 < tjg (fyg n) (fmg n) (fdg n) := ⟨f.g1, by rw [f.g2]; omega⟩
  have q4 : (0 < fdg n ∧ fdg n ≤ dimg (fyg n) (fmg n)) ∧ 2117211 < tjg (fyg n) (fmg n) (fdg n) := ⟨f.g1, by rw [f.g2]; omega⟩
  all_goals (
  refine wpAny_call ?_
  k_dflt (refine' code_def ?k1 ?k2 ?k3 ?k4 ?k5 ?kA ?kF ?kK ?k6 ?k7 ?k8 ?k9 ?kB ?_ ?c2 ?c3 ?c4 ?c5; (case kA => exact rfl); (case kF => exact rfl); (case kK => assumption); (case k1 => k_asm); (case k2 => k_asm); (case k3 => k_asm); (case k4 => k_asm); (case k5 => k_asm); (case k6 => k_is); (case k7 => k_is); (case k8 => ktr_room); (case k9 => first | exact BindsTo.of_eq rfl | exact binds_K (by k_in) rfl (by k_is) rfl rfl rfl); (case c5 => decide); (case kB => exact locs rfl); (case c2 => exact rfl); (case c3 => exact rfl); (case c4 => exact rfl); k_whole; intro g' L' h' FG' F' N' B' X' T'; (try dsimp only); (try k_lift B'); (try k_fold))
  k_steps)
  all_goals (refine' endT hret ?e2 ?e3 ?e5 ?e6 ?e1 ?e4; (case e2 => k_asm); (case e3 => k_asm); (case e5 => first | k_mem | assumption); (case e6 => first | assumption | (repeat constructor)); (case e4 => first | exact fun _ h => h | exact fun _ h => .tail _ h | exact fun _ h => .tail _ (.tail _ h) | exact fun _ h => .tail _ (.tail _ (.tail _ h)) | exact fun _ h => .tail _ (.tail _ (.tail _ (.tail _ h))) | exact fun _ h => .tail _ (.tail _ (.tail _ (.tail _ (.tail _ h)))) | exact fun _ h => .tail _ (.tail _ (.tail _ (.tail _ (.tail _ (.tail _ h))))) | exact fun _ h => .tail _ (.tail _ (.tail _ (.tail _ (.tail _ (.tail _ (.tail _ h)))))) | exact fun _ h => .tail _ (.tail _ (.tail _ (.tail _ (.tail _ (.tail _ (.tail _ (.tail _ h))))))) | kcj_all); (case e1 => first | (show _ = _; rfl; done) | ((have e9 : x = 0 := by with_reducible assumption); subst e9; first | rfl | (simp only [f.g2, f.j2, f.i2, f.c2, f.n2, f.o2, f.w2, f.p2, f.m2, f.a2, f.s2, f.o3, f.o4, f.o5, Int.sub_add_cancel]; first | done | rfl)) | ((have e9 : x = 1 := by with_reducible assumption); subst e9; first | rfl | (simp only [f.g2, f.j2, f.i2, f.c2, f.n2, f.o2, f.w2, f.p2, f.m2, f.a2, f.s2, f.o3, f.o4, f.o5, Int.sub_add_cancel]; first | done | rfl)) | ((have e9 : x = 2 := by with_reducible assumption); subst e9; first | rfl | (simp only [f.g2, f.j2, f.i2, f.c2, f.n2, f.o2, f.w2, f.p2, f.m2, f.a2, f.s2, f.o3, f.o4, f.o5, Int.sub_add_cancel]; first | done | rfl)) | ((have e9 : x = 3 := by with_reducible assumption); subst e9; first | rfl | (simp only [f.g2, f.j2, f.i2, f.c2, f.n2, f.o2, f.w2, f.p2, f.m2, f.a2, f.s2, f.o3, f.o4, f.o5, Int.sub_add_cancel]; first | done | rfl)) | ((have e9 : x = 4 := by with_reducible assumption); subst e9; first | rfl | (simp only [f.g2, f.j2, f.i2, f.c2, f.n2, f.o2, f.w2, f.p2, f.m2, f.a2, f.s2, f.o3, f.o4, f.o5, Int.sub_add_cancel]; first | done | rfl)) | ((have e9 : x = 5 := by with_reducible assumption); subst e9; first | rfl | (simp only [f.g2, f.j2, f.i2, f.c2, f.n2, f.o2, f.w2, f.p2, f.m2, f.a2, f.s2, f.o3, f.o4, f.o5, Int.sub_add_cancel]; first | done | rfl)) | ((have e9 : x = 6 := by with_reducible assumption); subst e9; first | rfl | (simp only [f.g2, f.j2, f.i2, f.c2, f.n2, f.o2, f.w2, f.p2, f.m2, f.a2, f.s2, f.o3, f.o4, f.o5, Int.sub_add_cancel]; first | done | rfl)) | ((have e9 : x = 7 := by with_reducible assumption); subst e9; first | rfl | (simp only [f.g2, f.j2, f.i2, f.c2, f.n2, f.o2, f.w2, f.p2, f.m2, f.a2, f.s2, f.o3, f.o4, f.o5, Int.sub_add_cancel]; first | done | rfl)) | ((have e9 : x = 8 := by with_reducible assumption); subst e9; first | rfl | (simp only [f.g2, f.j2, f.i2, f.c2, f.n2, f.o2, f.w2, f.p2, f.m2, f.a2, f.s2, f.o3, f.o4, f.o5, Int.sub_add_cancel]; first | done | rfl)) | ((have e9 : x = 9 := by with_reducible assumption); subst e9; first | rfl | (simp only [f.g2, f.j2, f.i2, f.c2, f.n2, f.o2, f.w2, f.p2, f.m2, f.a2, f.s2, f.o3, f.o4, f.o5, Int.sub_add_cancel]; first | done | rfl)) | ((have e9 : x = 10 := by with_reducible assumption); subst e9; first | rfl | (simp only [f.g2, f.j2, f.i2, f.c2, f.n2, f.o2, f.w2, f.p2, f.m2, f.a2, f.s2, f.o3, f.o4, f.o5, Int.sub_add_cancel]; first | done | rfl)) | ((have e9 : x = 11 := by with_reducible assumption); subst e9; first | rfl | (simp only [f.g2, f.j2, f.i2, f.c2, f.n2, f.o2, f.w2, f.p2, f.m2, f.a2, f.s2, f.o3, f.o4, f.o5, Int.sub_add_cancel]; first | done | rfl)) | ((have e9 : x = 12 := by omega); subst e9; first | rfl | (simp only [f.g2, f.j2, f.i2, f.c2, f.n2, f.o2, f.w2, f.p2, f.m2, f.a2, f.s2, f.o3, f.o4, f.o5, Int.sub_add_cancel]; first | done | rfl))))
end

local macro_rules | `(tactic| walk_at "call ref") => `(tactic| ((with_reducible show wpAny _ _ (call (Value.ref 549) _) _ _ _); k_here; k_dflt (refine' useT (c_lback _ _ _ _ _ _ _ _ _ _ _ _ _) ?k1 ?k2 ?k3 ?k4 ?k5 ?kK ?kp ?kd ?ku ?_; (case k1 => k_asm); (case k2 => k_asm); (case k3 => k_asm); (case k4 => k_asm); (case k5 => k_asm); (case kK => first | exact rfl | assumption); (case kp => exact ⟨(by first | with_reducible assumption | exact List.mem_cons_of_mem _ (by with_reducible assumption) | exact List.mem_cons_of_mem _ (List.mem_cons_of_mem _ (by with_reducible assumption)) | exact List.mem_cons_of_mem _ (List.mem_cons_of_mem _ (List.mem_cons_of_mem _ (by with_reducible assumption))) | exact List.mem_cons_of_mem _ (List.mem_cons_of_mem _ (List.mem_cons_of_mem _ (List.mem_cons_of_mem _ (by with_reducible assumption)))) | exact List.mem_cons_of_mem _ (List.mem_cons_of_mem _ (List.mem_cons_of_mem _ (List.mem_cons_of_mem _ (List.mem_cons_of_mem _ (by with_reducible assumption))))) | exact List.mem_cons_of_mem _ (List.mem_cons_of_mem _ (List.mem_cons_of_mem _ (List.mem_cons_of_mem _ (List.mem_cons_of_mem _ (List.mem_cons_of_mem _ (by with_reducible assumption)))))) | exact List.mem_cons_of_mem _ (List.mem_cons_of_mem _ (List.mem_cons_of_mem _ (List.mem_cons_of_mem _ (List.mem_cons_of_mem _ (List.mem_cons_of_mem _ (List.mem_cons_of_mem _ (by with_reducible assumption))))))) | assumption | k_mem), by assumption, by omega, by omega, by assumption⟩); (case kd => ktr_room); (case ku => ktr_units); intro D9 ws9 c9 h9 tk9 I9 F9 N9; (try dsimp only); (try k_fold))))
section
set_option hygiene false in
local macro_rules | `(tactic| walk_at "exec Return some") => `(tactic| ((have hI9 : IntsAre ws (dl x n e) := hI); clear hI9; k_dflt (first | ((have e9 : x = 0 := by with_reducible assumption); subst e9; obtain ⟨t90, e9⟩ := ints1 (show IntsAre ws (dl 0 n e) from hI); subst e9) | ((have e9 : x = 2 := by with_reducible assumption); subst e9; obtain ⟨t90, t91, t92, e9⟩ := ints3 (show IntsAre ws (dl 2 n e) from hI); subst e9) | ((have e9 : x = 10 := by with_reducible assumption); subst e9; obtain ⟨t90, t91, t92, e9⟩ := ints3 (show IntsAre ws (dl 10 n e) from hI); subst e9) | ((have e9 : x = 11 := by with_reducible assumption); subst e9; obtain ⟨t90, t91, t92, e9⟩ := ints3 (show IntsAre ws (dl 11 n e) from hI); subst e9) | ((have e9 : x = 12 := by with_reducible assumption); subst e9; obtain ⟨t90, e9⟩ := ints1 (show IntsAre ws (dl 12 n e) from hI); subst e9) | ((have e9 : x = 11 := by omega); subst e9; obtain ⟨t90, t91, t92, e9⟩ := ints3 (show IntsAre ws (dl 11 n e) from hI); subst e9))))
set_option hygiene false in
local macro_rules | `(tactic| walk_at "eval Call") => `(tactic| ((have hI9 : IntsAre ws (dl x n e) := hI); clear hI9; k_dflt (first | ((have e9 : x = 0 := by with_reducible assumption); subst e9; obtain ⟨t90, e9⟩ := ints1 (show IntsAre ws (dl 0 n e) from hI); subst e9) | ((have e9 : x = 2 := by with_reducible assumption); subst e9; obtain ⟨t90, t91, t92, e9⟩ := ints3 (show IntsAre ws (dl 2 n e) from hI); subst e9) | ((have e9 : x = 10 := by with_reducible assumption); subst e9; obtain ⟨t90, t91, t92, e9⟩ := ints3 (show IntsAre ws (dl 10 n e) from hI); subst e9) | ((have e9 : x = 11 := by with_reducible assumption); subst e9; obtain ⟨t90, t91, t92, e9⟩ := ints3 (show IntsAre ws (dl 11 n e) from hI); subst e9) | ((have e9 : x = 12 := by with_reducible assumption); subst e9; obtain ⟨t90, e9⟩ := ints1 (show IntsAre ws (dl 12 n e) from hI); subst e9) | ((have e9 : x = 11 := by omega); subst e9; obtain ⟨t90, t91, t92, e9⟩ := ints3 (show IntsAre ws (dl 11 n e) from hI); subst e9))))
set_option hygiene false in
local macro_rules | `(tactic| walk_at "eval Tuple") => `(tactic| ((have hI9 : IntsAre ws (dl x n e) := hI); clear hI9; k_dflt (first | ((have e9 : x = 0 := by with_reducible assumption); subst e9; obtain ⟨t90, e9⟩ := ints1 (show IntsAre ws (dl 0 n e) from hI); subst e9) | ((have e9 : x = 2 := by with_reducible assumption); subst e9; obtain ⟨t90, t91, t92, e9⟩ := ints3 (show IntsAre ws (dl 2 n e) from hI); subst e9) | ((have e9 : x = 10 := by with_reducible assumption); subst e9; obtain ⟨t90, t91, t92, e9⟩ := ints3 (show IntsAre ws (dl 10 n e) from hI); subst e9) | ((have e9 : x = 11 := by with_reducible assumption); subst e9; obtain ⟨t90, t91, t92, e9⟩ := ints3 (show IntsAre ws (dl 11 n e) from hI); subst e9) | ((have e9 : x = 12 := by with_reducible assumption); subst e9; obtain ⟨t90, e9⟩ := ints1 (show IntsAre ws (dl 12 n e) from hI); subst e9) | ((have e9 : x = 11 := by omega); subst e9; obtain ⟨t90, t91, t92, e9⟩ := ints3 (show IntsAre ws (dl 11 n e) from hI); subst e9))))
local macro_rules | `(tactic| walk_at "callWith ref") => `(tactic| (k_here; (with_reducible show wpAny _ _ (callWith _ (Value.ref _) _ (backTo _ (starEach [Expr.Starred _ _] _)) []) _ _ _); k_dflt (refine' callWith_SM ?k1 ?k2 ?k3 ?k4 ?_; (case k1 => k_asm); (case k2 => k_asm); (case k3 => k_mem); (case k4 => k_is); k_whole)))
local macro_rules | `(tactic| walk_at "call ref") => `(tactic| (k_here; k_dflt (refine' call_meth ?k1 ?k2 ?_; (case k1 => k_asm); (case k2 => k_mem); k_whole); k_dflt (refine' code_def ?k1 ?k2 ?k3 ?k4 ?k5 ?kA ?kF ?kK ?k6 ?k7 ?k8 ?k9 ?kB ?_ ?c2 ?c3 ?c4 ?c5; (case kA => exact rfl); (case kF => exact rfl); (case kK => first | exact rfl | assumption); (case k1 => k_asm); (case k2 => k_asm); (case k3 => k_asm); (case k4 => k_asm); (case k5 => k_asm); (case k6 => k_is); (case k7 => k_is); (case k8 => ktr_room); (case k9 => first | exact BindsTo.of_eq rfl | exact binds_K (by k_in) rfl (by k_is) rfl rfl rfl); (case c5 => decide); (case kB => exact locs rfl); (case c2 => exact rfl); (case c3 => exact rfl); (case c4 => exact rfl); k_whole; intro g' L' h' FG' F' N' B' X' T'; (try dsimp only); (try k_lift B'); (try k_fold))))
local macro_rules | `(tactic| walk_at "call ref") => `(tactic| ((with_reducible show wpAny _ _ (call (Value.ref 216) _) _ _ _); k_here; k_dflt (refine' call_cls ?k1 ?k2 ?k3 ?k4 ?k5 ?k6 ?_; (case k1 => k_asm); (case k2 => k_asm); (case k3 => k_asm); (case k4 => k_is); (case k5 => k_is); (case k6 => k_is); k_whole; intro x' d' h' F' N' l1 l2; (try k_lt l1); (try k_lt2 l2); (try k_sweep)); k_dflt (refine' code_def ?k1 ?k2 ?k3 ?k4 ?k5 ?kA ?kF ?kK ?k6 ?k7 ?k8 ?k9 ?kB ?_ ?c2 ?c3 ?c4 ?c5; (case kA => exact rfl); (case kF => exact rfl); (case kK => first | exact rfl | assumption); (case k1 => k_asm); (case k2 => k_asm); (case k3 => k_asm); (case k4 => k_asm); (case k5 => k_asm); (case k6 => k_is); (case k7 => k_is); (case k8 => ktr_room); (case k9 => first | exact BindsTo.of_eq rfl | exact binds_K (by k_in) rfl (by k_is) rfl rfl rfl); (case c5 => decide); (case kB => exact locs rfl); (case c2 => exact rfl); (case c3 => exact rfl); (case c4 => exact rfl); k_whole; intro g' L' h' FG' F' N' B' X' T'; (try dsimp only); (try k_lift B'); (try k_fold))))
local macro_rules | `(tactic| walk_at "subscriptTail Name Constant ref int") => `(tactic| (k_here; (with_reducible show wpAny _ _ (subscriptTail _ _ (Value.ref _) (Value.int _ _)) _ _ _); k_dflt (refine' item_tupleT ?t ?a ?b ?c ?d ?_; (case t => exact News.isTup (by k_asm) (by first | with_reducible assumption | exact List.mem_cons_of_mem _ (by with_reducible assumption) | exact List.mem_cons_of_mem _ (List.mem_cons_of_mem _ (by with_reducible assumption)) | exact List.mem_cons_of_mem _ (List.mem_cons_of_mem _ (List.mem_cons_of_mem _ (by with_reducible assumption))) | exact List.mem_cons_of_mem _ (List.mem_cons_of_mem _ (List.mem_cons_of_mem _ (List.mem_cons_of_mem _ (by with_reducible assumption)))) | exact List.mem_cons_of_mem _ (List.mem_cons_of_mem _ (List.mem_cons_of_mem _ (List.mem_cons_of_mem _ (List.mem_cons_of_mem _ (by with_reducible assumption))))) | exact List.mem_cons_of_mem _ (List.mem_cons_of_mem _ (List.mem_cons_of_mem _ (List.mem_cons_of_mem _ (List.mem_cons_of_mem _ (List.mem_cons_of_mem _ (by with_reducible assumption)))))) | exact List.mem_cons_of_mem _ (List.mem_cons_of_mem _ (List.mem_cons_of_mem _ (List.mem_cons_of_mem _ (List.mem_cons_of_mem _ (List.mem_cons_of_mem _ (List.mem_cons_of_mem _ (by with_reducible assumption))))))) | assumption | k_mem)); (case a => decide); (case b => decide); (case c => rfl); (case d => rfl))))
local macro_rules | `(tactic| walk_at "StarOf ref") => `(tactic| (k_here; k_dflt (refine' star_seq ?k1 ?k2 ?m ?c ?d ?T ?e ?z ?_; (case k1 => k_asm); (case k2 => k_asm); (case m => exact (by first | with_reducible assumption | exact List.mem_cons_of_mem _ (by with_reducible assumption) | exact List.mem_cons_of_mem _ (List.mem_cons_of_mem _ (by with_reducible assumption)) | exact List.mem_cons_of_mem _ (List.mem_cons_of_mem _ (List.mem_cons_of_mem _ (by with_reducible assumption))) | exact List.mem_cons_of_mem _ (List.mem_cons_of_mem _ (List.mem_cons_of_mem _ (List.mem_cons_of_mem _ (by with_reducible assumption)))) | exact List.mem_cons_of_mem _ (List.mem_cons_of_mem _ (List.mem_cons_of_mem _ (List.mem_cons_of_mem _ (List.mem_cons_of_mem _ (by with_reducible assumption))))) | exact List.mem_cons_of_mem _ (List.mem_cons_of_mem _ (List.mem_cons_of_mem _ (List.mem_cons_of_mem _ (List.mem_cons_of_mem _ (List.mem_cons_of_mem _ (by with_reducible assumption)))))) | exact List.mem_cons_of_mem _ (List.mem_cons_of_mem _ (List.mem_cons_of_mem _ (List.mem_cons_of_mem _ (List.mem_cons_of_mem _ (List.mem_cons_of_mem _ (List.mem_cons_of_mem _ (by with_reducible assumption))))))) | assumption | k_mem)); (case c => exact rfl); (case d => exact rfl); (case T => first | exact .inl rfl | exact .inr rfl); (case e => kl_lit); (case z => exact Nat.le_of_ble_eq_true rfl); k_whole); intro h' F' N'; (try k_sweep); try dsimp only [List.nil_append, List.cons_append]))
local macro_rules | `(tactic| walk_at "ite") => `(tactic| first | (refine ite_eqY (by with_reducible assumption) ?_) | (refine ite_eqN (by with_reducible assumption) ?_))
local macro_rules | `(tactic| walk_at "call ref") => `(tactic| ((with_reducible show wpAny _ _ (call (Value.ref 192) _) _ _ _); k_here; refine wpAny_call ?_; k_dflt (refine' code_def ?k1 ?k2 ?k3 ?k4 ?k5 ?kA ?kF ?kK ?k6 ?k7 ?k8 ?k9 ?kB ?_ ?c2 ?c3 ?c4 ?c5; (case kA => exact rfl); (case kF => exact rfl); (case kK => first | exact rfl | assumption); (case k1 => k_asm); (case k2 => k_asm); (case k3 => k_asm); (case k4 => k_asm); (case k5 => k_asm); (case k6 => k_is); (case k7 => k_is); (case k8 => ktr_room); (case k9 => first | exact BindsTo.of_eq rfl | exact binds_K (by k_in) rfl (by k_is) rfl rfl rfl); (case c5 => decide); (case kB => exact locs rfl); (case c2 => exact rfl); (case c3 => exact rfl); (case c4 => exact rfl); k_whole; intro g' L' h' FG' F' N' B' X' T'; (try dsimp only); (try k_lift B'); (try k_fold))))
local macro_rules | `(tactic| walk_at "call ref") => `(tactic| ((with_reducible show wpAny _ _ (call (Value.ref 199) _) _ _ _); k_here; refine wpAny_call ?_; k_dflt (refine' code_def ?k1 ?k2 ?k3 ?k4 ?k5 ?kA ?kF ?kK ?k6 ?k7 ?k8 ?k9 ?kB ?_ ?c2 ?c3 ?c4 ?c5; (case kA => exact rfl); (case kF => exact rfl); (case kK => first | exact rfl | assumption); (case k1 => k_asm); (case k2 => k_asm); (case k3 => k_asm); (case k4 => k_asm); (case k5 => k_asm); (case k6 => k_is); (case k7 => k_is); (case k8 => ktr_room); (case k9 => first | exact BindsTo.of_eq rfl | exact binds_K (by k_in) rfl (by k_is) rfl rfl rfl); (case c5 => decide); (case kB => exact locs rfl); (case c2 => exact rfl); (case c3 => exact rfl); (case c4 => exact rfl); k_whole; intro g' L' h' FG' F' N' B' X' T'; (try dsimp only); (try k_lift B'); (try k_fold))))
local macro_rules | `(tactic| walk_at "call ref") => `(tactic| ((with_reducible show wpAny _ _ (call (Value.ref 178) _) _ _ _); k_here; refine wpAny_call ?_; k_dflt (refine' code_def ?k1 ?k2 ?k3 ?k4 ?k5 ?kA ?kF ?kK ?k6 ?k7 ?k8 ?k9 ?kB ?_ ?c2 ?c3 ?c4 ?c5; (case kA => exact rfl); (case kF => exact rfl); (case kK => first | exact rfl | assumption); (case k1 => k_asm); (case k2 => k_asm); (case k3 => k_asm); (case k4 => k_asm); (case k5 => k_asm); (case k6 => k_is); (case k7 => k_is); (case k8 => ktr_room); (case k9 => first | exact BindsTo.of_eq rfl | exact binds_K (by k_in) rfl (by k_is) rfl rfl rfl); (case c5 => decide); (case kB => exact locs rfl); (case c2 => exact rfl); (case c3 => exact rfl); (case c4 => exact rfl); k_whole; intro g' L' h' FG' F' N' B' X' T'; (try dsimp only); (try k_lift B'); (try k_fold))))
local macro_rules | `(tactic| walk_at "call ref") => `(tactic| ((with_reducible show wpAny _ _ (call (Value.ref 185) _) _ _ _); k_here; refine wpAny_call ?_; k_dflt (refine' code_def ?k1 ?k2 ?k3 ?k4 ?k5 ?kA ?kF ?kK ?k6 ?k7 ?k8 ?k9 ?kB ?_ ?c2 ?c3 ?c4 ?c5; (case kA => exact rfl); (case kF => exact rfl); (case kK => first | exact rfl | assumption); (case k1 => k_asm); (case k2 => k_asm); (case k3 => k_asm); (case k4 => k_asm); (case k5 => k_asm); (case k6 => k_is); (case k7 => k_is); (case k8 => ktr_room); (case k9 => first | exact BindsTo.of_eq rfl | exact binds_K (by k_in) rfl (by k_is) rfl rfl rfl); (case c5 => decide); (case kB => exact locs rfl); (case c2 => exact rfl); (case c3 => exact rfl); (case c4 => exact rfl); k_whole; intro g' L' h' FG' F' N' B' X' T'; (try dsimp only); (try k_lift B'); (try k_fold))))
local macro_rules | `(tactic| walk_at "call ref") => `(tactic| ((with_reducible show wpAny _ _ (call (Value.ref 206) _) _ _ _); k_here; refine wpAny_call ?_; k_dflt (refine' code_def ?k1 ?k2 ?k3 ?k4 ?k5 ?kA ?kF ?kK ?k6 ?k7 ?k8 ?k9 ?kB ?_ ?c2 ?c3 ?c4 ?c5; (case kA => exact rfl); (case kF => exact rfl); (case kK => first | exact rfl | assumption); (case k1 => k_asm); (case k2 => k_asm); (case k3 => k_asm); (case k4 => k_asm); (case k5 => k_asm); (case k6 => k_is); (case k7 => k_is); (case k8 => ktr_room); (case k9 => first | exact BindsTo.of_eq rfl | exact binds_K (by k_in) rfl (by k_is) rfl rfl rfl); (case c5 => decide); (case kB => exact locs rfl); (case c2 => exact rfl); (case c3 => exact rfl); (case c4 => exact rfl); k_whole; intro g' L' h' FG' F' N' B' X' T'; (try dsimp only); (try k_lift B'); (try k_fold))))
local macro_rules | `(tactic| walk_at "call ref") => `(tactic| ((with_reducible show wpAny _ _ (call (Value.ref 213) _) _ _ _); k_here; refine wpAny_call ?_; k_dflt (refine' code_def ?k1 ?k2 ?k3 ?k4 ?k5 ?kA ?kF ?kK ?k6 ?k7 ?k8 ?k9 ?kB ?_ ?c2 ?c3 ?c4 ?c5; (case kA => exact rfl); (case kF => exact rfl); (case kK => first | exact rfl | assumption); (case k1 => k_asm); (case k2 => k_asm); (case k3 => k_asm); (case k4 => k_asm); (case k5 => k_asm); (case k6 => k_is); (case k7 => k_is); (case k8 => ktr_room); (case k9 => first | exact BindsTo.of_eq rfl | exact binds_K (by k_in) rfl (by k_is) rfl rfl rfl); (case c5 => decide); (case kB => exact locs rfl); (case c2 => exact rfl); (case c3 => exact rfl); (case c4 => exact rfl); k_whole; intro g' L' h' FG' F' N' B' X' T'; (try dsimp only); (try k_lift B'); (try k_fold))))

theorem c_lroad (w mean mg mb) : ∀ news x tx y ty z tz D ws c n e te, ConT w mean mg mb 556 9 news ((D, tupO ws c) ∈ news ∧ IntsAre ws (dl x n e) ∧ (0 ≤ x ∧ x < 13) ∧ (0 ≤ y ∧ y < 13) ∧ Facts n) [.int x tx, .int y ty, .int z tz, .ref D, .int e te] (dl y n e) := by
  intro news x tx y ty z tz D ws c n e te
  unfold ConT
  dsimp only [Kf, Tp]
  k_fill
  intro dp' un' gd' cn' cs' a' ccd' cl' outer' A' base' h' L' fr' s' Q' E' hB hF hX hN hT hk hpre hd hu hret
  obtain ⟨hmem, hI, ⟨hx0, hx1⟩, ⟨hy0, hy1⟩, f⟩ := hpre
  have j1 := f.j1
  have a1 := f.a1
  have s1 := f.s1
  have p0 := f.p0
  have q3 : (0 < ddj n ∧ ddj n ≤ dimj (yj n) (mj n)) ∧ 1922502 < tjj (yj n) (mj n) (ddj n) := ⟨f.j1, by rw [f.j2]; omega⟩
  have q4 : (0 < ddj n ∧ ddj n ≤ dimj (yj n) (mj n)) ∧ 2117211 < tjj (yj n) (mj n) (ddj n) := ⟨f.j1, by rw [f.j2]; omega⟩
  all_goals (
  refine wpAny_call ?_
  k_dflt (refine' code_def ?k1 ?k2 ?k3 ?k4 ?k5 ?kA ?kF ?kK ?k6 ?k7 ?k8 ?k9 ?kB ?_ ?c2 ?c3 ?c4 ?c5; (case kA => exact rfl); (case kF => exact rfl); (case kK => assumption); (case k1 => k_asm); (case k2 => k_asm); (case k3 => k_asm); (case k4 => k_asm); (case k5 => k_asm); (case k6 => k_is); (case k7 => k_is); (case k8 => ktr_room); (case k9 => first | exact BindsTo.of_eq rfl | exact binds_K (by k_in) rfl (by k_is) rfl rfl rfl); (case c5 => decide); (case kB => exact locs rfl); (case c2 => exact rfl); (case c3 => exact rfl); (case c4 => exact rfl); k_whole; intro g' L' h' FG' F' N' B' X' T'; (try dsimp only); (try k_lift B'); (try k_fold))
  k_steps)
  all_goals (refine' endT hret ?e2 ?e3 ?e5 ?e6 ?e1 ?e4; (case e2 => k_asm); (case e3 => k_asm); (case e5 => first | k_mem | assumption); (case e6 => first | assumption | (repeat constructor)); (case e4 => first | exact fun _ h => h | exact fun _ h => .tail _ h | exact fun _ h => .tail _ (.tail _ h) | exact fun _ h => .tail _ (.tail _ (.tail _ h)) | exact fun _ h => .tail _ (.tail _ (.tail _ (.tail _ h))) | exact fun _ h => .tail _ (.tail _ (.tail _ (.tail _ (.tail _ h)))) | exact fun _ h => .tail _ (.tail _ (.tail _ (.tail _ (.tail _ (.tail _ h))))) | exact fun _ h => .tail _ (.tail _ (.tail _ (.tail _ (.tail _ (.tail _ (.tail _ h)))))) | exact fun _ h => .tail _ (.tail _ (.tail _ (.tail _ (.tail _ (.tail _ (.tail _ (.tail _ h))))))) | kcj_all); (case e1 => first | (show _ = _; rfl; done) | ((have e9 : y = 0 := by with_reducible assumption); subst e9; first | rfl | (simp only [f.g2, f.j2, f.i2, f.c2, f.n2, f.o2, f.w2, f.p2, f.m2, f.a2, f.s2, f.o3, f.o4, f.o5, Int.sub_add_cancel]; first | done | rfl)) | ((have e9 : y = 2 := by with_reducible assumption); subst e9; first | rfl | (simp only [f.g2, f.j2, f.i2, f.c2, f.n2, f.o2, f.w2, f.p2, f.m2, f.a2, f.s2, f.o3, f.o4, f.o5, Int.sub_add_cancel]; first | done | rfl)) | ((have e9 : y = 10 := by with_reducible assumption); subst e9; first | rfl | (simp only [f.g2, f.j2, f.i2, f.c2, f.n2, f.o2, f.w2, f.p2, f.m2, f.a2, f.s2, f.o3, f.o4, f.o5, Int.sub_add_cancel]; first | done | rfl)) | ((have e9 : y = 12 := by with_reducible assumption); subst e9; first | rfl | (simp only [f.g2, f.j2, f.i2, f.c2, f.n2, f.o2, f.w2, f.p2, f.m2, f.a2, f.s2, f.o3, f.o4, f.o5, Int.sub_add_cancel]; first | done | rfl)) | ((have e9 : y = 11 := by omega); subst e9; first | rfl | (simp only [f.g2, f.j2, f.i2, f.c2, f.n2, f.o2, f.w2, f.p2, f.m2, f.a2, f.s2, f.o3, f.o4, f.o5, Int.sub_add_cancel]; first | done | rfl))))
end

local macro_rules | `(tactic| walk_at "call ref") => `(tactic| ((with_reducible show wpAny _ _ (call (Value.ref 556) _) _ _ _); k_here; k_dflt (refine' useT (c_lroad _ _ _ _ _ _ _ _ _ _ _ _ _ _ _ _ _) ?k1 ?k2 ?k3 ?k4 ?k5 ?kK ?kp ?kd ?ku ?_; (case k1 => k_asm); (case k2 => k_asm); (case k3 => k_asm); (case k4 => k_asm); (case k5 => k_asm); (case kK => first | exact rfl | assumption); (case kp => exact ⟨(by first | with_reducible assumption | exact List.mem_cons_of_mem _ (by with_reducible assumption) | exact List.mem_cons_of_mem _ (List.mem_cons_of_mem _ (by with_reducible assumption)) | exact List.mem_cons_of_mem _ (List.mem_cons_of_mem _ (List.mem_cons_of_mem _ (by with_reducible assumption))) | exact List.mem_cons_of_mem _ (List.mem_cons_of_mem _ (List.mem_cons_of_mem _ (List.mem_cons_of_mem _ (by with_reducible assumption)))) | exact List.mem_cons_of_mem _ (List.mem_cons_of_mem _ (List.mem_cons_of_mem _ (List.mem_cons_of_mem _ (List.mem_cons_of_mem _ (by with_reducible assumption))))) | exact List.mem_cons_of_mem _ (List.mem_cons_of_mem _ (List.mem_cons_of_mem _ (List.mem_cons_of_mem _ (List.mem_cons_of_mem _ (List.mem_cons_of_mem _ (by with_reducible assumption)))))) | exact List.mem_cons_of_mem _ (List.mem_cons_of_mem _ (List.mem_cons_of_mem _ (List.mem_cons_of_mem _ (List.mem_cons_of_mem _ (List.mem_cons_of_mem _ (List.mem_cons_of_mem _ (by with_reducible assumption))))))) | assumption | k_mem), by assumption, by first | assumption | omega, by first | assumption | omega, by assumption⟩); (case kd => ktr_room); (case ku => ktr_units); intro D9 ws9 c9 h9 tk9 I9 F9 N9; (try dsimp only); (try k_fold))))
/-- the day number is one of the law's -/
def Good (n : Int) : Prop := 2374480 ≤ n ∧ n < 5274480 ∧ ¬ (fyg n % 400 = 0 ∧ fmg n = 12 ∧ fdg n = 31)
theorem leapB_iff (y : Int) : leapB y = true ↔ y % 4 = 0 ∧ (y % 100 ≠ 0 ∨ y % 400 = 0) := by
  unfold leapB; simp only [Bool.and_eq_true, Bool.or_eq_true, decide_eq_true_eq]
theorem leapB_iff' (y : Int) : leapB y = false ↔ ¬ (y % 4 = 0 ∧ (y % 100 ≠ 0 ∨ y % 400 = 0)) := by
  rw [← leapB_iff]; cases leapB y <;> simp
theorem tjg11 (y : Int) : tjg y 1 1 = 1721426 + 365 * (y - 1) + (y - 1) / 4 - (y - 1) / 100 + (y - 1) / 400 := by
  unfold tjg; rw [if_pos (by decide)]; omega
/-- the start of the month, counted from the year's first day -/
def offB (m : Int) (b : Bool) : Int := (367 * m - 362) / 12 + (if m ≤ 2 then 0 else if b = true then -1 else -2)
theorem tjg_off (y m d : Int) : tjg y m d = tjg y 1 1 + offB m (leapB y) + d - 1 := by
  rw [tjg11]; unfold tjg offB; omega
theorem year_next (y : Int) : tjg (y + 1) 1 1 = tjg y 1 1 + 365 + (if leapB y = true then 1 else 0) := by
  rw [tjg11, tjg11]
  cases h : leapB y
  · rw [leapB_iff'] at h; simp only [Bool.false_eq_true, if_false]; omega
  · rw [leapB_iff] at h; simp only [if_true]; omega
/-- the year's parts -/
theorem parts (n : Int) : ∃ q c k i yd : Int, 0 ≤ c ∧ c ≤ 3 ∧ 0 ≤ k ∧ k ≤ 24 ∧ 0 ≤ i ∧ i ≤ 3 ∧ 0 ≤ yd ∧ yd ≤ 365 ∧ (yd = 365 → i = 3 ∧ (k = 24 → c = 3)) ∧ fyg n = 400 * q + 100 * c + 4 * k + i + 1
    ∧ n = 1721426 + 146097 * q + 36524 * c + 1461 * k + 365 * i + yd
    ∧ ((yip n ≠ 4 ∧ yp0 n + 1 = fyg n ∧ dpp n = yd) ∨ (yip n = 4 ∧ yp0 n = fyg n ∧ yd = 365) ∨ (c = 3 ∧ k = 24 ∧ i = 3 ∧ yd = 365)) := by
  unfold fyg dpp yip yp0
  generalize hA : n - 1721426 = A
  have h1 := Int.emod_add_mul_ediv A 146097
  have h2 := Int.emod_nonneg A (show (146097 : Int) ≠ 0 by decide)
  have h3 := Int.emod_lt_of_pos A (show (0 : Int) < 146097 by decide)
  generalize A / 146097 = q at *
  generalize A % 146097 = r at *
  have h4 := Int.emod_add_mul_ediv r 36524
  have h5 := Int.emod_nonneg r (show (36524 : Int) ≠ 0 by decide)
  have h6 := Int.emod_lt_of_pos r (show (0 : Int) < 36524 by decide)
  generalize r / 36524 = c at *
  generalize r % 36524 = r2 at *
  have h7 := Int.emod_add_mul_ediv r2 1461
  have h8 := Int.emod_nonneg r2 (show (1461 : Int) ≠ 0 by decide)
  have h9 := Int.emod_lt_of_pos r2 (show (0 : Int) < 1461 by decide)
  generalize r2 / 1461 = k at *
  generalize r2 % 1461 = r3 at *
  have h10 := Int.emod_add_mul_ediv r3 365
  have h11 := Int.emod_nonneg r3 (show (365 : Int) ≠ 0 by decide)
  have h12 := Int.emod_lt_of_pos r3 (show (0 : Int) < 365 by decide)
  generalize r3 / 365 = i at *
  generalize r3 % 365 = r4 at *
  by_cases hc : c = 4
  · refine ⟨q, 3, 24, 3, 365, by decide, by decide, by decide, by decide, by decide, by decide, by decide, by decide, fun _ => ⟨rfl, fun _ => rfl⟩, ?_, ?_, Or.inr (Or.inr ⟨rfl, rfl, rfl, rfl⟩)⟩
    · rw [if_pos (Or.inl hc)]; omega
    · omega
  · by_cases hi : i = 4
    · refine ⟨q, c, k, 3, 365, by omega, by omega, by omega, by omega, by decide, by decide, by decide, by decide, fun _ => ⟨rfl, fun _ => by omega⟩, ?_, by omega, Or.inr (Or.inl ⟨hi, ?_, rfl⟩)⟩
      · rw [if_pos (Or.inr hi)]; omega
      · rw [if_pos (Or.inr hi)]; omega
    · refine ⟨q, c, k, i, r4, by omega, by omega, by omega, by omega, by omega, by omega, by omega, by omega, fun _ => by omega, ?_, by omega, Or.inl ⟨hi, ?_, ?_⟩⟩
      · rw [if_neg (by omega)]; omega
      · rw [if_neg (by omega)]
      · rw [if_neg hi]; omega
theorem start {n q c k i yd : Int} (h1 : 0 ≤ c) (h2 : c ≤ 3) (h3 : 0 ≤ k) (h4 : k ≤ 24) (h5 : 0 ≤ i) (h6 : i ≤ 3) (h10 : fyg n = 400 * q + 100 * c + 4 * k + i + 1) (h11 : n = 1721426 + 146097 * q + 36524 * c + 1461 * k + 365 * i + yd) : tjg (fyg n) 1 1 = n - yd := by
  have e1 : (400 * q + 100 * c + 4 * k + i) / 4 = 100 * q + 25 * c + k := by omega
  have e2 : (400 * q + 100 * c + 4 * k + i) / 100 = 4 * q + c := by omega
  have e3 : (400 * q + 100 * c + 4 * k + i) / 400 = q := by omega
  have e0 : fyg n - 1 = 400 * q + 100 * c + 4 * k + i := by omega
  rw [tjg11, e0, e1, e2, e3]; omega
theorem lastday {n q c k i : Int} (h1 : 0 ≤ c) (h2 : c ≤ 3) (h3 : 0 ≤ k) (h4 : k ≤ 24) (h10 : fyg n = 400 * q + 100 * c + 4 * k + i + 1) (hi : i = 3) (hk : k = 24 → c = 3) : leapB (fyg n) = true := by
  rw [leapB_iff, h10, hi]
  by_cases e : k = 24
  · rw [e, hk e]; omega
  · have : (400 * q + 100 * c + 4 * k + 3 + 1) % 100 = 4 * k + 4 := by omega
    omega
/-- the place in the year -/
theorem place (n : Int) : 0 ≤ n - tjg (fyg n) 1 1 ∧ n - tjg (fyg n) 1 1 ≤ 365 ∧ (n - tjg (fyg n) 1 1 = 365 → leapB (fyg n) = true) := by
  obtain ⟨q, c, k, i, yd, h1, h2, h3, h4, h5, h6, h7, h8, h9, h10, h11, _⟩ := parts n
  rw [start h1 h2 h3 h4 h5 h6 h10 h11]
  refine ⟨by omega, by omega, fun e => lastday h1 h2 h3 h4 h10 (h9 (by omega)).1 (h9 (by omega)).2⟩
def dimB (m : Int) (b : Bool) : Int := if m = 2 then (if b then 29 else 28) else if m = 4 ∨ m = 6 ∨ m = 9 ∨ m = 11 then 30 else 31
def adjB (yd : Int) (b : Bool) : Int := if yd < 58 + (if b then 1 else 0) then 0 else if b then 1 else 2
def monB (yd : Int) (b : Bool) : Int := ((yd + adjB yd b) * 12 + 373) / 367
def dayB (yd : Int) (b : Bool) : Int := yd - offB (monB yd b) b + 1
def to1B (m d : Int) (b : Bool) : Int := 306 * mo1 m / 10 + d - 122 + 59 + (if b = true then 1 else 0)
def torB (m d : Int) (b : Bool) : Int := if to1B m d b > 365 + (if b = true then 1 else 0) then to1B m d b - 365 - (if b = true then 1 else 0) else to1B m d b
theorem tableI {yd : Int} {b : Bool} (h0 : 0 ≤ yd) (h1 : yd ≤ 365) (h : yd = 365 → b = true) :
    1 ≤ monB yd b ∧ monB yd b ≤ 12 ∧ 0 < dayB yd b ∧ dayB yd b ≤ dimB (monB yd b) b ∧ torB (monB yd b) (dayB yd b) b = yd + 1 ∧ yd + 1 - torB (monB yd b) 1 b + 1 = dayB yd b
      ∧ (yd = 365 → monB yd b = 12 ∧ dayB yd b = 31) := by
  have hd : dayB yd b = yd - offB (monB yd b) b + 1 := rfl
  have hm : monB yd b = ((yd + adjB yd b) * 12 + 373) / 367 := rfl
  have ha : adjB yd b = 0 ∧ yd < 58 + (if b = true then 1 else 0) ∨ 58 + (if b = true then 1 else 0) ≤ yd ∧ adjB yd b = (if b = true then 1 else 2) := by
    unfold adjB; cases b <;> simp only [Bool.false_eq_true, if_false, if_true] <;> split <;> omega
  have hb : 1 ≤ monB yd b ∧ monB yd b ≤ 12 := by
    cases b
    · have h2 : yd ≠ 365 := fun e => by cases h e
      simp only [Bool.false_eq_true, if_false] at ha; omega
    · simp only [if_true] at ha; omega
  have hc : monB yd b = 1 ∨ monB yd b = 2 ∨ monB yd b = 3 ∨ monB yd b = 4 ∨ monB yd b = 5 ∨ monB yd b = 6 ∨ monB yd b = 7 ∨ monB yd b = 8 ∨ monB yd b = 9 ∨ monB yd b = 10 ∨ monB yd b = 11 ∨ monB yd b = 12 := by omega
  refine ⟨hb.1, hb.2, ?_⟩
  generalize monB yd b = m at *
  generalize dayB yd b = d at *
  generalize adjB yd b = a at *
  clear hb
  cases b
  · have h : yd ≠ 365 := fun e => by cases h e
    rcases hc with rfl | rfl | rfl | rfl | rfl | rfl | rfl | rfl | rfl | rfl | rfl | rfl <;> simp [offB, dimB, torB, to1B, mo1] at hd ha ⊢ <;> (repeat' split) <;> omega
  · clear h
    rcases hc with rfl | rfl | rfl | rfl | rfl | rfl | rfl | rfl | rfl | rfl | rfl | rfl <;> simp [offB, dimB, torB, to1B, mo1] at hd ha ⊢ <;> (repeat' split) <;> omega
theorem fmg_is (n : Int) : fmg n = monB (n - tjg (fyg n) 1 1) (leapB (fyg n)) := rfl
theorem fdg_is (n : Int) : fdg n = dayB (n - tjg (fyg n) 1 1) (leapB (fyg n)) := by
  unfold fdg dayB
  rw [tjg_off (fyg n) (fmg n) 1, fmg_is]
  omega
theorem greg (n : Int) : (0 < fdg n ∧ fdg n ≤ dimg (fyg n) (fmg n)) ∧ tjg (fyg n) (fmg n) (fdg n) = n ∧ (1 ≤ fmg n ∧ fmg n ≤ 12) := by
  obtain ⟨p1, p2, p3⟩ := place n
  obtain ⟨t1, t2, t3, t4, -⟩ := tableI p1 p2 p3
  have e1 : dimg (fyg n) (fmg n) = dimB (monB (n - tjg (fyg n) 1 1) (leapB (fyg n))) (leapB (fyg n)) := rfl
  refine ⟨⟨?_, ?_⟩, ?_, ?_, ?_⟩
  · rw [fdg_is]; exact t3
  · rw [fdg_is, e1]; exact t4
  · rw [tjg_off, fdg_is, fmg_is]; unfold dayB; omega
  · rw [fmg_is]; exact t1
  · rw [fmg_is]; exact t2
theorem dyo_is (n : Int) : dyo n = n - tjg (fyg n) 1 1 + 1 := by unfold dyo; rw [(greg n).2.1]
theorem ord (n : Int) : 1 ≤ dyo n ∧ tjo (fyg n) (dyo n) = n ∧ mor (fyg n) (dyo n) = fmg n ∧ dyo n - tor (fyg n) (fmg n) 1 + 1 = fdg n ∧ tor (fyg n) (fmg n) (fdg n) = dyo n := by
  obtain ⟨p1, p2, p3⟩ := place n
  obtain ⟨t1, t2, t3, t4, t5, t6, -⟩ := tableI p1 p2 p3
  rw [dyo_is]
  refine ⟨by omega, ?_, ?_, ?_, ?_⟩
  · unfold tjo; omega
  · unfold mor ado
    rw [fmg_is]
    unfold monB adjB
    generalize n - tjg (fyg n) 1 1 = yd at *
    cases leapB (fyg n) <;> simp only [Bool.false_eq_true, if_false, if_true] <;> (repeat' split) <;> omega
  · rw [fdg_is, fmg_is]; exact t6
  · rw [fdg_is, fmg_is]; exact t5
theorem years {n : Int} (h1 : 2374480 ≤ n) (h2 : n < 5274480) : 1789 ≤ fyg n ∧ fyg n ≤ 9999 := by
  obtain ⟨q, c, k, i, yd, p1, p2, p3, p4, p5, p6, p7, p8, p9, p10, p11, _⟩ := parts n
  rw [p10]
  clear p10 p9
  have hq : 4 ≤ q := by omega
  have hq2 : q ≤ 24 := by omega
  constructor
  · by_cases a : 5 ≤ q
    · omega
    · have a2 : q = 4 := by omega
      subst a2
      by_cases b : 2 ≤ c
      · omega
      · have b2 : c = 1 := by omega
        subst b2
        by_cases e : 22 ≤ k
        · omega
        · have e2 : k = 21 := by omega
          subst e2
          omega
  · by_cases a : q = 24
    · subst a
      have : c ≤ 2 := by omega
      omega
    · omega
/-! the Positivist way -/
theorem posit {n : Int} (g : Good n) : okP (ypp n - 1789 + 2) (dpp n / 28 + 1) (dpp n - dpp n / 28 * 28 + 1) ∧ tjp (ypp n - 1789 + 2) (dpp n / 28 + 1) (dpp n - dpp n / 28 * 28 + 1) = n := by
  obtain ⟨g1, g2, g3⟩ := g
  obtain ⟨y1, y2⟩ := years g1 g2
  obtain ⟨q, c, k, i, yd, h1, h2, h3, h4, h5, h6, h7, h8, h9, h10, h11, h12⟩ := parts n
  have hT : tjg (fyg n) 1 1 = n - yd := start h1 h2 h3 h4 h5 h6 h10 h11
  have key : ypp n + 1 = fyg n ∧ dpp n = yd := by
    rcases h12 with ⟨a, b, e⟩ | ⟨a, b, e⟩ | ⟨a, b, e, z⟩
    · unfold ypp; rw [if_neg a]; exact ⟨by omega, e⟩
    · unfold ypp dpp; rw [if_pos a, if_pos a]; exact ⟨by omega, e.symm⟩
    · exfalso
      obtain ⟨p1, p2, p3⟩ := place n
      have e5 : n - tjg (fyg n) 1 1 = 365 := by omega
      obtain ⟨-, -, -, -, -, -, t7⟩ := tableI p1 p2 p3
      refine g3 ⟨by omega, ?_, ?_⟩
      · rw [fmg_is]; exact (t7 e5).1
      · rw [fdg_is]; exact (t7 e5).2
  obtain ⟨k1, k2⟩ := key
  rw [k2]
  have e1 : ypp n = fyg n - 1 := by omega
  rw [e1]
  have hl : yd = 365 → leapB (fyg n) = true := fun e => (place n).2.2 (by omega)
  refine ⟨⟨by omega, by omega, by omega, by omega, by omega, fun a b => by omega, fun a b => ?_⟩, ?_⟩
  · have e2 : fyg n - 1 - 1789 + 2 + 1789 - 1 = fyg n := by omega
    rw [e2] at b
    have : yd ≠ 365 := fun e => by rw [hl e] at b; cases b
    omega
  · unfold tjp
    rw [tjg11] at hT
    have e3 : fyg n - 1 - 1789 + 2 + 1789 - 1 - 1 = fyg n - 1 := by omega
    rw [e3]
    omega
/-! the Julian way -/
def monJ (x : Int) : Int := if x * 10000 / 306001 < 14 then x * 10000 / 306001 - 1 else x * 10000 / 306001 - 13
def dayJ (x : Int) : Int := x - 306001 * (x * 10000 / 306001) / 10000
theorem tableJ {x : Int} (h0 : 123 ≤ x) (h1 : x ≤ 488) : 0 < dayJ x ∧ dayJ x ≤ dimB (monJ x) (decide (x = 488)) ∧ (monJ x = 2 ∨ x ≠ 488) := by
  have hd : dayJ x = x - 306001 * (x * 10000 / 306001) / 10000 := rfl
  have hm : monJ x = if x * 10000 / 306001 < 14 then x * 10000 / 306001 - 1 else x * 10000 / 306001 - 13 := rfl
  have hc : x * 10000 / 306001 = 4 ∨ x * 10000 / 306001 = 5 ∨ x * 10000 / 306001 = 6 ∨ x * 10000 / 306001 = 7 ∨ x * 10000 / 306001 = 8 ∨ x * 10000 / 306001 = 9 ∨ x * 10000 / 306001 = 10 ∨ x * 10000 / 306001 = 11 ∨ x * 10000 / 306001 = 12 ∨ x * 10000 / 306001 = 13 ∨ x * 10000 / 306001 = 14 ∨ x * 10000 / 306001 = 15 := by omega
  generalize dayJ x = d at *
  generalize monJ x = m at *
  by_cases hx : x = 488
  · subst hx
    have hm2 : m = 2 := by rw [hm]; decide
    have hd2 : d = 29 := by rw [hd]; decide
    rw [hm2, hd2]; decide
  · rw [decide_eq_false hx]
    rcases hc with e | e | e | e | e | e | e | e | e | e | e | e <;> rw [e] at hd hm <;> simp at hm hd <;> subst hm <;> simp [dimB] <;> omega
theorem julian (n : Int) : (0 < ddj n ∧ ddj n ≤ dimj (yj n) (mj n)) ∧ tjj (yj n) (mj n) (ddj n) = n := by
  have hc : cj n = (20 * (n + 1524) - 2442) / 7305 := rfl
  have hd : dj n = 1461 * cj n / 4 := rfl
  have hx1 : 123 ≤ n + 1524 - dj n := by omega
  have hx2 : n + 1524 - dj n ≤ 488 := by omega
  have hx3 : n + 1524 - dj n = 488 → cj n % 4 = 3 := by omega
  have he : ej n = (n + 1524 - dj n) * 10000 / 306001 := rfl
  have hm : mj n = monJ (n + 1524 - dj n) := rfl
  have hdd : ddj n = dayJ (n + 1524 - dj n) := rfl
  have hdd2 : ddj n = n + 1524 - dj n - 306001 * ej n / 10000 := rfl
  have ht : 0 < ddj n ∧ ddj n ≤ dimB (mj n) (decide (n + 1524 - dj n = 488)) ∧ (mj n = 2 ∨ n + 1524 - dj n ≠ 488) := by
    rw [hdd, hm]
    exact tableJ hx1 hx2
  refine ⟨⟨ht.1, ?_⟩, ?_⟩
  · refine Int.le_trans ht.2.1 ?_
    unfold dimB dimj
    by_cases h2 : mj n = 2
    · rw [if_pos h2, if_pos h2]
      by_cases hx : n + 1524 - dj n = 488
      · have e1 : (yj n % 4 == 0) = true := by
          have h3 := hx3 hx
          have : yj n = cj n - 4715 := by unfold yj; rw [if_neg (by omega)]
          rw [beq_iff_eq]; omega
        rw [e1]; simp only [if_true]; split <;> omega
      · rw [decide_eq_false hx]; simp only [Bool.false_eq_true, if_false]; split <;> omega
    · rw [if_neg h2, if_neg h2]; exact Int.le_refl _
  · unfold tjj
    by_cases h14 : ej n < 14
    · have e1 : mj n = ej n - 1 := if_pos h14
      have : 4 ≤ ej n := by omega
      have e2 : yj n = cj n - 4716 := by unfold yj; rw [if_pos (by omega)]
      rw [if_neg (by omega), e1, e2, hdd2]
      have e3 : cj n - 4716 + 4716 = cj n := by omega
      have e4 : ej n - 1 + 1 = ej n := by omega
      rw [e3, e4]; omega
    · have e1 : mj n = ej n - 13 := if_neg h14
      have : ej n ≤ 15 := by omega
      have e2 : yj n = cj n - 4715 := by unfold yj; rw [if_neg (by omega)]
      rw [if_pos (by omega), e1, e2, hdd2]
      have e3 : cj n - 4715 - 1 + 4716 = cj n := by omega
      have e4 : ej n - 13 + 12 + 1 = ej n := by omega
      rw [e3, e4]; omega
/-! the ways whose numbers are plain -/
theorem islam (n : Int) : tji (yi n) (mi n) (di n) = n := by unfold di; unfold tji; omega
theorem copt (n : Int) : tjc (yc n) (mc n) (dc n) = n := by unfold dc; unfold tjc; omega
theorem maya (n : Int) : tjm ((n - 584283) / 144000) ((n - 584283) % 144000 / 7200) ((n - 584283) % 144000 % 7200 / 360) ((n - 584283) % 144000 % 7200 % 360 / 20) ((n - 584283) % 144000 % 7200 % 360 % 20) = n := by
  unfold tjm; omega
theorem arme {n : Int} (h : 2374480 ≤ n) : okA (ya n) (ma n) (da n) ∧ tja (ya n) (ma n) (da n) = n := by
  unfold okA tja ya ma da
  refine ⟨⟨by omega, by omega, by omega, by omega, ?_⟩, by omega⟩
  split <;> omega
theorem sark {n : Int} (h : 2374480 ≤ n) : okS (ys1 n + 533) ((ds1 n - 1) / 30 + 1) (ds1 n - 30 * ((ds1 n - 1) / 30)) ∧ tjs (ys1 n + 533) ((ds1 n - 1) / 30 + 1) (ds1 n - 30 * ((ds1 n - 1) / 30)) = n := by
  have hy : ys0 n = 4 * (n - 2117211) / 1461 := rfl
  have hd : ds0 n = n - 2117211 - (365 * ys0 n + ys0 n / 4) := rfl
  have key : 2 ≤ ys1 n ∧ 365 * ys1 n + ys1 n / 4 + ds1 n = n - 2117211 ∧ 1 ≤ ds1 n ∧ ds1 n ≤ 366 ∧ (ds1 n = 366 → ys1 n % 4 = 3) := by
    unfold ys1 ds1
    by_cases h0 : ds0 n = 0
    · rw [if_pos h0, if_pos h0]; split <;> omega
    · rw [if_neg h0, if_neg h0]; omega
  generalize ys1 n = Y at *
  generalize ds1 n = D at *
  unfold okS tjs
  refine ⟨⟨by omega, by omega, by omega, by omega, ?_⟩, by omega⟩
  by_cases h13 : (D - 1) / 30 + 1 = 13
  · rw [if_pos h13]
    by_cases h6 : D = 366
    · have e : ((Y + 533) % 4 == 0) = true := by rw [beq_iff_eq]; omega
      rw [if_pos e]; omega
    · split <;> omega
  · rw [if_neg h13]; omega
/-! the Indian way -/
theorem saka (g : Int) : tjg g 3 (22 - (if leapB g = true then 1 else 0)) = tjg g 1 1 + 80 := by
  rw [tjg_off]; unfold offB
  cases leapB g <;> simp only [Bool.false_eq_true, if_false, if_true] <;> omega
theorem indian (n : Int) : tjn (yn n) (mn n) (dn n) = n := by
  obtain ⟨p1, p2, p3⟩ := place n
  have hyd : ydn n = n - tjg (fyg n) 1 1 := rfl
  have hct : ctr (fyg n) = 30 ∨ ctr (fyg n) = 31 := by unfold ctr; split <;> omega
  have hn := year_next (fyg n - 1)
  rw [show fyg n - 1 + 1 = fyg n by omega] at hn
  by_cases h80 : ydn n < 80
  · have hs : sdn n = ydn n + (ctr (fyg n) + 31 * 5 + 30 * 3 + 10 + 80) - 80 := if_pos h80
    have hy : yn n = fyg n - 78 - 1 := if_pos h80
    have hm : mn n = (sdn n - ctr (fyg n) - 31 * 5) / 30 + 7 := by unfold mn; rw [if_neg (by omega), if_neg (by omega)]
    have hd : dn n = (sdn n - ctr (fyg n) - 31 * 5) % 30 + 1 := by unfold dn; rw [if_neg (by omega), if_neg (by omega)]
    have e1 : yn n + 78 = fyg n - 1 := by omega
    unfold tjn
    rw [e1, saka, if_neg (by omega), if_pos (by omega), if_pos (by omega)]
    have hc2 : ctr (fyg n - 1) = 30 + (if leapB (fyg n - 1) = true then 1 else 0) := by unfold ctr; split <;> rfl
    omega
  · have hs : sdn n = ydn n - 80 := if_neg h80
    have hy : yn n = fyg n - 78 := if_neg h80
    have e1 : yn n + 78 = fyg n := by omega
    unfold tjn
    rw [e1, saka]
    by_cases hA : sdn n < ctr (fyg n)
    · have hm : mn n = 1 := if_pos hA
      have hd : dn n = sdn n + 1 := if_pos hA
      rw [if_pos hm]; omega
    · by_cases hB : sdn n - ctr (fyg n) < 31 * 5
      · have hm : mn n = (sdn n - ctr (fyg n)) / 31 + 2 := by unfold mn; rw [if_neg hA, if_pos hB]
        have hd : dn n = (sdn n - ctr (fyg n)) % 31 + 1 := by unfold dn; rw [if_neg hA, if_pos hB]
        rw [if_neg (by omega), if_neg (by omega), if_neg (by omega)]; omega
      · have hm : mn n = (sdn n - ctr (fyg n) - 31 * 5) / 30 + 7 := by unfold mn; rw [if_neg hA, if_neg hB]
        have hd : dn n = (sdn n - ctr (fyg n) - 31 * 5) % 30 + 1 := by unfold dn; rw [if_neg hA, if_neg hB]
        rw [if_neg (by omega)]
        split
        · split <;> omega
        · rw [if_neg (by omega)]; omega
/-! the week date -/
theorem week (n : Int) : 0 < wW n ∧ tjw (wY n) (wW n) (wD n) = n := by
  obtain ⟨p1, p2, p3⟩ := place n
  have hG : tjg (fyg n) (fmg n) (fdg n) = n := (greg n).2.1
  have hw : ∀ y, w1 y = tjg y 1 1 - tjg y 1 1 % 7 + (if tjg y 1 1 % 7 > 3 then 7 else 0) := by intro y; unfold w1; split <;> omega
  have h28 : ∀ y, tjg (y - 1) 12 28 = tjg y 1 1 - 4 := by
    intro y
    have h := year_next (y - 1)
    rw [show y - 1 + 1 = y by omega] at h
    rw [tjg_off, h]
    unfold offB
    cases leapB (y - 1) <;> simp only [Bool.false_eq_true, if_false, if_true] <;> omega
  have hn := year_next (fyg n)
  have hp := year_next (fyg n - 1)
  rw [show fyg n - 1 + 1 = fyg n by omega] at hp
  have hb : ∀ y, 0 ≤ (if leapB y = true then (1 : Int) else 0) ∧ (if leapB y = true then (1 : Int) else 0) ≤ 1 := by intro y; split <;> decide
  have hb1 := hb (fyg n)
  have hb2 := hb (fyg n - 1)
  have hl : n - tjg (fyg n) 1 1 = 365 → (if leapB (fyg n) = true then (1 : Int) else 0) = 1 := fun e => if_pos (p3 e)
  have hD : ∀ a : Int, a.fdiv 7 = a / 7 := fun a => Int.fdiv_eq_ediv_of_nonneg a (by decide)
  have hM : ∀ a : Int, a.fmod 7 = a % 7 := fun a => Int.fmod_eq_emod_of_nonneg a (by decide)
  unfold tjw pw wW wY wD
  rw [hG, h28]
  unfold isY isW isD
  simp only [hD, hM]
  have hw0 := hw (fyg n)
  have hw1 := hw (fyg n + 1)
  have hw2 := hw (fyg n - 1)
  generalize (if leapB (fyg n) = true then (1 : Int) else 0) = b at *
  generalize (if leapB (fyg n - 1) = true then (1 : Int) else 0) = b2 at *
  by_cases hA : (n - w1 (fyg n)) / 7 < 0
  · rw [if_pos hA, if_pos hA, if_pos hA]
    generalize tjg (fyg n - 1) 1 1 = F2 at *
    generalize tjg (fyg n) 1 1 = F at *
    generalize w1 (fyg n - 1) = W2 at *
    generalize w1 (fyg n) = W at *
    split at hw0 <;> split at hw2 <;> omega
  · rw [if_neg hA, if_neg hA, if_neg hA]
    by_cases hB : 52 ≤ (n - w1 (fyg n)) / 7 ∧ w1 (fyg n + 1) ≤ n
    · rw [if_pos hB, if_pos hB]
      generalize tjg (fyg n + 1) 1 1 = F2 at *
      generalize tjg (fyg n) 1 1 = F at *
      generalize w1 (fyg n + 1) = W2 at *
      generalize w1 (fyg n) = W at *
      split at hw0 <;> split at hw1 <;> omega
    · rw [if_neg hB, if_neg hB]
      generalize tjg (fyg n) 1 1 = F at *
      generalize w1 (fyg n) = W at *
      split at hw0 <;> omega
theorem facts {n : Int} (g : Good n) : Facts n where
  g1 := (greg n).1
  g2 := (greg n).2.1
  g3 := (greg n).2.2
  g4 := ⟨by have := (years g.1 g.2.1).1; omega, (years g.1 g.2.1).2⟩
  j1 := (julian n).1
  j2 := (julian n).2
  i2 := islam n
  c2 := copt n
  n2 := indian n
  o1 := (ord n).1
  o2 := (ord n).2.1
  o3 := (ord n).2.2.1
  o4 := (ord n).2.2.2.1
  o5 := (ord n).2.2.2.2
  w1 := (week n).1
  w2 := (week n).2
  p0 := g.1
  p1 := (posit g).1
  p2 := (posit g).2
  m2 := maya n
  a1 := (arme g.1).1
  a2 := (arme g.1).2
  s1 := (sark g.1).1
  s2 := (sark g.1).2

/-- the last days of two years that 400 divides are not neighbours -/
theorem dec31 {n : Int} (h1 : fyg n % 400 = 0) (h2 : fmg n = 12) (h3 : fdg n = 31) : ∃ a : Int, n = 146097 * a + 1721425 ∧ fyg n = 400 * a := by
  have g := (greg n).2.1
  obtain ⟨a, ha⟩ : ∃ a : Int, fyg n = 400 * a := ⟨fyg n / 400, by omega⟩
  refine ⟨a, ?_, ha⟩
  rw [h2, h3, tjg_off, tjg11, ha] at g
  have hl : leapB (400 * a) = true := by rw [leapB_iff]; omega
  rw [hl] at g
  unfold offB at g
  simp only [if_true] at g
  omega
/-- the law's day number -/
def numV (x : Int) : Int := if fyg (2374480 + x % 2900000) % 400 = 0 ∧ fmg (2374480 + x % 2900000) = 12 ∧ fdg (2374480 + x % 2900000) = 31 then 2374480 + x % 2900000 - 1 else 2374480 + x % 2900000
theorem factsV (x : Int) : Facts (numV x) := by
  have h1 := Int.emod_nonneg x (show (2900000 : Int) ≠ 0 by decide)
  have h2 := Int.emod_lt_of_pos x (show (0 : Int) < 2900000 by decide)
  apply facts
  unfold numV
  generalize x % 2900000 = r at *
  split
  · rename_i h
    obtain ⟨a, ha, _⟩ := dec31 h.1 h.2.1 h.2.2
    refine ⟨by omega, by omega, fun g => ?_⟩
    obtain ⟨b, hb, _⟩ := dec31 g.1 g.2.1 g.2.2
    omega
  · rename_i h
    exact ⟨by omega, by omega, h⟩
section
variable {M : Model} {A : Around} {E : Value → Shared → Prop} {s : Shared} {env : Env} {h₀ : Heap} {L : Addr} {m : Str → Option Value} {news : List (Addr × Obj)}
theorem join_num {st : Stmt} {Q : Flow → Shared → Prop} {x : Int} {t₀ : Tok} (F : Fr h₀ L s.heap m) (N : News h₀ L s.heap news) (_hm : m (Str.ofString "number") = some (.int (2374480 + x % 2900000) t₀))
    (h1 : JMark → wpAny M A (exec st env) (fun f s' => JoinV (Str.ofString "number") (numV x) h₀ L m news s f s') E s)
    (h2 : ∀ (n : Int), Facts n → ∀ (t : Tok) (h : Heap) (tk : Nat), Fr h₀ L h (fun y => if y = Str.ofString "number" then some (.int n t) else m y) → News h₀ L h news → Q .next { s with heap := h, toks := tk }) : wpAny M A (exec st env) Q E s :=
  join_int (Str.ofString "number") (numV x) F N h1 fun t h tk F' N' => h2 _ (factsV x) t h tk F' N'
end
/-! the law's loop -/
def roadMap (m₀ : Str → Option Value) (uk u : Option Value) (x : Int) (tx : Tok) (D : Addr) : Str → Option Value := fun z =>
  if z = Str.ofString "k" then uk else if z = Str.ofString "other" then u else if z = Str.ofString "way" then some (.int x tx) else if z = Str.ofString "date" then some (.ref D) else m₀ z
def RoadEnd (h₀ : Heap) (L : Addr) (m₀ : Str → Option Value) (news own : List (Addr × Obj)) (n e : Int) (s₁ s₂ : Shared) : Prop :=
  ∃ (h' : Heap) (tk : Nat) (m' : Str → Option Value) (news' : List (Addr × Obj)) (x : Int) (tx : Tok) (D : Addr) (ws : List Value) (c : Nat) (uk u : Option Value),
    s₂ = { s₁ with heap := h', toks := tk } ∧ Fr h₀ L h' m' ∧ News h₀ L h' news' ∧ (D, tupO ws c) ∈ news' ∧ (∀ p ∈ news, p ∈ news') ∧ (∀ p ∈ own, p ∈ news') ∧ 0 ≤ x ∧ x < 13 ∧ IntsAre ws (dl x n e) ∧ m' = roadMap m₀ uk u x tx D
def RoadPost (h₀ : Heap) (L : Addr) (m₀ : Str → Option Value) (news own : List (Addr × Obj)) (n e : Int) (s₁ : Shared) (Q : Flow → Shared → Prop) (f : Flow) (s₂ : Shared) : Prop :=
  match f with
  | .ret v => Q (.ret v) s₂
  | .brk => Q .next s₂
  | _ => RoadEnd h₀ L m₀ news own n e s₁ s₂
theorem range_in {b : Int} {N i : Nat} (hn : Builtin.Range.rangeSize 2 b 2 = (N : Int)) (hi : i < N) : 2 + (i : Int) * 2 < b := by
  unfold Builtin.Range.rangeSize at hn
  simp at hn
  split at hn <;> omega
section
variable {prog : Program} {w : World} {A : Around} {E : Value → Shared → Prop} {s : Shared} {env : Env} {h₀ : Heap} {body : List Stmt} {Q : Flow → Shared → Prop} {news : List (Addr × Obj)}
theorem road_loop {r : Addr} {b₀ : Int} {t₀ u₀ v₀ : Tok} {N : Nat} {m₀ : Str → Option Value} {n e x₀ : Int} {tx₀ : Tok} {D₀ : Addr} {ws₀ : List Value} {c₀ : Nat}
    (hh : A.handled = none) (hr : IsRange s.heap r 2 b₀ 2 t₀ u₀ v₀) (hsmall : Builtin.Range.small 2 b₀ 2 = true) (hn : Builtin.Range.rangeSize 2 b₀ 2 = (N : Int)) (F : Fr h₀ env.locals s.heap m₀) (N0 : News h₀ env.locals s.heap news)
    (hx0 : 0 ≤ x₀) (hx1 : x₀ < 13) (hI : IntsAre ws₀ (dl x₀ n e)) (hmem : (D₀, tupO ws₀ c₀) ∈ news) (hw : m₀ (Str.ofString "way") = some (.int x₀ tx₀)) (hd : m₀ (Str.ofString "date") = some (.ref D₀))
    (turn : ∀ (k : Int) (x : Int) (tx : Tok) (D : Addr) (ws : List Value) (c : Nat) (u : Option Value) (t : Tok) (h : Heap) (tk : Nat) (own : List (Addr × Obj)), 2 ≤ k → k < b₀ → 0 ≤ x → x < 13 → IntsAre ws (dl x n e) →
      Fr h₀ env.locals h (fun z => if z = Str.ofString "k" then some (.int k t) else if z = Str.ofString "other" then u else if z = Str.ofString "way" then some (.int x tx) else if z = Str.ofString "date" then some (.ref D) else m₀ z) →
      News h₀ env.locals h ((D, tupO ws c) :: (news ++ own)) →
      wpAny (model prog w) A (execs body env) (RoadPost h₀ env.locals m₀ news own n e { s with heap := h, toks := tk } Q) E { s with heap := h, toks := tk })
    (done : ∀ (x : Int) (tx : Tok) (D : Addr) (ws : List Value) (c : Nat) (uk u : Option Value) (h : Heap) (tk : Nat), 0 ≤ x → x < 13 → IntsAre ws (dl x n e) →
      Fr h₀ env.locals h (fun z => if z = Str.ofString "k" then uk else if z = Str.ofString "other" then u else if z = Str.ofString "way" then some (.int x tx) else if z = Str.ofString "date" then some (.ref D) else m₀ z) →
      News h₀ env.locals h ((D, tupO ws c) :: news) → Q .next { s with heap := h, toks := tk }) :
    wpAny (model prog w) A (pyIter (.ref r)) (fun it s₂ => LoopAtV prog w A h₀ env (Str.ofString "k") body Q E it s₂) E s := by
  refine wpAny_pyIter_range hr hsmall ?_
  have W : Walks prog w A s.heap.objs.size [s.heap.objs.size] [s.heap.objs.size] N (fun i v => i < N ∧ ∃ t, v = .int (2 + i * 2) t)
      (fun i h => IsRangeIter h s.heap.objs.size (2 + (i : Nat) * 2) ((N : Int) - (i : Nat)) 2) := (Walks.range hh _ 2 2 N).bound
  refine ⟨_, _, _, N, _, _, m₀, (D₀, tupO ws₀ c₀) :: news, fun _ m₁ nx => ∃ (x : Int) (tx : Tok) (D : Addr) (ws : List Value) (c : Nat) (uk u : Option Value), nx = (D, tupO ws c) :: news ∧ 0 ≤ x ∧ x < 13 ∧ IntsAre ws (dl x n e) ∧ m₁ = roadMap m₀ uk u x tx D,
    rfl, W, ?_, ?_, ?_, (by show IsRangeIter _ _ _ _ _; rw [hn]; simpa using Heap.get?_push_size _ rfl), F.push _, ?_, ⟨x₀, tx₀, D₀, ws₀, c₀, m₀ (Str.ofString "k"), m₀ (Str.ofString "other"), rfl, hx0, hx1, hI, ?_⟩, ?_, ?_⟩
  · intro hm
    exact absurd F.ns.lt ((List.mem_singleton.mp hm) ▸ Nat.lt_irrefl _)
  · intro b hb
    rw [List.mem_singleton.mp hb]
    exact next_is_new F
  · intro p hp hI'
    rcases List.mem_cons.mp hp with rfl | hp
    · exact absurd (Heap.lt_size (N0 _ hmem).1) ((List.mem_singleton.mp hI') ▸ Nat.lt_irrefl _)
    · exact absurd (Heap.lt_size (N0 p hp).1) ((List.mem_singleton.mp hI') ▸ Nat.lt_irrefl _)
  · intro p hp
    rcases List.mem_cons.mp hp with rfl | hp
    · exact ⟨Heap.get?_push_of_some _ (N0 _ hmem).1, (N0 _ hmem).2⟩
    · exact ⟨Heap.get?_push_of_some _ (N0 p hp).1, (N0 p hp).2⟩
  · funext z
    unfold roadMap
    by_cases h1 : z = Str.ofString "k"
    · rw [if_pos h1, h1]
    · rw [if_neg h1]
      by_cases h2 : z = Str.ofString "other"
      · rw [if_pos h2, h2]
      · rw [if_neg h2]
        by_cases h3 : z = Str.ofString "way"
        · rw [if_pos h3, h3, hw]
        · rw [if_neg h3]
          by_cases h4 : z = Str.ofString "date"
          · rw [if_pos h4, h4, hd]
          · rw [if_neg h4]
  · rintro i v m₁ nx s₁ own ⟨hh', tk', rfl⟩ hin ⟨_, t, rfl⟩ ⟨x, tx, D, ws, c, uk, u, rfl, hx0, hx1, hI, rfl⟩ hoff hown hget hall hst F₁ N₁
    have hit : (s.heap.objs.size, ({ cls := .type "range_iterator", data := .fields #[rawInt (2 + ((i + 1 : Nat) : Int) * 2), rawInt ((N : Int) - ((i + 1 : Nat) : Int)), rawInt 2] } : Obj)) ∈ own := hall _ (List.mem_singleton.mpr rfl) (next_is_new F) _ hst
    have hk := range_in hn hin
    have eF : (fun y => if y = Str.ofString "k" then some (Value.int (2 + (i : Int) * 2) t) else roadMap m₀ uk u x tx D y) = (fun z => if z = Str.ofString "k" then some (.int (2 + (i : Int) * 2) t) else if z = Str.ofString "other" then u else if z = Str.ofString "way" then some (.int x tx) else if z = Str.ofString "date" then some (.ref D) else m₀ z) := by
      funext z
      by_cases h1 : z = Str.ofString "k"
      · rw [if_pos h1, if_pos h1]
      · rw [if_neg h1, if_neg h1]; unfold roadMap; rw [if_neg h1]
    rw [eF] at F₁
    have N₂ : News h₀ env.locals hh' ((D, tupO ws c) :: (news ++ own)) := fun p hp => by
      rcases List.mem_cons.mp hp with rfl | hp
      · exact N₁ _ (List.mem_append.mpr (.inr (List.mem_cons_self)))
      · rcases List.mem_append.mp hp with hp | hp
        · exact N₁ _ (List.mem_append.mpr (.inr (List.mem_cons_of_mem _ hp)))
        · exact N₁ _ (List.mem_append.mpr (.inl hp))
    refine wpAny_mono (turn (2 + (i : Int) * 2) x tx D ws c u t hh' tk' own (by omega) hk hx0 hx1 hI F₁ N₂) (fun f s₂ p => ?_) fun _ _ e => e
    have fin : RoadEnd h₀ env.locals m₀ news own n e { s with heap := hh', toks := tk' } s₂ → LoopStepU h₀ env.locals [s.heap.objs.size] own (fun m₁ nx => ∃ (x : Int) (tx : Tok) (D : Addr) (ws : List Value) (c : Nat) (uk u : Option Value), nx = (D, tupO ws c) :: news ∧ 0 ≤ x ∧ x < 13 ∧ IntsAre ws (dl x n e) ∧ m₁ = roadMap m₀ uk u x tx D) { s with heap := hh', toks := tk' } .next s₂ := by
      rintro ⟨h', tk, m', news', x', tx', D', ws', c', uk', u', rfl, F', N', hD', hs1, hs2, a1, a2, a3, rfl⟩
      refine ⟨rfl, h', tk, _, (D', tupO ws' c') :: news, rfl, F', fun p hp => ?_, fun p hp hq => ?_, x', tx', D', ws', c', uk', u', rfl, a1, a2, a3, rfl⟩
      · rcases List.mem_append.mp hp with hp | hp
        · exact N' p (hs2 p hp)
        · rcases List.mem_cons.mp hp with rfl | hp
          · exact N' _ hD'
          · exact N' p (hs1 p hp)
      · rcases List.mem_cons.mp hp with rfl | hp
        · have e1 := (N' _ (hs2 _ hit)).1
          have e2 := (N' _ hD').1
          have e3 : D' = s.heap.objs.size := List.mem_singleton.mp hq
          simp only at e1 e2
          rw [e3, e1] at e2
          have := congrArg Obj.cls (Option.some.inj e2)
          simp at this
        · exact absurd (Heap.lt_size (N0 p hp).1) ((List.mem_singleton.mp hq) ▸ Nat.lt_irrefl _)
    cases f with
    | ret v => exact .ret p
    | brk => exact .brk p
    | next => exact .next (fin p)
    | cont => exact .cont (fin p)
  · rintro h' tk m' nx F' N' _ ⟨x, tx, D, ws, c, uk, u, rfl, hx0, hx1, hI, rfl⟩
    exact done x tx D ws c uk u h' tk hx0 hx1 hI F' N'
end

theorem num_yes {x : Int} (h1 : fyg (2374480 + x % 2900000) % 400 = 0) (h2 : (fmg (2374480 + x % 2900000) == 12 && fdg (2374480 + x % 2900000) == 31) = true) : 2374480 + x % 2900000 - 1 = numV x := by
  rw [Bool.and_eq_true, beq_iff_eq, beq_iff_eq] at h2
  exact (if_pos ⟨h1, h2.1, h2.2⟩).symm
theorem num_no2 {x : Int} (h2 : (fmg (2374480 + x % 2900000) == 12 && fdg (2374480 + x % 2900000) == 31) = false) : 2374480 + x % 2900000 = numV x := by
  refine (if_neg fun h => ?_).symm
  rw [beq_iff_eq.mpr h.2.1, beq_iff_eq.mpr h.2.2] at h2
  cases h2
theorem num_no1 {x : Int} (h1 : fyg (2374480 + x % 2900000) % 400 ≠ 0) : 2374480 + x % 2900000 = numV x := (if_neg fun h => h1 h.1).symm
theorem small_tab : ∀ k : Fin 23, Builtin.Range.small 2 ((k.val : Int) - 1) 2 = true ∧ 0 ≤ Builtin.Range.rangeSize 2 ((k.val : Int) - 1) 2 := by decide +kernel
theorem small_at {b : Int} (h : -1 ≤ b ∧ b ≤ 21) : Builtin.Range.small 2 b 2 = true ∧ 0 ≤ Builtin.Range.rangeSize 2 b 2 := by
  obtain ⟨k, hk⟩ := Int.eq_ofNat_of_zero_le (show 0 ≤ b + 1 by omega)
  have := small_tab ⟨k, by omega⟩
  rw [show b = (k : Int) - 1 by omega]
  exact this
theorem road_end {h₀ : Heap} {L : Addr} {m₀ : Str → Option Value} {news own news' : List (Addr × Obj)} {n e x : Int} {s₁ : Shared} {h' : Heap} {tk : Nat} {m' : Str → Option Value} {tx : Tok} {D : Addr} {ws : List Value} {c : Nat}
    (F : Fr h₀ L h' m') (N : News h₀ L h' news') (hw : m' (Str.ofString "way") = some (.int x tx)) (hd : m' (Str.ofString "date") = some (.ref D)) (hm : (D, tupO ws c) ∈ news') (hI : IntsAre ws (dl x n e)) (h1 : ∀ p ∈ news, p ∈ news') (h2 : ∀ p ∈ own, p ∈ news')
    (hx : 0 ≤ x ∧ x < 13) (hr : ∀ z, z ≠ Str.ofString "k" → z ≠ Str.ofString "other" → z ≠ Str.ofString "way" → z ≠ Str.ofString "date" → m' z = m₀ z) : RoadEnd h₀ L m₀ news own n e s₁ { s₁ with heap := h', toks := tk } := by
  refine ⟨h', tk, m', news', x, tx, D, ws, c, m' (Str.ofString "k"), m' (Str.ofString "other"), rfl, F, N, hm, h1, h2, hx.1, hx.2, hI, ?_⟩
  funext z
  unfold roadMap
  by_cases z1 : z = Str.ofString "k"
  · rw [if_pos z1, z1]
  · rw [if_neg z1]
    by_cases z2 : z = Str.ofString "other"
    · rw [if_pos z2, z2]
    · rw [if_neg z2]
      by_cases z3 : z = Str.ofString "way"
      · rw [if_pos z3, z3, hw]
      · rw [if_neg z3]
        by_cases z4 : z = Str.ofString "date"
        · rw [if_pos z4, z4, hd]
        · rw [if_neg z4]; exact hr z z1 z2 z3 z4
section
variable {prog : Program} {w : World} {A : Around} {E : Value → Shared → Prop} {s : Shared} {env : Env} {h₀ : Heap} {body : List Stmt} {Q : Flow → Shared → Prop} {news : List (Addr × Obj)}
theorem road_loop2 {r : Addr} {b₀ : Int} {t₀ u₀ v₀ : Tok} {m₀ : Str → Option Value} {n e x₀ : Int} {tx₀ : Tok} {D₀ : Addr} {ws₀ : List Value} {c₀ : Nat}
    (hh : A.handled = none) (hr : IsRange s.heap r 2 b₀ 2 t₀ u₀ v₀) (hb : -1 ≤ b₀ ∧ b₀ ≤ 21) (F : Fr h₀ env.locals s.heap m₀) (N0 : News h₀ env.locals s.heap news)
    (hw : m₀ (Str.ofString "way") = some (.int x₀ tx₀)) (hd : m₀ (Str.ofString "date") = some (.ref D₀)) (hmem : (D₀, tupO ws₀ c₀) ∈ news) (hI : IntsAre ws₀ (dl x₀ n e)) (hx : 0 ≤ x₀ ∧ x₀ < 13)
    (turn : ∀ (k : Int) (x : Int) (tx : Tok) (D : Addr) (ws : List Value) (c : Nat) (u : Option Value) (t : Tok) (h : Heap) (tk : Nat) (own : List (Addr × Obj)), 2 ≤ k → k < b₀ → 0 ≤ x → x < 13 → IntsAre ws (dl x n e) →
      Fr h₀ env.locals h (fun z => if z = Str.ofString "k" then some (.int k t) else if z = Str.ofString "other" then u else if z = Str.ofString "way" then some (.int x tx) else if z = Str.ofString "date" then some (.ref D) else m₀ z) →
      News h₀ env.locals h ((D, tupO ws c) :: (news ++ own)) →
      wpAny (model prog w) A (execs body env) (RoadPost h₀ env.locals m₀ news own n e { s with heap := h, toks := tk } Q) E { s with heap := h, toks := tk })
    (done : ∀ (x : Int) (tx : Tok) (D : Addr) (ws : List Value) (c : Nat) (uk u : Option Value) (h : Heap) (tk : Nat), 0 ≤ x → x < 13 → IntsAre ws (dl x n e) →
      Fr h₀ env.locals h (fun z => if z = Str.ofString "k" then uk else if z = Str.ofString "other" then u else if z = Str.ofString "way" then some (.int x tx) else if z = Str.ofString "date" then some (.ref D) else m₀ z) →
      News h₀ env.locals h ((D, tupO ws c) :: news) → Q .next { s with heap := h, toks := tk }) :
    wpAny (model prog w) A (pyIter (.ref r)) (fun it s₂ => LoopAtV prog w A h₀ env (Str.ofString "k") body Q E it s₂) E s := by
  obtain ⟨hs, hz⟩ := small_at hb
  obtain ⟨N, hn⟩ := Int.eq_ofNat_of_zero_le hz
  exact road_loop hh hr hs hn F N0 hx.1 hx.2 hI hmem hw hd turn done
theorem ints_dat {nn : List (Addr × Obj)} : ∀ {ws : List Value} {ds : List Int}, IntsAre ws ds → DatAll nn ws (ds.map Dat.int)
  | _, _, .nil => .nil
  | _, _, .cons n t h => .cons (.int n t) (ints_dat h)
theorem eq_dates {L a b : Addr} {ws ws' : List Value} {c c' : Nat} {ds : List Int} {Q : Value → Shared → Prop} (N : News h₀ L s.heap news) (ma : (a, tupO ws c) ∈ news) (Ia : IntsAre ws ds) (mb : (b, tupO ws' c') ∈ news) (Ib : IntsAre ws' ds) (hu : A.units + 64 < cLine)
    (h : Q (.bool true) s) : wpAny (model prog w) A (compareOp .Eq (.ref a) (.ref b)) Q E s := by
  have ok : kqdOk 9 (.tuple (ds.map Dat.int)) = true := by
    simp only [kqdOk, List.all_map, List.all_eq_true]
    intro x _; rfl
  obtain ⟨as, ra⟩ := kqd_in N 9 (DatIn.tuple ma (ints_dat Ia)) ok
  obtain ⟨bs, rb⟩ := kqd_in N 9 (DatIn.tuple mb (ints_dat Ib)) ok
  have la := kqd_lay 9 (.tuple (ds.map Dat.int)) ok
  have e : PyData.eqv (kqdP (.tuple (ds.map Dat.int))) (kqdP (.tuple (ds.map Dat.int))) = true := (kqd_eqv 9 _ _ 9 ok ok).mpr rfl
  refine eq_dataH ra rb ?_ ?_ hu (by rw [e]; exact h)
  · unfold SeqAt.shaped; rw [la.1, Bool.true_and]; exact decide_eq_true (Nat.le_trans la.2 (by decide))
  · unfold SeqAt.shaped; rw [la.1, Bool.true_and]; exact decide_eq_true (Nat.le_trans la.2 (by decide))
end

set_option hygiene false in
local macro_rules | `(tactic| walk_at "exec If") => `(tactic| ((with_reducible show wpAny _ _ (exec (Stmt.If (Expr.BoolOp _ _ _) _ _ _) _) _ _ _); (fail_if_success (rename JMark => hM)); k_here; (rename Fr _ _ _ _ => cF'); (rename News _ _ _ _ => cN'); k_dflt (refine' join_num cF' cN' (by with_unfolding_all rfl) (fun hM => ?_) (fun n9 f9 t9 h9 tk9 F9 N9 => ?_)); (all_goals (try k_fold)); (all_goals (try k_sweep))))
local macro_rules | `(tactic| walk_at "JoinV") => `(tactic| (first | (refine' join_end ?jf ?jn ?jm ?js ?je; (case jf => k_asm); (case jn => k_asm); (case jm => first | exact rfl | with_unfolding_all rfl); (case js => first | exact fun _ h => h | exact fun _ h => .tail _ h | exact fun _ h => .tail _ (.tail _ h) | exact fun _ h => .tail _ (.tail _ (.tail _ h)) | exact fun _ h => .tail _ (.tail _ (.tail _ (.tail _ h))) | exact fun _ h => .tail _ (.tail _ (.tail _ (.tail _ (.tail _ h)))) | exact fun _ h => .tail _ (.tail _ (.tail _ (.tail _ (.tail _ (.tail _ h))))) | exact fun _ h => .tail _ (.tail _ (.tail _ (.tail _ (.tail _ (.tail _ (.tail _ h)))))) | exact fun _ h => .tail _ (.tail _ (.tail _ (.tail _ (.tail _ (.tail _ (.tail _ (.tail _ h))))))) | kcj_all); (case je => exact num_yes (by assumption) (by assumption))) | (refine' join_same ?jf ?jn ?jm ?js ?je; (case jf => k_asm); (case jn => k_asm); (case jm => first | exact rfl | with_unfolding_all rfl); (case js => first | exact fun _ h => h | exact fun _ h => .tail _ h | exact fun _ h => .tail _ (.tail _ h) | exact fun _ h => .tail _ (.tail _ (.tail _ h)) | exact fun _ h => .tail _ (.tail _ (.tail _ (.tail _ h))) | exact fun _ h => .tail _ (.tail _ (.tail _ (.tail _ (.tail _ h)))) | exact fun _ h => .tail _ (.tail _ (.tail _ (.tail _ (.tail _ (.tail _ h))))) | exact fun _ h => .tail _ (.tail _ (.tail _ (.tail _ (.tail _ (.tail _ (.tail _ h)))))) | exact fun _ h => .tail _ (.tail _ (.tail _ (.tail _ (.tail _ (.tail _ (.tail _ (.tail _ h))))))) | kcj_all); (case je => first | exact num_no2 (by assumption) | exact num_no1 (by assumption)))))
local macro_rules | `(tactic| walk_at "pyIter ref") => `(tactic| (k_here; (rename Fr _ _ _ _ => lF'); (rename News _ _ _ _ => lN'); k_dflt (refine' road_loop2 ?ka ?kb ?kc lF' lN' ?kw ?kd ?km ?kI ?kx (fun k9 x9 tx9 D9 ws9 c9 u9 t9 h9 tk9 own9 hk1 hk2 hx1 hx2 I9 F9 N9 => ?_) (fun x9 tx9 D9 ws9 c9 uk9 u9 h9 tk9 hx1 hx2 I9 F9 N9 => ?_); (case ka => rfl); (case kb => assumption); (case kw => with_unfolding_all rfl); (case kd => with_unfolding_all rfl); (case km => k_mem); (case kI => assumption); (case kx => omega); (case kc => omega)); (all_goals (try clear lF' lN')); (all_goals (try simp only [List.nil_append, List.cons_append] at N9)); (all_goals (try k_fold)); (all_goals (try k_sweep))))
local macro_rules | `(tactic| walk_at "RoadPost") => `(tactic| (dsimp only [RoadPost]))
local macro_rules | `(tactic| walk_at "RoadEnd") => `(tactic| (refine' road_end ?kf ?kn ?kw ?kd ?km ?kI ?k1 ?k2 ?kx ?kr; (case kf => k_asm); (case kn => k_asm); (case kw => with_unfolding_all rfl); (case kd => with_unfolding_all rfl); (case km => k_mem); (case kI => assumption); (case k1 => kcj_all); (case k2 => kcj_all); (case kx => omega); (case kr => (intro z h1 h2 h3 h4; simp only [if_neg h1, if_neg h2, if_neg h3, if_neg h4]))))
local macro_rules | `(tactic| walk_at "compareOp Eq ref ref") => `(tactic| (k_here; k_dflt (refine' eq_dates ?k1 ?k2 ?k3 ?k4 ?k5 ?k6 ?_; (case k1 => k_asm); (case k2 => k_mem); (case k3 => assumption); (case k4 => k_mem); (case k5 => assumption); (case k6 => ke_room))))
theorem law0 : PySem.Challenge.rw_bh0015_01.Holds := hd (by
  k_go0
  all_goals try k_fold
  k_steps
  done)

end Mine

theorem PySem.Challenge.cw_bh0015_01_holds : PySem.Challenge.rw_bh0015_01.Holds :=
  Mine.law0

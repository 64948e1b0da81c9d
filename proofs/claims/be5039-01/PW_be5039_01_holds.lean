import PyProof.Rows.All
import Wide.All
import OpenK.AllK
import Wide.FinOn
import PySem.Challenge.RW_be5039_01
open PySem PySem.W PySem.Calls PyProof.Rows
set_option Elab.async false
set_option maxRecDepth 100000
set_option maxHeartbeats 8000000
open_top Mine.hd for PySem.Challenge.rw_be5039_01
namespace Mine
abbrev Ent := Option Int × Option Bool
abbrev Ledger := List (Addr × Obj)

def kv : Option Bool → Value
  | none => .none
  | some b => .bool b
def truthB : Option Bool → Bool
  | some b => b
  | none => false
inductive ValIs : Value → Option Int → Prop
  | none : ValIs .none none
  | int (i : Int) (t : Tok) : ValIs (.int i t) (some i)

abbrev tupOf (v k : Value) (n : Nat) : Obj := { cls := .type "tuple", data := .seq [v, k].toArray n }

inductive Stk (news : Ledger) : List Value → List Ent → Prop
  | nil : Stk news [] []
  | snoc {vs : List Value} {es : List Ent} {a : Addr} {v : Value} {n : Nat} {o : Option Int} {b : Option Bool} :
      Stk news vs es → (a, tupOf v (kv b) n) ∈ news → ValIs v o → Stk news (vs ++ [.ref a]) ((o, b) :: es)
theorem Stk.length {news : Ledger} {vs : List Value} {es : List Ent} (h : Stk news vs es) : vs.length = es.length := by
  induction h with
  | nil => rfl
  | snoc _ _ _ ih => rw [List.length_append, List.length_cons, ih]; rfl
theorem Stk.mono {news news' : Ledger} (hs : ∀ p ∈ news, p ∈ news') {vs : List Value} {es : List Ent} (h : Stk news vs es) : Stk news' vs es := by
  induction h with
  | nil => exact .nil
  | snoc _ h2 h3 ih => exact .snoc ih (hs _ h2) h3

def under : List Ent → Option Bool
  | _ :: e :: _ => e.2
  | _ => some false
def both : List Ent → Bool
  | e1 :: e2 :: _ => truthB e2.2 && truthB e1.2
  | _ => false
def align : List Ent → Int → Int → Bool → Int
  | [], _, _, _ => 0
  | e :: r, i, c, ahead => if ahead then e.1.getD 0 + i else if r.isEmpty then 0 else if truthB e.2 then e.1.getD 0 + i - c - 1 else 0
section
variable {prog : Program} {w : World} {A : Around} {E : Value → Shared → Prop} {s : Shared} {h₀ : Heap} {L a l : Addr} {news : Ledger} {value slice : Expr} {u : Tok} {n : Nat} {Q : Value → Shared → Prop}
theorem it_tup0 {v k : Value} (N : News h₀ L s.heap news) (hm : (a, tupOf v k n) ∈ news) (h : Q v s)
    (hs : subscripted slice false (.ref a) (.int 0 u) = operate [.ref a, .int 0 u] (getItem (.ref a) (.int 0 u)) := by with_unfolding_all rfl) :
    wpAny (model prog w) A (subscriptTail value slice (.ref a) (.int 0 u)) Q E s :=
  item_tupleT (News.isTup N hm) (by decide) (by decide) rfl rfl h hs
theorem it_tup1 {v k : Value} (N : News h₀ L s.heap news) (hm : (a, tupOf v k n) ∈ news) (h : Q k s)
    (hs : subscripted slice false (.ref a) (.int 1 u) = operate [.ref a, .int 1 u] (getItem (.ref a) (.int 1 u)) := by with_unfolding_all rfl) :
    wpAny (model prog w) A (subscriptTail value slice (.ref a) (.int 1 u)) Q E s :=
  item_tupleT (News.isTup N hm) (by decide) (by decide) rfl rfl h hs
theorem it_last {vs : List Value} {v : Value} (N : News h₀ L s.heap news) (hm : (l, listOf (vs ++ [v]).toArray n) ∈ news) (h : Q v s)
    (hs : subscripted slice false (.ref l) (.int (-1) u) = operate [.ref l, .int (-1) u] (getItem (.ref l) (.int (-1) u)) := by with_unfolding_all rfl) :
    wpAny (model prog w) A (subscriptTail value slice (.ref l) (.int (-1) u)) Q E s := by
  have hl : s.heap.IsList l (vs ++ [v]).toArray := ⟨_, (N _ hm).1, rfl, n, rfl⟩
  refine tail_any hl.typeIs slot_list_getitem.lookup (wpAny_getItem_list_neg hl (by decide) (by simp; omega) (by decide) ?_ h) hs
  have e : ((-1 : Int) + ((vs ++ [v]).toArray.size : Int)).toNat = vs.length := by simp; omega
  rw [e]; simp
theorem it_last2 {vs : List Value} {v v' : Value} (N : News h₀ L s.heap news) (hm : (l, listOf ((vs ++ [v]) ++ [v']).toArray n) ∈ news) (h : Q v s)
    (hs : subscripted slice false (.ref l) (.int (-2) u) = operate [.ref l, .int (-2) u] (getItem (.ref l) (.int (-2) u)) := by with_unfolding_all rfl) :
    wpAny (model prog w) A (subscriptTail value slice (.ref l) (.int (-2) u)) Q E s := by
  have hl : s.heap.IsList l ((vs ++ [v]) ++ [v']).toArray := ⟨_, (N _ hm).1, rfl, n, rfl⟩
  refine tail_any hl.typeIs slot_list_getitem.lookup (wpAny_getItem_list_neg hl (by decide) (by simp; omega) (by decide) ?_ h) hs
  have e : ((-2 : Int) + (((vs ++ [v]) ++ [v']).toArray.size : Int)).toNat = vs.length := by simp; omega
  rw [e]; simp
theorem it_out2 {vs : List Value} (hA : A.handled = none) (N : News h₀ L s.heap news) (hm : (l, listOf vs.toArray n) ∈ news) (hlen : vs.length < 2)
    (hE : ∀ h' tk e, Heap.NewExc s.heap h' e "IndexError" → E (.ref e) { s with heap := h', toks := tk })
    (hs : subscripted slice false (.ref l) (.int (-2) u) = operate [.ref l, .int (-2) u] (getItem (.ref l) (.int (-2) u)) := by with_unfolding_all rfl) :
    wpAny (model prog w) A (subscriptTail value slice (.ref l) (.int (-2) u)) Q E s :=
  item_outK hA ⟨_, (N _ hm).1, rfl, n, rfl⟩ (by left; rw [List.size_toArray]; omega) (by decide) (by decide) hE hs
theorem it_top {vs : List Value} {v : Value} {k : Int} (N : News h₀ L s.heap news) (hm : (l, listOf (vs ++ [v]).toArray n) ∈ news) (hz : vs.length < 1000) (hk : k = vs.length) (h : Q v s)
    (hs : subscripted slice false (.ref l) (.int k u) = operate [.ref l, .int k u] (getItem (.ref l) (.int k u)) := by with_unfolding_all rfl) :
    wpAny (model prog w) A (subscriptTail value slice (.ref l) (.int k u)) Q E s := by
  have hl : s.heap.IsList l (vs ++ [v]).toArray := ⟨_, (N _ hm).1, rfl, n, rfl⟩
  have e : k.toNat = vs.length := by omega
  exact tail_any hl.typeIs slot_list_getitem.lookup (wpAny_getItem_list hl (by omega) (by omega) (by rw [e]; simp) h) hs
theorem it_sub {vs : List Value} {v v' : Value} {k : Int} (N : News h₀ L s.heap news) (hm : (l, listOf ((vs ++ [v]) ++ [v']).toArray n) ∈ news) (hz : vs.length < 1000) (hk : k = vs.length) (h : Q v s)
    (hs : subscripted slice false (.ref l) (.int k u) = operate [.ref l, .int k u] (getItem (.ref l) (.int k u)) := by with_unfolding_all rfl) :
    wpAny (model prog w) A (subscriptTail value slice (.ref l) (.int k u)) Q E s := by
  have hl : s.heap.IsList l ((vs ++ [v]) ++ [v']).toArray := ⟨_, (N _ hm).1, rfl, n, rfl⟩
  have e : k.toNat = vs.length := by omega
  exact tail_any hl.typeIs slot_list_getitem.lookup (wpAny_getItem_list hl (by omega) (by omega) (by rw [e]; simp) h) hs
theorem it_len {vs : List Value} {k : Int} (N : News h₀ L s.heap news) (hm : (l, listOf vs.toArray n) ∈ news) (hk : (vs.length : Int) = k) (hfit : k < 2 ^ 63)
    (h : Q (.int k (s.toks + 1)) { s with toks := s.toks + 1 + 1 }) : wpAny (model prog w) A (call (.builtin "len") [.ref l]) Q E s := by
  have hl : s.heap.IsList l vs.toArray := ⟨_, (N _ hm).1, rfl, n, rfl⟩
  have e : (vs.toArray.size : Int) = k := by rw [List.size_toArray]; exact hk
  exact len_list hl (by rw [e]; exact hfit) (by rw [e]; exact h)
theorem it_menu {k : Int} (N : News h₀ L s.heap news) (hm : (a, listOf [Value.bool true, Value.bool false, Value.none].toArray n) ∈ news) (h0 : 0 ≤ k) (h3 : k < 3) (h : ∀ o, Q (kv o) s)
    (hs : subscripted slice false (.ref a) (.int k u) = operate [.ref a, .int k u] (getItem (.ref a) (.int k u)) := by with_unfolding_all rfl) :
    wpAny (model prog w) A (subscriptTail value slice (.ref a) (.int k u)) Q E s := by
  have hl : s.heap.IsList a [Value.bool true, Value.bool false, Value.none].toArray := ⟨_, (N _ hm).1, rfl, n, rfl⟩
  have e : k = 0 ∨ k = 1 ∨ k = 2 := by omega
  have go : ∀ v, [Value.bool true, Value.bool false, Value.none][k.toNat]? = some v → Q v s → wpAny (model prog w) A (subscriptTail value slice (.ref a) (.int k u)) Q E s := fun v hv hq =>
    tail_any hl.typeIs slot_list_getitem.lookup (wpAny_getItem_list hl h0 (by omega) (by simpa using hv) hq) hs
  rcases e with rfl | rfl | rfl
  · exact go _ rfl (h (some true))
  · exact go _ rfl (h (some false))
  · exact go _ rfl (h none)
end
theorem fmod_in (a : Int) {q : Int} (h : 0 < q) : 0 ≤ a.fmod q ∧ a.fmod q < q := ⟨Int.fmod_nonneg_of_pos a h, Int.fmod_lt_of_pos a h⟩
theorem fr_conv {h₀ h : Heap} {L : Addr} {m m' : Str → Option Value} (F : Fr h₀ L h m) (e : m = m') : Fr h₀ L h m' := e ▸ F
theorem ite_nf {P Q : Prop} (h : P) : if (!false) = true then P else Q := h
theorem ite_nt {P Q : Prop} (h : Q) : if (!true) = true then P else Q := h
theorem nm_len {A : Around} {E : Value → Shared → Prop} {s : Shared} {w : World} {h₀ : Heap} {L a : Addr} {m mg mb : Str → Option Value} {mean : ExcName → Option Value} {cn : Str} {cs : Scope} {ccd : Value} {pos : Pos} {Q : Value → Shared → Prop}
    (F : Fr h₀ L s.heap m) (X : (hd.heap_39 w.params).In h₀) (T : Top hd.view_39 (looseW hd.view_39 []) mean mg mb h₀) (h : Q (.builtin "len") s) (hk : cs.kind = .function) (hx : (envOf cn cs L a ccd).kindOf (Str.ofString "len") = some .globalImplicit) :
    wpAny (model PySem.Challenge.rw_be5039_01.row.prog w) A (eval (.Name (Str.ofString "len") pos) (envOf cn cs L a ccd)) Q E s := by
  w_top off
  revert X
  k_fill
  intro X
  exact name_B F X (topRead_of T) (by k_dflt k_is) (by boot_by_name) (by decide) h hk hx
theorem kl_last_app : ∀ (r : List Value) (y : Value), kl_last (r ++ [y]) = some (r, y)
  | [], _ => rfl
  | x :: r, y => by
    show (match kl_last (r ++ [y]) with | some (p, y) => some (x :: p, y) | none => some ([], x)) = _
    rw [kl_last_app r y]
section
variable {prog : Program} {w : World} {A : Around} {E : Value → Shared → Prop} {s : Shared} {h₀ : Heap} {L a b l : Addr} {m : Str → Option Value} {news news' : Ledger} {n k : Nat} {Q : Value → Shared → Prop}
theorem it_append {vs : List Value} {y : Value} (F : Fr h₀ L s.heap m) (N : News h₀ L s.heap news) (U : Upd l (listOf vs.toArray n) (listOf (vs ++ [y]).toArray (n + 1)) news news') (hz : vs.length < 1000)
    (h : ∀ h', Fr h₀ L h' m → News h₀ L h' news' → Q .none { s with heap := h' }) : wpAny (model prog w) A (call (.builtin "list.append") [.ref l, y]) Q E s :=
  append_K F N (by rw [List.push_toArray]; exact U) h (by rw [List.size_toArray, sizeLine_eq]; omega)
theorem it_pop {vs : List Value} {y : Value} (F : Fr h₀ L s.heap m) (N : News h₀ L s.heap news) (U : Upd l (listOf (vs ++ [y]).toArray n) (listOf vs.toArray (n + 1)) news news') (hz : vs.length < 1000)
    (h : ∀ h', Fr h₀ L h' m → News h₀ L h' news' → Q y { s with heap := h' }) : wpAny (model prog w) A (call (.builtin "list.pop") [.ref l]) Q E s :=
  kl_pop F N (by simpa using kl_last_app vs y) U (by simp [sizeLine_eq]; omega) h
theorem it_pop0 (hA : A.handled = none) (N : News h₀ L s.heap news) (hm : (l, listOf ([] : List Value).toArray n) ∈ news)
    (hE : ∀ h' tk e, Heap.NewExc s.heap h' e "IndexError" → E (.ref e) { s with heap := h', toks := tk }) : wpAny (model prog w) A (call (.builtin "list.pop") [.ref l]) Q E s :=
  call_meets PySem.F.slot_list_pop ⟨_, (N _ hm).1, rfl⟩ PySem.F.entry_list_pop (PySem.F.args_list_pop_1 _) (PySem.AutoSeq1.list_pop_list_0 l _ n rfl) ⟨(N _ hm).1, hA, fun h' tk e x => hE h' tk e x⟩
theorem it_eq_len {vs : List Value} {y : Value} {n2 : Nat} (N : News h₀ L s.heap news) (h1 : (a, listOf (vs ++ [y]).toArray n) ∈ news) (h2 : (b, listOf ([] : List Value).toArray n2) ∈ news) (hu : A.units < cLine)
    (h : Q (.bool false) s) : wpAny (model prog w) A (compareOp .Eq (.ref a) (.ref b)) Q E s :=
  PySem.SeqAt.eq_list_lengthsAt ⟨_, (N _ h1).1, rfl, n, rfl⟩ ⟨_, (N _ h2).1, rfl, n2, rfl⟩ (by simp) hu h
theorem it_eq_nil {n2 : Nat} (N : News h₀ L s.heap news) (h1 : (a, listOf ([] : List Value).toArray n) ∈ news) (h2 : (b, listOf ([] : List Value).toArray n2) ∈ news) (hu : A.units < cLine)
    (h : Q (.bool true) s) : wpAny (model prog w) A (compareOp .Eq (.ref a) (.ref b)) Q E s :=
  PySem.SeqAt.eq_listAt (e := fun _ => true) ⟨_, (N _ h1).1, rfl, n, rfl⟩ ⟨_, (N _ h2).1, rfl, n2, rfl⟩ rfl hu (fun j hj => absurd hj (Nat.not_lt_zero _)) h
end
section
variable {prog : Program} {w : World} {A : Around} {E : Value → Shared → Prop} {s : Shared} {h₀ : Heap} {L a : Addr} {news : Ledger} {value slice : Expr} {u : Tok} {n : Nat} {Q : Value → Shared → Prop}
theorem it_first {k : Int} {p q : Value} (N : News h₀ L s.heap news) (hm : (a, listOf [p, q].toArray n) ∈ news) (hk : k = 0) (h : Q p s)
    (hs : subscripted slice false (.ref a) (.int k u) = operate [.ref a, .int k u] (getItem (.ref a) (.int k u)) := by with_unfolding_all rfl) :
    wpAny (model prog w) A (subscriptTail value slice (.ref a) (.int k u)) Q E s := by
  have hl : s.heap.IsList a [p, q].toArray := ⟨_, (N _ hm).1, rfl, n, rfl⟩
  subst hk
  exact tail_any hl.typeIs slot_list_getitem.lookup (wpAny_getItem_list hl (by decide) (by decide) rfl h) hs
theorem it_second {k : Int} {p q : Value} (N : News h₀ L s.heap news) (hm : (a, listOf [p, q].toArray n) ∈ news) (hk : k = 1) (h : Q q s)
    (hs : subscripted slice false (.ref a) (.int k u) = operate [.ref a, .int k u] (getItem (.ref a) (.int k u)) := by with_unfolding_all rfl) :
    wpAny (model prog w) A (subscriptTail value slice (.ref a) (.int k u)) Q E s := by
  have hl : s.heap.IsList a [p, q].toArray := ⟨_, (N _ hm).1, rfl, n, rfl⟩
  subst hk
  exact tail_any hl.typeIs slot_list_getitem.lookup (wpAny_getItem_list hl (by decide) (by decide) rfl h) hs
end
def nthS : List Stmt → Nat → Stmt
  | [], _ => .Pass ⟨0, 0, 0, 0⟩
  | s :: _, 0 => s
  | _ :: r, n + 1 => nthS r n
def bodyS : Stmt → List Stmt
  | .FunctionDef _ _ b _ _ _ _ _ _ _ => b
  | .For _ _ b _ _ => b
  | _ => []
def scopeS : Stmt → Scope
  | .FunctionDef _ _ _ _ _ _ s _ _ _ => s
  | _ => { kind := .function, names := [], isGenerator := false, isCoroutine := false }
def lawS : Stmt := nthS PySem.Challenge.pw_be5039_01.main.body 7
def forS : Stmt := nthS (bodyS lawS) 3
def lawScope : Scope := scopeS lawS
def turnB : List Stmt := bodyS forS
def chainS : Stmt := nthS turnB 5
def checkS : Stmt := nthS turnB 6
abbrev lawEnv (L fa : Addr) (cd : Value) : Env := envOf (Str.ofString "law") lawScope L fa cd
def storedNames : List Str := [Str.ofString "value", Str.ofString "kind", Str.ofString "refused", Str.ofString "told", Str.ofString "due", Str.ofString "indent", Str.ofString "column", Str.ofString "ahead"]
abbrev valuesDict (hh : Int) (tv : Tok) (l : Addr) : Obj := dictOf [{ hash := hh, key := .str (Str.ofString "values") tv, val := .ref l }] 1
abbrev led (l b x d : Addr) (vs ws : List Value) (n k : Nat) (hh : Int) (tv : Tok) (rest : Ledger) : Ledger :=
  (l, listOf vs.toArray n) :: (b, listOf ws.toArray k) :: (x, instObj 74 d) :: (d, valuesDict hh tv l) :: rest
def NextOk (h₀ : Heap) (L l b x d : Addr) (hh : Int) (tv : Tok) (rest P : Ledger) (es : List Ent) (m₀ : Str → Option Value) (s : Shared) (Q : Flow → Shared → Prop) : Prop :=
  ∀ (es' : List Ent) (vs' ws' : List Value) (n' k' : Nat) (add : Ledger) (h' : Heap) (tk' : Nat) (m' : Str → Option Value), es'.length ≤ es.length + 1 → Stk (add ++ P) vs' es' → Stk (add ++ P) ws' es' →
    (∀ q ∈ add, l < q.1 ∧ b < q.1 ∧ x < q.1 ∧ d < q.1 ∧ AllLt q.1 rest) → Fr h₀ L h' m' → News h₀ L h' (led l b x d vs' ws' n' k' hh tv (add ++ rest)) →
    (∀ y, storedNames.contains y = false → m' y = m₀ y) → Q .next { s with heap := h', toks := tk' }
theorem not_stored {y : Str} (h : storedNames.contains y = false) : y ≠ Str.ofString "value" ∧ y ≠ Str.ofString "kind" ∧ y ≠ Str.ofString "refused" ∧ y ≠ Str.ofString "told" ∧ y ≠ Str.ofString "due" ∧ y ≠ Str.ofString "indent" ∧ y ≠ Str.ofString "column" ∧ y ≠ Str.ofString "ahead" := by
  simpa only [storedNames, List.contains_cons, List.contains_nil, Bool.or_false, Bool.or_eq_false_iff, beq_eq_false_iff_ne] using h
section
variable {h₀ h' : Heap} {L l b x d : Addr} {hh : Int} {tv : Tok} {rest led0 P : Ledger} {es es' : List Ent} {m₀ m' : Str → Option Value} {s : Shared} {Q : Flow → Shared → Prop} {tk' : Nat} {vs ws : List Value} {n k : Nat}
theorem same_done (H : NextOk h₀ L l b x d hh tv rest P es m₀ s Q) (F : Fr h₀ L h' m') (hm : ∀ y, storedNames.contains y = false → m' y = m₀ y) (N : News h₀ L h' led0)
    (hsub : ∀ p ∈ led l b x d vs ws n k hh tv rest, p ∈ led0) (hs : Stk P vs es') (hw : Stk P ws es') (hl : es'.length ≤ es.length + 1) : Q .next { s with heap := h', toks := tk' } :=
  H es' vs ws n k [] h' tk' m' hl hs hw (fun _ h => nomatch h) F (fun p hp => N p (hsub p hp)) hm
theorem push_done {t1 t2 mn : Addr} {omn : Obj} {c1 c2 : Nat} {v : Value} {o : Option Int} {q : Option Bool} (H : NextOk h₀ L l b x d hh tv rest P es m₀ s Q) (hv : ValIs v o) (F : Fr h₀ L h' m') (hm : ∀ y, storedNames.contains y = false → m' y = m₀ y)
    (N : News h₀ L h' ((t2, tupOf v (kv q) c2) :: (t1, tupOf v (kv q) c1) :: (mn, omn) :: (l, listOf (vs ++ [Value.ref t1]).toArray n) :: (b, listOf (ws ++ [Value.ref t2]).toArray k) :: (x, instObj 74 d) :: (d, valuesDict hh tv l) :: rest))
    (l1 : mn < t1 ∧ l < t1 ∧ b < t1 ∧ x < t1 ∧ d < t1 ∧ AllLt t1 rest) (l2 : t1 < t2 ∧ mn < t2 ∧ l < t2 ∧ b < t2 ∧ x < t2 ∧ d < t2 ∧ AllLt t2 rest) (hs : Stk P vs es) (hw : Stk P ws es) : Q .next { s with heap := h', toks := tk' } := by
  have sub : ∀ p ∈ P, p ∈ [(t2, tupOf v (kv q) c2), (t1, tupOf v (kv q) c1)] ++ P := fun p hp => List.mem_append_right _ hp
  refine H ((o, q) :: es) (vs ++ [Value.ref t1]) (ws ++ [Value.ref t2]) n k [(t2, tupOf v (kv q) c2), (t1, tupOf v (kv q) c1)] h' tk' m' (by simp) (.snoc (hs.mono sub) (List.mem_append_left _ (.tail _ (.head _))) hv) (.snoc (hw.mono sub) (List.mem_append_left _ (.head _)) hv) ?_ F (fun p hp => N p ?_) hm
  · intro p hp
    rcases List.mem_cons.mp hp with rfl | hp
    · exact ⟨l2.2.2.1, l2.2.2.2⟩
    · rcases List.mem_cons.mp hp with rfl | hp
      · exact l1.2
      · exact nomatch hp
  · simp only [led, List.mem_cons, List.cons_append, List.nil_append] at hp ⊢
    rcases hp with h | h | h | h | h | h | h <;> simp [h]
end
section
local macro_rules | `(tactic| walk_at "subscriptTail") => `(tactic| ((with_reducible show wpAny _ _ (subscriptTail _ _ (Value.ref _) (Value.int 0 _)) _ _ _); ((with_reducible refine' it_tup0 ?N ?m ?_ ?s); k_dflt ((case N => k_asm); (case m => first | assumption | k_mem); (case s => with_unfolding_all rfl); k_whole)); (try dsimp only)))
local macro_rules | `(tactic| walk_at "subscriptTail") => `(tactic| ((with_reducible show wpAny _ _ (subscriptTail _ _ (Value.ref _) (Value.int 1 _)) _ _ _); ((with_reducible refine' it_tup1 ?N ?m ?_ ?s); k_dflt ((case N => k_asm); (case m => first | assumption | k_mem); (case s => with_unfolding_all rfl); k_whole)); (try dsimp only)))
local macro_rules | `(tactic| walk_at "subscriptTail") => `(tactic| ((with_reducible show wpAny _ _ (subscriptTail _ _ (Value.ref _) (Value.int (-1) _)) _ _ _); ((with_reducible refine' it_last ?N ?m ?_ ?s); k_dflt ((case N => k_asm); (case m => first | assumption | k_mem); (case s => with_unfolding_all rfl); k_whole)); (try dsimp only)))
local macro_rules | `(tactic| walk_at "subscriptTail") => `(tactic| ((with_reducible show wpAny _ _ (subscriptTail _ _ (Value.ref _) (Value.int (-2) _)) _ _ _); (first
  | ((with_reducible refine' it_last2 ?N ?m ?_ ?s); k_dflt ((case N => k_asm); (case m => first | assumption | k_mem); (case s => with_unfolding_all rfl); k_whole); (try dsimp only))
  | ((with_reducible refine' it_out2 ?A ?N ?m ?z ?_ ?s); k_dflt ((case A => rfl); (case N => k_asm); (case m => first | assumption | k_mem); (case z => (simp only [List.nil_append, List.length_cons, List.length_nil]; omega)); (case s => with_unfolding_all rfl); k_whole); intro h' tk' e' x'))))
local macro_rules | `(tactic| walk_at "subscriptTail") => `(tactic| ((with_reducible show wpAny _ _ (subscriptTail _ _ (Value.ref _) (Value.int (_ - 1) _)) _ _ _); ((with_reducible refine' it_top ?N ?m ?z ?k ?_ ?s); k_dflt ((case N => k_asm); (case m => first | assumption | k_mem); (case z => (simp only [List.length_append, List.length_cons, List.length_nil] at *; omega)); (case k => (simp only [List.length_append, List.length_cons, List.length_nil] at *; omega)); (case s => with_unfolding_all rfl); k_whole)); (try dsimp only)))
local macro_rules | `(tactic| walk_at "subscriptTail") => `(tactic| ((with_reducible show wpAny _ _ (subscriptTail _ _ (Value.ref _) (Value.int (_ - 2) _)) _ _ _); ((with_reducible refine' it_sub ?N ?m ?z ?k ?_ ?s); k_dflt ((case N => k_asm); (case m => first | assumption | k_mem); (case z => (simp only [List.length_append, List.length_cons, List.length_nil] at *; omega)); (case k => (simp only [List.length_append, List.length_cons, List.length_nil] at *; omega)); (case s => with_unfolding_all rfl); k_whole)); (try dsimp only)))
local macro_rules | `(tactic| walk_at "LeaveI") => `(tactic| (k_here; (with_reducible rename TI.Caller _ _ _ _ => tiC'); k_dflt (refine TLg.leave_back (by assumption) (by assumption) (by assumption) (by assumption) ?_); clear tiC'; intro F' N'))
local macro_rules | `(tactic| walk_at "noteFrame ref") => `(tactic| (k_here; (with_reducible rename TI.Caller _ _ _ _ => tiC'); (with_reducible rename Heap.NewExc _ _ _ _ => tiX'); k_dflt (refine TLg.noted_new1 (by rfl) (by assumption) tiX' (by assumption) (by assumption) (by assumption) ?_); clear tiX'; intro h' sl' tiF' tiH'; have tiHH' := TT.HeldNA.held tiH'))
local macro_rules | `(tactic| walk_at "eval Name") => `(tactic| ((with_reducible refine' ld ?k1 ?k2 ?_ ?k3 ?k4 ?k5); k_dflt ((case k1 => with_reducible assumption); (case k4 => k_dflt (exact rfl)); (case k2 => k_dflt (exact rfl)); (case k3 => k_dflt (exact rfl)); (case k5 => k_dflt decide); k_whole)))
local macro_rules | `(tactic| walk_at "eval Name") => `(tactic| ((with_reducible show wpAny _ _ (eval (Expr.Name (Str.ofString "len") _) _) _ _ _); (with_reducible refine' nm_len ?k1 ?k2 ?k3 ?_ ?k4 ?k5); k_dflt ((case k1 => with_reducible assumption); (case k2 => with_reducible assumption); (case k3 => with_reducible assumption); (case k4 => k_dflt (exact rfl)); (case k5 => k_dflt (exact rfl)); k_whole)))
local macro_rules | `(tactic| walk_at "ite") => `(tactic| (k_here; (first | (with_reducible show if decide _ = true then _ else _) | (with_reducible show if (_ == _) = true then _ else _)); (first | ((with_reducible refine' ite_neg ?c ?_); (case c => (simp only [decide_eq_true_eq, beq_iff_eq]; omega))) | ((with_reducible refine' ite_pos ?c ?_); (case c => (simp only [decide_eq_true_eq, beq_iff_eq]; omega)))); (try dsimp only)))
local macro_rules | `(tactic| walk_at "ite") => `(tactic| (with_reducible first | refine ite_tt ?_ | refine ite_ff ?_ | refine ite_True_then ?_ | refine ite_nf ?_ | refine ite_nt ?_))
theorem c_last {w : World} {mean : ExcName → Option Value} {mg mb : Str → Option Value} {cn : Str} {cs : Scope} {a : Addr} {ccd : Value} {h₀ : Heap} {L : Addr} {m : Str → Option Value} {s : Shared} {Q E : Value → Shared → Prop}
    {news : Ledger} {x d l : Addr} {hh : Int} {tv : Tok} {vs : List Value} {n : Nat} {es : List Ent}
    (F : Fr h₀ L s.heap m) (X : (hd.heap_39 w.params).In h₀) (N : News h₀ L s.heap news) (T : Top hd.view_39 (looseW hd.view_39 []) mean mg mb h₀) (hk : cs.kind = .function)
    (hx : (x, instObj 74 d) ∈ news) (hd : (d, dictOf [{ hash := hh, key := .str (Str.ofString "values") tv, val := .ref l }] 1) ∈ news) (hl : (l, listOf vs.toArray n) ∈ news) (hs : Stk news vs es)
    (hret : ∀ h' tk', Fr h₀ L h' m → News h₀ L h' news → Q (kv (under es)) { s with heap := h', toks := tk' }) :
    wpAny (model PySem.Challenge.rw_be5039_01.row.prog w) (callerA.deeper (envOf cn cs L a ccd)) (call (.ref 56) [.ref x]) Q E s := by
  w_top off
  revert X
  k_fill
  intro X
  refine wpAny_call ?_
  k_dflt (refine TLgL.code_def (by k_asm) (by k_asm) (by k_asm) (by k_asm) (by rfl) (by k_is) (by k_is) (by k_room) (BindsTo.of_eq rfl) (locs rfl) ?_ (by assumption))
  intro oL' h' tiC' tiF' tiE' F' N'
  replace tiE' := TLgL.allNe_of tiE'
  have hx' := List.mem_append_left [(L, oL')] hx
  have hd' := List.mem_append_left [(L, oL')] hd
  have hl' := List.mem_append_left [(L, oL')] hl
  clear hx hd hl
  cases hs with
  | nil =>
    k_steps
    exact hret _ _ (by k_asm) (by k_asm)
  | snoc h1 h2 h3 =>
    have h2' := List.mem_append_left [(L, oL')] h2
    cases h1 with
    | nil =>
      k_steps
      exact hret _ _ (by k_asm) (by k_asm)
    | snoc h4 h5 h6 =>
      have h5' := List.mem_append_left [(L, oL')] h5
      k_steps
      exact hret _ _ (by k_asm) (by k_asm)
end
section
local macro_rules | `(tactic| walk_at "subscriptTail") => `(tactic| ((with_reducible show wpAny _ _ (subscriptTail _ _ (Value.ref _) (Value.int 0 _)) _ _ _); ((with_reducible refine' it_tup0 ?N ?m ?_ ?s); k_dflt ((case N => k_asm); (case m => first | assumption | k_mem); (case s => with_unfolding_all rfl); k_whole)); (try dsimp only)))
local macro_rules | `(tactic| walk_at "subscriptTail") => `(tactic| ((with_reducible show wpAny _ _ (subscriptTail _ _ (Value.ref _) (Value.int 1 _)) _ _ _); ((with_reducible refine' it_tup1 ?N ?m ?_ ?s); k_dflt ((case N => k_asm); (case m => first | assumption | k_mem); (case s => with_unfolding_all rfl); k_whole)); (try dsimp only)))
local macro_rules | `(tactic| walk_at "subscriptTail") => `(tactic| ((with_reducible show wpAny _ _ (subscriptTail _ _ (Value.ref _) (Value.int (-1) _)) _ _ _); ((with_reducible refine' it_last ?N ?m ?_ ?s); k_dflt ((case N => k_asm); (case m => first | assumption | k_mem); (case s => with_unfolding_all rfl); k_whole)); (try dsimp only)))
local macro_rules | `(tactic| walk_at "subscriptTail") => `(tactic| ((with_reducible show wpAny _ _ (subscriptTail _ _ (Value.ref _) (Value.int (-2) _)) _ _ _); (first
  | ((with_reducible refine' it_last2 ?N ?m ?_ ?s); k_dflt ((case N => k_asm); (case m => first | assumption | k_mem); (case s => with_unfolding_all rfl); k_whole); (try dsimp only))
  | ((with_reducible refine' it_out2 ?A ?N ?m ?z ?_ ?s); k_dflt ((case A => rfl); (case N => k_asm); (case m => first | assumption | k_mem); (case z => (simp only [List.nil_append, List.length_cons, List.length_nil]; omega)); (case s => with_unfolding_all rfl); k_whole); intro h' tk' e' x'))))
local macro_rules | `(tactic| walk_at "subscriptTail") => `(tactic| ((with_reducible show wpAny _ _ (subscriptTail _ _ (Value.ref _) (Value.int (_ - 1) _)) _ _ _); ((with_reducible refine' it_top ?N ?m ?z ?k ?_ ?s); k_dflt ((case N => k_asm); (case m => first | assumption | k_mem); (case z => (simp only [List.length_append, List.length_cons, List.length_nil] at *; omega)); (case k => (simp only [List.length_append, List.length_cons, List.length_nil] at *; omega)); (case s => with_unfolding_all rfl); k_whole)); (try dsimp only)))
local macro_rules | `(tactic| walk_at "subscriptTail") => `(tactic| ((with_reducible show wpAny _ _ (subscriptTail _ _ (Value.ref _) (Value.int (_ - 2) _)) _ _ _); ((with_reducible refine' it_sub ?N ?m ?z ?k ?_ ?s); k_dflt ((case N => k_asm); (case m => first | assumption | k_mem); (case z => (simp only [List.length_append, List.length_cons, List.length_nil] at *; omega)); (case k => (simp only [List.length_append, List.length_cons, List.length_nil] at *; omega)); (case s => with_unfolding_all rfl); k_whole)); (try dsimp only)))
local macro_rules | `(tactic| walk_at "LeaveI") => `(tactic| (k_here; (with_reducible rename TI.Caller _ _ _ _ => tiC'); k_dflt (refine TLg.leave_back (by assumption) (by assumption) (by assumption) (by assumption) ?_); clear tiC'; intro F' N'))
local macro_rules | `(tactic| walk_at "noteFrame ref") => `(tactic| (k_here; (with_reducible rename TI.Caller _ _ _ _ => tiC'); (with_reducible rename Heap.NewExc _ _ _ _ => tiX'); k_dflt (refine TLg.noted_new1 (by rfl) (by assumption) tiX' (by assumption) (by assumption) (by assumption) ?_); clear tiX'; intro h' sl' tiF' tiH'; have tiHH' := TT.HeldNA.held tiH'))
local macro_rules | `(tactic| walk_at "eval Name") => `(tactic| ((with_reducible refine' ld ?k1 ?k2 ?_ ?k3 ?k4 ?k5); k_dflt ((case k1 => with_reducible assumption); (case k4 => k_dflt (exact rfl)); (case k2 => k_dflt (exact rfl)); (case k3 => k_dflt (exact rfl)); (case k5 => k_dflt decide); k_whole)))
local macro_rules | `(tactic| walk_at "eval Name") => `(tactic| ((with_reducible show wpAny _ _ (eval (Expr.Name (Str.ofString "len") _) _) _ _ _); (with_reducible refine' nm_len ?k1 ?k2 ?k3 ?_ ?k4 ?k5); k_dflt ((case k1 => with_reducible assumption); (case k2 => with_reducible assumption); (case k3 => with_reducible assumption); (case k4 => k_dflt (exact rfl)); (case k5 => k_dflt (exact rfl)); k_whole)))
local macro_rules | `(tactic| walk_at "ite") => `(tactic| (k_here; (first | (with_reducible show if decide _ = true then _ else _) | (with_reducible show if (_ == _) = true then _ else _)); (first | ((with_reducible refine' ite_neg ?c ?_); (case c => (simp only [decide_eq_true_eq, beq_iff_eq]; omega))) | ((with_reducible refine' ite_pos ?c ?_); (case c => (simp only [decide_eq_true_eq, beq_iff_eq]; omega)))); (try dsimp only)))
local macro_rules | `(tactic| walk_at "ite") => `(tactic| (with_reducible first | refine ite_tt ?_ | refine ite_ff ?_ | refine ite_True_then ?_ | refine ite_nf ?_ | refine ite_nt ?_))
theorem c_both {w : World} {mean : ExcName → Option Value} {mg mb : Str → Option Value} {cn : Str} {cs : Scope} {a : Addr} {ccd : Value} {h₀ : Heap} {L : Addr} {m : Str → Option Value} {s : Shared} {Q E : Value → Shared → Prop}
    {news : Ledger} {x d l : Addr} {hh : Int} {tv : Tok} {vs : List Value} {n : Nat} {es : List Ent}
    (F : Fr h₀ L s.heap m) (X : (hd.heap_39 w.params).In h₀) (N : News h₀ L s.heap news) (T : Top hd.view_39 (looseW hd.view_39 []) mean mg mb h₀) (hk : cs.kind = .function)
    (hx : (x, instObj 74 d) ∈ news) (hd : (d, dictOf [{ hash := hh, key := .str (Str.ofString "values") tv, val := .ref l }] 1) ∈ news) (hl : (l, listOf vs.toArray n) ∈ news) (hs : Stk news vs es)
    (hret : ∀ h' tk', Fr h₀ L h' m → News h₀ L h' news → Q (.bool (both es)) { s with heap := h', toks := tk' }) :
    wpAny (model PySem.Challenge.rw_be5039_01.row.prog w) (callerA.deeper (envOf cn cs L a ccd)) (call (.ref 49) [.ref x]) Q E s := by
  w_top off
  revert X
  k_fill
  intro X
  refine wpAny_call ?_
  k_dflt (refine TLgL.code_def (by k_asm) (by k_asm) (by k_asm) (by k_asm) (by rfl) (by k_is) (by k_is) (by k_room) (BindsTo.of_eq rfl) (locs rfl) ?_ (by assumption))
  intro oL' h' tiC' tiF' tiE' F' N'
  replace tiE' := TLgL.allNe_of tiE'
  have hx' := List.mem_append_left [(L, oL')] hx
  have hd' := List.mem_append_left [(L, oL')] hd
  have hl' := List.mem_append_left [(L, oL')] hl
  clear hx hd hl
  cases hs with
  | nil =>
    k_steps
    exact hret _ _ (by k_asm) (by k_asm)
  | @snoc _ _ _ _ _ _ b1 h1 h2 h3 =>
    have h2' := List.mem_append_left [(L, oL')] h2
    cases h1 with
    | nil =>
      k_steps
      exact hret _ _ (by k_asm) (by k_asm)
    | @snoc _ _ _ _ _ _ b2 h4 h5 h6 =>
      have h5' := List.mem_append_left [(L, oL')] h5
      rcases b2 with _ | (_ | _)
      · dsimp only [kv] at h5'
        k_steps
        exact hret _ _ (by k_asm) (by k_asm)
      · dsimp only [kv] at h5'
        k_steps
        exact hret _ _ (by k_asm) (by k_asm)
      · rcases b1 with _ | (_ | _)
        all_goals
          dsimp only [kv] at h5' h2'
          k_steps
          exact hret _ _ (by k_asm) (by k_asm)
end
section
local macro_rules | `(tactic| walk_at "subscriptTail") => `(tactic| ((with_reducible show wpAny _ _ (subscriptTail _ _ (Value.ref _) (Value.int 0 _)) _ _ _); ((with_reducible refine' it_tup0 ?N ?m ?_ ?s); k_dflt ((case N => k_asm); (case m => first | assumption | k_mem); (case s => with_unfolding_all rfl); k_whole)); (try dsimp only)))
local macro_rules | `(tactic| walk_at "subscriptTail") => `(tactic| ((with_reducible show wpAny _ _ (subscriptTail _ _ (Value.ref _) (Value.int 1 _)) _ _ _); ((with_reducible refine' it_tup1 ?N ?m ?_ ?s); k_dflt ((case N => k_asm); (case m => first | assumption | k_mem); (case s => with_unfolding_all rfl); k_whole)); (try dsimp only)))
local macro_rules | `(tactic| walk_at "subscriptTail") => `(tactic| ((with_reducible show wpAny _ _ (subscriptTail _ _ (Value.ref _) (Value.int (-1) _)) _ _ _); ((with_reducible refine' it_last ?N ?m ?_ ?s); k_dflt ((case N => k_asm); (case m => first | assumption | k_mem); (case s => with_unfolding_all rfl); k_whole)); (try dsimp only)))
local macro_rules | `(tactic| walk_at "subscriptTail") => `(tactic| ((with_reducible show wpAny _ _ (subscriptTail _ _ (Value.ref _) (Value.int (-2) _)) _ _ _); (first
  | ((with_reducible refine' it_last2 ?N ?m ?_ ?s); k_dflt ((case N => k_asm); (case m => first | assumption | k_mem); (case s => with_unfolding_all rfl); k_whole); (try dsimp only))
  | ((with_reducible refine' it_out2 ?A ?N ?m ?z ?_ ?s); k_dflt ((case A => rfl); (case N => k_asm); (case m => first | assumption | k_mem); (case z => (simp only [List.nil_append, List.length_cons, List.length_nil]; omega)); (case s => with_unfolding_all rfl); k_whole); intro h' tk' e' x'))))
local macro_rules | `(tactic| walk_at "subscriptTail") => `(tactic| ((with_reducible show wpAny _ _ (subscriptTail _ _ (Value.ref _) (Value.int (_ - 1) _)) _ _ _); ((with_reducible refine' it_top ?N ?m ?z ?k ?_ ?s); k_dflt ((case N => k_asm); (case m => first | assumption | k_mem); (case z => (simp only [List.length_append, List.length_cons, List.length_nil] at *; omega)); (case k => (simp only [List.length_append, List.length_cons, List.length_nil] at *; omega)); (case s => with_unfolding_all rfl); k_whole)); (try dsimp only)))
local macro_rules | `(tactic| walk_at "subscriptTail") => `(tactic| ((with_reducible show wpAny _ _ (subscriptTail _ _ (Value.ref _) (Value.int (_ - 2) _)) _ _ _); ((with_reducible refine' it_sub ?N ?m ?z ?k ?_ ?s); k_dflt ((case N => k_asm); (case m => first | assumption | k_mem); (case z => (simp only [List.length_append, List.length_cons, List.length_nil] at *; omega)); (case k => (simp only [List.length_append, List.length_cons, List.length_nil] at *; omega)); (case s => with_unfolding_all rfl); k_whole)); (try dsimp only)))
local macro_rules | `(tactic| walk_at "LeaveI") => `(tactic| (k_here; (with_reducible rename TI.Caller _ _ _ _ => tiC'); k_dflt (refine TLg.leave_back (by assumption) (by assumption) (by assumption) (by assumption) ?_); clear tiC'; intro F' N'))
local macro_rules | `(tactic| walk_at "noteFrame ref") => `(tactic| (k_here; (with_reducible rename TI.Caller _ _ _ _ => tiC'); (with_reducible rename Heap.NewExc _ _ _ _ => tiX'); k_dflt (refine TLg.noted_new1 (by rfl) (by assumption) tiX' (by assumption) (by assumption) (by assumption) ?_); clear tiX'; intro h' sl' tiF' tiH'; have tiHH' := TT.HeldNA.held tiH'))
local macro_rules | `(tactic| walk_at "eval Name") => `(tactic| ((with_reducible refine' ld ?k1 ?k2 ?_ ?k3 ?k4 ?k5); k_dflt ((case k1 => with_reducible assumption); (case k4 => k_dflt (exact rfl)); (case k2 => k_dflt (exact rfl)); (case k3 => k_dflt (exact rfl)); (case k5 => k_dflt decide); k_whole)))
local macro_rules | `(tactic| walk_at "eval Name") => `(tactic| ((with_reducible show wpAny _ _ (eval (Expr.Name (Str.ofString "len") _) _) _ _ _); (with_reducible refine' nm_len ?k1 ?k2 ?k3 ?_ ?k4 ?k5); k_dflt ((case k1 => with_reducible assumption); (case k2 => with_reducible assumption); (case k3 => with_reducible assumption); (case k4 => k_dflt (exact rfl)); (case k5 => k_dflt (exact rfl)); k_whole)))
local macro_rules | `(tactic| walk_at "ite") => `(tactic| (k_here; (first | (with_reducible show if decide _ = true then _ else _) | (with_reducible show if (_ == _) = true then _ else _)); (first | ((with_reducible refine' ite_neg ?c ?_); (case c => (simp only [decide_eq_true_eq, beq_iff_eq]; omega))) | ((with_reducible refine' ite_pos ?c ?_); (case c => (simp only [decide_eq_true_eq, beq_iff_eq]; omega)))); (try dsimp only)))
local macro_rules | `(tactic| walk_at "ite") => `(tactic| (with_reducible first | refine ite_tt ?_ | refine ite_ff ?_ | refine ite_True_then ?_ | refine ite_nf ?_ | refine ite_nt ?_))
local macro_rules | `(tactic| walk_at "call ref") => `(tactic| (k_here; refine wpAny_call ?_; k_dflt cell_enter))
local macro_rules | `(tactic| walk_at "call builtin:len") => `(tactic| ((with_reducible show wpAny _ _ (call (Value.builtin "len") [Value.ref _]) _ _ _); ((with_reducible refine' it_len ?N ?m ?k ?z ?_); k_dflt ((case N => k_asm); (case m => first | assumption | k_mem); (case k => assumption); (case z => omega); k_whole)); (try dsimp only)))
local macro_rules | `(tactic| walk_at "truthy bool") => `(tactic| ((with_reducible refine wpAny_truthy_bool ?_); (try dsimp only)))
theorem c_len {w : World} {mean : ExcName → Option Value} {mg mb : Str → Option Value} {dp un : Nat} {gd : Option (List Code)} {cn : Str} {cs : Scope} {a : Addr} {ccd : Value} {cl : List (Str × Addr)} {outer : List Env} {A₀ : Around} {base h₀ : Heap} {L : Addr} {m : Str → Option Value} {s : Shared} {Q E : Value → Shared → Prop}
    {news : Ledger} {vs : List Value} {n : Nat} {es : List Ent} {x d : Addr} {hh : Int} {tv : Tok} {l : Addr}
    (B : Below A₀ base outer h₀) (F : Fr h₀ L s.heap m) (X : (hd.heap_39 w.params).In h₀) (N : News h₀ L s.heap news) (T : Top hd.view_39 (looseW hd.view_39 []) mean mg mb h₀) (hk : cs.kind = .function)
    (hx : (x, instObj 74 d) ∈ news) (hd : (d, dictOf [{ hash := hh, key := .str (Str.ofString "values") tv, val := .ref l }] 1) ∈ news) (hl : (l, listOf vs.toArray n) ∈ news) (hs : Stk news vs es) (hz : es.length < 900) (hdp : dp + 1 < recursionLimit) (hun : un + 8 < cLine)
    (hret : ∀ (t : Tok) h' tk', Fr h₀ L h' m → News h₀ L h' news → Q (.int (es.length : Int) t) { s with heap := h', toks := tk' }) :
    wpAny (model PySem.Challenge.rw_be5039_01.row.prog w) (ktrTop dp un gd cn cs L a ccd cl outer) (call (.builtin "len") [.ref x]) Q E s := by
  w_top off
  revert X
  k_fill
  intro X
  have hz0 : (vs.length : Int) = (es.length : Int) := by rw [hs.length]
  k_steps
  all_goals first | exact hret _ _ _ (by k_asm) (by k_asm) | (exfalso; omega)
theorem c_lunder {w : World} {mean : ExcName → Option Value} {mg mb : Str → Option Value} {dp un : Nat} {gd : Option (List Code)} {cn : Str} {cs : Scope} {a : Addr} {ccd : Value} {cl : List (Str × Addr)} {outer : List Env} {A₀ : Around} {base h₀ : Heap} {L : Addr} {m : Str → Option Value} {s : Shared} {Q E : Value → Shared → Prop}
    {news : Ledger} {vs : List Value} {n : Nat} {es : List Ent} {l : Addr}
    (B : Below A₀ base outer h₀) (F : Fr h₀ L s.heap m) (X : (hd.heap_39 w.params).In h₀) (N : News h₀ L s.heap news) (T : Top hd.view_39 (looseW hd.view_39 []) mean mg mb h₀) (hk : cs.kind = .function)
    (hl : (l, listOf vs.toArray n) ∈ news) (hs : Stk news vs es) (hz : es.length < 900) (hdp : dp + 1 < recursionLimit) (hun : un + 8 < cLine)
    (hret : ∀ (t : Tok) h' tk', Fr h₀ L h' m → News h₀ L h' news → Q (kv (under es)) { s with heap := h', toks := tk' }) :
    wpAny (model PySem.Challenge.rw_be5039_01.row.prog w) (ktrTop dp un gd cn cs L a ccd cl outer) (call (.ref 99) [.ref l]) Q E s := by
  w_top off
  revert X
  k_fill
  intro X
  have hz0 : (vs.length : Int) = (es.length : Int) := by rw [hs.length]
  refine wpAny_call ?_
  k_dflt cell_enter
  rename Fr _ _ _ _ => F9
  replace F9 := fr_conv (m' := fun y => List.lookup y [(Str.ofString "book", Value.ref l)]) F9 rfl
  cases hs with
  | nil =>
    have hz1 : (([] : List Value).length : Int) = 0 := rfl
    clear hz0
    k_steps
    all_goals exact hret 0 _ _ (by k_asm) (by k_asm)
  | @snoc vs1 es1 a1 v1 n1 o1 k1 h1 h2 h3 =>
    cases h1 with
    | nil =>
      have hz1 : ((([] : List Value) ++ [Value.ref a1]).length : Int) = 1 := rfl
      clear hz0
      k_steps
      all_goals exact hret 0 _ _ (by k_asm) (by k_asm)
    | @snoc vs2 es2 a2 v2 n2 o2 k2 h4 h5 h6 =>
      have hz1 : (((vs2 ++ [Value.ref a2]) ++ [Value.ref a1]).length : Int) = (vs2.length : Int) + 2 := by simp
      have hz2 : vs2.length < 900 := by simp at hz0 hz; omega
      clear hz0
      k_steps
      all_goals exact hret 0 _ _ (by k_asm) (by k_asm)
theorem c_lboth {w : World} {mean : ExcName → Option Value} {mg mb : Str → Option Value} {dp un : Nat} {gd : Option (List Code)} {cn : Str} {cs : Scope} {a : Addr} {ccd : Value} {cl : List (Str × Addr)} {outer : List Env} {A₀ : Around} {base h₀ : Heap} {L : Addr} {m : Str → Option Value} {s : Shared} {Q E : Value → Shared → Prop}
    {news : Ledger} {vs : List Value} {n : Nat} {es : List Ent} {l : Addr}
    (B : Below A₀ base outer h₀) (F : Fr h₀ L s.heap m) (X : (hd.heap_39 w.params).In h₀) (N : News h₀ L s.heap news) (T : Top hd.view_39 (looseW hd.view_39 []) mean mg mb h₀) (hk : cs.kind = .function)
    (hl : (l, listOf vs.toArray n) ∈ news) (hs : Stk news vs es) (hz : es.length < 900) (hdp : dp + 1 < recursionLimit) (hun : un + 8 < cLine)
    (hret : ∀ (t : Tok) h' tk', Fr h₀ L h' m → News h₀ L h' news → Q (.bool (both es)) { s with heap := h', toks := tk' }) :
    wpAny (model PySem.Challenge.rw_be5039_01.row.prog w) (ktrTop dp un gd cn cs L a ccd cl outer) (call (.ref 92) [.ref l]) Q E s := by
  w_top off
  revert X
  k_fill
  intro X
  have hz0 : (vs.length : Int) = (es.length : Int) := by rw [hs.length]
  refine wpAny_call ?_
  k_dflt cell_enter
  rename Fr _ _ _ _ => F9
  replace F9 := fr_conv (m' := fun y => List.lookup y [(Str.ofString "book", Value.ref l)]) F9 rfl
  cases hs with
  | nil =>
    have hz1 : (([] : List Value).length : Int) = 0 := rfl
    clear hz0
    k_steps
    all_goals exact hret 0 _ _ (by k_asm) (by k_asm)
  | @snoc vs1 es1 a1 v1 n1 o1 k1 h1 h2 h3 =>
    cases h1 with
    | nil =>
      have hz1 : ((([] : List Value) ++ [Value.ref a1]).length : Int) = 1 := rfl
      clear hz0
      k_steps
      all_goals exact hret 0 _ _ (by k_asm) (by k_asm)
    | @snoc vs2 es2 a2 v2 n2 o2 k2 h4 h5 h6 =>
      have hz1 : (((vs2 ++ [Value.ref a2]) ++ [Value.ref a1]).length : Int) = (vs2.length : Int) + 2 := by simp
      have hz2 : vs2.length < 900 := by simp at hz0 hz; omega
      clear hz0
      rcases k1 with _ | (_ | _)
      · dsimp only [kv] at h2
        simp only [both, truthB, Bool.and_false] at hret
        k_steps
        all_goals exact hret 0 _ _ (by k_asm) (by k_asm)
      · dsimp only [kv] at h2
        simp only [both, truthB, Bool.and_false] at hret
        k_steps
        all_goals exact hret 0 _ _ (by k_asm) (by k_asm)
      · rcases k2 with _ | (_ | _)
        all_goals
          dsimp only [kv] at h2 h5
          k_steps
          all_goals exact hret 0 _ _ (by k_asm) (by k_asm)
theorem c_lalign {w : World} {mean : ExcName → Option Value} {mg mb : Str → Option Value} {dp un : Nat} {gd : Option (List Code)} {cn : Str} {cs : Scope} {a : Addr} {ccd : Value} {cl : List (Str × Addr)} {outer : List Env} {A₀ : Around} {base h₀ : Heap} {L : Addr} {m : Str → Option Value} {s : Shared} {Q E : Value → Shared → Prop}
    {news : Ledger} {vs : List Value} {n : Nat} {es : List Ent} {l : Addr} {i c : Int} {ti tc : Tok} {ahead : Bool}
    (B : Below A₀ base outer h₀) (F : Fr h₀ L s.heap m) (X : (hd.heap_39 w.params).In h₀) (N : News h₀ L s.heap news) (T : Top hd.view_39 (looseW hd.view_39 []) mean mg mb h₀) (hk : cs.kind = .function)
    (hl : (l, listOf vs.toArray n) ∈ news) (hs : Stk news vs es) (hz : es.length < 900) (hdp : dp + 1 < recursionLimit) (hun : un + 8 < cLine)
    (hret : ∀ (t : Tok) h' tk', Fr h₀ L h' m → News h₀ L h' news → Q (.int (align es i c ahead) t) { s with heap := h', toks := tk' }) :
    wpAny (model PySem.Challenge.rw_be5039_01.row.prog w) (ktrTop dp un gd cn cs L a ccd cl outer) (call (.ref 85) [.ref l, .int i ti, .int c tc, .bool ahead]) Q E s := by
  w_top off
  revert X
  k_fill
  intro X
  have hz0 : (vs.length : Int) = (es.length : Int) := by rw [hs.length]
  refine wpAny_call ?_
  k_dflt cell_enter
  rename Fr _ _ _ _ => F9
  replace F9 := fr_conv (m' := fun y => List.lookup y [(Str.ofString "ahead", Value.bool ahead), (Str.ofString "column", Value.int c tc), (Str.ofString "indent", Value.int i ti), (Str.ofString "book", Value.ref l)]) F9 rfl
  cases hs with
  | nil =>
    have hz1 : (([] : List Value).length : Int) = 0 := rfl
    clear hz0
    rcases ahead with _ | _
    all_goals
      k_steps
      all_goals first | exact hret _ _ _ (by k_asm) (by k_asm) | (exfalso; omega)
  | @snoc vs1 es1 a1 v1 n1 o1 k1 h1 h2 h3 =>
    cases h1 with
    | nil =>
      have hz1 : ((([] : List Value) ++ [Value.ref a1]).length : Int) = 1 := rfl
      clear hz0
      rcases ahead with _ | _
      · k_steps
        all_goals first | exact hret _ _ _ (by k_asm) (by k_asm) | (exfalso; omega)
      · cases h3
        all_goals
          k_steps
          all_goals first | exact hret _ _ _ (by k_asm) (by k_asm) | (exfalso; omega)
    | @snoc vs2 es2 a2 v2 n2 o2 k2 h4 h5 h6 =>
      have hz1 : (((vs2 ++ [Value.ref a2]) ++ [Value.ref a1]).length : Int) = (vs2.length : Int) + 2 := by simp
      have hz2 : vs2.length < 900 := by simp at hz0 hz; omega
      clear hz0
      rcases ahead with _ | _
      · rcases k1 with _ | (_ | _)
        · dsimp only [kv] at h2
          k_steps
          all_goals first | exact hret _ _ _ (by k_asm) (by k_asm) | (exfalso; omega)
        · dsimp only [kv] at h2
          k_steps
          all_goals first | exact hret _ _ _ (by k_asm) (by k_asm) | (exfalso; omega)
        · dsimp only [kv] at h2
          cases h3
          all_goals
            k_steps
            all_goals first | exact hret _ _ _ (by k_asm) (by k_asm) | (exfalso; omega)
      · cases h3
        all_goals
          k_steps
          all_goals first | exact hret _ _ _ (by k_asm) (by k_asm) | (exfalso; omega)
theorem c_align {w : World} {mean : ExcName → Option Value} {mg mb : Str → Option Value} {dp un : Nat} {gd : Option (List Code)} {cn : Str} {cs : Scope} {a : Addr} {ccd : Value} {cl : List (Str × Addr)} {outer : List Env} {A₀ : Around} {base h₀ : Heap} {L : Addr} {m : Str → Option Value} {s : Shared} {Q E : Value → Shared → Prop}
    {news : Ledger} {vs : List Value} {n : Nat} {es : List Ent} {x d : Addr} {hh : Int} {tv : Tok} {l : Addr} {i c : Int} {ti tc : Tok} {ahead : Bool}
    (B : Below A₀ base outer h₀) (F : Fr h₀ L s.heap m) (X : (hd.heap_39 w.params).In h₀) (N : News h₀ L s.heap news) (T : Top hd.view_39 (looseW hd.view_39 []) mean mg mb h₀) (hk : cs.kind = .function)
    (hx : (x, instObj 74 d) ∈ news) (hd : (d, dictOf [{ hash := hh, key := .str (Str.ofString "values") tv, val := .ref l }] 1) ∈ news) (hl : (l, listOf vs.toArray n) ∈ news) (hs : Stk news vs es) (hz : es.length < 900) (hdp : dp + 1 < recursionLimit) (hun : un + 8 < cLine)
    (hret : ∀ (t : Tok) h' tk', Fr h₀ L h' m → News h₀ L h' news → Q (.int (align es i c ahead) t) { s with heap := h', toks := tk' }) :
    wpAny (model PySem.Challenge.rw_be5039_01.row.prog w) (ktrTop dp un gd cn cs L a ccd cl outer) (call (.ref 64) [.ref x, .int i ti, .int c tc, .bool ahead]) Q E s := by
  w_top off
  revert X
  k_fill
  intro X
  have hz0 : (vs.length : Int) = (es.length : Int) := by rw [hs.length]
  refine wpAny_call ?_
  k_dflt (refine' code_def ?k1 ?k2 ?k3 ?k4 ?k5 ?kA ?kF ?kK ?k6 ?k7 ?k8 ?k9 ?kB ?_ ?c2 ?c3 ?c4 ?c5; (case kA => exact rfl); (case kF => exact rfl); (case kK => assumption); (case k1 => k_asm); (case k2 => k_asm); (case k3 => k_asm); (case k4 => k_asm); (case k5 => k_asm); (case k6 => k_is); (case k7 => k_is); (case k8 => ktr_room); (case k9 => exact binds_K (by k_in) rfl (by k_is) rfl rfl rfl); (case c5 => decide); (case kB => exact locs rfl); (case c2 => exact rfl); (case c3 => exact rfl); (case c4 => exact rfl); k_whole; intro g' L' h' FG' F' N' B' X' T'; (try dsimp only); (try k_lift B'); (try k_fold))
  rename Fr _ _ _ _ => F9
  replace F9 := fr_conv (m' := fun y => List.lookup y [(Str.ofString "pre_comment", Value.bool ahead), (Str.ofString "column", Value.int c tc), (Str.ofString "seq_indent", Value.int i ti), (Str.ofString "self", Value.ref x)]) F9 rfl
  cases hs with
  | nil =>
    have hz1 : (([] : List Value).length : Int) = 0 := rfl
    clear hz0
    rcases ahead with _ | _
    all_goals
      k_steps
      all_goals first | exact hret _ _ _ (by k_asm) (by k_asm) | (exfalso; omega)
  | @snoc vs1 es1 a1 v1 n1 o1 k1 h1 h2 h3 =>
    cases h1 with
    | nil =>
      have hz1 : ((([] : List Value) ++ [Value.ref a1]).length : Int) = 1 := rfl
      clear hz0
      rcases ahead with _ | _
      · k_steps
        all_goals first | exact hret _ _ _ (by k_asm) (by k_asm) | (exfalso; omega)
      · cases h3
        all_goals
          k_steps
          all_goals first | exact hret _ _ _ (by k_asm) (by k_asm) | (exfalso; omega)
    | @snoc vs2 es2 a2 v2 n2 o2 k2 h4 h5 h6 =>
      have hz1 : (((vs2 ++ [Value.ref a2]) ++ [Value.ref a1]).length : Int) = (vs2.length : Int) + 2 := by simp
      have hz2 : vs2.length < 900 := by simp at hz0 hz; omega
      clear hz0
      rcases k1 with _ | (_ | _)
      all_goals
        dsimp only [kv] at h2
        rcases ahead with _ | _
        all_goals
          cases h3
          all_goals
            k_steps
            all_goals first | exact hret _ _ _ (by k_asm) (by k_asm) | (exfalso; omega)
theorem c_sameK {w : World} {mean : ExcName → Option Value} {mg mb : Str → Option Value} {dp un : Nat} {gd : Option (List Code)} {cn : Str} {cs : Scope} {a : Addr} {ccd : Value} {cl : List (Str × Addr)} {outer : List Env} {A₀ : Around} {base h₀ : Heap} {L : Addr} {m : Str → Option Value} {s : Shared} {Q E : Value → Shared → Prop}
    {news : Ledger} {o : Option Bool}
    (B : Below A₀ base outer h₀) (F : Fr h₀ L s.heap m) (X : (hd.heap_39 w.params).In h₀) (N : News h₀ L s.heap news) (T : Top hd.view_39 (looseW hd.view_39 []) mean mg mb h₀) (hk : cs.kind = .function) (hdp : dp + 1 < recursionLimit)
    (hret : ∀ h' tk', Fr h₀ L h' m → News h₀ L h' news → Q (.bool true) { s with heap := h', toks := tk' }) :
    wpAny (model PySem.Challenge.rw_be5039_01.row.prog w) (ktrTop dp un gd cn cs L a ccd cl outer) (call (.ref 106) [kv o, kv o]) Q E s := by
  w_top off
  revert X
  k_fill
  intro X
  rcases o with _ | (_ | _)
  all_goals
    (try dsimp only [kv])
    refine wpAny_call ?_
    k_dflt cell_enter
    k_steps
    all_goals exact hret _ _ (by k_asm) (by k_asm)
theorem c_sameB {w : World} {mean : ExcName → Option Value} {mg mb : Str → Option Value} {dp un : Nat} {gd : Option (List Code)} {cn : Str} {cs : Scope} {a : Addr} {ccd : Value} {cl : List (Str × Addr)} {outer : List Env} {A₀ : Around} {base h₀ : Heap} {L : Addr} {m : Str → Option Value} {s : Shared} {Q E : Value → Shared → Prop}
    {news : Ledger} {o : Bool}
    (B : Below A₀ base outer h₀) (F : Fr h₀ L s.heap m) (X : (hd.heap_39 w.params).In h₀) (N : News h₀ L s.heap news) (T : Top hd.view_39 (looseW hd.view_39 []) mean mg mb h₀) (hk : cs.kind = .function) (hdp : dp + 1 < recursionLimit)
    (hret : ∀ h' tk', Fr h₀ L h' m → News h₀ L h' news → Q (.bool true) { s with heap := h', toks := tk' }) :
    wpAny (model PySem.Challenge.rw_be5039_01.row.prog w) (ktrTop dp un gd cn cs L a ccd cl outer) (call (.ref 106) [.bool o, .bool o]) Q E s := by
  w_top off
  revert X
  k_fill
  intro X
  rcases o with _ | _
  all_goals
    (try dsimp only [kv])
    refine wpAny_call ?_
    k_dflt cell_enter
    k_steps
    all_goals exact hret _ _ (by k_asm) (by k_asm)
end
section
local macro_rules | `(tactic| walk_at "subscriptTail") => `(tactic| ((with_reducible show wpAny _ _ (subscriptTail _ _ (Value.ref _) (Value.int 0 _)) _ _ _); ((with_reducible refine' it_tup0 ?N ?m ?_ ?s); k_dflt ((case N => k_asm); (case m => first | assumption | k_mem); (case s => with_unfolding_all rfl); k_whole)); (try dsimp only)))
local macro_rules | `(tactic| walk_at "subscriptTail") => `(tactic| ((with_reducible show wpAny _ _ (subscriptTail _ _ (Value.ref _) (Value.int 1 _)) _ _ _); ((with_reducible refine' it_tup1 ?N ?m ?_ ?s); k_dflt ((case N => k_asm); (case m => first | assumption | k_mem); (case s => with_unfolding_all rfl); k_whole)); (try dsimp only)))
local macro_rules | `(tactic| walk_at "subscriptTail") => `(tactic| ((with_reducible show wpAny _ _ (subscriptTail _ _ (Value.ref _) (Value.int (-1) _)) _ _ _); ((with_reducible refine' it_last ?N ?m ?_ ?s); k_dflt ((case N => k_asm); (case m => first | assumption | k_mem); (case s => with_unfolding_all rfl); k_whole)); (try dsimp only)))
local macro_rules | `(tactic| walk_at "subscriptTail") => `(tactic| ((with_reducible show wpAny _ _ (subscriptTail _ _ (Value.ref _) (Value.int (-2) _)) _ _ _); (first
  | ((with_reducible refine' it_last2 ?N ?m ?_ ?s); k_dflt ((case N => k_asm); (case m => first | assumption | k_mem); (case s => with_unfolding_all rfl); k_whole); (try dsimp only))
  | ((with_reducible refine' it_out2 ?A ?N ?m ?z ?_ ?s); k_dflt ((case A => rfl); (case N => k_asm); (case m => first | assumption | k_mem); (case z => (simp only [List.nil_append, List.length_cons, List.length_nil]; omega)); (case s => with_unfolding_all rfl); k_whole); intro h' tk' e' x'))))
local macro_rules | `(tactic| walk_at "subscriptTail") => `(tactic| ((with_reducible show wpAny _ _ (subscriptTail _ _ (Value.ref _) (Value.int (_ - 1) _)) _ _ _); ((with_reducible refine' it_top ?N ?m ?z ?k ?_ ?s); k_dflt ((case N => k_asm); (case m => first | assumption | k_mem); (case z => (simp only [List.length_append, List.length_cons, List.length_nil] at *; omega)); (case k => (simp only [List.length_append, List.length_cons, List.length_nil] at *; omega)); (case s => with_unfolding_all rfl); k_whole)); (try dsimp only)))
local macro_rules | `(tactic| walk_at "subscriptTail") => `(tactic| ((with_reducible show wpAny _ _ (subscriptTail _ _ (Value.ref _) (Value.int (_ - 2) _)) _ _ _); ((with_reducible refine' it_sub ?N ?m ?z ?k ?_ ?s); k_dflt ((case N => k_asm); (case m => first | assumption | k_mem); (case z => (simp only [List.length_append, List.length_cons, List.length_nil] at *; omega)); (case k => (simp only [List.length_append, List.length_cons, List.length_nil] at *; omega)); (case s => with_unfolding_all rfl); k_whole)); (try dsimp only)))
local macro_rules | `(tactic| walk_at "LeaveI") => `(tactic| (k_here; (with_reducible rename TI.Caller _ _ _ _ => tiC'); k_dflt (refine TLg.leave_back (by assumption) (by assumption) (by assumption) (by assumption) ?_); clear tiC'; intro F' N'))
local macro_rules | `(tactic| walk_at "noteFrame ref") => `(tactic| (k_here; (with_reducible rename TI.Caller _ _ _ _ => tiC'); (with_reducible rename Heap.NewExc _ _ _ _ => tiX'); k_dflt (refine TLg.noted_new1 (by rfl) (by assumption) tiX' (by assumption) (by assumption) (by assumption) ?_); clear tiX'; intro h' sl' tiF' tiH'; have tiHH' := TT.HeldNA.held tiH'))
local macro_rules | `(tactic| walk_at "eval Name") => `(tactic| ((with_reducible refine' ld ?k1 ?k2 ?_ ?k3 ?k4 ?k5); k_dflt ((case k1 => with_reducible assumption); (case k4 => k_dflt (exact rfl)); (case k2 => k_dflt (exact rfl)); (case k3 => k_dflt (exact rfl)); (case k5 => k_dflt decide); k_whole)))
local macro_rules | `(tactic| walk_at "eval Name") => `(tactic| ((with_reducible show wpAny _ _ (eval (Expr.Name (Str.ofString "len") _) _) _ _ _); (with_reducible refine' nm_len ?k1 ?k2 ?k3 ?_ ?k4 ?k5); k_dflt ((case k1 => with_reducible assumption); (case k2 => with_reducible assumption); (case k3 => with_reducible assumption); (case k4 => k_dflt (exact rfl)); (case k5 => k_dflt (exact rfl)); k_whole)))
local macro_rules | `(tactic| walk_at "ite") => `(tactic| (k_here; (first | (with_reducible show if decide _ = true then _ else _) | (with_reducible show if (_ == _) = true then _ else _)); (first | ((with_reducible refine' ite_neg ?c ?_); (case c => (simp only [decide_eq_true_eq, beq_iff_eq]; omega))) | ((with_reducible refine' ite_pos ?c ?_); (case c => (simp only [decide_eq_true_eq, beq_iff_eq]; omega)))); (try dsimp only)))
local macro_rules | `(tactic| walk_at "ite") => `(tactic| (with_reducible first | refine ite_tt ?_ | refine ite_ff ?_ | refine ite_True_then ?_ | refine ite_nf ?_ | refine ite_nt ?_))
local macro_rules | `(tactic| walk_at "subscriptTail") => `(tactic| ((with_reducible show wpAny _ _ (subscriptTail _ _ (Value.ref _) (Value.int (Int.fmod _ 3) _)) _ _ _); ((with_reducible refine' it_menu ?N ?m ?z ?k ?_ ?s); k_dflt ((case N => k_asm); (case m => k_mem); (case z => exact (fmod_in _ (by decide)).1); (case k => exact (fmod_in _ (by decide)).2); (case s => with_unfolding_all rfl); k_whole); intro kd'; (try dsimp only))))
local macro_rules | `(tactic| walk_at "storeName") => `(tactic| (k_here; k_dflt (refine' storeX_L ?F ?N ?_ ?a ?b; (case F => k_asm); (case N => k_asm); (case a => rfl); (case b => rfl); k_whole; intro h' F' N'; (try k_sweep)); (try dsimp only)))
local macro_rules | `(tactic| walk_at "call builtin:list.append") => `(tactic| ((with_reducible show wpAny _ _ (call (Value.builtin "list.append") [Value.ref _, _]) _ _ _); (with_reducible refine' it_append ?F ?N ?U ?z ?_); k_dflt ((case F => k_asm); (case N => k_asm); (case U => k_dflt k_upd); (case z => omega); k_whole); intro h' F' N'; (try k_sweep); (try dsimp only)))
local macro_rules | `(tactic| walk_at "call builtin:list.pop") => `(tactic| ((with_reducible show wpAny _ _ (call (Value.builtin "list.pop") [Value.ref _]) _ _ _); (first
  | ((with_reducible refine' it_pop ?F ?N ?U ?z ?_); k_dflt ((case F => k_asm); (case N => k_asm); (case U => k_dflt k_upd); (case z => omega); k_whole); intro h' F' N'; (try k_sweep); (try dsimp only))
  | ((with_reducible refine' it_pop0 ?A ?N ?m ?_); k_dflt ((case A => k_dflt rfl); (case N => k_asm); (case m => first | assumption | k_mem); k_whole); intro h' tk' e' x'))))
local macro_rules | `(tactic| walk_at "compareOp Eq ref ref") => `(tactic| ((with_reducible show wpAny _ _ (compareOp CmpOp.Eq (Value.ref _) (Value.ref _)) _ _ _); (first
  | ((with_reducible refine' it_eq_len ?N ?a ?b ?u ?_); k_dflt ((case N => k_asm); (case a => first | assumption | k_mem); (case b => first | assumption | k_mem); (case u => k_dflt k_units); k_whole))
  | ((with_reducible refine' it_eq_nil ?N ?a ?b ?u ?_); k_dflt ((case N => k_asm); (case a => first | assumption | k_mem); (case b => first | assumption | k_mem); (case u => k_dflt k_units); k_whole)))))
theorem chain0 {w : World} {mean : ExcName → Option Value} {mg mb : Str → Option Value} {h₀ : Heap} {L fa : Addr} {cd : Value} {s : Shared} {Q : Flow → Shared → Prop}
    {l b x d sx bx : Addr} {vs ws : List Value} {n k : Nat} {hh : Int} {tv : Tok} {rest P : Ledger} {es : List Ent} {m : Str → Option Value} {at_ r nn f : Int} {td ta tr tn tf : Tok}
    (X : (hd.heap_39 w.params).In h₀) (T : Top hd.view_39 (looseW hd.view_39 []) mean mg mb h₀) (K0 : Below callerA h₀ [] h₀)
    (F : Fr h₀ L s.heap (fun y => if y = Str.ofString "book" then some (.ref b) else if y = Str.ofString "stack" then some (.ref x) else if y = Str.ofString "rest" then some (.int r tr) else if y = Str.ofString "at" then some (.int at_ ta) else if y = Str.ofString "deed" then some (.int 0 td) else if y = Str.ofString "number" then some (.int nn tn) else if y = Str.ofString "books" then some (.ref bx) else if y = Str.ofString "stacks" then some (.ref sx) else if y = Str.ofString "first" then some (.int f tf) else m y))
    (N : News h₀ L s.heap (led l b x d vs ws n k hh tv rest))
    (hlb : @Ne Nat l b) (hlx : @Ne Nat l x) (hld : @Ne Nat l d) (hbx : @Ne Nat b x) (hbd : @Ne Nat b d) (hxd : @Ne Nat x d) (hoff : OwnOff rest [l, b, x, d])
    (hP : ∀ p ∈ P, p ∈ rest) (hs : Stk P vs es) (hw : Stk P ws es) (hz : es.length < 800)
    (hnext : NextOk h₀ L l b x d hh tv rest P es (fun y => if y = Str.ofString "book" then some (.ref b) else if y = Str.ofString "stack" then some (.ref x) else if y = Str.ofString "rest" then some (.int r tr) else if y = Str.ofString "at" then some (.int at_ ta) else if y = Str.ofString "deed" then some (.int 0 td) else if y = Str.ofString "number" then some (.int nn tn) else if y = Str.ofString "books" then some (.ref bx) else if y = Str.ofString "stacks" then some (.ref sx) else if y = Str.ofString "first" then some (.int f tf) else m y) s Q) :
    wpAny (model PySem.Challenge.rw_be5039_01.row.prog w) (callerA.deeper (lawEnv L fa cd)) (exec chainS (lawEnv L fa cd)) Q (fun _ _ => False) s := by
  w_top off
  revert X
  k_fill
  intro X
  have hz1 := hs.length
  have hz2 := hw.length
  have kM1 := kdMark
  have kM2 := kstMark
  dsimp only [led, valuesDict] at N
  dsimp only [lawEnv, lawScope, lawS, chainS, turnB, forS, bodyS, nthS, scopeS, PySem.Challenge.pw_be5039_01]
  k_steps
  all_goals first
    | exact push_done hnext .none (by k_asm) (by intro y hy; obtain ⟨h1, h2, h3, h4, h5, h6, h7, h8⟩ := not_stored hy; simp only [h1, h2, h3, h4, h5, h6, h7, h8, if_false]) (by k_asm) (by assumption) (by assumption) hs hw
    | exact push_done hnext (.int _ _) (by k_asm) (by intro y hy; obtain ⟨h1, h2, h3, h4, h5, h6, h7, h8⟩ := not_stored hy; simp only [h1, h2, h3, h4, h5, h6, h7, h8, if_false]) (by k_asm) (by assumption) (by assumption) hs hw
theorem chain1 {w : World} {mean : ExcName → Option Value} {mg mb : Str → Option Value} {h₀ : Heap} {L fa : Addr} {cd : Value} {s : Shared} {Q : Flow → Shared → Prop}
    {l b x d sx bx : Addr} {vs ws : List Value} {n k : Nat} {hh : Int} {tv : Tok} {rest P : Ledger} {es : List Ent} {m : Str → Option Value} {at_ r nn f : Int} {td ta tr tn tf : Tok}
    (X : (hd.heap_39 w.params).In h₀) (T : Top hd.view_39 (looseW hd.view_39 []) mean mg mb h₀) (K0 : Below callerA h₀ [] h₀)
    (F : Fr h₀ L s.heap (fun y => if y = Str.ofString "book" then some (.ref b) else if y = Str.ofString "stack" then some (.ref x) else if y = Str.ofString "rest" then some (.int r tr) else if y = Str.ofString "at" then some (.int at_ ta) else if y = Str.ofString "deed" then some (.int 1 td) else if y = Str.ofString "number" then some (.int nn tn) else if y = Str.ofString "books" then some (.ref bx) else if y = Str.ofString "stacks" then some (.ref sx) else if y = Str.ofString "first" then some (.int f tf) else m y))
    (N : News h₀ L s.heap (led l b x d vs ws n k hh tv rest))
    (hlb : @Ne Nat l b) (hlx : @Ne Nat l x) (hld : @Ne Nat l d) (hbx : @Ne Nat b x) (hbd : @Ne Nat b d) (hxd : @Ne Nat x d) (hoff : OwnOff rest [l, b, x, d])
    (hP : ∀ p ∈ P, p ∈ rest) (hs : Stk P vs es) (hw : Stk P ws es) (hz : es.length < 800)
    (hnext : NextOk h₀ L l b x d hh tv rest P es (fun y => if y = Str.ofString "book" then some (.ref b) else if y = Str.ofString "stack" then some (.ref x) else if y = Str.ofString "rest" then some (.int r tr) else if y = Str.ofString "at" then some (.int at_ ta) else if y = Str.ofString "deed" then some (.int 1 td) else if y = Str.ofString "number" then some (.int nn tn) else if y = Str.ofString "books" then some (.ref bx) else if y = Str.ofString "stacks" then some (.ref sx) else if y = Str.ofString "first" then some (.int f tf) else m y) s Q) :
    wpAny (model PySem.Challenge.rw_be5039_01.row.prog w) (callerA.deeper (lawEnv L fa cd)) (exec chainS (lawEnv L fa cd)) Q (fun _ _ => False) s := by
  w_top off
  revert X
  k_fill
  intro X
  have hz1 := hs.length
  have hz2 := hw.length
  have kM1 := kdMark
  have kM2 := kstMark
  dsimp only [led, valuesDict] at N
  dsimp only [lawEnv, lawScope, lawS, chainS, turnB, forS, bodyS, nthS, scopeS, PySem.Challenge.pw_be5039_01]
  k_steps
  all_goals first
    | exact push_done hnext .none (by k_asm) (by intro y hy; obtain ⟨h1, h2, h3, h4, h5, h6, h7, h8⟩ := not_stored hy; simp only [h1, h2, h3, h4, h5, h6, h7, h8, if_false]) (by k_asm) (by assumption) (by assumption) hs hw
    | exact push_done hnext (.int _ _) (by k_asm) (by intro y hy; obtain ⟨h1, h2, h3, h4, h5, h6, h7, h8⟩ := not_stored hy; simp only [h1, h2, h3, h4, h5, h6, h7, h8, if_false]) (by k_asm) (by assumption) (by assumption) hs hw
theorem chain2 {w : World} {mean : ExcName → Option Value} {mg mb : Str → Option Value} {h₀ : Heap} {L fa : Addr} {cd : Value} {s : Shared} {Q : Flow → Shared → Prop}
    {l b x d sx bx : Addr} {vs ws : List Value} {n k : Nat} {hh : Int} {tv : Tok} {rest P : Ledger} {es : List Ent} {m : Str → Option Value} {at_ r nn f : Int} {td ta tr tn tf : Tok}
    (X : (hd.heap_39 w.params).In h₀) (T : Top hd.view_39 (looseW hd.view_39 []) mean mg mb h₀) (K0 : Below callerA h₀ [] h₀)
    (F : Fr h₀ L s.heap (fun y => if y = Str.ofString "book" then some (.ref b) else if y = Str.ofString "stack" then some (.ref x) else if y = Str.ofString "rest" then some (.int r tr) else if y = Str.ofString "at" then some (.int at_ ta) else if y = Str.ofString "deed" then some (.int 2 td) else if y = Str.ofString "number" then some (.int nn tn) else if y = Str.ofString "books" then some (.ref bx) else if y = Str.ofString "stacks" then some (.ref sx) else if y = Str.ofString "first" then some (.int f tf) else m y))
    (N : News h₀ L s.heap (led l b x d vs ws n k hh tv rest))
    (hlb : @Ne Nat l b) (hlx : @Ne Nat l x) (hld : @Ne Nat l d) (hbx : @Ne Nat b x) (hbd : @Ne Nat b d) (hxd : @Ne Nat x d) (hoff : OwnOff rest [l, b, x, d])
    (hP : ∀ p ∈ P, p ∈ rest) (hs : Stk P vs es) (hw : Stk P ws es) (hz : es.length < 800)
    (hnext : NextOk h₀ L l b x d hh tv rest P es (fun y => if y = Str.ofString "book" then some (.ref b) else if y = Str.ofString "stack" then some (.ref x) else if y = Str.ofString "rest" then some (.int r tr) else if y = Str.ofString "at" then some (.int at_ ta) else if y = Str.ofString "deed" then some (.int 2 td) else if y = Str.ofString "number" then some (.int nn tn) else if y = Str.ofString "books" then some (.ref bx) else if y = Str.ofString "stacks" then some (.ref sx) else if y = Str.ofString "first" then some (.int f tf) else m y) s Q) :
    wpAny (model PySem.Challenge.rw_be5039_01.row.prog w) (callerA.deeper (lawEnv L fa cd)) (exec chainS (lawEnv L fa cd)) Q (fun _ _ => False) s := by
  w_top off
  revert X
  k_fill
  intro X
  have hz1 := hs.length
  have hz2 := hw.length
  have kM1 := kdMark
  have kM2 := kstMark
  dsimp only [led, valuesDict] at N
  dsimp only [lawEnv, lawScope, lawS, chainS, turnB, forS, bodyS, nthS, scopeS, PySem.Challenge.pw_be5039_01]
  cases hs with
  | nil =>
    cases hw
    k_steps
    all_goals first
      | exact same_done hnext (by k_asm) (by intro y hy; obtain ⟨h1, h2, h3, h4, h5, h6, h7, h8⟩ := not_stored hy; simp only [h1, h2, h3, h4, h5, h6, h7, h8, if_false]) (by k_asm) (fun _ h => .tail _ h) .nil .nil (by omega)
      | exact absurd rfl (by assumption)
  | @snoc vs1 es1 a1 v1 c1 o1 k1 h1 h2 h3 =>
    cases hw with
    | @snoc ws1 _ a2 v2 c2 _ _ g1 g2 g3 =>
      rw [List.length_append] at hz1 hz2
      have h2r := hP _ h2
      have g2r := hP _ g2
      cases h3
      all_goals
        cases g3
        k_steps
        all_goals first
          | exact same_done hnext (by k_asm) (by intro y hy; obtain ⟨h1, h2, h3, h4, h5, h6, h7, h8⟩ := not_stored hy; simp only [h1, h2, h3, h4, h5, h6, h7, h8, if_false]) (by k_asm) (fun _ h => .tail _ h) h1 g1 (by simp only [List.length_cons]; omega)
          | exact absurd rfl (by assumption)
end
section
local macro_rules | `(tactic| walk_at "subscriptTail") => `(tactic| ((with_reducible show wpAny _ _ (subscriptTail _ _ (Value.ref _) (Value.int 0 _)) _ _ _); ((with_reducible refine' it_tup0 ?N ?m ?_ ?s); k_dflt ((case N => k_asm); (case m => first | assumption | k_mem); (case s => with_unfolding_all rfl); k_whole)); (try dsimp only)))
local macro_rules | `(tactic| walk_at "subscriptTail") => `(tactic| ((with_reducible show wpAny _ _ (subscriptTail _ _ (Value.ref _) (Value.int 1 _)) _ _ _); ((with_reducible refine' it_tup1 ?N ?m ?_ ?s); k_dflt ((case N => k_asm); (case m => first | assumption | k_mem); (case s => with_unfolding_all rfl); k_whole)); (try dsimp only)))
local macro_rules | `(tactic| walk_at "subscriptTail") => `(tactic| ((with_reducible show wpAny _ _ (subscriptTail _ _ (Value.ref _) (Value.int (-1) _)) _ _ _); ((with_reducible refine' it_last ?N ?m ?_ ?s); k_dflt ((case N => k_asm); (case m => first | assumption | k_mem); (case s => with_unfolding_all rfl); k_whole)); (try dsimp only)))
local macro_rules | `(tactic| walk_at "subscriptTail") => `(tactic| ((with_reducible show wpAny _ _ (subscriptTail _ _ (Value.ref _) (Value.int (-2) _)) _ _ _); (first
  | ((with_reducible refine' it_last2 ?N ?m ?_ ?s); k_dflt ((case N => k_asm); (case m => first | assumption | k_mem); (case s => with_unfolding_all rfl); k_whole); (try dsimp only))
  | ((with_reducible refine' it_out2 ?A ?N ?m ?z ?_ ?s); k_dflt ((case A => rfl); (case N => k_asm); (case m => first | assumption | k_mem); (case z => (simp only [List.nil_append, List.length_cons, List.length_nil]; omega)); (case s => with_unfolding_all rfl); k_whole); intro h' tk' e' x'))))
local macro_rules | `(tactic| walk_at "subscriptTail") => `(tactic| ((with_reducible show wpAny _ _ (subscriptTail _ _ (Value.ref _) (Value.int (_ - 1) _)) _ _ _); ((with_reducible refine' it_top ?N ?m ?z ?k ?_ ?s); k_dflt ((case N => k_asm); (case m => first | assumption | k_mem); (case z => (simp only [List.length_append, List.length_cons, List.length_nil] at *; omega)); (case k => (simp only [List.length_append, List.length_cons, List.length_nil] at *; omega)); (case s => with_unfolding_all rfl); k_whole)); (try dsimp only)))
local macro_rules | `(tactic| walk_at "subscriptTail") => `(tactic| ((with_reducible show wpAny _ _ (subscriptTail _ _ (Value.ref _) (Value.int (_ - 2) _)) _ _ _); ((with_reducible refine' it_sub ?N ?m ?z ?k ?_ ?s); k_dflt ((case N => k_asm); (case m => first | assumption | k_mem); (case z => (simp only [List.length_append, List.length_cons, List.length_nil] at *; omega)); (case k => (simp only [List.length_append, List.length_cons, List.length_nil] at *; omega)); (case s => with_unfolding_all rfl); k_whole)); (try dsimp only)))
local macro_rules | `(tactic| walk_at "LeaveI") => `(tactic| (k_here; (with_reducible rename TI.Caller _ _ _ _ => tiC'); k_dflt (refine TLg.leave_back (by assumption) (by assumption) (by assumption) (by assumption) ?_); clear tiC'; intro F' N'))
local macro_rules | `(tactic| walk_at "noteFrame ref") => `(tactic| (k_here; (with_reducible rename TI.Caller _ _ _ _ => tiC'); (with_reducible rename Heap.NewExc _ _ _ _ => tiX'); k_dflt (refine TLg.noted_new1 (by rfl) (by assumption) tiX' (by assumption) (by assumption) (by assumption) ?_); clear tiX'; intro h' sl' tiF' tiH'; have tiHH' := TT.HeldNA.held tiH'))
local macro_rules | `(tactic| walk_at "eval Name") => `(tactic| ((with_reducible refine' ld ?k1 ?k2 ?_ ?k3 ?k4 ?k5); k_dflt ((case k1 => with_reducible assumption); (case k4 => k_dflt (exact rfl)); (case k2 => k_dflt (exact rfl)); (case k3 => k_dflt (exact rfl)); (case k5 => k_dflt decide); k_whole)))
local macro_rules | `(tactic| walk_at "eval Name") => `(tactic| ((with_reducible show wpAny _ _ (eval (Expr.Name (Str.ofString "len") _) _) _ _ _); (with_reducible refine' nm_len ?k1 ?k2 ?k3 ?_ ?k4 ?k5); k_dflt ((case k1 => with_reducible assumption); (case k2 => with_reducible assumption); (case k3 => with_reducible assumption); (case k4 => k_dflt (exact rfl)); (case k5 => k_dflt (exact rfl)); k_whole)))
local macro_rules | `(tactic| walk_at "ite") => `(tactic| (k_here; (first | (with_reducible show if decide _ = true then _ else _) | (with_reducible show if (_ == _) = true then _ else _)); (first | ((with_reducible refine' ite_neg ?c ?_); (case c => (simp only [decide_eq_true_eq, beq_iff_eq]; omega))) | ((with_reducible refine' ite_pos ?c ?_); (case c => (simp only [decide_eq_true_eq, beq_iff_eq]; omega)))); (try dsimp only)))
local macro_rules | `(tactic| walk_at "ite") => `(tactic| (with_reducible first | refine ite_tt ?_ | refine ite_ff ?_ | refine ite_True_then ?_ | refine ite_nf ?_ | refine ite_nt ?_))
local macro_rules | `(tactic| walk_at "subscriptTail") => `(tactic| ((with_reducible show wpAny _ _ (subscriptTail _ _ (Value.ref _) (Value.int (Int.fmod _ 3) _)) _ _ _); ((with_reducible refine' it_menu ?N ?m ?z ?k ?_ ?s); k_dflt ((case N => k_asm); (case m => k_mem); (case z => exact (fmod_in _ (by decide)).1); (case k => exact (fmod_in _ (by decide)).2); (case s => with_unfolding_all rfl); k_whole); intro kd'; (try dsimp only))))
local macro_rules | `(tactic| walk_at "storeName") => `(tactic| (k_here; k_dflt (refine' storeX_L ?F ?N ?_ ?a ?b; (case F => k_asm); (case N => k_asm); (case a => rfl); (case b => rfl); k_whole; intro h' F' N'; (try k_sweep)); (try dsimp only)))
local macro_rules | `(tactic| walk_at "call builtin:list.append") => `(tactic| ((with_reducible show wpAny _ _ (call (Value.builtin "list.append") [Value.ref _, _]) _ _ _); (with_reducible refine' it_append ?F ?N ?U ?z ?_); k_dflt ((case F => k_asm); (case N => k_asm); (case U => k_dflt k_upd); (case z => omega); k_whole); intro h' F' N'; (try k_sweep); (try dsimp only)))
local macro_rules | `(tactic| walk_at "call builtin:list.pop") => `(tactic| ((with_reducible show wpAny _ _ (call (Value.builtin "list.pop") [Value.ref _]) _ _ _); (first
  | ((with_reducible refine' it_pop ?F ?N ?U ?z ?_); k_dflt ((case F => k_asm); (case N => k_asm); (case U => k_dflt k_upd); (case z => omega); k_whole); intro h' F' N'; (try k_sweep); (try dsimp only))
  | ((with_reducible refine' it_pop0 ?A ?N ?m ?_); k_dflt ((case A => k_dflt rfl); (case N => k_asm); (case m => first | assumption | k_mem); k_whole); intro h' tk' e' x'))))
local macro_rules | `(tactic| walk_at "compareOp Eq ref ref") => `(tactic| ((with_reducible show wpAny _ _ (compareOp CmpOp.Eq (Value.ref _) (Value.ref _)) _ _ _); (first
  | ((with_reducible refine' it_eq_len ?N ?a ?b ?u ?_); k_dflt ((case N => k_asm); (case a => first | assumption | k_mem); (case b => first | assumption | k_mem); (case u => k_dflt k_units); k_whole))
  | ((with_reducible refine' it_eq_nil ?N ?a ?b ?u ?_); k_dflt ((case N => k_asm); (case a => first | assumption | k_mem); (case b => first | assumption | k_mem); (case u => k_dflt k_units); k_whole)))))
local macro_rules | `(tactic| walk_at "call ref") => `(tactic| ((with_reducible show wpAny _ _ (call (Value.ref 56) _) _ _ _); k_dflt (refine' c_last ?F ?X ?N ?T ?k ?x ?d ?l ?s ?_; (case F => k_asm); (case X => k_asm); (case N => k_asm); (case T => k_asm); (case k => rfl); (case x => k_mem); (case d => k_mem); (case l => k_mem); (case s => assumption); k_whole); intro h' tk' F' N'; (try k_sweep); (try dsimp only)))
local macro_rules | `(tactic| walk_at "call ref") => `(tactic| ((with_reducible show wpAny _ _ (call (Value.ref 49) _) _ _ _); k_dflt (refine' c_both ?F ?X ?N ?T ?k ?x ?d ?l ?s ?_; (case F => k_asm); (case X => k_asm); (case N => k_asm); (case T => k_asm); (case k => rfl); (case x => k_mem); (case d => k_mem); (case l => k_mem); (case s => assumption); k_whole); intro h' tk' F' N'; (try k_sweep); (try dsimp only)))
local macro_rules | `(tactic| walk_at "call ref") => `(tactic| ((with_reducible show wpAny _ _ (call (Value.ref 64) _) _ _ _); k_dflt (refine' c_align ?B ?F ?X ?N ?T ?k ?x ?d ?l ?s ?z ?p ?u ?_; (case B => k_asm); (case F => k_asm); (case X => k_asm); (case N => k_asm); (case T => k_asm); (case k => rfl); (case x => k_mem); (case d => k_mem); (case l => k_mem); (case s => assumption); (case z => omega); (case p => ktr_room); (case u => ktr_units); k_whole); intro t' h' tk' F' N'; (try k_sweep); (try dsimp only)))
local macro_rules | `(tactic| walk_at "call ref") => `(tactic| ((with_reducible show wpAny _ _ (call (Value.ref 85) _) _ _ _); k_dflt (refine' c_lalign ?B ?F ?X ?N ?T ?k ?l ?s ?z ?p ?u ?_; (case B => k_asm); (case F => k_asm); (case X => k_asm); (case N => k_asm); (case T => k_asm); (case k => rfl); (case l => k_mem); (case s => assumption); (case z => omega); (case p => ktr_room); (case u => ktr_units); k_whole); intro t' h' tk' F' N'; (try k_sweep); (try dsimp only)))
local macro_rules | `(tactic| walk_at "call ref") => `(tactic| ((with_reducible show wpAny _ _ (call (Value.ref 92) _) _ _ _); k_dflt (refine' c_lboth ?B ?F ?X ?N ?T ?k ?l ?s ?z ?p ?u ?_; (case B => k_asm); (case F => k_asm); (case X => k_asm); (case N => k_asm); (case T => k_asm); (case k => rfl); (case l => k_mem); (case s => assumption); (case z => omega); (case p => ktr_room); (case u => ktr_units); k_whole); intro t' h' tk' F' N'; (try k_sweep); (try dsimp only)))
local macro_rules | `(tactic| walk_at "call ref") => `(tactic| ((with_reducible show wpAny _ _ (call (Value.ref 99) _) _ _ _); k_dflt (refine' c_lunder ?B ?F ?X ?N ?T ?k ?l ?s ?z ?p ?u ?_; (case B => k_asm); (case F => k_asm); (case X => k_asm); (case N => k_asm); (case T => k_asm); (case k => rfl); (case l => k_mem); (case s => assumption); (case z => omega); (case p => ktr_room); (case u => ktr_units); k_whole); intro t' h' tk' F' N'; (try k_sweep); (try dsimp only)))
local macro_rules | `(tactic| walk_at "call ref") => `(tactic| ((with_reducible show wpAny _ _ (call (Value.ref 106) [kv _, kv _]) _ _ _); k_dflt (refine' c_sameK ?B ?F ?X ?N ?T ?k ?p ?_; (case B => k_asm); (case F => k_asm); (case X => k_asm); (case N => k_asm); (case T => k_asm); (case k => rfl); (case p => ktr_room); k_whole); intro h' tk' F' N'; (try k_sweep); (try dsimp only)))
local macro_rules | `(tactic| walk_at "call ref") => `(tactic| ((with_reducible show wpAny _ _ (call (Value.ref 106) [Value.bool _, Value.bool _]) _ _ _); k_dflt (refine' c_sameB ?B ?F ?X ?N ?T ?k ?p ?_; (case B => k_asm); (case F => k_asm); (case X => k_asm); (case N => k_asm); (case T => k_asm); (case k => rfl); (case p => ktr_room); k_whole); intro h' tk' F' N'; (try k_sweep); (try dsimp only)))
local macro_rules | `(tactic| walk_at "call builtin:len") => `(tactic| ((with_reducible show wpAny _ _ (call (Value.builtin "len") [Value.ref _]) _ _ _); k_dflt (refine' c_len ?B ?F ?X ?N ?T ?k ?x ?d ?l ?s ?z ?p ?u ?_; (case B => k_asm); (case F => k_asm); (case X => k_asm); (case N => k_asm); (case T => k_asm); (case k => rfl); (case x => k_mem); (case d => k_mem); (case l => k_mem); (case s => assumption); (case z => omega); (case p => ktr_room); (case u => ktr_units); k_whole); intro t' h' tk' F' N'; (try k_sweep); (try dsimp only)))
theorem chain3 {w : World} {mean : ExcName → Option Value} {mg mb : Str → Option Value} {h₀ : Heap} {L fa : Addr} {cd : Value} {s : Shared} {Q : Flow → Shared → Prop}
    {l b x d sx bx : Addr} {vs ws : List Value} {n k : Nat} {hh : Int} {tv : Tok} {rest P : Ledger} {es : List Ent} {m : Str → Option Value} {at_ r nn f : Int} {td ta tr tn tf : Tok}
    (X : (hd.heap_39 w.params).In h₀) (T : Top hd.view_39 (looseW hd.view_39 []) mean mg mb h₀) (K0 : Below callerA h₀ [] h₀)
    (F : Fr h₀ L s.heap (fun y => if y = Str.ofString "book" then some (.ref b) else if y = Str.ofString "stack" then some (.ref x) else if y = Str.ofString "rest" then some (.int r tr) else if y = Str.ofString "at" then some (.int at_ ta) else if y = Str.ofString "deed" then some (.int 3 td) else if y = Str.ofString "number" then some (.int nn tn) else if y = Str.ofString "books" then some (.ref bx) else if y = Str.ofString "stacks" then some (.ref sx) else if y = Str.ofString "first" then some (.int f tf) else m y))
    (N : News h₀ L s.heap (led l b x d vs ws n k hh tv rest))
    (hlb : @Ne Nat l b) (hlx : @Ne Nat l x) (hld : @Ne Nat l d) (hbx : @Ne Nat b x) (hbd : @Ne Nat b d) (hxd : @Ne Nat x d) (hoff : OwnOff rest [l, b, x, d])
    (hP : ∀ p ∈ P, p ∈ rest) (hs : Stk P vs es) (hw : Stk P ws es) (hz : es.length < 800)
    (hnext : NextOk h₀ L l b x d hh tv rest P es (fun y => if y = Str.ofString "book" then some (.ref b) else if y = Str.ofString "stack" then some (.ref x) else if y = Str.ofString "rest" then some (.int r tr) else if y = Str.ofString "at" then some (.int at_ ta) else if y = Str.ofString "deed" then some (.int 3 td) else if y = Str.ofString "number" then some (.int nn tn) else if y = Str.ofString "books" then some (.ref bx) else if y = Str.ofString "stacks" then some (.ref sx) else if y = Str.ofString "first" then some (.int f tf) else m y) s Q) :
    wpAny (model PySem.Challenge.rw_be5039_01.row.prog w) (callerA.deeper (lawEnv L fa cd)) (exec chainS (lawEnv L fa cd)) Q (fun _ _ => False) s := by
  w_top off
  revert X
  k_fill
  intro X
  have hz1 := hs.length
  have hz2 := hw.length
  have kM1 := kdMark
  have kM2 := kstMark
  dsimp only [led, valuesDict] at N
  dsimp only [lawEnv, lawScope, lawS, chainS, turnB, forS, bodyS, nthS, scopeS, PySem.Challenge.pw_be5039_01]
  have sub : ∀ p ∈ rest, p ∈ ((l, listOf vs.toArray n) :: (b, listOf ws.toArray k) :: (x, instObj 74 d) :: (d, dictOf [{ hash := hh, key := .str (Str.ofString "values") tv, val := .ref l }] 1) :: rest : Ledger) := fun p hp => .tail _ (.tail _ (.tail _ (.tail _ hp)))
  have hsL := (hs.mono hP).mono sub
  have hwL := (hw.mono hP).mono sub
  clear sub
  k_steps
  all_goals first
    | exact same_done (led0 := led l b x d vs ws n k hh tv rest) hnext (by k_asm) (by intro y hy; obtain ⟨h1, h2, h3, h4, h5, h6, h7, h8⟩ := not_stored hy; simp only [h1, h2, h3, h4, h5, h6, h7, h8, if_false]) (by k_asm) (fun _ h => h) hs hw (by omega)
    | exact absurd rfl (by assumption)
theorem chain4 {w : World} {mean : ExcName → Option Value} {mg mb : Str → Option Value} {h₀ : Heap} {L fa : Addr} {cd : Value} {s : Shared} {Q : Flow → Shared → Prop}
    {l b x d sx bx : Addr} {vs ws : List Value} {n k : Nat} {hh : Int} {tv : Tok} {rest P : Ledger} {es : List Ent} {m : Str → Option Value} {at_ r nn f : Int} {td ta tr tn tf : Tok}
    (X : (hd.heap_39 w.params).In h₀) (T : Top hd.view_39 (looseW hd.view_39 []) mean mg mb h₀) (K0 : Below callerA h₀ [] h₀)
    (F : Fr h₀ L s.heap (fun y => if y = Str.ofString "book" then some (.ref b) else if y = Str.ofString "stack" then some (.ref x) else if y = Str.ofString "rest" then some (.int r tr) else if y = Str.ofString "at" then some (.int at_ ta) else if y = Str.ofString "deed" then some (.int 4 td) else if y = Str.ofString "number" then some (.int nn tn) else if y = Str.ofString "books" then some (.ref bx) else if y = Str.ofString "stacks" then some (.ref sx) else if y = Str.ofString "first" then some (.int f tf) else m y))
    (N : News h₀ L s.heap (led l b x d vs ws n k hh tv rest))
    (hlb : @Ne Nat l b) (hlx : @Ne Nat l x) (hld : @Ne Nat l d) (hbx : @Ne Nat b x) (hbd : @Ne Nat b d) (hxd : @Ne Nat x d) (hoff : OwnOff rest [l, b, x, d])
    (hP : ∀ p ∈ P, p ∈ rest) (hs : Stk P vs es) (hw : Stk P ws es) (hz : es.length < 800)
    (hnext : NextOk h₀ L l b x d hh tv rest P es (fun y => if y = Str.ofString "book" then some (.ref b) else if y = Str.ofString "stack" then some (.ref x) else if y = Str.ofString "rest" then some (.int r tr) else if y = Str.ofString "at" then some (.int at_ ta) else if y = Str.ofString "deed" then some (.int 4 td) else if y = Str.ofString "number" then some (.int nn tn) else if y = Str.ofString "books" then some (.ref bx) else if y = Str.ofString "stacks" then some (.ref sx) else if y = Str.ofString "first" then some (.int f tf) else m y) s Q) :
    wpAny (model PySem.Challenge.rw_be5039_01.row.prog w) (callerA.deeper (lawEnv L fa cd)) (exec chainS (lawEnv L fa cd)) Q (fun _ _ => False) s := by
  w_top off
  revert X
  k_fill
  intro X
  have hz1 := hs.length
  have hz2 := hw.length
  have kM1 := kdMark
  have kM2 := kstMark
  dsimp only [led, valuesDict] at N
  dsimp only [lawEnv, lawScope, lawS, chainS, turnB, forS, bodyS, nthS, scopeS, PySem.Challenge.pw_be5039_01]
  have sub : ∀ p ∈ rest, p ∈ ((l, listOf vs.toArray n) :: (b, listOf ws.toArray k) :: (x, instObj 74 d) :: (d, dictOf [{ hash := hh, key := .str (Str.ofString "values") tv, val := .ref l }] 1) :: rest : Ledger) := fun p hp => .tail _ (.tail _ (.tail _ (.tail _ hp)))
  have hsL := (hs.mono hP).mono sub
  have hwL := (hw.mono hP).mono sub
  clear sub
  k_steps
  all_goals first
    | exact same_done (led0 := led l b x d vs ws n k hh tv rest) hnext (by k_asm) (by intro y hy; obtain ⟨h1, h2, h3, h4, h5, h6, h7, h8⟩ := not_stored hy; simp only [h1, h2, h3, h4, h5, h6, h7, h8, if_false]) (by k_asm) (fun _ h => h) hs hw (by omega)
    | exact absurd rfl (by assumption)
theorem chain5 {w : World} {mean : ExcName → Option Value} {mg mb : Str → Option Value} {h₀ : Heap} {L fa : Addr} {cd : Value} {s : Shared} {Q : Flow → Shared → Prop}
    {l b x d sx bx : Addr} {vs ws : List Value} {n k : Nat} {hh : Int} {tv : Tok} {rest P : Ledger} {es : List Ent} {m : Str → Option Value} {at_ r nn f : Int} {td ta tr tn tf : Tok}
    (X : (hd.heap_39 w.params).In h₀) (T : Top hd.view_39 (looseW hd.view_39 []) mean mg mb h₀) (K0 : Below callerA h₀ [] h₀)
    (F : Fr h₀ L s.heap (fun y => if y = Str.ofString "book" then some (.ref b) else if y = Str.ofString "stack" then some (.ref x) else if y = Str.ofString "rest" then some (.int r tr) else if y = Str.ofString "at" then some (.int at_ ta) else if y = Str.ofString "deed" then some (.int 5 td) else if y = Str.ofString "number" then some (.int nn tn) else if y = Str.ofString "books" then some (.ref bx) else if y = Str.ofString "stacks" then some (.ref sx) else if y = Str.ofString "first" then some (.int f tf) else m y))
    (N : News h₀ L s.heap (led l b x d vs ws n k hh tv rest))
    (hlb : @Ne Nat l b) (hlx : @Ne Nat l x) (hld : @Ne Nat l d) (hbx : @Ne Nat b x) (hbd : @Ne Nat b d) (hxd : @Ne Nat x d) (hoff : OwnOff rest [l, b, x, d])
    (hP : ∀ p ∈ P, p ∈ rest) (hs : Stk P vs es) (hw : Stk P ws es) (hz : es.length < 800)
    (hnext : NextOk h₀ L l b x d hh tv rest P es (fun y => if y = Str.ofString "book" then some (.ref b) else if y = Str.ofString "stack" then some (.ref x) else if y = Str.ofString "rest" then some (.int r tr) else if y = Str.ofString "at" then some (.int at_ ta) else if y = Str.ofString "deed" then some (.int 5 td) else if y = Str.ofString "number" then some (.int nn tn) else if y = Str.ofString "books" then some (.ref bx) else if y = Str.ofString "stacks" then some (.ref sx) else if y = Str.ofString "first" then some (.int f tf) else m y) s Q) :
    wpAny (model PySem.Challenge.rw_be5039_01.row.prog w) (callerA.deeper (lawEnv L fa cd)) (exec chainS (lawEnv L fa cd)) Q (fun _ _ => False) s := by
  w_top off
  revert X
  k_fill
  intro X
  have hz1 := hs.length
  have hz2 := hw.length
  have kM1 := kdMark
  have kM2 := kstMark
  dsimp only [led, valuesDict] at N
  dsimp only [lawEnv, lawScope, lawS, chainS, turnB, forS, bodyS, nthS, scopeS, PySem.Challenge.pw_be5039_01]
  have sub : ∀ p ∈ rest, p ∈ ((l, listOf vs.toArray n) :: (b, listOf ws.toArray k) :: (x, instObj 74 d) :: (d, dictOf [{ hash := hh, key := .str (Str.ofString "values") tv, val := .ref l }] 1) :: rest : Ledger) := fun p hp => .tail _ (.tail _ (.tail _ (.tail _ hp)))
  have hsL := (hs.mono hP).mono sub
  have hwL := (hw.mono hP).mono sub
  clear sub
  k_steps
  all_goals first
    | exact same_done (led0 := led l b x d vs ws n k hh tv rest) hnext (by k_asm) (by intro y hy; obtain ⟨h1, h2, h3, h4, h5, h6, h7, h8⟩ := not_stored hy; simp only [h1, h2, h3, h4, h5, h6, h7, h8, if_false]) (by k_asm) (fun _ h => h) hs hw (by omega)
    | exact absurd rfl (by assumption)
end
abbrev mapC (b x bx sx : Addr) (r at_ dd nn f : Int) (tr ta td tn tf : Tok) (m : Str → Option Value) : Str → Option Value :=
  fun y => if y = Str.ofString "book" then some (.ref b) else if y = Str.ofString "stack" then some (.ref x) else if y = Str.ofString "rest" then some (.int r tr) else if y = Str.ofString "at" then some (.int at_ ta) else if y = Str.ofString "deed" then some (.int dd td) else if y = Str.ofString "number" then some (.int nn tn) else if y = Str.ofString "books" then some (.ref bx) else if y = Str.ofString "stacks" then some (.ref sx) else if y = Str.ofString "first" then some (.int f tf) else m y
theorem chain {w : World} {mean : ExcName → Option Value} {mg mb : Str → Option Value} {h₀ : Heap} {L fa : Addr} {cd : Value} {s : Shared} {Q : Flow → Shared → Prop}
    {l b x d sx bx : Addr} {vs ws : List Value} {n k : Nat} {hh : Int} {tv : Tok} {rest P : Ledger} {es : List Ent} {m : Str → Option Value} {at_ r nn f dd : Int} {td ta tr tn tf : Tok}
    (X : (hd.heap_39 w.params).In h₀) (T : Top hd.view_39 (looseW hd.view_39 []) mean mg mb h₀) (K0 : Below callerA h₀ [] h₀)
    (F : Fr h₀ L s.heap (mapC b x bx sx r at_ dd nn f tr ta td tn tf m))
    (N : News h₀ L s.heap (led l b x d vs ws n k hh tv rest))
    (hlb : @Ne Nat l b) (hlx : @Ne Nat l x) (hld : @Ne Nat l d) (hbx : @Ne Nat b x) (hbd : @Ne Nat b d) (hxd : @Ne Nat x d) (hoff : OwnOff rest [l, b, x, d])
    (hP : ∀ p ∈ P, p ∈ rest) (hs : Stk P vs es) (hw : Stk P ws es) (hz : es.length < 800) (hdd : 0 ≤ dd ∧ dd < 6)
    (hnext : NextOk h₀ L l b x d hh tv rest P es (mapC b x bx sx r at_ dd nn f tr ta td tn tf m) s Q) :
    wpAny (model PySem.Challenge.rw_be5039_01.row.prog w) (callerA.deeper (lawEnv L fa cd)) (exec chainS (lawEnv L fa cd)) Q (fun _ _ => False) s := by
  have e : dd = 0 ∨ dd = 1 ∨ dd = 2 ∨ dd = 3 ∨ dd = 4 ∨ dd = 5 := by omega
  rcases e with rfl | rfl | rfl | rfl | rfl | rfl
  · exact chain0 X T K0 F N hlb hlx hld hbx hbd hxd hoff hP hs hw hz hnext
  · exact chain1 X T K0 F N hlb hlx hld hbx hbd hxd hoff hP hs hw hz hnext
  · exact chain2 X T K0 F N hlb hlx hld hbx hbd hxd hoff hP hs hw hz hnext
  · exact chain3 X T K0 F N hlb hlx hld hbx hbd hxd hoff hP hs hw hz hnext
  · exact chain4 X T K0 F N hlb hlx hld hbx hbd hxd hoff hP hs hw hz hnext
  · exact chain5 X T K0 F N hlb hlx hld hbx hbd hxd hoff hP hs hw hz hnext

abbrev led2 (l0 b0 x0 d0 l1 b1 x1 d1 sx bx : Addr) (v0 w0 v1 w1 : List Value) (n0 k0 n1 k1 : Nat) (hh0 : Int) (tv0 : Tok) (hh1 : Int) (tv1 : Tok) (R : Ledger) : Ledger :=
  (l0, listOf v0.toArray n0) :: (b0, listOf w0.toArray k0) :: (l1, listOf v1.toArray n1) :: (b1, listOf w1.toArray k1) :: (x0, instObj 74 d0) :: (d0, valuesDict hh0 tv0 l0) :: (x1, instObj 74 d1) :: (d1, valuesDict hh1 tv1 l1) ::
    (sx, listOf [Value.ref x0, Value.ref x1].toArray 0) :: (bx, listOf [Value.ref b0, Value.ref b1].toArray 0) :: R
theorem led2_sub {l0 b0 x0 d0 l1 b1 x1 d1 sx bx : Addr} {v0 w0 v1 w1 : List Value} {n0 k0 n1 k1 : Nat} {hh0 : Int} {tv0 : Tok} {hh1 : Int} {tv1 : Tok} {R : Ledger} :
    ∀ p ∈ R, p ∈ led2 l0 b0 x0 d0 l1 b1 x1 d1 sx bx v0 w0 v1 w1 n0 k0 n1 k1 hh0 tv0 hh1 tv1 R := fun _ hp => .tail _ (.tail _ (.tail _ (.tail _ (.tail _ (.tail _ (.tail _ (.tail _ (.tail _ (.tail _ hp)))))))))
theorem fr_two {h₀ h : Heap} {L sx bx : Addr} {m : Str → Option Value} (F : Fr h₀ L h m) (h1 : m (Str.ofString "stacks") = some (.ref sx)) (h2 : m (Str.ofString "books") = some (.ref bx)) :
    Fr h₀ L h (fun y => if y = Str.ofString "stacks" then some (.ref sx) else if y = Str.ofString "books" then some (.ref bx) else m y) := by
  have e : (fun y => if y = Str.ofString "stacks" then some (Value.ref sx) else if y = Str.ofString "books" then some (Value.ref bx) else m y) = m := by
    funext y
    by_cases a : y = Str.ofString "stacks"
    · subst a; simp [h1]
    · rw [if_neg a]
      by_cases b : y = Str.ofString "books"
      · subst b; simp [h2]
      · rw [if_neg b]
  rw [e]; exact F
theorem Stk.skip {add R : Ledger} {p : Addr × Obj} (h : p.2.cls ≠ .type "tuple") {vs : List Value} {es : List Ent} (hs : Stk (add ++ p :: R) vs es) : Stk (add ++ R) vs es := by
  induction hs with
  | nil => exact .nil
  | @snoc vs es a v n o b _ h2 h3 ih =>
    refine .snoc (n := n) ih ?_ h3
    rcases List.mem_append.mp h2 with h4 | h4
    · exact List.mem_append_left _ h4
    · rcases List.mem_cons.mp h4 with h5 | h5
      · exact absurd (by rw [← h5]) h
      · exact List.mem_append_right _ h5
theorem list_not_tup {a : Addr} {i : Array Value} {n : Nat} : ((a, listOf i n) : Addr × Obj).2.cls ≠ .type "tuple" := by
  show Value.type "list" ≠ Value.type "tuple"
  intro h; injection h with h; exact absurd h (by decide)
theorem inst_not_tup {a C d : Addr} : ((a, instObj C d) : Addr × Obj).2.cls ≠ .type "tuple" := by
  show Value.ref C ≠ Value.type "tuple"
  intro h; cases h
theorem dict_not_tup {a : Addr} {es : List DictEntry} {n : Nat} : ((a, dictOf es n) : Addr × Obj).2.cls ≠ .type "tuple" := by
  show Value.type "dict" ≠ Value.type "tuple"
  intro h; injection h with h; exact absurd h (by decide)
theorem off_cons {a : Addr} {o : Obj} {r : Ledger} {adr : List Addr} (h : ∀ b ∈ adr, @Ne Nat a b) (hr : OwnOff r adr) : OwnOff ((a, o) :: r) adr := by
  intro p hp b hb
  rcases List.mem_cons.mp hp with rfl | hp
  · exact h b hb
  · exact hr p hp b hb
theorem off_sub {r : Ledger} {adr adr' : List Addr} (hs : ∀ b ∈ adr', b ∈ adr) (hr : OwnOff r adr) : OwnOff r adr' := fun p hp b hb => hr p hp b (hs b hb)

section
variable {w : World} {mean : ExcName → Option Value} {mg mb : Str → Option Value} {h₀ : Heap} {L fa : Addr} {cd : Value} {s : Shared} {Q : Flow → Shared → Prop}
    {l0 b0 x0 d0 l1 b1 x1 d1 sx bx : Addr} {v0 w0 v1 w1 : List Value} {n0 k0 n1 k1 : Nat} {hh0 : Int} {tv0 : Tok} {hh1 : Int} {tv1 : Tok} {R P : Ledger} {e0 e1 : List Ent} {m : Str → Option Value} {at_ r nn f dd : Int} {td ta tr tn tf : Tok}
theorem chain_at0 (X : (hd.heap_39 w.params).In h₀) (T : Top hd.view_39 (looseW hd.view_39 []) mean mg mb h₀) (K0 : Below callerA h₀ [] h₀)
    (F : Fr h₀ L s.heap (mapC b0 x0 bx sx r at_ dd nn f tr ta td tn tf m))
    (N : News h₀ L s.heap (led2 l0 b0 x0 d0 l1 b1 x1 d1 sx bx v0 w0 v1 w1 n0 k0 n1 k1 hh0 tv0 hh1 tv1 R))
    (hord : @LT.lt Nat _ d0 x0 ∧ @LT.lt Nat _ x0 l0 ∧ @LT.lt Nat _ l0 d1 ∧ @LT.lt Nat _ d1 x1 ∧ @LT.lt Nat _ x1 l1 ∧ @LT.lt Nat _ l1 sx ∧ @LT.lt Nat _ sx b0 ∧ @LT.lt Nat _ b0 b1 ∧ @LT.lt Nat _ b1 bx)
    (hoff : OwnOff R [l0, b0, l1, b1, x0, d0, x1, d1]) (hP : ∀ p ∈ P, p ∈ R) (hs0 : Stk P v0 e0) (hw0 : Stk P w0 e0) (hs1 : Stk P v1 e1) (hw1 : Stk P w1 e1) (hz0 : e0.length < 700) (hdd : 0 ≤ dd ∧ dd < 6)
    (hnext : ∀ (e' : List Ent) (v' w' : List Value) (n' k' : Nat) (add : Ledger) (h' : Heap) (tk' : Nat) (m' : Str → Option Value), e'.length ≤ e0.length + 1 → Stk (add ++ P) v' e' → Stk (add ++ P) w' e' → (∀ q ∈ add, bx < q.1 ∧ AllLt q.1 R) →
      Fr h₀ L h' (fun y => if y = Str.ofString "stacks" then some (.ref sx) else if y = Str.ofString "books" then some (.ref bx) else m' y) → News h₀ L h' (led2 l0 b0 x0 d0 l1 b1 x1 d1 sx bx v' w' v1 w1 n' k' n1 k1 hh0 tv0 hh1 tv1 (add ++ R)) → Stk (led2 l0 b0 x0 d0 l1 b1 x1 d1 sx bx v' w' v1 w1 n' k' n1 k1 hh0 tv0 hh1 tv1 (add ++ R)) v' e' → Stk (led2 l0 b0 x0 d0 l1 b1 x1 d1 sx bx v' w' v1 w1 n' k' n1 k1 hh0 tv0 hh1 tv1 (add ++ R)) v1 e1 → (w'.length : Int) = (e'.length : Int) → (w1.length : Int) = (e1.length : Int) →
      (∀ y, storedNames.contains y = false → m' y = mapC b0 x0 bx sx r at_ dd nn f tr ta td tn tf m y) → Q .next { s with heap := h', toks := tk' }) :
    wpAny (model PySem.Challenge.rw_be5039_01.row.prog w) (callerA.deeper (lawEnv L fa cd)) (exec chainS (lawEnv L fa cd)) Q (fun _ _ => False) s := by
  obtain ⟨o1, o2, o3, o4, o5, o6, o7, o8, o9⟩ := hord
  let R1 : Ledger := (l1, listOf v1.toArray n1) :: (b1, listOf w1.toArray k1) :: (x1, instObj 74 d1) :: (d1, valuesDict hh1 tv1 l1) :: (sx, listOf [Value.ref x0, Value.ref x1].toArray 0) :: (bx, listOf [Value.ref b0, Value.ref b1].toArray 0) :: R
  have sub : ∀ p ∈ R, p ∈ R1 := fun p hp => .tail _ (.tail _ (.tail _ (.tail _ (.tail _ (.tail _ hp)))))
  have hoff1 : OwnOff R1 [l0, b0, x0, d0] := by
    refine off_cons ?_ (off_cons ?_ (off_cons ?_ (off_cons ?_ (off_cons ?_ (off_cons ?_ (off_sub ?_ hoff))))))
    all_goals simp only [List.mem_cons, List.not_mem_nil, or_false]
    · rintro b (rfl | rfl | rfl | rfl) <;> omega
    · rintro b (rfl | rfl | rfl | rfl) <;> omega
    · rintro b (rfl | rfl | rfl | rfl) <;> omega
    · rintro b (rfl | rfl | rfl | rfl) <;> omega
    · rintro b (rfl | rfl | rfl | rfl) <;> omega
    · rintro b (rfl | rfl | rfl | rfl) <;> omega
    · rintro b (rfl | rfl | rfl | rfl) <;> simp
  refine chain (n := n0) (k := k0) (hh := hh0) (tv := tv0) (rest := R1) X T K0 F (fun p hp => N p ?_) (by omega) (by omega) (by omega) (by omega) (by omega) (by omega) hoff1 (fun p hp => sub p (hP p hp)) hs0 hw0 (by omega) hdd ?_
  · simp only [led, R1, led2, List.mem_cons] at hp ⊢
    rcases hp with h | h | h | h | h | h | h | h | h | h | h <;> simp [h]
  · intro e' v' w' n' k' add h' tk' m' hl hs' hw' hadd F' N' hm'
    have hPA : ∀ p ∈ add ++ P, p ∈ add ++ R := fun p hp => (List.mem_append.mp hp).elim (fun h => List.mem_append_left _ h) fun h => List.mem_append_right _ (hP p h)
    refine hnext e' v' w' n' k' add h' tk' m' hl hs' hw' (fun q hq => ?_) (fr_two F' ?_ ?_) (fun p hp => N' p ?_) (Stk.mono led2_sub (hs'.mono hPA)) (Stk.mono led2_sub (hs1.mono fun p hp => List.mem_append_right _ (hP p hp))) (by rw [hw'.length]) (by rw [hw1.length]) hm'
    · have := (hadd q hq).2.2.2.2
      simp only [R1, AllLt] at this
      exact this.2.2.2.2.2
    · rw [hm' _ (by decide)]; rfl
    · rw [hm' _ (by decide)]; rfl
    · simp only [led, R1, led2, List.mem_cons, List.mem_append] at hp ⊢
      rcases hp with h | h | h | h | h | h | h | h | h | h | h | h <;> simp [h]
theorem chain_at1 (X : (hd.heap_39 w.params).In h₀) (T : Top hd.view_39 (looseW hd.view_39 []) mean mg mb h₀) (K0 : Below callerA h₀ [] h₀)
    (F : Fr h₀ L s.heap (mapC b1 x1 bx sx r at_ dd nn f tr ta td tn tf m))
    (N : News h₀ L s.heap (led2 l0 b0 x0 d0 l1 b1 x1 d1 sx bx v0 w0 v1 w1 n0 k0 n1 k1 hh0 tv0 hh1 tv1 R))
    (hord : @LT.lt Nat _ d0 x0 ∧ @LT.lt Nat _ x0 l0 ∧ @LT.lt Nat _ l0 d1 ∧ @LT.lt Nat _ d1 x1 ∧ @LT.lt Nat _ x1 l1 ∧ @LT.lt Nat _ l1 sx ∧ @LT.lt Nat _ sx b0 ∧ @LT.lt Nat _ b0 b1 ∧ @LT.lt Nat _ b1 bx)
    (hoff : OwnOff R [l0, b0, l1, b1, x0, d0, x1, d1]) (hP : ∀ p ∈ P, p ∈ R) (hs0 : Stk P v0 e0) (hw0 : Stk P w0 e0) (hs1 : Stk P v1 e1) (hw1 : Stk P w1 e1) (hz1 : e1.length < 700) (hdd : 0 ≤ dd ∧ dd < 6)
    (hnext : ∀ (e' : List Ent) (v' w' : List Value) (n' k' : Nat) (add : Ledger) (h' : Heap) (tk' : Nat) (m' : Str → Option Value), e'.length ≤ e1.length + 1 → Stk (add ++ P) v' e' → Stk (add ++ P) w' e' → (∀ q ∈ add, bx < q.1 ∧ AllLt q.1 R) →
      Fr h₀ L h' (fun y => if y = Str.ofString "stacks" then some (.ref sx) else if y = Str.ofString "books" then some (.ref bx) else m' y) → News h₀ L h' (led2 l0 b0 x0 d0 l1 b1 x1 d1 sx bx v0 w0 v' w' n0 k0 n' k' hh0 tv0 hh1 tv1 (add ++ R)) → Stk (led2 l0 b0 x0 d0 l1 b1 x1 d1 sx bx v0 w0 v' w' n0 k0 n' k' hh0 tv0 hh1 tv1 (add ++ R)) v0 e0 → Stk (led2 l0 b0 x0 d0 l1 b1 x1 d1 sx bx v0 w0 v' w' n0 k0 n' k' hh0 tv0 hh1 tv1 (add ++ R)) v' e' → (w0.length : Int) = (e0.length : Int) → (w'.length : Int) = (e'.length : Int) →
      (∀ y, storedNames.contains y = false → m' y = mapC b1 x1 bx sx r at_ dd nn f tr ta td tn tf m y) → Q .next { s with heap := h', toks := tk' }) :
    wpAny (model PySem.Challenge.rw_be5039_01.row.prog w) (callerA.deeper (lawEnv L fa cd)) (exec chainS (lawEnv L fa cd)) Q (fun _ _ => False) s := by
  obtain ⟨o1, o2, o3, o4, o5, o6, o7, o8, o9⟩ := hord
  let R1 : Ledger := (l0, listOf v0.toArray n0) :: (b0, listOf w0.toArray k0) :: (x0, instObj 74 d0) :: (d0, valuesDict hh0 tv0 l0) :: (sx, listOf [Value.ref x0, Value.ref x1].toArray 0) :: (bx, listOf [Value.ref b0, Value.ref b1].toArray 0) :: R
  have sub : ∀ p ∈ R, p ∈ R1 := fun p hp => .tail _ (.tail _ (.tail _ (.tail _ (.tail _ (.tail _ hp)))))
  have hoff1 : OwnOff R1 [l1, b1, x1, d1] := by
    refine off_cons ?_ (off_cons ?_ (off_cons ?_ (off_cons ?_ (off_cons ?_ (off_cons ?_ (off_sub ?_ hoff))))))
    all_goals simp only [List.mem_cons, List.not_mem_nil, or_false]
    · rintro b (rfl | rfl | rfl | rfl) <;> omega
    · rintro b (rfl | rfl | rfl | rfl) <;> omega
    · rintro b (rfl | rfl | rfl | rfl) <;> omega
    · rintro b (rfl | rfl | rfl | rfl) <;> omega
    · rintro b (rfl | rfl | rfl | rfl) <;> omega
    · rintro b (rfl | rfl | rfl | rfl) <;> omega
    · rintro b (rfl | rfl | rfl | rfl) <;> simp
  refine chain (n := n1) (k := k1) (hh := hh1) (tv := tv1) (rest := R1) X T K0 F (fun p hp => N p ?_) (by omega) (by omega) (by omega) (by omega) (by omega) (by omega) hoff1 (fun p hp => sub p (hP p hp)) hs1 hw1 (by omega) hdd ?_
  · simp only [led, R1, led2, List.mem_cons] at hp ⊢
    rcases hp with h | h | h | h | h | h | h | h | h | h | h <;> simp [h]
  · intro e' v' w' n' k' add h' tk' m' hl hs' hw' hadd F' N' hm'
    have hPA : ∀ p ∈ add ++ P, p ∈ add ++ R := fun p hp => (List.mem_append.mp hp).elim (fun h => List.mem_append_left _ h) fun h => List.mem_append_right _ (hP p h)
    refine hnext e' v' w' n' k' add h' tk' m' hl hs' hw' (fun q hq => ?_) (fr_two F' ?_ ?_) (fun p hp => N' p ?_) (Stk.mono led2_sub (hs0.mono fun p hp => List.mem_append_right _ (hP p hp))) (Stk.mono led2_sub (hs'.mono hPA)) (by rw [hw0.length]) (by rw [hw'.length]) hm'
    · have := (hadd q hq).2.2.2.2
      simp only [R1, AllLt] at this
      exact this.2.2.2.2.2
    · rw [hm' _ (by decide)]; rfl
    · rw [hm' _ (by decide)]; rfl
    · simp only [led, R1, led2, List.mem_cons, List.mem_append] at hp ⊢
      rcases hp with h | h | h | h | h | h | h | h | h | h | h | h <;> simp [h]
end
def turnNames : List Str := [Str.ofString "value", Str.ofString "kind", Str.ofString "refused", Str.ofString "told", Str.ofString "due", Str.ofString "indent", Str.ofString "column", Str.ofString "ahead", Str.ofString "stack", Str.ofString "book", Str.ofString "rest", Str.ofString "at", Str.ofString "deed"]
abbrev mapT (bx sx : Addr) (f : Int) (tf : Tok) (m : Str → Option Value) : Str → Option Value :=
  fun y => if y = Str.ofString "books" then some (.ref bx) else if y = Str.ofString "stacks" then some (.ref sx) else if y = Str.ofString "first" then some (.int f tf) else m y
theorem map_done {b x sx bx : Addr} {m m' : Str → Option Value} {at_ r nn f dd : Int} {td ta tr tn tf : Tok} (hm' : ∀ y, storedNames.contains y = false → m' y = mapC b x bx sx r at_ dd nn f tr ta td tn tf m y) (y : Str) (hn : y ≠ Str.ofString "number") (ht : turnNames.contains y = false) :
    (fun y => if y = Str.ofString "stacks" then some (Value.ref sx) else if y = Str.ofString "books" then some (Value.ref bx) else m' y) y = mapT bx sx f tf m y := by
  have h : storedNames.contains y = false ∧ y ≠ Str.ofString "stack" ∧ y ≠ Str.ofString "book" ∧ y ≠ Str.ofString "rest" ∧ y ≠ Str.ofString "at" ∧ y ≠ Str.ofString "deed" := by
    simp only [turnNames, storedNames, List.contains_cons, List.contains_nil, Bool.or_false, Bool.or_eq_false_iff, beq_eq_false_iff_ne] at ht ⊢
    exact ⟨⟨ht.1, ht.2.1, ht.2.2.1, ht.2.2.2.1, ht.2.2.2.2.1, ht.2.2.2.2.2.1, ht.2.2.2.2.2.2.1, ht.2.2.2.2.2.2.2.1⟩, ht.2.2.2.2.2.2.2.2⟩
  obtain ⟨h0, h1, h2, h3, h4, h5⟩ := h
  dsimp only [mapT]
  rw [hm' y h0]
  dsimp only [mapC]
  simp only [h1, h2, h3, h4, h5, hn, if_false]
  by_cases a : y = Str.ofString "stacks"
  · subst a
    have q : Str.ofString "stacks" ≠ Str.ofString "books" := by decide
    simp only [if_true, q, if_false]
  · by_cases b : y = Str.ofString "books"
    · subst b
      have q : Str.ofString "books" ≠ Str.ofString "stacks" := by decide
      simp only [if_true, q, if_false]
    · simp only [a, b, if_false]
def TurnOk (h₀ : Heap) (L l0 b0 x0 d0 l1 b1 x1 d1 sx bx : Addr) (hh0 : Int) (tv0 : Tok) (hh1 : Int) (tv1 : Tok) (R P : Ledger) (e0 e1 : List Ent) (m₀ : Str → Option Value) (s : Shared) (Q : Flow → Shared → Prop) : Prop :=
  ∀ (e0' e1' : List Ent) (v0' w0' v1' w1' : List Value) (n0' k0' n1' k1' : Nat) (add : Ledger) (h' : Heap) (tk' : Nat) (m' : Str → Option Value), e0'.length ≤ e0.length + 1 → e1'.length ≤ e1.length + 1 →
    Stk (add ++ P) v0' e0' → Stk (add ++ P) w0' e0' → Stk (add ++ P) v1' e1' → Stk (add ++ P) w1' e1' → (∀ q ∈ add, bx < q.1 ∧ AllLt q.1 R) →
    Fr h₀ L h' m' → News h₀ L h' (led2 l0 b0 x0 d0 l1 b1 x1 d1 sx bx v0' w0' v1' w1' n0' k0' n1' k1' hh0 tv0 hh1 tv1 (add ++ R)) →
    (∀ y, y ≠ Str.ofString "number" → turnNames.contains y = false → m' y = m₀ y) → Q .next { s with heap := h', toks := tk' }
section
variable {h₀ h' : Heap} {L : Addr} {s : Shared} {Q : Flow → Shared → Prop} {tk' : Nat}
    {l0 b0 x0 d0 l1 b1 x1 d1 sx bx b x : Addr} {v0 w0 v1 w1 v' w' : List Value} {n0 k0 n1 k1 n' k' : Nat} {hh0 : Int} {tv0 : Tok} {hh1 : Int} {tv1 : Tok} {R P add : Ledger} {e0 e1 e' : List Ent} {m m' : Str → Option Value} {at_ r nn f dd : Int} {td ta tr tn tf : Tok}
theorem turn_done0 (H : TurnOk h₀ L l0 b0 x0 d0 l1 b1 x1 d1 sx bx hh0 tv0 hh1 tv1 R P e0 e1 (mapT bx sx f tf m) s Q) (N : News h₀ L h' (led2 l0 b0 x0 d0 l1 b1 x1 d1 sx bx v' w' v1 w1 n' k' n1 k1 hh0 tv0 hh1 tv1 (add ++ R)))
    (F : Fr h₀ L h' (fun y => if y = Str.ofString "stacks" then some (.ref sx) else if y = Str.ofString "books" then some (.ref bx) else m' y)) (hm : ∀ y, storedNames.contains y = false → m' y = mapC b x bx sx r at_ dd nn f tr ta td tn tf m y)
    (hs : Stk (add ++ P) v' e') (hw : Stk (add ++ P) w' e') (hl : e'.length ≤ e0.length + 1) (hadd : ∀ q ∈ add, bx < q.1 ∧ AllLt q.1 R) (hs1 : Stk P v1 e1) (hw1 : Stk P w1 e1) : Q .next { s with heap := h', toks := tk' } :=
  H e' e1 v' w' v1 w1 n' k' n1 k1 add h' tk' _ hl (Nat.le_succ _) hs hw (hs1.mono fun _ h => List.mem_append_right _ h) (hw1.mono fun _ h => List.mem_append_right _ h) hadd F N (map_done hm)
theorem turn_done1 (H : TurnOk h₀ L l0 b0 x0 d0 l1 b1 x1 d1 sx bx hh0 tv0 hh1 tv1 R P e0 e1 (mapT bx sx f tf m) s Q) (N : News h₀ L h' (led2 l0 b0 x0 d0 l1 b1 x1 d1 sx bx v0 w0 v' w' n0 k0 n' k' hh0 tv0 hh1 tv1 (add ++ R)))
    (F : Fr h₀ L h' (fun y => if y = Str.ofString "stacks" then some (.ref sx) else if y = Str.ofString "books" then some (.ref bx) else m' y)) (hm : ∀ y, storedNames.contains y = false → m' y = mapC b x bx sx r at_ dd nn f tr ta td tn tf m y)
    (hs : Stk (add ++ P) v' e') (hw : Stk (add ++ P) w' e') (hl : e'.length ≤ e1.length + 1) (hadd : ∀ q ∈ add, bx < q.1 ∧ AllLt q.1 R) (hs0 : Stk P v0 e0) (hw0 : Stk P w0 e0) : Q .next { s with heap := h', toks := tk' } :=
  H e0 e' v0 w0 v' w' n0 k0 n' k' add h' tk' _ (Nat.le_succ _) hl (hs0.mono fun _ h => List.mem_append_right _ h) (hw0.mono fun _ h => List.mem_append_right _ h) hs hw hadd F N (map_done hm)
end
section
local macro_rules | `(tactic| walk_at "subscriptTail") => `(tactic| ((with_reducible show wpAny _ _ (subscriptTail _ _ (Value.ref _) (Value.int 0 _)) _ _ _); ((with_reducible refine' it_tup0 ?N ?m ?_ ?s); k_dflt ((case N => k_asm); (case m => first | assumption | k_mem); (case s => with_unfolding_all rfl); k_whole)); (try dsimp only)))
local macro_rules | `(tactic| walk_at "subscriptTail") => `(tactic| ((with_reducible show wpAny _ _ (subscriptTail _ _ (Value.ref _) (Value.int 1 _)) _ _ _); ((with_reducible refine' it_tup1 ?N ?m ?_ ?s); k_dflt ((case N => k_asm); (case m => first | assumption | k_mem); (case s => with_unfolding_all rfl); k_whole)); (try dsimp only)))
local macro_rules | `(tactic| walk_at "subscriptTail") => `(tactic| ((with_reducible show wpAny _ _ (subscriptTail _ _ (Value.ref _) (Value.int (-1) _)) _ _ _); ((with_reducible refine' it_last ?N ?m ?_ ?s); k_dflt ((case N => k_asm); (case m => first | assumption | k_mem); (case s => with_unfolding_all rfl); k_whole)); (try dsimp only)))
local macro_rules | `(tactic| walk_at "subscriptTail") => `(tactic| ((with_reducible show wpAny _ _ (subscriptTail _ _ (Value.ref _) (Value.int (-2) _)) _ _ _); (first
  | ((with_reducible refine' it_last2 ?N ?m ?_ ?s); k_dflt ((case N => k_asm); (case m => first | assumption | k_mem); (case s => with_unfolding_all rfl); k_whole); (try dsimp only))
  | ((with_reducible refine' it_out2 ?A ?N ?m ?z ?_ ?s); k_dflt ((case A => rfl); (case N => k_asm); (case m => first | assumption | k_mem); (case z => (simp only [List.nil_append, List.length_cons, List.length_nil]; omega)); (case s => with_unfolding_all rfl); k_whole); intro h' tk' e' x'))))
local macro_rules | `(tactic| walk_at "subscriptTail") => `(tactic| ((with_reducible show wpAny _ _ (subscriptTail _ _ (Value.ref _) (Value.int (_ - 1) _)) _ _ _); ((with_reducible refine' it_top ?N ?m ?z ?k ?_ ?s); k_dflt ((case N => k_asm); (case m => first | assumption | k_mem); (case z => (simp only [List.length_append, List.length_cons, List.length_nil] at *; omega)); (case k => (simp only [List.length_append, List.length_cons, List.length_nil] at *; omega)); (case s => with_unfolding_all rfl); k_whole)); (try dsimp only)))
local macro_rules | `(tactic| walk_at "subscriptTail") => `(tactic| ((with_reducible show wpAny _ _ (subscriptTail _ _ (Value.ref _) (Value.int (_ - 2) _)) _ _ _); ((with_reducible refine' it_sub ?N ?m ?z ?k ?_ ?s); k_dflt ((case N => k_asm); (case m => first | assumption | k_mem); (case z => (simp only [List.length_append, List.length_cons, List.length_nil] at *; omega)); (case k => (simp only [List.length_append, List.length_cons, List.length_nil] at *; omega)); (case s => with_unfolding_all rfl); k_whole)); (try dsimp only)))
local macro_rules | `(tactic| walk_at "LeaveI") => `(tactic| (k_here; (with_reducible rename TI.Caller _ _ _ _ => tiC'); k_dflt (refine TLg.leave_back (by assumption) (by assumption) (by assumption) (by assumption) ?_); clear tiC'; intro F' N'))
local macro_rules | `(tactic| walk_at "noteFrame ref") => `(tactic| (k_here; (with_reducible rename TI.Caller _ _ _ _ => tiC'); (with_reducible rename Heap.NewExc _ _ _ _ => tiX'); k_dflt (refine TLg.noted_new1 (by rfl) (by assumption) tiX' (by assumption) (by assumption) (by assumption) ?_); clear tiX'; intro h' sl' tiF' tiH'; have tiHH' := TT.HeldNA.held tiH'))
local macro_rules | `(tactic| walk_at "eval Name") => `(tactic| ((with_reducible refine' ld ?k1 ?k2 ?_ ?k3 ?k4 ?k5); k_dflt ((case k1 => with_reducible assumption); (case k4 => k_dflt (exact rfl)); (case k2 => k_dflt (exact rfl)); (case k3 => k_dflt (exact rfl)); (case k5 => k_dflt decide); k_whole)))
local macro_rules | `(tactic| walk_at "eval Name") => `(tactic| ((with_reducible show wpAny _ _ (eval (Expr.Name (Str.ofString "len") _) _) _ _ _); (with_reducible refine' nm_len ?k1 ?k2 ?k3 ?_ ?k4 ?k5); k_dflt ((case k1 => with_reducible assumption); (case k2 => with_reducible assumption); (case k3 => with_reducible assumption); (case k4 => k_dflt (exact rfl)); (case k5 => k_dflt (exact rfl)); k_whole)))
local macro_rules | `(tactic| walk_at "ite") => `(tactic| (k_here; (first | (with_reducible show if decide _ = true then _ else _) | (with_reducible show if (_ == _) = true then _ else _)); (first | ((with_reducible refine' ite_neg ?c ?_); (case c => (simp only [decide_eq_true_eq, beq_iff_eq]; omega))) | ((with_reducible refine' ite_pos ?c ?_); (case c => (simp only [decide_eq_true_eq, beq_iff_eq]; omega)))); (try dsimp only)))
local macro_rules | `(tactic| walk_at "ite") => `(tactic| (with_reducible first | refine ite_tt ?_ | refine ite_ff ?_ | refine ite_True_then ?_ | refine ite_nf ?_ | refine ite_nt ?_))
local macro_rules | `(tactic| walk_at "subscriptTail") => `(tactic| ((with_reducible show wpAny _ _ (subscriptTail _ _ (Value.ref _) (Value.int (Int.fmod _ 3) _)) _ _ _); ((with_reducible refine' it_menu ?N ?m ?z ?k ?_ ?s); k_dflt ((case N => k_asm); (case m => k_mem); (case z => exact (fmod_in _ (by decide)).1); (case k => exact (fmod_in _ (by decide)).2); (case s => with_unfolding_all rfl); k_whole); intro kd'; (try dsimp only))))
local macro_rules | `(tactic| walk_at "storeName") => `(tactic| (k_here; k_dflt (refine' storeX_L ?F ?N ?_ ?a ?b; (case F => k_asm); (case N => k_asm); (case a => rfl); (case b => rfl); k_whole; intro h' F' N'; (try k_sweep)); (try dsimp only)))
local macro_rules | `(tactic| walk_at "subscriptTail Name Constant ref int") => `(tactic| ((with_reducible show wpAny _ _ (subscriptTail _ _ (Value.ref _) (Value.int 0 _)) _ _ _); (with_reducible refine' it_first ?N ?m ?k ?_ ?s); k_dflt ((case N => k_asm); (case m => k_mem); (case k => rfl); (case s => with_unfolding_all rfl); k_whole); (try dsimp only)))
local macro_rules | `(tactic| walk_at "subscriptTail Name Constant ref int") => `(tactic| ((with_reducible show wpAny _ _ (subscriptTail _ _ (Value.ref _) (Value.int 1 _)) _ _ _); (with_reducible refine' it_second ?N ?m ?k ?_ ?s); k_dflt ((case N => k_asm); (case m => k_mem); (case k => rfl); (case s => with_unfolding_all rfl); k_whole); (try dsimp only)))
local macro_rules | `(tactic| walk_at "call ref") => `(tactic| ((with_reducible show wpAny _ _ (call (Value.ref 56) _) _ _ _); k_dflt (refine' c_last ?F ?X ?N ?T ?k ?x ?d ?l ?s ?_; (case F => k_asm); (case X => k_asm); (case N => k_asm); (case T => k_asm); (case k => rfl); (case x => k_mem); (case d => k_mem); (case l => k_mem); (case s => assumption); k_whole); intro h' tk' F' N'; (try k_sweep); (try dsimp only)))
local macro_rules | `(tactic| walk_at "call ref") => `(tactic| ((with_reducible show wpAny _ _ (call (Value.ref 49) _) _ _ _); k_dflt (refine' c_both ?F ?X ?N ?T ?k ?x ?d ?l ?s ?_; (case F => k_asm); (case X => k_asm); (case N => k_asm); (case T => k_asm); (case k => rfl); (case x => k_mem); (case d => k_mem); (case l => k_mem); (case s => assumption); k_whole); intro h' tk' F' N'; (try k_sweep); (try dsimp only)))
local macro_rules | `(tactic| walk_at "call ref") => `(tactic| ((with_reducible show wpAny _ _ (call (Value.ref 64) _) _ _ _); k_dflt (refine' c_align ?B ?F ?X ?N ?T ?k ?x ?d ?l ?s ?z ?p ?u ?_; (case B => k_asm); (case F => k_asm); (case X => k_asm); (case N => k_asm); (case T => k_asm); (case k => rfl); (case x => k_mem); (case d => k_mem); (case l => k_mem); (case s => assumption); (case z => omega); (case p => ktr_room); (case u => ktr_units); k_whole); intro t' h' tk' F' N'; (try k_sweep); (try dsimp only)))
local macro_rules | `(tactic| walk_at "call ref") => `(tactic| ((with_reducible show wpAny _ _ (call (Value.ref 85) _) _ _ _); k_dflt (refine' c_lalign ?B ?F ?X ?N ?T ?k ?l ?s ?z ?p ?u ?_; (case B => k_asm); (case F => k_asm); (case X => k_asm); (case N => k_asm); (case T => k_asm); (case k => rfl); (case l => k_mem); (case s => assumption); (case z => omega); (case p => ktr_room); (case u => ktr_units); k_whole); intro t' h' tk' F' N'; (try k_sweep); (try dsimp only)))
local macro_rules | `(tactic| walk_at "call ref") => `(tactic| ((with_reducible show wpAny _ _ (call (Value.ref 92) _) _ _ _); k_dflt (refine' c_lboth ?B ?F ?X ?N ?T ?k ?l ?s ?z ?p ?u ?_; (case B => k_asm); (case F => k_asm); (case X => k_asm); (case N => k_asm); (case T => k_asm); (case k => rfl); (case l => k_mem); (case s => assumption); (case z => omega); (case p => ktr_room); (case u => ktr_units); k_whole); intro t' h' tk' F' N'; (try k_sweep); (try dsimp only)))
local macro_rules | `(tactic| walk_at "call ref") => `(tactic| ((with_reducible show wpAny _ _ (call (Value.ref 99) _) _ _ _); k_dflt (refine' c_lunder ?B ?F ?X ?N ?T ?k ?l ?s ?z ?p ?u ?_; (case B => k_asm); (case F => k_asm); (case X => k_asm); (case N => k_asm); (case T => k_asm); (case k => rfl); (case l => k_mem); (case s => assumption); (case z => omega); (case p => ktr_room); (case u => ktr_units); k_whole); intro t' h' tk' F' N'; (try k_sweep); (try dsimp only)))
local macro_rules | `(tactic| walk_at "call ref") => `(tactic| ((with_reducible show wpAny _ _ (call (Value.ref 106) [kv _, kv _]) _ _ _); k_dflt (refine' c_sameK ?B ?F ?X ?N ?T ?k ?p ?_; (case B => k_asm); (case F => k_asm); (case X => k_asm); (case N => k_asm); (case T => k_asm); (case k => rfl); (case p => ktr_room); k_whole); intro h' tk' F' N'; (try k_sweep); (try dsimp only)))
local macro_rules | `(tactic| walk_at "call ref") => `(tactic| ((with_reducible show wpAny _ _ (call (Value.ref 106) [Value.bool _, Value.bool _]) _ _ _); k_dflt (refine' c_sameB ?B ?F ?X ?N ?T ?k ?p ?_; (case B => k_asm); (case F => k_asm); (case X => k_asm); (case N => k_asm); (case T => k_asm); (case k => rfl); (case p => ktr_room); k_whole); intro h' tk' F' N'; (try k_sweep); (try dsimp only)))
local macro_rules | `(tactic| walk_at "call builtin:len") => `(tactic| ((with_reducible show wpAny _ _ (call (Value.builtin "len") [Value.ref _]) _ _ _); k_dflt (refine' c_len ?B ?F ?X ?N ?T ?k ?x ?d ?l ?s ?z ?p ?u ?_; (case B => k_asm); (case F => k_asm); (case X => k_asm); (case N => k_asm); (case T => k_asm); (case k => rfl); (case x => k_mem); (case d => k_mem); (case l => k_mem); (case s => assumption); (case z => omega); (case p => ktr_room); (case u => ktr_units); k_whole); intro t' h' tk' F' N'; (try k_sweep); (try dsimp only)))
local macro_rules | `(tactic| walk_at "subscriptTail") => `(tactic| ((with_reducible show wpAny _ _ (subscriptTail _ _ (Value.ref _) (Value.int (Int.fmod _ 2) _)) _ _ _); (first
  | ((with_reducible refine' it_first ?N ?m ?k ?_ ?s); k_dflt ((case N => k_asm); (case m => k_mem); (case k => assumption); (case s => with_unfolding_all rfl); k_whole))
  | ((with_reducible refine' it_second ?N ?m ?k ?_ ?s); k_dflt ((case N => k_asm); (case m => k_mem); (case k => assumption); (case s => with_unfolding_all rfl); k_whole)))))
local macro_rules | `(tactic| walk_at "exec If") => `(tactic| ((with_reducible show wpAny _ _ (exec (Stmt.If (Expr.BoolOp _ (Expr.Compare (Expr.Name _ _) _ _ _ :: _) _) _ _ _) _) _ _ _); k_dflt (first
  | (refine' chain_at0 ?X ?T ?K ?F ?N ?o ?f ?p ?s0 ?w0 ?s1 ?w1 ?z ?d ?_; (case N => k_asm); (case F => k_asm); (case X => k_asm); (case T => k_asm); (case K => k_asm); (case o => assumption); (case f => assumption); (case p => assumption); (case s0 => assumption); (case w0 => assumption); (case s1 => assumption); (case w1 => assumption); (case z => assumption); (case d => exact fmod_in _ (by decide)); k_whole)
  | (refine' chain_at1 ?X ?T ?K ?F ?N ?o ?f ?p ?s0 ?w0 ?s1 ?w1 ?z ?d ?_; (case N => k_asm); (case F => k_asm); (case X => k_asm); (case T => k_asm); (case K => k_asm); (case o => assumption); (case f => assumption); (case p => assumption); (case s0 => assumption); (case w0 => assumption); (case s1 => assumption); (case w1 => assumption); (case z => assumption); (case d => exact fmod_in _ (by decide)); k_whole)); intro e' v' w' n' k' add' h' tk' m' hl' hs' hw' hadd' F' N' sA' sB' zA' zB' hm'; (try dsimp only [led2, valuesDict] at N'); (try k_sweep); (try dsimp only)))
local macro_rules | `(tactic| walk_at "call builtin:len") => `(tactic| ((with_reducible show wpAny _ _ (call (Value.builtin "len") [Value.ref _]) _ _ _); (with_reducible refine' it_len ?N ?m ?k ?z ?_); k_dflt ((case N => k_asm); (case m => k_mem); (case k => assumption); (case z => omega); k_whole); (try dsimp only)))
theorem turn {w : World} {mean : ExcName → Option Value} {mg mb : Str → Option Value} {h₀ : Heap} {L fa : Addr} {cd : Value} {s : Shared} {Q : Flow → Shared → Prop}
    {l0 b0 x0 d0 l1 b1 x1 d1 sx bx : Addr} {v0 w0 v1 w1 : List Value} {n0 k0 n1 k1 : Nat} {hh0 : Int} {tv0 : Tok} {hh1 : Int} {tv1 : Tok} {R P : Ledger} {e0 e1 : List Ent} {m : Str → Option Value} {nn f : Int} {tn tf : Tok}
    (X : (hd.heap_39 w.params).In h₀) (T : Top hd.view_39 (looseW hd.view_39 []) mean mg mb h₀) (K0 : Below callerA h₀ [] h₀)
    (F : Fr h₀ L s.heap (fun y => if y = Str.ofString "number" then some (.int nn tn) else mapT bx sx f tf m y))
    (N : News h₀ L s.heap (led2 l0 b0 x0 d0 l1 b1 x1 d1 sx bx v0 w0 v1 w1 n0 k0 n1 k1 hh0 tv0 hh1 tv1 R))
    (hord : @LT.lt Nat _ d0 x0 ∧ @LT.lt Nat _ x0 l0 ∧ @LT.lt Nat _ l0 d1 ∧ @LT.lt Nat _ d1 x1 ∧ @LT.lt Nat _ x1 l1 ∧ @LT.lt Nat _ l1 sx ∧ @LT.lt Nat _ sx b0 ∧ @LT.lt Nat _ b0 b1 ∧ @LT.lt Nat _ b1 bx)
    (hoff : OwnOff R [l0, b0, l1, b1, x0, d0, x1, d1]) (hP : ∀ p ∈ P, p ∈ R) (hs0 : Stk P v0 e0) (hw0 : Stk P w0 e0) (hs1 : Stk P v1 e1) (hw1 : Stk P w1 e1) (hz0 : e0.length < 700) (hz1 : e1.length < 700)
    (hnext : TurnOk h₀ L l0 b0 x0 d0 l1 b1 x1 d1 sx bx hh0 tv0 hh1 tv1 R P e0 e1 (mapT bx sx f tf m) s Q) :
    wpAny (model PySem.Challenge.rw_be5039_01.row.prog w) (callerA.deeper (lawEnv L fa cd)) (execs turnB (lawEnv L fa cd)) Q (fun _ _ => False) s := by
  w_top off
  revert X
  k_fill
  intro X
  have at2 : (nn.fdiv 6).fmod 2 = 0 ∨ (nn.fdiv 6).fmod 2 = 1 := by
    have := fmod_in (nn.fdiv 6) (q := 2) (by decide)
    omega
  dsimp only [mapT] at F
  have N2 := N
  dsimp only [led2, valuesDict] at N2
  clear N
  dsimp only [lawEnv, lawScope, lawS, turnB, forS, bodyS, nthS, scopeS, PySem.Challenge.pw_be5039_01]
  rcases at2 with at2 | at2
  · k_steps
    all_goals first
      | exact turn_done0 hnext (by k_asm) (by k_asm) (by assumption) (by assumption) (by assumption) (by assumption) (by assumption) hs1 hw1
      | exact absurd rfl (by assumption)
  · k_steps
    all_goals first
      | exact turn_done1 hnext (by k_asm) (by k_asm) (by assumption) (by assumption) (by assumption) (by assumption) (by assumption) hs0 hw0
      | exact absurd rfl (by assumption)
end
theorem allLt_mem {d : Addr} {l : Ledger} (h : AllLt d l) : ∀ p ∈ l, @LT.lt Nat _ p.1 d := by
  induction l with
  | nil => exact fun _ hp => nomatch hp
  | cons q r ih =>
    intro p hp
    rcases List.mem_cons.mp hp with e | hp
    · rw [e]; exact h.1
    · exact ih h.2 p hp
structure St where
  v0 : List Value
  w0 : List Value
  v1 : List Value
  w1 : List Value
  n0 : Nat
  k0 : Nat
  n1 : Nat
  k1 : Nat
  e0 : List Ent
  e1 : List Ent
theorem apart_names : Str.ofString "stacks" ≠ Str.ofString "books" ∧ Str.ofString "first" ≠ Str.ofString "books" ∧ Str.ofString "first" ≠ Str.ofString "stacks" ∧ Str.ofString "number" ≠ Str.ofString "books" ∧ Str.ofString "number" ≠ Str.ofString "stacks" ∧ Str.ofString "number" ≠ Str.ofString "first" := by decide
theorem not_turn : turnNames.contains (Str.ofString "books") = false ∧ turnNames.contains (Str.ofString "stacks") = false ∧ turnNames.contains (Str.ofString "first") = false := by decide
theorem map_turn {bx sx : Addr} {f : Int} {tf : Tok} {m u : Str → Option Value} :
    (fun z => if turnNames.contains z then u z else mapT bx sx f tf m z) = mapT bx sx f tf (fun z => if turnNames.contains z then u z else m z) := by
  funext z
  show (if turnNames.contains z = true then u z else mapT bx sx f tf m z) = mapT bx sx f tf (fun z => if turnNames.contains z then u z else m z) z
  by_cases hc : turnNames.contains z = true
  · have h1 : z ≠ Str.ofString "books" := fun e => by rw [e, not_turn.1] at hc; exact Bool.false_ne_true hc
    have h2 : z ≠ Str.ofString "stacks" := fun e => by rw [e, not_turn.2.1] at hc; exact Bool.false_ne_true hc
    have h3 : z ≠ Str.ofString "first" := fun e => by rw [e, not_turn.2.2] at hc; exact Bool.false_ne_true hc
    rw [if_pos hc]
    dsimp only [mapT]
    rw [if_neg h1, if_neg h2, if_neg h3, if_pos hc]
  · rw [if_neg hc]
    dsimp only [mapT]
    rw [if_neg hc]
theorem map_back {bx sx : Addr} {f : Int} {tf : Tok} {m u : Str → Option Value} {z : Str} (h : turnNames.contains z = false) :
    mapT bx sx f tf (fun z => if turnNames.contains z then u z else m z) z = mapT bx sx f tf m z := by
  have hc : ¬ turnNames.contains z = true := fun e => by rw [h] at e; exact Bool.false_ne_true e
  dsimp only [mapT]
  rw [if_neg hc]
theorem loop {w : World} {mean : ExcName → Option Value} {mg mb : Str → Option Value} {h₀ : Heap} {L fa : Addr} {cd : Value} {s : Shared} {Q : Flow → Shared → Prop} {E : Value → Shared → Prop}
    {l0 b0 x0 d0 l1 b1 x1 d1 sx bx D : Addr} {n0 k0 n1 k1 nD : Nat} {hh0 : Int} {tv0 : Tok} {hh1 : Int} {tv1 : Tok} {m : Str → Option Value} {f : Int} {tf : Tok} {us : List Value} {ns : List Int} {news : Ledger}
    (X : (hd.heap_39 w.params).In h₀) (T : Top hd.view_39 (looseW hd.view_39 []) mean mg mb h₀) (K0 : Below callerA h₀ [] h₀)
    (F : Fr h₀ L s.heap (mapT bx sx f tf m)) (N : News h₀ L s.heap news)
    (hsx : (sx, listOf [Value.ref x0, Value.ref x1].toArray 0) ∈ news) (hbx : (bx, listOf [Value.ref b0, Value.ref b1].toArray 0) ∈ news) (hx0 : (x0, instObj 74 d0) ∈ news) (hd0 : (d0, valuesDict hh0 tv0 l0) ∈ news) (hx1 : (x1, instObj 74 d1) ∈ news) (hd1 : (d1, valuesDict hh1 tv1 l1) ∈ news)
    (hl0 : (l0, listOf ([] : List Value).toArray n0) ∈ news) (hb0 : (b0, listOf ([] : List Value).toArray k0) ∈ news) (hl1 : (l1, listOf ([] : List Value).toArray n1) ∈ news) (hb1 : (b1, listOf ([] : List Value).toArray k1) ∈ news) (hDm : (D, listOf us.toArray nD) ∈ news)
    (hord : @LT.lt Nat _ d0 x0 ∧ @LT.lt Nat _ x0 l0 ∧ @LT.lt Nat _ l0 d1 ∧ @LT.lt Nat _ d1 x1 ∧ @LT.lt Nat _ x1 l1 ∧ @LT.lt Nat _ l1 sx ∧ @LT.lt Nat _ sx b0 ∧ @LT.lt Nat _ b0 b1 ∧ @LT.lt Nat _ b1 bx) (hD : @LT.lt Nat _ bx D)
    (hI : IntsAre us ns) (hlen : ns.length < 600)
    (done : ∀ (c : St) (R : Ledger) (h' : Heap) (tk' : Nat) (m' : Str → Option Value), c.e0.length < 600 → c.e1.length < 600 → (c.w0.length : Int) = (c.e0.length : Int) → (c.w1.length : Int) = (c.e1.length : Int) → Fr h₀ L h' (mapT bx sx f tf m') →
      News h₀ L h' (led2 l0 b0 x0 d0 l1 b1 x1 d1 sx bx c.v0 c.w0 c.v1 c.w1 c.n0 c.k0 c.n1 c.k1 hh0 tv0 hh1 tv1 R) → Stk (led2 l0 b0 x0 d0 l1 b1 x1 d1 sx bx c.v0 c.w0 c.v1 c.w1 c.n0 c.k0 c.n1 c.k1 hh0 tv0 hh1 tv1 R) c.v0 c.e0 → Stk (led2 l0 b0 x0 d0 l1 b1 x1 d1 sx bx c.v0 c.w0 c.v1 c.w1 c.n0 c.k0 c.n1 c.k1 hh0 tv0 hh1 tv1 R) c.v1 c.e1 → Q .next { s with heap := h', toks := tk' }) :
    wpAny (model PySem.Challenge.rw_be5039_01.row.prog w) (callerA.deeper (lawEnv L fa cd)) (pyIter (.ref D)) (fun it s₂ => LoopAtV PySem.Challenge.rw_be5039_01.row.prog w (callerA.deeper (lawEnv L fa cd)) h₀ (lawEnv L fa cd) (Str.ofString "number") turnB Q E it s₂) E s := by
  let Led : St → Ledger := fun c => [(l0, listOf c.v0.toArray c.n0), (b0, listOf c.w0.toArray c.k0), (l1, listOf c.v1.toArray c.n1), (b1, listOf c.w1.toArray c.k1)]
  let cst : Ledger := [(x0, instObj 74 d0), (d0, valuesDict hh0 tv0 l0), (x1, instObj 74 d1), (d1, valuesDict hh1 tv1 l1), (sx, listOf [Value.ref x0, Value.ref x1].toArray 0), (bx, listOf [Value.ref b0, Value.ref b1].toArray 0), (D, listOf us.toArray nD)]
  let Facts : Ledger → St → Prop := fun l c => Stk l c.v0 c.e0 ∧ Stk l c.w0 c.e0 ∧ Stk l c.v1 c.e1 ∧ Stk l c.w1 c.e1
  let adr : List Addr := [l0, b0, l1, b1, x0, d0, x1, d1, sx, bx, D]
  have skip : ∀ {tl : Ledger} {vs : List Value} {es : List Ent}, Stk (cst ++ tl) vs es → Stk tl vs es := fun {tl vs es} h =>
    (((((((Stk.skip (add := []) (p := (x0, instObj 74 d0)) inst_not_tup h).skip (add := []) dict_not_tup).skip (add := []) inst_not_tup).skip (add := []) dict_not_tup).skip (add := []) list_not_tup).skip (add := []) list_not_tup).skip (add := []) list_not_tup)
  refine kd_listI (ns := ns) (vs := us) (nn := nD) (news := news) Led cst (fun _ => []) Facts turnNames (fun pre c => c.e0.length ≤ pre.length ∧ c.e1.length ≤ pre.length) adr ⟨[], [], [], [], n0, k0, n1, k1, [], []⟩
    rfl (by simp [cst]) hI F N ?_ (fun _ => rfl) ⟨.nil, .nil, .nil, .nil⟩ (fun _ h => nomatch h) ⟨Nat.le_refl _, Nat.le_refl _⟩ ?_ ?_
  · intro p hp
    simp only [Led, cst, List.mem_cons, List.mem_append, List.not_mem_nil, or_false] at hp
    rcases hp with (h | h | h | h) | h | h | h | h | h | h | h <;> rw [h] <;> assumption
  · intro c tl pre post n t u h tk own he hmem hsep hoff hf hp F₁ N₁
    obtain ⟨o1, o2, o3, o4, o5, o6, o7, o8, o9⟩ := id hord
    obtain ⟨f0, f1, f2, f3⟩ := hf
    have hpl : pre.length < ns.length := by rw [he]; simp
    have F₂ : Fr h₀ L h (fun y => if y = Str.ofString "number" then some (.int n t) else mapT bx sx f tf (fun z => if turnNames.contains z then u z else m z) y) := by
      rw [← map_turn]; exact F₁
    have N₂ : News h₀ L h (led2 l0 b0 x0 d0 l1 b1 x1 d1 sx bx c.v0 c.w0 c.v1 c.w1 c.n0 c.k0 c.n1 c.k1 hh0 tv0 hh1 tv1 ((D, listOf us.toArray nD) :: (tl ++ own))) := by
      intro p hp
      refine N₁ p ?_
      simp only [Led, cst, led2, List.mem_cons, List.mem_append, List.not_mem_nil, or_false] at hp ⊢
      rcases hp with h | h | h | h | h | h | h | h | h | h | h | h | h <;> simp [h]
    refine wpAny_noRaise (turn (s := { s with heap := h, toks := tk }) (P := tl) X T K0 F₂ N₂ hord ?_ (fun p hp => .tail _ (List.mem_append_left _ hp)) (skip f0) (skip f1) (skip f2) (skip f3) (by have := hp.1; omega) (by have := hp.2; omega) ?_)
    · refine off_cons ?_ (off_sub ?_ hoff)
      · simp only [List.mem_cons, List.not_mem_nil, or_false]
        rintro b (rfl | rfl | rfl | rfl | rfl | rfl | rfl | rfl) <;> omega
      · simp only [adr, List.mem_cons, List.not_mem_nil, or_false]
        rintro b (rfl | rfl | rfl | rfl | rfl | rfl | rfl | rfl) <;> simp
    · intro e0' e1' v0' w0' v1' w1' n0' k0' n1' k1' add h' tk' m' hl0 hl1 s0 s1 s2 s3 hadd F' N' hm'
      have lift : ∀ p ∈ add ++ tl, p ∈ cst ++ (add ++ tl) := fun p hp => List.mem_append_right _ hp
      refine kd_end (Led := Led) (c := ⟨v0', w0', v1', w1', n0', k0', n1', k1', e0', e1'⟩) add (tl := tl) hsep F' N' ?_ ?_ rfl ?_ ?_ (fun _ h => nomatch h) ?_ ⟨s0.mono lift, s1.mono lift, s2.mono lift, s3.mono lift⟩ ?_
      · intro p hp
        simp only [Led, cst, led2, List.mem_cons, List.mem_append, List.not_mem_nil, or_false] at hp ⊢
        rcases hp with (h | h | h | h) | (h | h | h | h | h | h | h) | h | h <;> simp [h]
      · intro p hp
        simp only [led2, List.mem_cons, List.mem_append]
        simp [hp]
      · intro q hq b hb
        have h1 := (hadd q hq).1
        have h2 : @LT.lt Nat _ D q.1 := (hadd q hq).2.1
        simp only [adr, List.mem_cons, List.not_mem_nil, or_false] at hb
        have h3 : @LT.lt Nat _ bx q.1 := h1
        refine neN ?_
        rcases hb with rfl | rfl | rfl | rfl | rfl | rfl | rfl | rfl | rfl | rfl | rfl <;> omega
      · intro q hq p hp
        have h2 := allLt_mem (hadd q hq).2 p (.tail _ (List.mem_append_right _ hp))
        exact Nat.ne_of_lt h2
      · intro z h1 _ h3
        rw [hm' z h1 h3, map_back h3]
      · simp only [List.length_append, List.length_cons, List.length_nil]
        have := hp.1
        have := hp.2
        omega
  · intro c tl u h tk hoff hf hp F₁ N₁
    obtain ⟨f0, f1, f2, f3⟩ := hf
    have e : (fun y => if y = Str.ofString "number" then u y else kstB (fun z => if turnNames.contains z then u z else mapT bx sx f tf m z) [] y) = mapT bx sx f tf (fun y => if y = Str.ofString "number" then u y else if turnNames.contains y then u y else m y) := by
      funext y
      have e2 : kstB (fun z => if turnNames.contains z then u z else mapT bx sx f tf m z) [] y = mapT bx sx f tf (fun z => if turnNames.contains z then u z else m z) y := by
        rw [← map_turn]; rfl
      rw [e2]
      dsimp only [mapT]
      by_cases h1 : y = Str.ofString "number"
      · obtain ⟨_, _, _, q1, q2, q3⟩ := apart_names
        rw [if_pos h1, if_pos h1, if_neg (h1 ▸ q1), if_neg (h1 ▸ q2), if_neg (h1 ▸ q3)]
      · rw [if_neg h1, if_neg h1]
    have up : ∀ p ∈ tl, p ∈ led2 l0 b0 x0 d0 l1 b1 x1 d1 sx bx c.v0 c.w0 c.v1 c.w1 c.n0 c.k0 c.n1 c.k1 hh0 tv0 hh1 tv1 ((D, listOf us.toArray nD) :: tl) := fun p hp => led2_sub p (.tail _ hp)
    have g0 := hp.1
    have g1 := hp.2
    refine done c ((D, listOf us.toArray nD) :: tl) h tk _ (by omega) (by omega) (by rw [(skip f1).length]) (by rw [(skip f3).length]) (by rw [← e]; exact F₁) ?_ ((skip f0).mono up) ((skip f2).mono up)
    intro p hp
    refine N₁ p ?_
    simp only [Led, cst, led2, List.mem_cons, List.mem_append, List.not_mem_nil, or_false] at hp ⊢
    rcases hp with h | h | h | h | h | h | h | h | h | h | h | h <;> simp [h]
end Mine
open Mine
local macro_rules | `(tactic| walk_at "subscriptTail") => `(tactic| ((with_reducible show wpAny _ _ (subscriptTail _ _ (Value.ref _) (Value.int 0 _)) _ _ _); ((with_reducible refine' it_tup0 ?N ?m ?_ ?s); k_dflt ((case N => k_asm); (case m => first | assumption | k_mem); (case s => with_unfolding_all rfl); k_whole)); (try dsimp only)))
local macro_rules | `(tactic| walk_at "subscriptTail") => `(tactic| ((with_reducible show wpAny _ _ (subscriptTail _ _ (Value.ref _) (Value.int 1 _)) _ _ _); ((with_reducible refine' it_tup1 ?N ?m ?_ ?s); k_dflt ((case N => k_asm); (case m => first | assumption | k_mem); (case s => with_unfolding_all rfl); k_whole)); (try dsimp only)))
local macro_rules | `(tactic| walk_at "subscriptTail") => `(tactic| ((with_reducible show wpAny _ _ (subscriptTail _ _ (Value.ref _) (Value.int (-1) _)) _ _ _); ((with_reducible refine' it_last ?N ?m ?_ ?s); k_dflt ((case N => k_asm); (case m => first | assumption | k_mem); (case s => with_unfolding_all rfl); k_whole)); (try dsimp only)))
local macro_rules | `(tactic| walk_at "subscriptTail") => `(tactic| ((with_reducible show wpAny _ _ (subscriptTail _ _ (Value.ref _) (Value.int (-2) _)) _ _ _); (first
  | ((with_reducible refine' it_last2 ?N ?m ?_ ?s); k_dflt ((case N => k_asm); (case m => first | assumption | k_mem); (case s => with_unfolding_all rfl); k_whole); (try dsimp only))
  | ((with_reducible refine' it_out2 ?A ?N ?m ?z ?_ ?s); k_dflt ((case A => rfl); (case N => k_asm); (case m => first | assumption | k_mem); (case z => (simp only [List.nil_append, List.length_cons, List.length_nil]; omega)); (case s => with_unfolding_all rfl); k_whole); intro h' tk' e' x'))))
local macro_rules | `(tactic| walk_at "subscriptTail") => `(tactic| ((with_reducible show wpAny _ _ (subscriptTail _ _ (Value.ref _) (Value.int (_ - 1) _)) _ _ _); ((with_reducible refine' it_top ?N ?m ?z ?k ?_ ?s); k_dflt ((case N => k_asm); (case m => first | assumption | k_mem); (case z => (simp only [List.length_append, List.length_cons, List.length_nil] at *; omega)); (case k => (simp only [List.length_append, List.length_cons, List.length_nil] at *; omega)); (case s => with_unfolding_all rfl); k_whole)); (try dsimp only)))
local macro_rules | `(tactic| walk_at "subscriptTail") => `(tactic| ((with_reducible show wpAny _ _ (subscriptTail _ _ (Value.ref _) (Value.int (_ - 2) _)) _ _ _); ((with_reducible refine' it_sub ?N ?m ?z ?k ?_ ?s); k_dflt ((case N => k_asm); (case m => first | assumption | k_mem); (case z => (simp only [List.length_append, List.length_cons, List.length_nil] at *; omega)); (case k => (simp only [List.length_append, List.length_cons, List.length_nil] at *; omega)); (case s => with_unfolding_all rfl); k_whole)); (try dsimp only)))
local macro_rules | `(tactic| walk_at "LeaveI") => `(tactic| (k_here; (with_reducible rename TI.Caller _ _ _ _ => tiC'); k_dflt (refine TLg.leave_back (by assumption) (by assumption) (by assumption) (by assumption) ?_); clear tiC'; intro F' N'))
local macro_rules | `(tactic| walk_at "noteFrame ref") => `(tactic| (k_here; (with_reducible rename TI.Caller _ _ _ _ => tiC'); (with_reducible rename Heap.NewExc _ _ _ _ => tiX'); k_dflt (refine TLg.noted_new1 (by rfl) (by assumption) tiX' (by assumption) (by assumption) (by assumption) ?_); clear tiX'; intro h' sl' tiF' tiH'; have tiHH' := TT.HeldNA.held tiH'))
local macro_rules | `(tactic| walk_at "eval Name") => `(tactic| ((with_reducible refine' ld ?k1 ?k2 ?_ ?k3 ?k4 ?k5); k_dflt ((case k1 => with_reducible assumption); (case k4 => k_dflt (exact rfl)); (case k2 => k_dflt (exact rfl)); (case k3 => k_dflt (exact rfl)); (case k5 => k_dflt decide); k_whole)))
local macro_rules | `(tactic| walk_at "eval Name") => `(tactic| ((with_reducible show wpAny _ _ (eval (Expr.Name (Str.ofString "len") _) _) _ _ _); (with_reducible refine' nm_len ?k1 ?k2 ?k3 ?_ ?k4 ?k5); k_dflt ((case k1 => with_reducible assumption); (case k2 => with_reducible assumption); (case k3 => with_reducible assumption); (case k4 => k_dflt (exact rfl)); (case k5 => k_dflt (exact rfl)); k_whole)))
local macro_rules | `(tactic| walk_at "ite") => `(tactic| (k_here; (first | (with_reducible show if decide _ = true then _ else _) | (with_reducible show if (_ == _) = true then _ else _)); (first | ((with_reducible refine' ite_neg ?c ?_); (case c => (simp only [decide_eq_true_eq, beq_iff_eq]; omega))) | ((with_reducible refine' ite_pos ?c ?_); (case c => (simp only [decide_eq_true_eq, beq_iff_eq]; omega)))); (try dsimp only)))
local macro_rules | `(tactic| walk_at "ite") => `(tactic| (with_reducible first | refine ite_tt ?_ | refine ite_ff ?_ | refine ite_True_then ?_ | refine ite_nf ?_ | refine ite_nt ?_))
local macro_rules | `(tactic| walk_at "subscriptTail Name Constant ref int") => `(tactic| ((with_reducible show wpAny _ _ (subscriptTail _ _ (Value.ref _) (Value.int 0 _)) _ _ _); (with_reducible refine' it_first ?N ?m ?k ?_ ?s); k_dflt ((case N => k_asm); (case m => k_mem); (case k => rfl); (case s => with_unfolding_all rfl); k_whole); (try dsimp only)))
local macro_rules | `(tactic| walk_at "subscriptTail Name Constant ref int") => `(tactic| ((with_reducible show wpAny _ _ (subscriptTail _ _ (Value.ref _) (Value.int 1 _)) _ _ _); (with_reducible refine' it_second ?N ?m ?k ?_ ?s); k_dflt ((case N => k_asm); (case m => k_mem); (case k => rfl); (case s => with_unfolding_all rfl); k_whole); (try dsimp only)))
local macro_rules | `(tactic| walk_at "call ref") => `(tactic| ((with_reducible show wpAny _ _ (call (Value.ref 56) _) _ _ _); k_dflt (refine' c_last ?F ?X ?N ?T ?k ?x ?d ?l ?s ?_; (case F => k_asm); (case X => k_asm); (case N => k_asm); (case T => k_asm); (case k => rfl); (case x => k_mem); (case d => k_mem); (case l => k_mem); (case s => assumption); k_whole); intro h' tk' F' N'; (try k_sweep); (try dsimp only)))
local macro_rules | `(tactic| walk_at "call ref") => `(tactic| ((with_reducible show wpAny _ _ (call (Value.ref 49) _) _ _ _); k_dflt (refine' c_both ?F ?X ?N ?T ?k ?x ?d ?l ?s ?_; (case F => k_asm); (case X => k_asm); (case N => k_asm); (case T => k_asm); (case k => rfl); (case x => k_mem); (case d => k_mem); (case l => k_mem); (case s => assumption); k_whole); intro h' tk' F' N'; (try k_sweep); (try dsimp only)))
local macro_rules | `(tactic| walk_at "call ref") => `(tactic| ((with_reducible show wpAny _ _ (call (Value.ref 64) _) _ _ _); k_dflt (refine' c_align ?B ?F ?X ?N ?T ?k ?x ?d ?l ?s ?z ?p ?u ?_; (case B => k_asm); (case F => k_asm); (case X => k_asm); (case N => k_asm); (case T => k_asm); (case k => rfl); (case x => k_mem); (case d => k_mem); (case l => k_mem); (case s => assumption); (case z => omega); (case p => ktr_room); (case u => ktr_units); k_whole); intro t' h' tk' F' N'; (try k_sweep); (try dsimp only)))
local macro_rules | `(tactic| walk_at "call ref") => `(tactic| ((with_reducible show wpAny _ _ (call (Value.ref 85) _) _ _ _); k_dflt (refine' c_lalign ?B ?F ?X ?N ?T ?k ?l ?s ?z ?p ?u ?_; (case B => k_asm); (case F => k_asm); (case X => k_asm); (case N => k_asm); (case T => k_asm); (case k => rfl); (case l => k_mem); (case s => assumption); (case z => omega); (case p => ktr_room); (case u => ktr_units); k_whole); intro t' h' tk' F' N'; (try k_sweep); (try dsimp only)))
local macro_rules | `(tactic| walk_at "call ref") => `(tactic| ((with_reducible show wpAny _ _ (call (Value.ref 92) _) _ _ _); k_dflt (refine' c_lboth ?B ?F ?X ?N ?T ?k ?l ?s ?z ?p ?u ?_; (case B => k_asm); (case F => k_asm); (case X => k_asm); (case N => k_asm); (case T => k_asm); (case k => rfl); (case l => k_mem); (case s => assumption); (case z => omega); (case p => ktr_room); (case u => ktr_units); k_whole); intro t' h' tk' F' N'; (try k_sweep); (try dsimp only)))
local macro_rules | `(tactic| walk_at "call ref") => `(tactic| ((with_reducible show wpAny _ _ (call (Value.ref 99) _) _ _ _); k_dflt (refine' c_lunder ?B ?F ?X ?N ?T ?k ?l ?s ?z ?p ?u ?_; (case B => k_asm); (case F => k_asm); (case X => k_asm); (case N => k_asm); (case T => k_asm); (case k => rfl); (case l => k_mem); (case s => assumption); (case z => omega); (case p => ktr_room); (case u => ktr_units); k_whole); intro t' h' tk' F' N'; (try k_sweep); (try dsimp only)))
local macro_rules | `(tactic| walk_at "call ref") => `(tactic| ((with_reducible show wpAny _ _ (call (Value.ref 106) [kv _, kv _]) _ _ _); k_dflt (refine' c_sameK ?B ?F ?X ?N ?T ?k ?p ?_; (case B => k_asm); (case F => k_asm); (case X => k_asm); (case N => k_asm); (case T => k_asm); (case k => rfl); (case p => ktr_room); k_whole); intro h' tk' F' N'; (try k_sweep); (try dsimp only)))
local macro_rules | `(tactic| walk_at "call ref") => `(tactic| ((with_reducible show wpAny _ _ (call (Value.ref 106) [Value.bool _, Value.bool _]) _ _ _); k_dflt (refine' c_sameB ?B ?F ?X ?N ?T ?k ?p ?_; (case B => k_asm); (case F => k_asm); (case X => k_asm); (case N => k_asm); (case T => k_asm); (case k => rfl); (case p => ktr_room); k_whole); intro h' tk' F' N'; (try k_sweep); (try dsimp only)))
local macro_rules | `(tactic| walk_at "call builtin:len") => `(tactic| ((with_reducible show wpAny _ _ (call (Value.builtin "len") [Value.ref _]) _ _ _); k_dflt (refine' c_len ?B ?F ?X ?N ?T ?k ?x ?d ?l ?s ?z ?p ?u ?_; (case B => k_asm); (case F => k_asm); (case X => k_asm); (case N => k_asm); (case T => k_asm); (case k => rfl); (case x => k_mem); (case d => k_mem); (case l => k_mem); (case s => assumption); (case z => omega); (case p => ktr_room); (case u => ktr_units); k_whole); intro t' h' tk' F' N'; (try k_sweep); (try dsimp only)))
local macro_rules | `(tactic| walk_at "call builtin:len") => `(tactic| ((with_reducible show wpAny _ _ (call (Value.builtin "len") [Value.ref _]) _ _ _); (with_reducible refine' it_len ?N ?m ?k ?z ?_); k_dflt ((case N => k_asm); (case m => k_mem); (case k => assumption); (case z => omega); k_whole); (try dsimp only)))
local macro_rules | `(tactic| walk_at "exec For Name Subscript cons nil") => `(tactic| (k_here; (rename Fr _ _ _ _ => lF'); (with_unfolding_all refine' For_invVF lF' ?k1 ?k2 ?_; (case k1 => exact rfl); (case k2 => exact rfl); k_whole)))
local macro_rules | `(tactic| walk_at "pyIter ref") => `(tactic| ((with_reducible show wpAny _ _ (pyIter (Value.ref _)) (fun it s₂ => LoopAtV _ _ _ _ _ _ _ _ _ it s₂) _ _); k_dflt (refine' loop ?X ?T ?K ?F ?N ?m1 ?m2 ?m3 ?m4 ?m5 ?m6 ?m7 ?m8 ?m9 ?m10 ?m11 ?o ?d ?I ?z ?_; (case N => k_asm); (case F => k_asm); (case X => k_asm); (case T => k_asm); (case K => k_asm); (case m1 => k_mem); (case m2 => k_mem); (case m3 => k_mem); (case m4 => k_mem); (case m5 => k_mem); (case m6 => k_mem); (case m7 => k_mem); (case m8 => k_mem); (case m9 => k_mem); (case m10 => k_mem); (case m11 => k_mem); (case o => omega); (case d => omega); (case I => assumption); (case z => omega); k_whole); intro c' R' h' tk' m' q0' q1' z0' z1' F' N' sA' sB'; (try dsimp only [mapT] at F'); (try dsimp only [led2, valuesDict] at N'); (try k_sweep); (try dsimp only)))
theorem PySem.Challenge.cw_be5039_01_holds : PySem.Challenge.rw_be5039_01.Holds := by
  exact Mine.hd (by w_strict k_go)

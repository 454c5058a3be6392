import PyProof.Rows.All
import Wide.All
import OpenK.AllK
import Wide.FinOn
import PySem.Challenge.RW_ew5005_01
open PySem PySem.W PyProof.Rows PySem.Calls
set_option Elab.async false
set_option linter.unusedVariables false
namespace Mine
set_option maxRecDepth 100000 in
set_option maxHeartbeats 8000000 in
open_top hd for PySem.Challenge.rw_ew5005_01
noncomputable abbrev PG : Program := PySem.Challenge.rw_ew5005_01.row.prog
noncomputable abbrev LS : List Str := looseW hd.view_39 [Str.ofString "LOCALE_ALIASES", Str.ofString "default_locale", Str.ofString "parse_locale", Str.ofString "get_locale_identifier"]
noncomputable abbrev KH (w : World) : Frag := hd.heap_39 w.params
noncomputable abbrev TP (mean : ExcName → Option Value) (mg mb : Str → Option Value) (h : Heap) : Prop := Top hd.view_39 LS mean mg mb h
abbrev tupO (vs : List Value) : Obj := { cls := .type "tuple", data := .seq vs.toArray }
local macro_rules | `(tactic| walk_at "MyEnter") => `(tactic| k_dflt (refine' code_def ?k1 ?k2 ?k3 ?k4 ?k5 ?kA ?kF ?kK ?k6 ?k7 ?k8 ?k9 ?kB ?_ ?c2 ?c3 ?c4 ?c5; (case kA => exact rfl); (case kF => exact rfl); (case kK => assumption); (case k1 => k_asm); (case k2 => k_asm); (case k3 => k_asm); (case k4 => k_asm); (case k5 => k_asm); (case k6 => k_is); (case k7 => k_is); (case k8 => ktr_room); (case k9 => first | exact binds_K (by k_in) rfl (by k_is) rfl rfl rfl | exact BindsTo.of_eq rfl | fail "MyEnter: binds"); (case c5 => decide); (case kB => exact locs rfl); (case c2 => exact rfl); (case c3 => exact rfl); (case c4 => exact rfl); k_whole; intro g' L' h' FG' F' N' B' X' T'; (try dsimp only); (try k_lift B'); (try k_fold)))
local macro_rules | `(tactic| walk_at "MySub") => `(tactic| (intro p hp; repeat (first | exact hp | refine List.mem_cons_of_mem _ ?_)))
local macro_rules | `(tactic| walk_at "MyEnterS") => `(tactic| k_dflt (refine' code_defS ?k1 ?k2 ?k3 ?k4 ?k5 ?XB ?TB ?D ?T0 ?kA ?k6 ?k7 ?k8 ?k9 ?kB ?_ ?cK ?c2 ?c3 ?c4 ?c5; (case kA => exact rfl); (case k2 => k_asm); (case k1 => k_asm); (case XB => assumption); (case TB => assumption); (case D => assumption); (case T0 => first | assumption | exact KtsTurn.refl); (case k3 => k_asm); (case k4 => k_asm); (case k5 => k_asm); (case k6 => k_is); (case k7 => k_is); (case k8 => ktr_room); (case k9 => first | exact binds_K (by k_in) rfl (by k_is) rfl rfl rfl | exact BindsTo.of_eq rfl | fail "MyEnterS: binds"); (case kB => exact locs rfl); (case cK => assumption); (case c2 => exact rfl); (case c3 => exact rfl); (case c4 => exact rfl); (case c5 => decide); k_whole))
local macro_rules | `(tactic| walk_at "ite") => `(tactic| (k_closed; first | with_reducible refine ite_pos (by decide) ?_ | with_reducible refine ite_neg (by decide) ?_))
/-! rules of my own for single steps -/
section
variable {prog : Program} {w : World} {A : Around} {E : Value → Shared → Prop} {s : Shared} {x y : Str} {t u v : Tok} {k : Int} {h₀ : Heap} {L : Addr} {m : Str → Option Value} {news : List (Addr × Obj)} {Q : Value → Shared → Prop}
theorem in_at (b : Bool) (hb : (!(Builtin.Str.occurrences x y 0 x.length 1).isEmpty) = b) (h : Q (.bool b) s) : wpAny (model prog w) A (compareOp .In (.str y u) (.str x t)) Q E s :=
  in_str (by rw [hb]; exact h)
theorem split2_at (parts : List Str) (hp : Txt.splitMax x y k = parts) (hF : Fr h₀ L s.heap m) (hN : News h₀ L s.heap news) (hy : (y.length == 0) = false) (hk : (decide (k < -(2 ^ 63 : Int)) || decide (k ≥ 2 ^ 63)) = false) (hsz : x.length + 2 ≤ sizeLine)
    (h : ∀ D l h' tk, l.map (·.1) = parts → Fr h₀ L h' m → News h₀ L h' ((D, W.listOf (strValues l).toArray 0) :: news) → (∀ p ∈ news, p.1 < D) → Q (.ref D) { s with heap := h', toks := tk }) :
    wpAny (model prog w) A (call (.builtin "str.split") [.str x t, .str y u, .int k v]) Q E s :=
  splitN2A hF hN hy hk (fun l h' tk e _ _ _ F N => h _ l h' tk (e.trans hp) F N fun p hp => Heap.lt_size (hN p hp).1) hsz
theorem truthyL {l : Addr} {vs : Array Value} {n : Nat} {b : Bool} {Q : Bool → Shared → Prop} (N : News h₀ L s.heap news) (hm : (l, W.listOf vs n) ∈ news) (hb : (!vs.isEmpty) = b) (hfit : vs.size ≤ 1000) (h : Q b { s with toks := s.toks + 1 + 1 }) :
    wpAny (model prog w) A (truthy (.ref l)) Q E s :=
  wpAny_truthy_list (News.isList N hm) (by omega) (by rw [hb]; exact h)
theorem itemL {l : Addr} {vs : List Value} {n : Nat} {v : Value} {k : Int} {u : Tok} {value slice : PySem.Expr} {Q : Value → Shared → Prop} (N : News h₀ L s.heap news) (hm : (l, W.listOf vs.toArray n) ∈ news) (h0 : 0 ≤ k) (hk : k < 2 ^ 63) (hx : vs[k.toNat]? = some v) (h : Q v s)
    (hs : subscripted slice false (.ref l) (.int k u) = operate [.ref l, .int k u] (getItem (.ref l) (.int k u)) := by with_unfolding_all rfl) (hg : ∀ r, letTemporaryGo value (.ref l) r = pure () := by intro _; with_unfolding_all rfl) :
    wpAny (model prog w) A (subscriptTail value slice (.ref l) (.int k u)) Q E s := item_listL (News.isList N hm) h0 hk hx h hs hg
theorem repr_any {x : Str} {t : Tok} (hsz : (reprText x).length ≤ 1000) (h : ∀ y t', y.length ≤ 1000 → Q (.str y t') { s with toks := s.toks + 1 }) : wpAny (model prog w) A (pyReprObj (.str x t)) Q E s :=
  pyReprObj_str (h _ _ hsz) (by rw [sizeLine_eq]; omega)
end
theorem drop1 {h₀ h : Heap} {L a : Addr} {o : Obj} {x news : List (Addr × Obj)} (N : News h₀ L h ((a, o) :: x)) (hs : ∀ p ∈ news, p ∈ x) : News h₀ L h ((a, o) :: news) := fun p hp => by
  rcases List.mem_cons.mp hp with rfl | hp
  · exact N _ (List.mem_cons_self ..)
  · exact N _ (List.mem_cons_of_mem _ (hs p hp))
theorem drop0 {h₀ h : Heap} {L : Addr} {x news : List (Addr × Obj)} (N : News h₀ L h x) (hs : ∀ p ∈ news, p ∈ x) : News h₀ L h news := fun p hp => N p (hs p hp)
theorem raisedSub {base G : Heap} {l : List Env} {e : Addr} {cls : Value} {t : Addr} {vs : List Value} {x news : List (Addr × Obj)} {h : Heap} (R : RaisedS base G l e cls t vs x h) (hs : ∀ p ∈ news, p ∈ x) : RaisedS base G l e cls t vs news h := by
  obtain ⟨⟨B, h1, h2, h3, h4⟩, h5⟩ := R
  exact ⟨⟨B, h1, h2, fun q hq => h3 q (hs q hq), h4⟩, h5⟩
section S1
local macro_rules | `(tactic| walk_at "spliced") => `(tactic| first | refine args_cons ?_ | (refine args_nil ?_; simp only [List.cons_append, List.nil_append]) | refine args_nil ?_)
local macro_rules | `(tactic| walk_at "call builtin:len") => `(tactic| (k_here; ktx_write))
local macro_rules | `(tactic| walk_at "call builtin:str.title") => `(tactic| (k_here; ktx_write))
local macro_rules | `(tactic| walk_at "call builtin:str.upper") => `(tactic| (k_here; ktx_write))
local macro_rules | `(tactic| walk_at "call builtin:str.lower") => `(tactic| (k_here; ktx_write))
local macro_rules | `(tactic| walk_at "compareOp In str str") => `(tactic| (k_here; first | ((with_reducible show wpAny _ _ (compareOp _ _ (Value.str (Str.ofString "de_AT.UTF-8") _)) _ _ _); refine in_at true (by decide +kernel) ?_) | refine in_at false (by decide +kernel) ?_))
local macro_rules | `(tactic| walk_at "call builtin:str.split") => `(tactic| (k_here; refine split2_at [Str.ofString "de_AT", Str.ofString "UTF-8"] (by decide +kernel) (by k_asm) (by k_asm) (by decide) (by decide) (by kspl_size) ?_; intro D' l' h' k' e' F' N' l1; (try k_lt l1); kspl_open e'; (simp only [strValues, List.map_cons, List.map_nil] at N')))
local macro_rules | `(tactic| walk_at "truthy ref") => `(tactic| (k_here; k_dflt (first | refine truthyL (b := true) (by k_asm) (by k_mem) (by rfl) (by exact Nat.le_of_ble_eq_true rfl) ?_ | refine truthyL (b := false) (by k_asm) (by k_mem) (by rfl) (by exact Nat.le_of_ble_eq_true rfl) ?_)))
local macro_rules | `(tactic| walk_at "subscriptTail Name Constant ref int") => `(tactic| (k_here; k_dflt (refine itemL (by k_asm) (by k_mem) (by decide) (by decide) (by rfl) ?_)))
local macro_rules | `(tactic| walk_at "subscriptTail Call Attribute cons nil Constant ref int") => `(tactic| (k_here; k_dflt (refine itemL (by k_asm) (by k_mem) (by decide) (by decide) (by rfl) ?_)))
local macro_rules | `(tactic| walk_at "pyReprObj str") => `(tactic| (k_here; k_dflt (refine repr_any (by decide +kernel) ?_); intro y' t' hy'))
theorem sz1 : (Str.ofString " is not a valid locale identifier").length ≤ 1000 := by decide +kernel
theorem sz2 : (Str.ofString "expected only letters, got ").length ≤ 1000 := by decide +kernel
theorem sz3 : Str.empty.length ≤ 1000 := by decide +kernel
local macro_rules | `(tactic| walk_at "And") => `(tactic| (k_here; refine And.intro (by (simp only [Str.length_append]; have e1 := sz1; have e2 := sz2; have e3 := sz3; rw [sizeLine_eq]; omega)) ?_))
local macro_rules | `(tactic| walk_at "le") => `(tactic| (k_here; simp only [Str.length_append]; have e1 := sz1; have e2 := sz2; have e3 := sz3; rw [sizeLine_eq]; omega))
local macro_rules | `(tactic| walk_at "joinParts") => `(tactic| (k_here; (with_reducible show wpAny _ _ (joinParts _ (evalEach [] _)) _ _ _); refine joinParts_nilE ?_; refine' joinParts_nil ?h ?z; (case z => (simp only [Str.length_append]; have e1 := sz1; have e2 := sz2; have e3 := sz3; rw [sizeLine_eq]; omega))))
/-! a tuple's whole slice: t[:5] of a tuple of five items or fewer -/
section
variable {prog : Program} {w : World} {A : Around} {E : Value → Shared → Prop} {s : Shared} {h₀ : Heap} {L : Addr} {m : Str → Option Value} {news : List (Addr × Obj)}
theorem sliceApplied_upto {sl : Addr} {n : Nat} {k : Int} {u : Tok} {Q : Int × Int × Nat → Shared → Prop} (hs : s.heap.IsSliceOf sl .none (.int k u) .none) (hn : (n : Int) ≤ k) (h : Q ((0 : Int), 1, n) s) :
    wpAny (model prog w) A (Builtin.Slice.sliceApplied (.ref sl) (pure (n : Int))) Q E s := by
  obtain ⟨os, hos, hcs, hds⟩ := id hs
  unfold Builtin.Slice.sliceApplied Builtin.Slice.sliceFields
  refine wpAny_bind (wpAny_bind (wpAny_field hos hds (x := .none) rfl (wpAny_bind (wpAny_field hos hds (x := .int k u) rfl (wpAny_bind (wpAny_field hos hds (x := .none) rfl (wpAny_pure ?_)))))))
  refine wpAny_bind (slicePart_none ?_)
  show wpAny _ _ (if ((1 : Int) == 0) = true then _ else _) _ _ s
  rw [if_neg (by decide)]
  refine wpAny_bind (slicePart_none (wpAny_bind (slicePart_int (wpAny_bind (wpAny_pure ?_)))))
  show wpAny _ _ (match Builtin.Slice.sliceAdjust none (some k) 1 (n : Int) with | (lo, hi) => pure (lo, (1 : Int), Builtin.Slice.slicePlaces lo hi 1)) _ _ s
  have e1 : Builtin.Slice.sliceAdjust none (some k) 1 (n : Int) = ((0 : Int), (n : Int)) := by
    unfold Builtin.Slice.sliceAdjust
    have h1 : ¬ ((1 : Int) < 0) := by omega
    have h2 : ¬ (k < 0) := by omega
    simp only [h1, h2, if_false]
    congr 1
    omega
  have e2 : Builtin.Slice.slicePlaces (0 : Int) (n : Int) 1 = n := by
    unfold Builtin.Slice.slicePlaces
    have h1 : (1 : Int) > 0 := by omega
    simp only [h1, if_true, Int.ediv_one]
    split <;> omega
  rw [e1]
  show wpAny _ _ (pure ((0 : Int), (1 : Int), Builtin.Slice.slicePlaces (0 : Int) (n : Int) 1)) _ _ s
  rw [e2]
  exact wpAny_pure h
theorem getItem_tuple_whole {t sl : Addr} {items : Array Value} {k : Int} {u : Tok} {Q : Value → Shared → Prop} (ht : IsTup s.heap t items) (hs : s.heap.IsSliceOf sl .none (.int k u) .none) (hn : (items.size : Int) ≤ k)
    (h : Q (.ref t) s) : wpAny (model prog w) A (getItem (.ref t) (.ref sl)) Q E s := by
  obtain ⟨os, hos, hcs, hds⟩ := id hs
  have hTs : s.TypeIs (.ref sl) "slice" := ⟨os, hos, hcs⟩
  unfold getItem
  try with_reducible refine wpAny_holding ?_
  first | refine wpAny_bind (wpAny_pure ?_) | skip
  refine wpAny_bind (wpAny_sequenceKey ht.typeIs (by decide) ?_)
  refine wpAny_bind (wpAny_callSpecial?_slot (name := Str.ofString "__getitem__") ht.typeIs slot_tuple_getitem
    (wpAny_call_entry slot_tuple_getitem ht.typeIs entry_tuple_getitem ?_ (args_tuple_getitem _ _)))
  show wpAny _ _ (Builtin.Tuple.tupleItemsOf (.ref t) >>= _) _ _ s
  refine wpAny_bind (tupleItemsOf_ ht ?_)
  refine wpAny_bind (wpAny_typeOf hTs ?_)
  rw [if_pos (by decide)]
  refine wpAny_bind (sliceApplied_upto hs hn ?_)
  show wpAny _ _ (if ((0 : Int) == 0 && (1 : Int) == 1 && items.size == items.size) = true then _ else _) _ _ s
  rw [if_pos (by simp)]
  refine wpAny_bind (m := Builtin.Tuple.tupleIsExact (.ref t)) ?_
  unfold Builtin.Tuple.tupleIsExact
  refine wpAny_bind (wpAny_typeOf ht.typeIs (wpAny_pure ?_))
  rw [if_pos (by decide)]
  first
    | exact wpAny_bind (wpAny_rule (wpAny_pure ⟨_, rfl, wpAny_pure h⟩))
    | exact wpAny_bind (wpAny_rule (wpAny_bind (wpAny_pure (wpAny_pure ⟨_, rfl, wpAny_pure h⟩))))
    | exact wpAny_bind (wpAny_rule (wpAny_bind (wpAny_pure ⟨_, rfl, wpAny_pure h⟩)))
theorem slice_whole {value slice : Expr} {t : Addr} {vs : List Value} {k : Int} {u : Tok} {Q : Value → Shared → Prop}
    (F : Fr h₀ L s.heap m) (N : News h₀ L s.heap news) (ht : IsTup s.heap t vs.toArray) (hn : (vs.length : Int) ≤ k)
    (h : ∀ h', Fr h₀ L h' m → News h₀ L h' news → Q (.ref t) { s with heap := h' })
    (hs : subscripted slice false (.ref t) (.ref s.heap.objs.size) = operate [.ref s.heap.objs.size, .ref t] (getItem (.ref t) (.ref s.heap.objs.size)) := by with_unfolding_all rfl)
    (hg : ∀ r, letTemporaryGo value (.ref t) r = pure () := by intro _; with_unfolding_all rfl) :
    wpAny (model prog w) A (subscriptTail value slice (.ref t) (.ref s.heap.objs.size)) Q E { s with heap := s.heap.push { cls := .type "slice", data := .fields #[.none, .int k u, .none] } } := by
  have ht' : IsTup (s.heap.push { cls := .type "slice", data := .fields #[.none, .int k u, .none] }) t vs.toArray := ht.keeps fun _ _ e => Heap.get?_push_of_some _ e
  exact subscriptTail_ops (s := { s with heap := s.heap.push { cls := .type "slice", data := .fields #[.none, .int k u, .none] } }) ht'.typeIs slot_tuple_getitem.lookup
    (getItem_tuple_whole ht' (Heap.IsSliceOf.new ..) (by simpa using hn) (h _ (F.push _) (N.grown fun _ _ e => Heap.get?_push_of_some _ e))) hs hg
end
local macro_rules | `(tactic| walk_at "subscriptTail Name Slice ref ref") => `(tactic| (k_here; (with_reducible show wpAny _ _ (subscriptTail _ (PySem.Expr.Slice none _ none _) (Value.ref _) (Value.ref _)) _ _ _); k_dflt (refine' slice_whole ?F ?N ?t ?n ?_; (case F => k_asm); (case N => k_asm); (case t => kun_tup); (case n => ((simp only [List.length_cons, List.length_nil]); omega))); intro h' F' N'; (try k_sweep)))
/-! t * 1 and t * 0 of a tuple -/
theorem noFill_tuple_mul : fillsNumberSlot (.type "tuple") "mul" = pure false :=
  PySem.fillsNumberSlot_seq (id := "tuple.__mul__") (r := some (.builtin "tuple.__rmul__")) F.slot_tuple_mul.lookup (by decide +kernel) F.slot_tuple_rmul.lookup (by decide +kernel)
theorem repeat_tuple : seqRepeat? (.type "tuple") = pure (some (.builtin "tuple.__mul__")) := by
  unfold seqRepeat?
  rw [PySem.seqSlot_of (T := "tuple") (name := "__mul__") (id := "tuple.__mul__") F.slot_tuple_mul.lookup (by decide +kernel), PySem.seqSlot_of (T := "tuple") (name := "__rmul__") (id := "tuple.__rmul__") F.slot_tuple_rmul.lookup (by decide +kernel)]
  rfl
theorem int_rmul_tuple (a : Int) (t : Tok) (l : Addr) (items : Array Value) (n : Nat) :
    Meets (Builtin.«int.__rmul__» ⟨[.int a t, .ref l], []⟩) (fun _ R s => s.heap.get? l = some { cls := .type "tuple", dict := none, data := .seq items n, slots := #[] } ∧ R (.ok (.ret Value.notImplemented)) s) :=
  .of_wp fun prog w A R s h => by obtain ⟨hp, g, d, tk, os⟩ := s; obtain ⟨hl, h⟩ := h; wp_walk; exact ⟨_, rfl, h⟩
theorem tuple_mul_one (l : Addr) (items : Array Value) (n : Nat) (u : Tok) :
    Meets (Builtin.«tuple.__mul__» ⟨[.ref l, .int 1 u], []⟩) (fun _ R s => s.heap.get? l = some { cls := .type "tuple", dict := none, data := .seq items n, slots := #[] } ∧ R (.ok (.ret (.ref l))) s) :=
  .of_wp fun prog w A R s h => by obtain ⟨hp, g, d, tk, os⟩ := s; obtain ⟨hl, h⟩ := h; wp_walk; exact ⟨_, rfl, h⟩
theorem tuple_mul_zero (l : Addr) (x : Value) (n : Nat) (u : Tok) :
    Meets (Builtin.«tuple.__mul__» ⟨[.ref l, .int 0 u], []⟩) (fun _ R s => s.heap.get? l = some { cls := .type "tuple", dict := none, data := .seq #[x] n, slots := #[] } ∧ R (.ok (.ret (.ref s.heap.objs.size))) { s with heap := s.heap.push { cls := .type "tuple", data := .seq #[] } }) :=
  .of_wp fun prog w A R s h => by obtain ⟨hp, g, d, tk, os⟩ := s; obtain ⟨hl, h⟩ := h; wp_walk; exact ⟨_, rfl, h⟩
section
variable {prog : Program} {w : World} {A : Around} {E : Value → Shared → Prop} {s : Shared} {h₀ : Heap} {L l : Addr} {m : Str → Option Value} {news : List (Addr × Obj)} {u : Tok} {Q : Value → Shared → Prop}
theorem mul_tup_one {items : Array Value} {n : Nat} {x : Int} (hx : x = 1) (hl : s.heap.get? l = some { cls := .type "tuple", dict := none, data := .seq items n, slots := #[] }) (h : Q (.ref l) s) :
    wpAny (model prog w) A (binaryOp .Mult (.ref l) (.int x u)) Q E s := by
  subst hx
  exact wpAny_binaryOp_repeat_ref (T := "tuple") (U := "int") (by decide) ⟨_, hl, rfl⟩ (fun s' => typeIs_int s' 1 u) noFill_tuple_mul F.fills_int_mul F.slot_int_rmul repeat_tuple F.slot_int_index.lookup
    (call_meets F.slot_int_rmul (typeIs_int s 1 u) F.entry_int_rmul (F.args_int_rmul_2 _ _) (int_rmul_tuple 1 u l items n)
      ⟨hl, rfl, ⟨_, hl, rfl⟩, call_meets F.slot_tuple_mul ⟨_, hl, rfl⟩ F.entry_tuple_mul (F.args_tuple_mul_2 _ _) (tuple_mul_one l items n u) ⟨hl, h⟩⟩)
theorem mul_tup_zero {v : Value} {n : Nat} {x : Int} (hx : x = 0) (F₀ : Fr h₀ L s.heap m) (N : News h₀ L s.heap news) (hl : s.heap.get? l = some { cls := .type "tuple", dict := none, data := .seq #[v] n, slots := #[] })
    (h : ∀ D h', Fr h₀ L h' m → News h₀ L h' ((D, { cls := .type "tuple", data := .seq #[] }) :: news) → (∀ p ∈ news, p.1 < D) → Q (.ref D) { s with heap := h' }) :
    wpAny (model prog w) A (binaryOp .Mult (.ref l) (.int x u)) Q E s := by
  subst hx
  exact wpAny_binaryOp_repeat_ref (T := "tuple") (U := "int") (by decide) ⟨_, hl, rfl⟩ (fun s' => typeIs_int s' 0 u) noFill_tuple_mul F.fills_int_mul F.slot_int_rmul repeat_tuple F.slot_int_index.lookup
    (call_meets F.slot_int_rmul (typeIs_int s 0 u) F.entry_int_rmul (F.args_int_rmul_2 _ _) (int_rmul_tuple 0 u l #[v] n)
      ⟨hl, rfl, ⟨_, hl, rfl⟩, call_meets F.slot_tuple_mul ⟨_, hl, rfl⟩ F.entry_tuple_mul (F.args_tuple_mul_2 _ _) (tuple_mul_zero l v n u) ⟨hl, h _ _ (F₀.push _) (News.push F₀ N _) fun p hp => Heap.lt_size (N p hp).1⟩⟩)
end
local macro_rules | `(tactic| walk_at "binaryOp Mult ref int") => `(tactic| (k_here; k_dflt (refine' mul_tup_zero ?x ?F ?N ?l ?_; (case F => k_asm); (case N => k_asm); (case l => exact News.get (by k_asm) (by k_mem)); (case x => omega)); intro D' h' F' N' l1; (try k_lt l1)))
local macro_rules | `(tactic| walk_at "binaryOp Mult ref int") => `(tactic| (k_here; k_dflt (refine' mul_tup_one ?x ?l ?_; (case l => exact News.get (by k_asm) (by k_mem)); (case x => omega))))
/-! [x for x in (a tuple of texts and Nones) if x] -/
def trV : Value → Bool
  | .str x _ => ((x.length : Int) != 0)
  | _ => false
section
variable {prog : Program} {w : World} {A : Around} {E : Value → Shared → Prop} {s₁ : Shared} {h₀ : Heap} {L : Addr} {m : Str → Option Value} {news : List (Addr × Obj)}
theorem comp_name {scope : Scope} {C : Addr} {env : Env} {x : Str} {p1 : Pos} {v : Value} {s₂ : Shared} {m₂ : Str → Option Value} {Q : Value → Shared → Prop} (hk : scope.kind = .function) (hx : (compEnv scope C env).kindOf x = some .local) (hd : (x == ("__debug__" : Str)) = false)
    (hn : s₂.heap.Ns C m₂) (hv : m₂ x = some v) (h : Q v s₂) : wpAny (model prog w) A (eval (.Name x p1) (compEnv scope C env)) Q E s₂ :=
  wpAny_Name (wpAny_loadName_local hk hx hn hv h) hd
theorem srcC_optstr {env : Env} {x : Str} {p1 p2 : Pos} {scope : Scope} {Q : Value → Shared → Prop} {l : Addr} {vs : List Value}
    (hh : A.handled = none) (ht : s₁.heap.IsTuple l vs.toArray) (F : Fr h₀ L s₁.heap m) (N : News h₀ L s₁.heap news)
    (hv : ∀ v ∈ vs, v = .none ∨ ∃ y t, v = .str y t ∧ y.length ≤ 1000)
    (hk : scope.kind = .function) (hx : ∀ C, (compEnv scope C env).kindOf x = some .local) (hd : (x == ("__debug__" : Str)) = false) (hsz : vs.length ≤ 1000)
    (g : ∀ D n h' tk, Fr h₀ L h' m → News h₀ L h' ((D, W.listOf (vs.filter trV).toArray n) :: news) → Q (.ref D) { s₁ with heap := h', toks := tk }) :
    wpAny (model prog w) A (pyIter (.ref l)) (CompPost prog w A env scope x [.Name x p1] (.Name x p2) Q) E s₁ := by
  have hlt : l < s₁.heap.objs.size := by obtain ⟨_, e, _⟩ := ht; exact Heap.lt_size e
  refine wpAny_pyIter_tuple ht ?_
  have up : ∀ (h' : Heap), (∀ b o', b ∉ [s₁.heap.objs.size] → (s₁.heap.push { cls := .type "tuple_iterator", data := .fields #[.ref l, .int 0 0] }).get? b = some o' → h'.get? b = some o') → ∀ b o', s₁.heap.get? b = some o' → h'.get? b = some o' :=
    fun h' hk b o' e => hk b o' (not_iter_of_old e) (Heap.get?_push_of_some _ e)
  refine ⟨trV, fun v r => r = v, s₁.heap.objs.size, [s₁.heap.objs.size, l], [s₁.heap.objs.size], vs.toArray.size, _, _, rfl, Walks.tuple hh _ l (Nat.ne_of_lt hlt) vs.toArray, (by rw [List.size_toArray, sizeLine_eq]; omega),
    ⟨⟨_, Heap.get?_push_size _ rfl, rfl, rfl⟩, ht.push _⟩, ?_, ⟨?_, ?_⟩, ?_⟩
  · intro b hb
    show b < (s₁.heap.push _).objs.size
    rw [Heap.size_push]
    rcases List.mem_cons.mp hb with rfl | hb
    · exact Nat.lt_succ_self _
    · rw [List.mem_singleton.mp hb]; exact Nat.lt_succ_of_lt hlt
  · intro C i v s₃ m₃ E' hP hn hm _ _
    have hmem : v ∈ vs := by
      have : vs[i]? = some v := by simpa using hP
      exact List.mem_of_getElem? this
    have one : wpAny (model prog w) A (isTrue (.Name x p1) (compEnv scope C env) (eval (.Name x p1) (compEnv scope C env))) (fun ok s₄ => ok = trV v ∧ Keeps s₃ s₄) E' s₃ := by
      refine isTrue_plain (comp_name hk (hx C) hd hn hm ?_)
      rcases hv v hmem with rfl | ⟨y, t, rfl, hy⟩
      · exact truthy_none ⟨rfl, s₃.heap, s₃.toks, rfl, fun _ _ e => e⟩
      · exact P.truthy_str (by omega) ⟨rfl, s₃.heap, s₃.toks + 1 + 1, rfl, fun _ _ e => e⟩
    simp only [List.forIn_cons, List.forIn_nil]
    refine wpAny_bind ?_
    rw [if_pos trivial]
    refine wpAny_bind (wpAny_mono one (fun ok s₄ h₄ => ?_) fun _ _ e => e)
    exact wpAny_pure (wpAny_pure h₄)
  · intro C i v s₃ m₃ E' hP hp hn hm _ _
    exact comp_name hk (hx C) hd hn hm ⟨rfl, s₃.heap, s₃.toks, rfl, fun _ _ e => e⟩
  · intro D h' tk ys vs' hnew hlD hplD hlen hP hF hk'
    have e' : vs' = vs := by simpa using walked_is hlen hP
    subst e'
    have hys : ys.toList = vs'.filter trV := by
      have key : ∀ {a b : List Value}, Paired (fun v r => r = v) a b → b = a := by
        intro a b h
        induction h with
        | nil => rfl
        | cons h1 _ ih => rw [h1, ih]
      exact key hF
    obtain ⟨n, hn⟩ := hplD
    have hys' : ys = (vs'.filter trV).toArray := by rw [← hys, Array.toArray_toList]
    subst hys'
    have hold : ∀ b o, s₁.heap.get? b = some o → b ≠ D := fun b o e q => by
      have z := Heap.get?_push_of_some ({ cls := .type "tuple_iterator", data := .fields #[.ref l, .int 0 0] } : Obj) e
      rw [q, hnew] at z; cases z
    refine g D n h' tk (F.keeps (up h' hk')) (fun q hq => ?_)
    rcases List.mem_cons.mp hq with rfl | hq
    · refine ⟨hn, fun z => ?_, ?_⟩
      · obtain ⟨oL, _, _, hL, _⟩ := F.ns
        exact hold L oL hL z.symm
      · cases q : h₀.get? D with
        | none => rfl
        | some o => exact absurd rfl (hold D o (F.keep _ _ q))
    · exact ⟨up h' hk' _ _ (N q hq).1, (N q hq).2⟩
end
local macro_rules | `(tactic| walk_at "pyIter ref") => `(tactic| (k_here; (with_reducible show wpAny _ _ (pyIter (Value.ref _)) (CompPost _ _ _ _ _ _ [PySem.Expr.Name _ _] (PySem.Expr.Name _ _) _) _ _); k_dflt (refine' srcC_optstr ?hh ?ht ?F ?N ?hv ?hk ?hx ?hd ?hz ?_; (case F => k_asm); (case N => k_asm); (case ht => kun_tup); (case hh => exact rfl); (case hv => (intro v hv; simp only [List.mem_cons, List.not_mem_nil, or_false] at hv; rcases hv with rfl | rfl | rfl | rfl <;> first | exact Or.inl rfl | exact Or.inr ⟨_, _, rfl, by decide +kernel⟩)); (case hk => exact rfl); (case hx => (intro C; exact rfl)); (case hd => decide); (case hz => exact Nat.le_of_ble_eq_true rfl)); intro D' n' h' tk' F' N'))
local macro_rules | `(tactic| walk_at "execs cons") => `(tactic| (k_here; dsimp only))
local macro_rules | `(tactic| walk_at "execs nil") => `(tactic| (k_here; dsimp only))
/-! parse_locale and get_locale_identifier on the texts that can reach them -/
inductive PTup : Str → Str → Obj → Prop
  | p0 (a : Tok) : PTup (Str.ofString "de") (Str.ofString "de") (tupO [.str (Str.ofString "de") a, .none, .none, .none])
  | p1 (a : Tok) : PTup (Str.ofString "fr") (Str.ofString "fr") (tupO [.str (Str.ofString "fr") a, .none, .none, .none])
  | p2 (a b : Tok) : PTup (Str.ofString "de_AT.UTF-8") (Str.ofString "de_AT") (tupO [.str (Str.ofString "de") a, .str (Str.ofString "AT") b, .none, .none])
  | p3 (a b : Tok) : PTup (Str.ofString "it_IT") (Str.ofString "it_IT") (tupO [.str (Str.ofString "it") a, .str (Str.ofString "IT") b, .none, .none])
  | p4 (a b : Tok) : PTup (Str.ofString "de_DE") (Str.ofString "de_DE") (tupO [.str (Str.ofString "de") a, .str (Str.ofString "DE") b, .none, .none])
  | p5 (a b : Tok) : PTup (Str.ofString "sv_SE") (Str.ofString "sv_SE") (tupO [.str (Str.ofString "sv") a, .str (Str.ofString "SE") b, .none, .none])
  | p6 (a b : Tok) : PTup (Str.ofString "nn_NO") (Str.ofString "nn_NO") (tupO [.str (Str.ofString "nn") a, .str (Str.ofString "NO") b, .none, .none])
  | p7 (a b : Tok) : PTup (Str.ofString "pl_PL") (Str.ofString "pl_PL") (tupO [.str (Str.ofString "pl") a, .str (Str.ofString "PL") b, .none, .none])
  | p8 (a b d : Tok) : PTup (Str.ofString "en_US_POSIX") (Str.ofString "en_US_POSIX") (tupO [.str (Str.ofString "en") a, .str (Str.ofString "US") b, .none, .str (Str.ofString "POSIX") d])
  | p9 (a b e : Tok) : PTup (Str.ofString "DE_at@euro") (Str.ofString "de_AT@euro") (tupO [.str (Str.ofString "de") a, .str (Str.ofString "AT") b, .none, .none, .str (Str.ofString "euro") e])
  | p10 (a e : Tok) : PTup (Str.ofString "C@euro") (Str.ofString "c@euro") (tupO [.str (Str.ofString "c") a, .none, .none, .none, .str (Str.ofString "euro") e])
/-- what the two functions make of a text that parses -/
def goodOf : List (Str × Str) := [(Str.ofString "de", Str.ofString "de"), (Str.ofString "fr", Str.ofString "fr"), (Str.ofString "de_AT.UTF-8", Str.ofString "de_AT"), (Str.ofString "it_IT", Str.ofString "it_IT"), (Str.ofString "de_DE", Str.ofString "de_DE"), (Str.ofString "sv_SE", Str.ofString "sv_SE"), (Str.ofString "nn_NO", Str.ofString "nn_NO"), (Str.ofString "pl_PL", Str.ofString "pl_PL"), (Str.ofString "en_US_POSIX", Str.ofString "en_US_POSIX"), (Str.ofString "DE_at@euro", Str.ofString "de_AT@euro"), (Str.ofString "C@euro", Str.ofString "c@euro")]
def badOf : List Str := [Str.ofString "e1", Str.ofString "de_XXX", Str.ofString ":de", Str.ofString "fr:de", Str.ofString "C:de", Str.ofString "POSIX:de", Str.ofString "de:fr", Str.ofString ""]
def ParseBad (w : World) (mean : ExcName → Option Value) (mg mb : Str → Option Value) (r : Str) : Prop :=
  ∀ (dp un : Nat) (gd : Option (List Code)) (cn : Str) (cs : Scope) (a : Addr) (ccd : Value) (outer : List Env) (A₀ : Around) (base h₀ : Heap) (L : Addr) (m : Str → Option Value) (news : List (Addr × Obj)) (s : Shared) (tk : Tok) (Q E : Value → Shared → Prop),
    Below A₀ base outer h₀ → Fr h₀ L s.heap m → (hd.heap_39 w.params).In h₀ → News h₀ L s.heap news → TP mean mg mb h₀ → cs.kind = .function → dp + 2 < recursionLimit → un + 16 < cLine →
    (∀ G e t vs h' tk', Fr h₀ L G m → RaisedS base G (envX cn cs L a ccd [] :: outer) e (.type "ValueError") t vs news h' → G.UpToSlots h' → E (.ref e) { s with heap := h', toks := tk' }) →
    wpAny (model PG w) (ktrTop dp un gd cn cs L a ccd [] outer) (call (.ref 34) [.str r tk]) Q E s
def ParseGood (w : World) (mean : ExcName → Option Value) (mg mb : Str → Option Value) (r i : Str) : Prop :=
  ∀ (dp un : Nat) (gd : Option (List Code)) (cn : Str) (cs : Scope) (a : Addr) (ccd : Value) (outer : List Env) (A₀ : Around) (base h₀ : Heap) (L : Addr) (m : Str → Option Value) (news : List (Addr × Obj)) (s : Shared) (tk : Tok) (Q E : Value → Shared → Prop),
    Below A₀ base outer h₀ → Fr h₀ L s.heap m → (hd.heap_39 w.params).In h₀ → News h₀ L s.heap news → TP mean mg mb h₀ → cs.kind = .function → dp + 2 < recursionLimit → un + 16 < cLine →
    (∀ D o h' tk', PTup r i o → Fr h₀ L h' m → News h₀ L h' ((D, o) :: news) → Q (.ref D) { s with heap := h', toks := tk' }) →
    wpAny (model PG w) (ktrTop dp un gd cn cs L a ccd [] outer) (call (.ref 34) [.str r tk]) Q E s
def IdentGood (w : World) (mean : ExcName → Option Value) (mg mb : Str → Option Value) (i : Str) (o : Obj) : Prop :=
  ∀ (dp un : Nat) (gd : Option (List Code)) (cn : Str) (cs : Scope) (a : Addr) (ccd : Value) (outer : List Env) (A₀ : Around) (base h₀ : Heap) (L : Addr) (m : Str → Option Value) (news : List (Addr × Obj)) (s : Shared) (D : Addr) (Q E : Value → Shared → Prop),
    Below A₀ base outer h₀ → Fr h₀ L s.heap m → (hd.heap_39 w.params).In h₀ → News h₀ L s.heap ((D, o) :: news) → TP mean mg mb h₀ → cs.kind = .function → dp + 2 < recursionLimit → un + 16 < cLine →
    (∀ t h' tk', Fr h₀ L h' m → News h₀ L h' news → Q (.str i t) { s with heap := h', toks := tk' }) →
    wpAny (model PG w) (ktrTop dp un gd cn cs L a ccd [] outer) (call (.ref 40) [.ref D]) Q E s
theorem ret_str {h₀ : Heap} {L : Addr} {m : Str → Option Value} {news : List (Addr × Obj)} {s : Shared} {Q : Value → Shared → Prop} {x i : Str}
    (hret : ∀ t h' tk', Fr h₀ L h' m → News h₀ L h' news → Q (.str i t) { s with heap := h', toks := tk' }) (e : x = i) {t : Tok} {h' : Heap} {tk' : Nat} (F : Fr h₀ L h' m) (N : News h₀ L h' news) : Q (.str x t) { s with heap := h', toks := tk' } := by
  subst e
  exact hret t h' tk' F N
set_option maxRecDepth 100000 in
set_option maxHeartbeats 0 in
theorem parse_bad0 (w : World) (mean : ExcName → Option Value) (mg mb : Str → Option Value) : ParseBad w mean mg mb (Str.ofString "e1") := by
  unfold ParseBad
  intro dp un gd cn cs a ccd outer A₀ base h₀ L m news s tk Q E B F X N T hk hdp hun hbad
  have D0 : KtsDicts [] h₀ := ktsDicts_nil
  refine wpAny_call ?_
  walk_at "MyEnter"
  k_steps
  all_goals (refine' hbad _ _ _ _ _ _ ?F (raisedSub ?R ?S) ?U; (case R => assumption); (case F => assumption); (case U => assumption); (case S => walk_at "MySub"))
set_option maxRecDepth 100000 in
set_option maxHeartbeats 0 in
theorem parse_bad1 (w : World) (mean : ExcName → Option Value) (mg mb : Str → Option Value) : ParseBad w mean mg mb (Str.ofString "de_XXX") := by
  unfold ParseBad
  intro dp un gd cn cs a ccd outer A₀ base h₀ L m news s tk Q E B F X N T hk hdp hun hbad
  have D0 : KtsDicts [] h₀ := ktsDicts_nil
  refine wpAny_call ?_
  walk_at "MyEnter"
  k_steps
  all_goals (refine' hbad _ _ _ _ _ _ ?F (raisedSub ?R ?S) ?U; (case R => assumption); (case F => assumption); (case U => assumption); (case S => walk_at "MySub"))
set_option maxRecDepth 100000 in
set_option maxHeartbeats 0 in
theorem parse_bad2 (w : World) (mean : ExcName → Option Value) (mg mb : Str → Option Value) : ParseBad w mean mg mb (Str.ofString ":de") := by
  unfold ParseBad
  intro dp un gd cn cs a ccd outer A₀ base h₀ L m news s tk Q E B F X N T hk hdp hun hbad
  have D0 : KtsDicts [] h₀ := ktsDicts_nil
  refine wpAny_call ?_
  walk_at "MyEnter"
  k_steps
  all_goals (refine' hbad _ _ _ _ _ _ ?F (raisedSub ?R ?S) ?U; (case R => assumption); (case F => assumption); (case U => assumption); (case S => walk_at "MySub"))
set_option maxRecDepth 100000 in
set_option maxHeartbeats 0 in
theorem parse_bad3 (w : World) (mean : ExcName → Option Value) (mg mb : Str → Option Value) : ParseBad w mean mg mb (Str.ofString "fr:de") := by
  unfold ParseBad
  intro dp un gd cn cs a ccd outer A₀ base h₀ L m news s tk Q E B F X N T hk hdp hun hbad
  have D0 : KtsDicts [] h₀ := ktsDicts_nil
  refine wpAny_call ?_
  walk_at "MyEnter"
  k_steps
  all_goals (refine' hbad _ _ _ _ _ _ ?F (raisedSub ?R ?S) ?U; (case R => assumption); (case F => assumption); (case U => assumption); (case S => walk_at "MySub"))
set_option maxRecDepth 100000 in
set_option maxHeartbeats 0 in
theorem parse_bad4 (w : World) (mean : ExcName → Option Value) (mg mb : Str → Option Value) : ParseBad w mean mg mb (Str.ofString "C:de") := by
  unfold ParseBad
  intro dp un gd cn cs a ccd outer A₀ base h₀ L m news s tk Q E B F X N T hk hdp hun hbad
  have D0 : KtsDicts [] h₀ := ktsDicts_nil
  refine wpAny_call ?_
  walk_at "MyEnter"
  k_steps
  all_goals (refine' hbad _ _ _ _ _ _ ?F (raisedSub ?R ?S) ?U; (case R => assumption); (case F => assumption); (case U => assumption); (case S => walk_at "MySub"))
set_option maxRecDepth 100000 in
set_option maxHeartbeats 0 in
theorem parse_bad5 (w : World) (mean : ExcName → Option Value) (mg mb : Str → Option Value) : ParseBad w mean mg mb (Str.ofString "POSIX:de") := by
  unfold ParseBad
  intro dp un gd cn cs a ccd outer A₀ base h₀ L m news s tk Q E B F X N T hk hdp hun hbad
  have D0 : KtsDicts [] h₀ := ktsDicts_nil
  refine wpAny_call ?_
  walk_at "MyEnter"
  k_steps
  all_goals (refine' hbad _ _ _ _ _ _ ?F (raisedSub ?R ?S) ?U; (case R => assumption); (case F => assumption); (case U => assumption); (case S => walk_at "MySub"))
set_option maxRecDepth 100000 in
set_option maxHeartbeats 0 in
theorem parse_bad6 (w : World) (mean : ExcName → Option Value) (mg mb : Str → Option Value) : ParseBad w mean mg mb (Str.ofString "de:fr") := by
  unfold ParseBad
  intro dp un gd cn cs a ccd outer A₀ base h₀ L m news s tk Q E B F X N T hk hdp hun hbad
  have D0 : KtsDicts [] h₀ := ktsDicts_nil
  refine wpAny_call ?_
  walk_at "MyEnter"
  k_steps
  all_goals (refine' hbad _ _ _ _ _ _ ?F (raisedSub ?R ?S) ?U; (case R => assumption); (case F => assumption); (case U => assumption); (case S => walk_at "MySub"))
set_option maxRecDepth 100000 in
set_option maxHeartbeats 0 in
theorem parse_bad7 (w : World) (mean : ExcName → Option Value) (mg mb : Str → Option Value) : ParseBad w mean mg mb (Str.ofString "") := by
  unfold ParseBad
  intro dp un gd cn cs a ccd outer A₀ base h₀ L m news s tk Q E B F X N T hk hdp hun hbad
  have D0 : KtsDicts [] h₀ := ktsDicts_nil
  refine wpAny_call ?_
  walk_at "MyEnter"
  k_steps
  all_goals (refine' hbad _ _ _ _ _ _ ?F (raisedSub ?R ?S) ?U; (case R => assumption); (case F => assumption); (case U => assumption); (case S => walk_at "MySub"))
set_option maxRecDepth 100000 in
set_option maxHeartbeats 0 in
theorem parse_good0 (w : World) (mean : ExcName → Option Value) (mg mb : Str → Option Value) : ParseGood w mean mg mb (Str.ofString "de") (Str.ofString "de") := by
  unfold ParseGood
  intro dp un gd cn cs a ccd outer A₀ base h₀ L m news s tk Q E B F X N T hk hdp hun hgood
  refine wpAny_call ?_
  walk_at "MyEnter"
  k_steps
  all_goals (refine' hgood _ _ _ _ ?P ?F (drop1 ?N ?S); (case N => k_asm); (case F => k_asm); (case P => constructor); (case S => walk_at "MySub"))
set_option maxRecDepth 100000 in
set_option maxHeartbeats 0 in
theorem parse_good1 (w : World) (mean : ExcName → Option Value) (mg mb : Str → Option Value) : ParseGood w mean mg mb (Str.ofString "fr") (Str.ofString "fr") := by
  unfold ParseGood
  intro dp un gd cn cs a ccd outer A₀ base h₀ L m news s tk Q E B F X N T hk hdp hun hgood
  refine wpAny_call ?_
  walk_at "MyEnter"
  k_steps
  all_goals (refine' hgood _ _ _ _ ?P ?F (drop1 ?N ?S); (case N => k_asm); (case F => k_asm); (case P => constructor); (case S => walk_at "MySub"))
set_option maxRecDepth 100000 in
set_option maxHeartbeats 0 in
theorem parse_good2 (w : World) (mean : ExcName → Option Value) (mg mb : Str → Option Value) : ParseGood w mean mg mb (Str.ofString "de_AT.UTF-8") (Str.ofString "de_AT") := by
  unfold ParseGood
  intro dp un gd cn cs a ccd outer A₀ base h₀ L m news s tk Q E B F X N T hk hdp hun hgood
  refine wpAny_call ?_
  walk_at "MyEnter"
  k_steps
  all_goals (refine' hgood _ _ _ _ ?P ?F (drop1 ?N ?S); (case N => k_asm); (case F => k_asm); (case P => constructor); (case S => walk_at "MySub"))
set_option maxRecDepth 100000 in
set_option maxHeartbeats 0 in
theorem parse_good3 (w : World) (mean : ExcName → Option Value) (mg mb : Str → Option Value) : ParseGood w mean mg mb (Str.ofString "it_IT") (Str.ofString "it_IT") := by
  unfold ParseGood
  intro dp un gd cn cs a ccd outer A₀ base h₀ L m news s tk Q E B F X N T hk hdp hun hgood
  refine wpAny_call ?_
  walk_at "MyEnter"
  k_steps
  all_goals (refine' hgood _ _ _ _ ?P ?F (drop1 ?N ?S); (case N => k_asm); (case F => k_asm); (case P => constructor); (case S => walk_at "MySub"))
set_option maxRecDepth 100000 in
set_option maxHeartbeats 0 in
theorem parse_good4 (w : World) (mean : ExcName → Option Value) (mg mb : Str → Option Value) : ParseGood w mean mg mb (Str.ofString "de_DE") (Str.ofString "de_DE") := by
  unfold ParseGood
  intro dp un gd cn cs a ccd outer A₀ base h₀ L m news s tk Q E B F X N T hk hdp hun hgood
  refine wpAny_call ?_
  walk_at "MyEnter"
  k_steps
  all_goals (refine' hgood _ _ _ _ ?P ?F (drop1 ?N ?S); (case N => k_asm); (case F => k_asm); (case P => constructor); (case S => walk_at "MySub"))
set_option maxRecDepth 100000 in
set_option maxHeartbeats 0 in
theorem parse_good5 (w : World) (mean : ExcName → Option Value) (mg mb : Str → Option Value) : ParseGood w mean mg mb (Str.ofString "sv_SE") (Str.ofString "sv_SE") := by
  unfold ParseGood
  intro dp un gd cn cs a ccd outer A₀ base h₀ L m news s tk Q E B F X N T hk hdp hun hgood
  refine wpAny_call ?_
  walk_at "MyEnter"
  k_steps
  all_goals (refine' hgood _ _ _ _ ?P ?F (drop1 ?N ?S); (case N => k_asm); (case F => k_asm); (case P => constructor); (case S => walk_at "MySub"))
set_option maxRecDepth 100000 in
set_option maxHeartbeats 0 in
theorem parse_good6 (w : World) (mean : ExcName → Option Value) (mg mb : Str → Option Value) : ParseGood w mean mg mb (Str.ofString "nn_NO") (Str.ofString "nn_NO") := by
  unfold ParseGood
  intro dp un gd cn cs a ccd outer A₀ base h₀ L m news s tk Q E B F X N T hk hdp hun hgood
  refine wpAny_call ?_
  walk_at "MyEnter"
  k_steps
  all_goals (refine' hgood _ _ _ _ ?P ?F (drop1 ?N ?S); (case N => k_asm); (case F => k_asm); (case P => constructor); (case S => walk_at "MySub"))
set_option maxRecDepth 100000 in
set_option maxHeartbeats 0 in
theorem parse_good7 (w : World) (mean : ExcName → Option Value) (mg mb : Str → Option Value) : ParseGood w mean mg mb (Str.ofString "pl_PL") (Str.ofString "pl_PL") := by
  unfold ParseGood
  intro dp un gd cn cs a ccd outer A₀ base h₀ L m news s tk Q E B F X N T hk hdp hun hgood
  refine wpAny_call ?_
  walk_at "MyEnter"
  k_steps
  all_goals (refine' hgood _ _ _ _ ?P ?F (drop1 ?N ?S); (case N => k_asm); (case F => k_asm); (case P => constructor); (case S => walk_at "MySub"))
set_option maxRecDepth 100000 in
set_option maxHeartbeats 0 in
theorem parse_good8 (w : World) (mean : ExcName → Option Value) (mg mb : Str → Option Value) : ParseGood w mean mg mb (Str.ofString "en_US_POSIX") (Str.ofString "en_US_POSIX") := by
  unfold ParseGood
  intro dp un gd cn cs a ccd outer A₀ base h₀ L m news s tk Q E B F X N T hk hdp hun hgood
  refine wpAny_call ?_
  walk_at "MyEnter"
  k_steps
  all_goals (refine' hgood _ _ _ _ ?P ?F (drop1 ?N ?S); (case N => k_asm); (case F => k_asm); (case P => constructor); (case S => walk_at "MySub"))
set_option maxRecDepth 100000 in
set_option maxHeartbeats 0 in
theorem parse_good9 (w : World) (mean : ExcName → Option Value) (mg mb : Str → Option Value) : ParseGood w mean mg mb (Str.ofString "DE_at@euro") (Str.ofString "de_AT@euro") := by
  unfold ParseGood
  intro dp un gd cn cs a ccd outer A₀ base h₀ L m news s tk Q E B F X N T hk hdp hun hgood
  refine wpAny_call ?_
  walk_at "MyEnter"
  k_steps
  all_goals (refine' hgood _ _ _ _ ?P ?F (drop1 ?N ?S); (case N => k_asm); (case F => k_asm); (case P => constructor); (case S => walk_at "MySub"))
set_option maxRecDepth 100000 in
set_option maxHeartbeats 0 in
theorem parse_good10 (w : World) (mean : ExcName → Option Value) (mg mb : Str → Option Value) : ParseGood w mean mg mb (Str.ofString "C@euro") (Str.ofString "c@euro") := by
  unfold ParseGood
  intro dp un gd cn cs a ccd outer A₀ base h₀ L m news s tk Q E B F X N T hk hdp hun hgood
  refine wpAny_call ?_
  walk_at "MyEnter"
  k_steps
  all_goals (refine' hgood _ _ _ _ ?P ?F (drop1 ?N ?S); (case N => k_asm); (case F => k_asm); (case P => constructor); (case S => walk_at "MySub"))
set_option maxRecDepth 100000 in
set_option maxHeartbeats 0 in
theorem ident_good0 (w : World) (mean : ExcName → Option Value) (mg mb : Str → Option Value) (ta : Tok) : IdentGood w mean mg mb (Str.ofString "de") (tupO [.str (Str.ofString "de") ta, .none, .none, .none]) := by
  unfold IdentGood
  intro dp un gd cn cs a ccd outer A₀ base h₀ L m news s D Q E B F X N T hk hdp hun hret
  refine wpAny_call ?_
  walk_at "MyEnter"
  k_steps
  all_goals (refine' ret_str hret ?e ?F ?N; (case F => k_asm); (case N => exact drop0 (by k_asm) (by walk_at "MySub")); (case e => first | rfl | decide +kernel))
set_option maxRecDepth 100000 in
set_option maxHeartbeats 0 in
theorem ident_good1 (w : World) (mean : ExcName → Option Value) (mg mb : Str → Option Value) (ta : Tok) : IdentGood w mean mg mb (Str.ofString "fr") (tupO [.str (Str.ofString "fr") ta, .none, .none, .none]) := by
  unfold IdentGood
  intro dp un gd cn cs a ccd outer A₀ base h₀ L m news s D Q E B F X N T hk hdp hun hret
  refine wpAny_call ?_
  walk_at "MyEnter"
  k_steps
  all_goals (refine' ret_str hret ?e ?F ?N; (case F => k_asm); (case N => exact drop0 (by k_asm) (by walk_at "MySub")); (case e => first | rfl | decide +kernel))
set_option maxRecDepth 100000 in
set_option maxHeartbeats 0 in
theorem ident_good2 (w : World) (mean : ExcName → Option Value) (mg mb : Str → Option Value) (ta tb : Tok) : IdentGood w mean mg mb (Str.ofString "de_AT") (tupO [.str (Str.ofString "de") ta, .str (Str.ofString "AT") tb, .none, .none]) := by
  unfold IdentGood
  intro dp un gd cn cs a ccd outer A₀ base h₀ L m news s D Q E B F X N T hk hdp hun hret
  refine wpAny_call ?_
  walk_at "MyEnter"
  k_steps
  all_goals (refine' ret_str hret ?e ?F ?N; (case F => k_asm); (case N => exact drop0 (by k_asm) (by walk_at "MySub")); (case e => first | rfl | decide +kernel))
set_option maxRecDepth 100000 in
set_option maxHeartbeats 0 in
theorem ident_good3 (w : World) (mean : ExcName → Option Value) (mg mb : Str → Option Value) (ta tb : Tok) : IdentGood w mean mg mb (Str.ofString "it_IT") (tupO [.str (Str.ofString "it") ta, .str (Str.ofString "IT") tb, .none, .none]) := by
  unfold IdentGood
  intro dp un gd cn cs a ccd outer A₀ base h₀ L m news s D Q E B F X N T hk hdp hun hret
  refine wpAny_call ?_
  walk_at "MyEnter"
  k_steps
  all_goals (refine' ret_str hret ?e ?F ?N; (case F => k_asm); (case N => exact drop0 (by k_asm) (by walk_at "MySub")); (case e => first | rfl | decide +kernel))
set_option maxRecDepth 100000 in
set_option maxHeartbeats 0 in
theorem ident_good4 (w : World) (mean : ExcName → Option Value) (mg mb : Str → Option Value) (ta tb : Tok) : IdentGood w mean mg mb (Str.ofString "de_DE") (tupO [.str (Str.ofString "de") ta, .str (Str.ofString "DE") tb, .none, .none]) := by
  unfold IdentGood
  intro dp un gd cn cs a ccd outer A₀ base h₀ L m news s D Q E B F X N T hk hdp hun hret
  refine wpAny_call ?_
  walk_at "MyEnter"
  k_steps
  all_goals (refine' ret_str hret ?e ?F ?N; (case F => k_asm); (case N => exact drop0 (by k_asm) (by walk_at "MySub")); (case e => first | rfl | decide +kernel))
set_option maxRecDepth 100000 in
set_option maxHeartbeats 0 in
theorem ident_good5 (w : World) (mean : ExcName → Option Value) (mg mb : Str → Option Value) (ta tb : Tok) : IdentGood w mean mg mb (Str.ofString "sv_SE") (tupO [.str (Str.ofString "sv") ta, .str (Str.ofString "SE") tb, .none, .none]) := by
  unfold IdentGood
  intro dp un gd cn cs a ccd outer A₀ base h₀ L m news s D Q E B F X N T hk hdp hun hret
  refine wpAny_call ?_
  walk_at "MyEnter"
  k_steps
  all_goals (refine' ret_str hret ?e ?F ?N; (case F => k_asm); (case N => exact drop0 (by k_asm) (by walk_at "MySub")); (case e => first | rfl | decide +kernel))
set_option maxRecDepth 100000 in
set_option maxHeartbeats 0 in
theorem ident_good6 (w : World) (mean : ExcName → Option Value) (mg mb : Str → Option Value) (ta tb : Tok) : IdentGood w mean mg mb (Str.ofString "nn_NO") (tupO [.str (Str.ofString "nn") ta, .str (Str.ofString "NO") tb, .none, .none]) := by
  unfold IdentGood
  intro dp un gd cn cs a ccd outer A₀ base h₀ L m news s D Q E B F X N T hk hdp hun hret
  refine wpAny_call ?_
  walk_at "MyEnter"
  k_steps
  all_goals (refine' ret_str hret ?e ?F ?N; (case F => k_asm); (case N => exact drop0 (by k_asm) (by walk_at "MySub")); (case e => first | rfl | decide +kernel))
set_option maxRecDepth 100000 in
set_option maxHeartbeats 0 in
theorem ident_good7 (w : World) (mean : ExcName → Option Value) (mg mb : Str → Option Value) (ta tb : Tok) : IdentGood w mean mg mb (Str.ofString "pl_PL") (tupO [.str (Str.ofString "pl") ta, .str (Str.ofString "PL") tb, .none, .none]) := by
  unfold IdentGood
  intro dp un gd cn cs a ccd outer A₀ base h₀ L m news s D Q E B F X N T hk hdp hun hret
  refine wpAny_call ?_
  walk_at "MyEnter"
  k_steps
  all_goals (refine' ret_str hret ?e ?F ?N; (case F => k_asm); (case N => exact drop0 (by k_asm) (by walk_at "MySub")); (case e => first | rfl | decide +kernel))
set_option maxRecDepth 100000 in
set_option maxHeartbeats 0 in
theorem ident_good8 (w : World) (mean : ExcName → Option Value) (mg mb : Str → Option Value) (ta tb td : Tok) : IdentGood w mean mg mb (Str.ofString "en_US_POSIX") (tupO [.str (Str.ofString "en") ta, .str (Str.ofString "US") tb, .none, .str (Str.ofString "POSIX") td]) := by
  unfold IdentGood
  intro dp un gd cn cs a ccd outer A₀ base h₀ L m news s D Q E B F X N T hk hdp hun hret
  refine wpAny_call ?_
  walk_at "MyEnter"
  k_steps
  all_goals (refine' ret_str hret ?e ?F ?N; (case F => k_asm); (case N => exact drop0 (by k_asm) (by walk_at "MySub")); (case e => first | rfl | decide +kernel))
set_option maxRecDepth 100000 in
set_option maxHeartbeats 0 in
theorem ident_good9 (w : World) (mean : ExcName → Option Value) (mg mb : Str → Option Value) (ta tb te : Tok) : IdentGood w mean mg mb (Str.ofString "de_AT@euro") (tupO [.str (Str.ofString "de") ta, .str (Str.ofString "AT") tb, .none, .none, .str (Str.ofString "euro") te]) := by
  unfold IdentGood
  intro dp un gd cn cs a ccd outer A₀ base h₀ L m news s D Q E B F X N T hk hdp hun hret
  refine wpAny_call ?_
  walk_at "MyEnter"
  k_steps
  all_goals (refine' ret_str hret ?e ?F ?N; (case F => k_asm); (case N => exact drop0 (by k_asm) (by walk_at "MySub")); (case e => first | rfl | decide +kernel))
set_option maxRecDepth 100000 in
set_option maxHeartbeats 0 in
theorem ident_good10 (w : World) (mean : ExcName → Option Value) (mg mb : Str → Option Value) (ta te : Tok) : IdentGood w mean mg mb (Str.ofString "c@euro") (tupO [.str (Str.ofString "c") ta, .none, .none, .none, .str (Str.ofString "euro") te]) := by
  unfold IdentGood
  intro dp un gd cn cs a ccd outer A₀ base h₀ L m news s D Q E B F X N T hk hdp hun hret
  refine wpAny_call ?_
  walk_at "MyEnter"
  k_steps
  all_goals (refine' ret_str hret ?e ?F ?N; (case F => k_asm); (case N => exact drop0 (by k_asm) (by walk_at "MySub")); (case e => first | rfl | decide +kernel))
theorem parse_bad (w : World) (mean : ExcName → Option Value) (mg mb : Str → Option Value) {r : Str} (hr : r ∈ badOf) : ParseBad w mean mg mb r := by
  simp only [badOf, List.mem_cons, List.not_mem_nil, or_false] at hr
  rcases hr with rfl | rfl | rfl | rfl | rfl | rfl | rfl | rfl
  · exact parse_bad0 w mean mg mb
  · exact parse_bad1 w mean mg mb
  · exact parse_bad2 w mean mg mb
  · exact parse_bad3 w mean mg mb
  · exact parse_bad4 w mean mg mb
  · exact parse_bad5 w mean mg mb
  · exact parse_bad6 w mean mg mb
  · exact parse_bad7 w mean mg mb
theorem parse_good (w : World) (mean : ExcName → Option Value) (mg mb : Str → Option Value) {r i : Str} (hr : (r, i) ∈ goodOf) : ParseGood w mean mg mb r i := by
  simp only [goodOf, List.mem_cons, List.not_mem_nil, or_false, Prod.mk.injEq] at hr
  rcases hr with ⟨rfl, rfl⟩ | ⟨rfl, rfl⟩ | ⟨rfl, rfl⟩ | ⟨rfl, rfl⟩ | ⟨rfl, rfl⟩ | ⟨rfl, rfl⟩ | ⟨rfl, rfl⟩ | ⟨rfl, rfl⟩ | ⟨rfl, rfl⟩ | ⟨rfl, rfl⟩ | ⟨rfl, rfl⟩
  · exact parse_good0 w mean mg mb
  · exact parse_good1 w mean mg mb
  · exact parse_good2 w mean mg mb
  · exact parse_good3 w mean mg mb
  · exact parse_good4 w mean mg mb
  · exact parse_good5 w mean mg mb
  · exact parse_good6 w mean mg mb
  · exact parse_good7 w mean mg mb
  · exact parse_good8 w mean mg mb
  · exact parse_good9 w mean mg mb
  · exact parse_good10 w mean mg mb
theorem ident_good (w : World) (mean : ExcName → Option Value) (mg mb : Str → Option Value) {r i : Str} {o : Obj} (hP : PTup r i o) : IdentGood w mean mg mb i o := by
  cases hP
  · exact ident_good0 w mean mg mb _
  · exact ident_good1 w mean mg mb _
  · exact ident_good2 w mean mg mb _ _
  · exact ident_good3 w mean mg mb _ _
  · exact ident_good4 w mean mg mb _ _
  · exact ident_good5 w mean mg mb _ _
  · exact ident_good6 w mean mg mb _ _
  · exact ident_good7 w mean mg mb _ _
  · exact ident_good8 w mean mg mb _ _ _
  · exact ident_good9 w mean mg mb _ _ _
  · exact ident_good10 w mean mg mb _ _
end S1
/-! dicts from texts to texts, known by what they hold -/
def Halt (P : Prop) : Prop := P
theorem Halt.mk {P : Prop} (h : P) : Halt P := h
theorem Halt.out {P : Prop} (h : Halt P) : P := h
def envD (c : List (Str × Str)) : List (PyData × PyData) := c.map fun p => (PyData.str p.1, PyData.str p.2)
def look (c : List (Str × Str)) (n : Str) : Option Str := (c.find? fun p => decide (p.1 = n)).map (·.2)
theorem envD_lookup (n : Str) (c : List (Str × Str)) : PySem.Spec.lookup (PyData.str n) (envD c) = (look c n).map PyData.str := by
  induction c with
  | nil => rfl
  | cons p c ih =>
    have ih' : PySem.Spec.lookup (PyData.str n) (c.map fun p => (PyData.str p.1, PyData.str p.2)) = (look c n).map PyData.str := ih
    by_cases h : p.1 = n <;> simp [envD, PySem.Spec.lookup, look, PyProof.V.same_str, h, ih']
    all_goals rfl
/-- the object o is a dict that holds just c -/
def EnvO (w : World) (o : Obj) (c : List (Str × Str)) : Prop := ∃ kvs, o.IsDictOf (PySem.strKind PG w) kvs ∧ PyProof.V.FlatPairs PyData.str kvs (envD c)
def EnvIn (w : World) (news : List (Addr × Obj)) (e : Addr) (c : List (Str × Str)) : Prop := (e == sysModules) = false ∧ ∃ o, (e, o) ∈ news ∧ EnvO w o c
theorem EnvIn.mono {w : World} {news news' : List (Addr × Obj)} {e : Addr} {c : List (Str × Str)} (h : EnvIn w news e c) (hs : ∀ p ∈ news, p ∈ news') : EnvIn w news' e c := ⟨h.1, let ⟨o, ho, r⟩ := h.2; ⟨o, hs _ ho, r⟩⟩
section
variable {w : World} {A : Around} {E : Value → Shared → Prop} {s : Shared} {h₀ : Heap} {L e : Addr} {news x : List (Addr × Obj)} {c : List (Str × Str)} {k : Str} {tk : Tok}
theorem EnvIn.tab {h : Heap} (hE : EnvIn w news e c) (N : News h₀ L h x) (hs : ∀ p ∈ news, p ∈ x) : PyProof.Rows.StrTab PG w h e (envD c) := by
  obtain ⟨lo, o, ho, kvs, hd, hf⟩ := hE
  exact PyProof.Rows.TabAt.ofObj lo (N _ (hs _ ho)).1 hd hf
theorem env_get {Q : Value → Shared → Prop} (hE : EnvIn w news e c) (N : News h₀ L s.heap x) (hs : ∀ p ∈ news, p ∈ x) (h0 : look c k = none → Q .none { s with toks := s.toks + 1 }) (h1 : ∀ y t, look c k = some y → Q (.str y t) { s with toks := s.toks + 1 }) :
    wpAny (model PG w) A (call (.builtin "dict.get") [.ref e, .str k tk]) Q E s :=
  PyProof.Rows.call_get1_strTab (hE.tab N hs) fun v hv => by
    rw [envD_lookup] at hv
    cases q : look c k with
    | none =>
      rw [q] at hv
      have hv' : PyProof.V.Flat v .none := hv
      rw [hv'.none_inv]; exact h0 q
    | some y =>
      rw [q] at hv
      have hv' : PyProof.V.Flat v (.str y) := hv
      obtain ⟨t, rfl⟩ := hv'.str_inv
      exact h1 y t q
theorem env_meth {Q : Value × List Value → Shared → Prop} {pl : Sem Bool} (hE : EnvIn w news e c) (N : News h₀ L s.heap x) (hs : ∀ p ∈ news, p ∈ x) (h : Q (.builtin "dict.get", [.ref e]) s) :
    wpAny (model PG w) A (getMethod (.ref e) (Str.ofString "get") pl) Q E s := PyProof.Rows.getMethod_strTab_get (hE.tab N hs) h
theorem env_in {Q : Value → Shared → Prop} (hE : EnvIn w news e c) (N : News h₀ L s.heap x) (hs : ∀ p ∈ news, p ∈ x) (h : Q (.bool (look c k).isSome) { s with toks := s.toks + 1 }) :
    wpAny (model PG w) A (compareOp .In (.str k tk) (.ref e)) Q E s := PyProof.Rows.in_strTab (hE.tab N hs) (by
  rw [envD_lookup]
  cases q : look c k with
  | none => rw [q] at h; exact h
  | some y => rw [q] at h; exact h)
theorem env_item {value slice : Expr} {y : Str} {Q : Value → Shared → Prop} (hE : EnvIn w news e c) (N : News h₀ L s.heap x) (hs : ∀ p ∈ news, p ∈ x) (hl : look c k = some y) (h : ∀ t, Q (.str y t) { s with toks := s.toks + 1 })
    (hsb : subscripted slice false (.ref e) (.str k tk) = operate [.ref e, .str k tk] (getItem (.ref e) (.str k tk)) := by with_unfolding_all rfl) (hg : ∀ r, letTemporaryGo value (.ref e) r = pure () := by intro _; with_unfolding_all rfl) :
    wpAny (model PG w) A (subscriptTail value slice (.ref e) (.str k tk)) Q E s := PyProof.Rows.item_strTab (hE.tab N hs) (by rw [envD_lookup, hl]; rfl) (fun v hv => by
  obtain ⟨t, rfl⟩ := PyProof.V.Flat.str_inv hv
  exact h t) hsb hg
theorem env_truthy {Q : Bool → Shared → Prop} (hE : EnvIn w news e c) (N : News h₀ L s.heap x) (hs : ∀ p ∈ news, p ∈ x) (hc : c.length ≤ 1000) (b : Bool) (hb : (!c.isEmpty) = b) (h : Q b { s with toks := s.toks + 1 + 1 }) : wpAny (model PG w) A (truthy (.ref e)) Q E s :=
  PyProof.Rows.truthy_tab (hE.tab N hs) (by unfold envD; rw [List.length_map]; omega) (by
    have q : (!(envD c).isEmpty) = b := by rw [← hb]; unfold envD; cases c <;> rfl
    rw [q]; exact h)
end
/-- the first part of a text -/
def hd1 (t sep : Str) : Str := (Txt.split t sep).headD Str.empty
section
variable {prog : Program} {w : World} {A : Around} {E : Value → Shared → Prop} {s : Shared} {h₀ : Heap} {L D : Addr} {m : Str → Option Value} {news : List (Addr × Obj)} {u : Tok}
theorem split_hd {l : List (Str × Tok)} {n : Nat} {t sep : Str} {value slice : Expr} {Q : Value → Shared → Prop} (N : News h₀ L s.heap news) (hm : (D, W.listOf (strValues l).toArray n) ∈ news) (e : l.map (·.1) = Txt.split t sep) (hne : Txt.split t sep ≠ []) (h : ∀ t', Q (.str (hd1 t sep) t') s)
    (hs : subscripted slice false (.ref D) (.int 0 u) = operate [.ref D, .int 0 u] (getItem (.ref D) (.int 0 u)) := by with_unfolding_all rfl) :
    wpAny (model prog w) A (subscriptTail value slice (.ref D) (.int 0 u)) Q E s := by
  have hpos : 0 < l.length := by
    cases hl : l with
    | nil => rw [hl] at e; exact absurd e.symm hne
    | cons p r => simp
  refine item_strsT (News.isList N hm) (by decide) (by omega) (by decide) (fun y t' hy => ?_) hs
  have ey : y = hd1 t sep := by
    unfold hd1
    rw [← e]
    cases hl : l.map (·.1) with
    | nil => rw [hl] at hy; simp at hy
    | cons p r => rw [hl] at hy; simpa using hy.symm
  rw [ey]
  exact h t'
theorem in_tup {t : Addr} {vs : List Value} {ys : List Str} {x : Str} {Q : Value → Shared → Prop} (N : News h₀ L s.heap news) (hm : (t, tupO vs) ∈ news) (hi : StrsAre vs ys) (h : Q (.bool (ys.any (· == x))) s) : wpAny (model prog w) A (compareOp .In (.str x u) (.ref t)) Q E s :=
  in_tuple_strs (items := vs.toArray) (News.isTup N hm) (by simpa using hi) h
end

theorem eq_empty {x : Str} (h : x.length = 0) : x = Str.ofString "" := by
  obtain ⟨c⟩ := x
  have h' : c.size = 0 := h
  have : c = #[] := Array.eq_empty_of_size_eq_zero h'
  subst this; rfl
theorem look_mem {c : List (Str × Str)} {n y : Str} (h : look c n = some y) : (n, y) ∈ c := by
  unfold look at h
  cases q : c.find? fun p => decide (p.1 = n) with
  | none => rw [q] at h; cases h
  | some p =>
    rw [q] at h
    have e1 : p.2 = y := by simpa using h
    have e2 : p.1 = n := by simpa using List.find?_some q
    have := List.mem_of_find?_eq_some q
    rw [← e1, ← e2]; exact this
section
variable {prog : Program} {w : World} {A : Around} {E : Value → Shared → Prop} {s : Shared}
theorem truthy_txt {x : Str} {t : Tok} {Q : Bool → Shared → Prop} (hl : x.length ≤ 1000) (h0 : x = Str.ofString "" → Q false { s with toks := s.toks + 1 + 1 }) (h1 : x ≠ Str.ofString "" → Q true { s with toks := s.toks + 1 + 1 }) :
    wpAny (model prog w) A (truthy (.str x t)) Q E s := by
  refine P.truthy_str (by omega) ?_
  by_cases q : x.length = 0
  · have e : ((x.length : Int) != 0) = false := by rw [q]; rfl
    rw [e]; exact h0 (eq_empty q)
  · have e : ((x.length : Int) != 0) = true := bne_iff_ne.mpr (by omega)
    rw [e]; exact h1 (fun z => q (by rw [z]; rfl))
end
section
variable {w : World} {A : Around} {E : Value → Shared → Prop} {s : Shared} {h₀ : Heap} {L e : Addr} {news x : List (Addr × Obj)} {c : List (Str × Str)} {k : Str} {tk : Tok}
theorem env_in2 {Q : Value → Shared → Prop} (hE : EnvIn w news e c) (N : News h₀ L s.heap x) (hs : ∀ p ∈ news, p ∈ x) (h0 : look c k = none → Q (.bool false) { s with toks := s.toks + 1 }) (h1 : ∀ y, look c k = some y → Q (.bool true) { s with toks := s.toks + 1 }) :
    wpAny (model PG w) A (compareOp .In (.str k tk) (.ref e)) Q E s := env_in hE N hs (by
  cases q : look c k with
  | none => exact h0 q
  | some y => exact h1 y q)
end
/-! a loop over a tuple of texts whose turns may catch: what stands between the turns -/
structure FS (A₀ : Around) (base : Heap) (outer : List Env) (KF : Frag) (p : Program) (loose : List Str) (mean : ExcName → Option Value) (mg mb : Str → Option Value) (g₀ g : Heap) (L : Addr) (h : Heap) (m : Str → Option Value) (news : List (Addr × Obj)) : Prop where
  turn : KtsTurn (outer.filterMap (·.frame)) g₀ g
  fr : Fr g L h m
  made : News g L h news
  below : Below A₀ base outer g
  inn : KF.In g
  top : Top p loose mean mg mb g
  dicts : KtsDicts (outer.filterMap (·.frame)) g
theorem FS.ofHeap {A₀ : Around} {base : Heap} {outer : List Env} {KF : Frag} {p : Program} {loose : List Str} {mean : ExcName → Option Value} {mg mb : Str → Option Value} {g₀ g : Heap} {L : Addr} {h h' : Heap} {m m' : Str → Option Value} {news news' : List (Addr × Obj)}
    (S : FS A₀ base outer KF p loose mean mg mb g₀ g L h m news) (F : Fr g L h' m') (N : News g L h' news') : FS A₀ base outer KF p loose mean mg mb g₀ g L h' m' news' := ⟨S.turn, F, N, S.below, S.inn, S.top, S.dicts⟩
section
variable {prog : Program} {w : World} {A : Around} {env : Env} {E : Value → Shared → Prop} {Q : Flow → Shared → Prop} {s : Shared} {x : Str} {px pos : Pos} {iter : Expr} {body : List Stmt}
  {A₀ : Around} {base : Heap} {outer : List Env} {KF : Frag} {p : Program} {loose : List Str} {mean : ExcName → Option Value} {mg mb : Str → Option Value} {g₀ g : Heap} {m₀ : Str → Option Value} {news : List (Addr × Obj)} {t : Addr} {vs : List Value} {names : List Str}
theorem loop_names (stored : List Str) (P : Nat → Prop)
    (hh : A.handled = none) (hx : env.kindOf x = some .local) (hp : (env.scope.kind == .class || (env.scope.kind == .module && env.locals != env.globals)) = false)
    (S : FS A₀ base outer KF p loose mean mg mb g₀ g env.locals s.heap m₀ news) (ht : (t, tupO vs) ∈ news) (hv : StrsAre vs names) (h0 : P 0)
    (turn : ∀ (i : Nat) (n : Str) (tn : Tok) (g' h : Heap) (tk : Nat) (u : Str → Option Value) (I : Addr) (o : Obj), names[i]? = some n → P i → FS A₀ base outer KF p loose mean mg mb g₀ g' env.locals h (fun z => if z = x then some (.str n tn) else if stored.contains z then u z else m₀ z) ((I, o) :: news) →
      wpAny (model prog w) A (execs body env) (fun f s₃ => match f with
        | .ret v => Q (.ret v) s₃
        | .brk => Q .next s₃
        | _ => Halt (P (i + 1) ∧ ∃ (g'' h' : Heap) (tk' : Nat) (m'' : Str → Option Value), s₃ = { s with heap := h', toks := tk' } ∧ FS A₀ base outer KF p loose mean mg mb g₀ g'' env.locals h' m'' ((I, o) :: news) ∧ (∀ z, z ≠ x → stored.contains z = false → m'' z = m₀ z))) E { s with heap := h, toks := tk })
    (done : ∀ (g' h : Heap) (tk : Nat) (m' : Str → Option Value), P names.length → FS A₀ base outer KF p loose mean mg mb g₀ g' env.locals h m' news → Q .next { s with heap := h, toks := tk })
    (hE : PassesOwn (model prog w) A env E := by passes_own) :
    wpAny (model prog w) A (pyIter (.ref t)) (fun it s₂ => codeAny (model prog w) A (.forLoop (.Name x px) it body [] env) (fun r s' => match r with | .ok f => Q f s' | .error e => cameBackBy (model prog w) A env E e s') s₂) E s := by
  obtain ⟨s₁, rfl⟩ : ∃ s₁, s₁ = s := ⟨_, rfl⟩
  have hlen : vs.length = names.length := hv.len_eq
  have tupAt : ∀ h : Heap, News g env.locals h news → h.IsTuple t vs.toArray := fun h N => ⟨_, (N _ ht).1, rfl, _, rfl⟩
  obtain ⟨I, hI⟩ : ∃ I, I = s₁.heap.objs.size := ⟨_, rfl⟩
  have hlt : ∀ q ∈ news, q.1 < s₁.heap.objs.size := fun q hq => Heap.lt_size (S.made q hq).1
  have hnI : ∀ q ∈ news, q.1 ≠ I := fun q hq => by rw [hI]; exact Nat.ne_of_lt (hlt q hq)
  have htI : t ≠ I := hnI _ ht
  refine wpAny_pyIter_tuple (tupAt _ S.made) ?_
  rw [← hI]
  refine codeAny_forLoop (R := fun r s' => match r with | .ok f => Q f s' | .error e => cameBackBy (model prog w) A env E e s')
    (fun k s' => ∃ (i : Nat) (g' h : Heap) (tk : Nat) (m' : Str → Option Value) (o : Obj), s' = { s₁ with heap := h, toks := tk } ∧ k = names.length + 1 - i ∧ i ≤ names.length ∧ P i ∧ (o : Obj).cls = .type "tuple_iterator" ∧ o.data = .fields #[.ref t, .int i 0] ∧
      FS A₀ base outer KF p loose mean mg mb g₀ g' env.locals h m' ((I, o) :: news) ∧ (∀ z, z ≠ x → stored.contains z = false → m' z = m₀ z)) ?_ (names.length + 1)
    ⟨0, g, _, s₁.toks, m₀, _, rfl, rfl, Nat.zero_le _, h0, rfl, rfl, S.ofHeap (S.fr.push _) (by rw [hI]; exact News.push S.fr S.made _), fun _ _ _ => rfl⟩
  rintro k s' ⟨i, g', h, tk, m', o, rfl, rfl, hi, hPi, hc, hd, S', hag⟩
  have hIo := (S'.made (I, o) (List.mem_cons_self ..))
  have N' : News g' env.locals h news := fun q hq => S'.made q (List.mem_cons_of_mem _ hq)
  have hit : h.IsTupleIter I t i := ⟨o, hIo.1, hc, hd⟩
  have htu : h.IsTuple t vs.toArray := ⟨_, (N' _ ht).1, rfl, _, rfl⟩
  have next : ∀ h' : Heap, (∀ b o, b ≠ I → h.get? b = some o → h'.get? b = some o) → Fr g' env.locals h' m' ∧ News g' env.locals h' news := fun h' hk =>
    ⟨⟨S'.fr.ns.at' fun o e => hk _ o (fun q => hIo.2.1 q.symm) e, fun b o e => hk b o (fun q => by rw [q, hIo.2.2] at e; cases e) (S'.fr.keep b o e), S'.fr.above⟩,
      fun q hq => ⟨hk _ _ (hnI q hq) (N' q hq).1, (N' q hq).2⟩⟩
  by_cases hlt' : i < names.length
  · have hn : names[i]? = some names[i] := by simp [hlt']
    obtain ⟨tn, hvi⟩ := hv.at hn
    refine wpAny_pyNext_tuple_item hit htu (x := .str names[i] tn) (by simpa using hvi) fun h₁ hit₁ hs₁ => ?_
    obtain ⟨o₁, ho₁, hc₁, hd₁⟩ := hit₁
    obtain ⟨F₁, N₁⟩ := next h₁ fun b o q e => (hs₁.2 b q).trans e
    refine wpAny_assign_Name (wpAny_storeName_local hx F₁.ns (fun h₂ hn₂ hs₂ => ?_) hp)
    have F₂ := F₁.set hn₂ hs₂
    have em : (fun z => if z = x then some (Value.str names[i] tn) else m' z) = fun z => if z = x then some (Value.str names[i] tn) else if stored.contains z then m' z else m₀ z := by
      funext z
      by_cases h1 : z = x
      · simp [h1]
      · simp only [if_neg h1]
        cases h2 : stored.contains z with
        | true => simp
        | false => simp only [Bool.false_eq_true, if_false]; exact hag z h1 h2
    rw [em] at F₂
    have N₂ : News g' env.locals h₂ ((I, o₁) :: news) := fun q hq => by
      rcases List.mem_cons.mp hq with rfl | hq
      · exact ⟨(hs₂.2 _ hIo.2.1).trans ho₁, hIo.2⟩
      · exact (N₁.set hs₂) q hq
    refine wpAny_passesOwn hE (wpAny_mono (turn i names[i] tn g' h₂ _ m' I o₁ hn hPi (S'.ofHeap F₂ N₂)) (fun f s₃ h₃ => ?_) fun _ _ e => e)
    have fin : (P (i + 1) ∧ ∃ (g'' h' : Heap) (tk' : Nat) (m'' : Str → Option Value), s₃ = { s₁ with heap := h', toks := tk' } ∧ FS A₀ base outer KF p loose mean mg mb g₀ g'' env.locals h' m'' ((I, o₁) :: news) ∧ (∀ z, z ≠ x → stored.contains z = false → m'' z = m₀ z)) →
        ∃ k', k' < names.length + 1 - i ∧ ∃ (i : Nat) (g' h : Heap) (tk : Nat) (m' : Str → Option Value) (o : Obj), s₃ = { s₁ with heap := h, toks := tk } ∧ k' = names.length + 1 - i ∧ i ≤ names.length ∧ P i ∧ (o : Obj).cls = .type "tuple_iterator" ∧ o.data = .fields #[.ref t, .int i 0] ∧
      FS A₀ base outer KF p loose mean mg mb g₀ g' env.locals h m' ((I, o) :: news) ∧ (∀ z, z ≠ x → stored.contains z = false → m' z = m₀ z) := by
      rintro ⟨hP1, g'', h', tk', m'', e, S'', hag'⟩
      exact ⟨names.length + 1 - (i + 1), by omega, i + 1, g'', h', tk', m'', o₁, e, rfl, hlt', hP1, hc₁, hd₁, S'', hag'⟩
    cases f with
    | ret v => exact h₃
    | brk => exact h₃
    | cont => exact fin h₃
    | next => exact fin h₃
  · have hin : i = names.length := by omega
    subst hin
    refine wpAny_pyNext_tuple_end hh hit htu (by simp [hlen]) fun h₁ he₁ => wpAny_execs_nil ?_
    obtain ⟨F₁, N₁⟩ := next h₁ he₁
    exact done g' h₁ _ m' hPi (S'.ofHeap F₁ N₁)
theorem For_names (stored : List Str) (P : Nat → Prop)
    (hh : A.handled = none) (hx : env.kindOf x = some .local) (hp : (env.scope.kind == .class || (env.scope.kind == .module && env.locals != env.globals)) = false)
    (hev : wpAny (model prog w) A (eval iter env) (fun xv s₁ => xv = .ref t ∧ s₁ = s) E s)
    (S : FS A₀ base outer KF p loose mean mg mb g₀ g env.locals s.heap m₀ news) (ht : (t, tupO vs) ∈ news) (hv : StrsAre vs names) (h0 : P 0)
    (turn : ∀ (i : Nat) (n : Str) (tn : Tok) (g' h : Heap) (tk : Nat) (u : Str → Option Value) (I : Addr) (o : Obj), names[i]? = some n → P i → FS A₀ base outer KF p loose mean mg mb g₀ g' env.locals h (fun z => if z = x then some (.str n tn) else if stored.contains z then u z else m₀ z) ((I, o) :: news) →
      wpAny (model prog w) A (execs body env) (fun f s₃ => match f with
        | .ret v => Q (.ret v) s₃
        | .brk => Q .next s₃
        | _ => Halt (P (i + 1) ∧ ∃ (g'' h' : Heap) (tk' : Nat) (m'' : Str → Option Value), s₃ = { s with heap := h', toks := tk' } ∧ FS A₀ base outer KF p loose mean mg mb g₀ g'' env.locals h' m'' ((I, o) :: news) ∧ (∀ z, z ≠ x → stored.contains z = false → m'' z = m₀ z))) E { s with heap := h, toks := tk })
    (done : ∀ (g' h : Heap) (tk : Nat) (m' : Str → Option Value), P names.length → FS A₀ base outer KF p loose mean mg mb g₀ g' env.locals h m' news → Q .next { s with heap := h, toks := tk })
    (hs : ∀ x, foldedSetIterable iter env x = pure x := by intro _; rfl)
    (hE : PassesOwn (model prog w) A env E := by passes_own) :
    wpAny (model prog w) A (exec (.For (.Name x px) iter body [] pos) env) Q E s := by
  refine wpAny_For (wpAny_mono hev (fun xv s₁ h₁ => ?_) fun _ _ e => e) hs
  obtain ⟨rfl, rfl⟩ := h₁
  exact loop_names stored P hh hx hp S ht hv h0 turn done hE
end
theorem execs_join {M : Model} {A : Around} {E : Value → Shared → Prop} {s : Shared} {env : Env} {s1 s2 : Stmt} {rest : List Stmt} {Q : Flow → Shared → Prop} (R : Shared → Prop)
    (h1 : wpAny M A (execs [s1, s2] env) (fun f s' => Halt (f = .next ∧ R s')) E s) (h2 : ∀ s', R s' → wpAny M A (execs rest env) Q E s') : wpAny M A (execs (s1 :: s2 :: rest) env) Q E s := by
  intro Γ p hΓ
  have k := h1 Γ p hΓ
  rw [execs_cons, Sem.wp_bind'] at k ⊢
  refine Sem.wp_mono M Γ _ (fun f p' s' h' => ?_) (fun _ _ _ h' => h') _ _ k
  cases f with
  | next =>
    have h'' : Sem.wp M Γ (execs [s2] env) (fun f _ s' => Halt (f = .next ∧ R s')) (fun e _ s' => E e s') p' s' := h'
    show Sem.wp M Γ (execs (s2 :: rest) env) (fun f _ s' => Q f s') (fun e _ s' => E e s') p' s'
    rw [execs_cons, Sem.wp_bind'] at h'' ⊢
    refine Sem.wp_mono M Γ _ (fun f p₂ s₂ h₂ => ?_) (fun _ _ _ h' => h') _ _ h''
    cases f with
    | next =>
      have h₃ : Halt (Flow.next = .next ∧ R s₂) := h₂
      exact h2 s₂ h₃.2 Γ p₂ hΓ
    | ret v => exact absurd (show Flow.ret v = .next from (show Halt _ from h₂).1) (by intro q; cases q)
    | brk => exact absurd (show Flow.brk = .next from (show Halt _ from h₂).1) (by intro q; cases q)
    | cont => exact absurd (show Flow.cont = .next from (show Halt _ from h₂).1) (by intro q; cases q)
  | ret v => exact absurd (show Flow.ret v = .next from (show Halt _ from h').1) (by intro q; cases q)
  | brk => exact absurd (show Flow.brk = .next from (show Halt _ from h').1) (by intro q; cases q)
  | cont => exact absurd (show Flow.cont = .next from (show Halt _ from h').1) (by intro q; cases q)
/-! default_locale -/
def lang : Str := Str.ofString "LANGUAGE"
/-- what default_locale makes of the text before the aliases are asked -/
def dlLoc (isL : Bool) (t : Str) : Str := if isL && !(Builtin.Str.occurrences t (Str.ofString ":") 0 t.length 1).isEmpty then hd1 t (Str.ofString ":") else t
def isC (t : Str) : Bool := [Str.ofString "C", Str.ofString "POSIX"].any (· == hd1 t (Str.ofString "."))
def dlRes (isL : Bool) (t : Str) (tab : List (Str × Str)) : Str := if isC (dlLoc isL t) then Str.ofString "en_US_POSIX" else (look tab (dlLoc isL t)).getD (dlLoc isL t)
def parseR (r : Str) : Option Str := look goodOf r
def txts : List Str := [Str.ofString "de", Str.ofString "de_AT.UTF-8", Str.ofString "DE_at@euro", Str.ofString "C", Str.ofString "POSIX", Str.ofString "C.UTF-8", Str.ofString "POSIX.x@y", Str.ofString "fr", Str.ofString "e1", Str.ofString "de_XXX", Str.ofString ":de", Str.ofString "fr:de", Str.ofString "C:de", Str.ofString "C.UTF-8:de", Str.ofString "POSIX:de", Str.ofString "C@euro", Str.ofString "de:fr", Str.ofString "C.", Str.ofString "it_IT", Str.ofString ""]
def tab0 : List (Str × Str) := [(Str.ofString "de", Str.ofString "de_DE"), (Str.ofString "fr", Str.ofString "e1"), (Str.ofString "e1", Str.ofString "it_IT"), (Str.ofString "C", Str.ofString "xx"), (Str.ofString "POSIX", Str.ofString "xx"), (Str.ofString "DE_at@euro", Str.ofString "sv_SE"), (Str.ofString ":de", Str.ofString "nn_NO"), (Str.ofString "", Str.ofString "pl_PL")]
/-- what a variable's turn gives -/
def turnD (tab c : List (Str × Str)) (n : Str) : Option Str := if n == Str.ofString "" then none else match look c n with
  | none => none
  | some t => if t == Str.ofString "" then none else parseR (dlRes (n == lang) t tab)
def firstD (f : Str → Option Str) : List Str → Option Str
  | [] => none
  | n :: r => (f n).or (firstD f r)
def OptV (v : Value) (r : Option Str) : Prop := match r with
  | none => v = .none
  | some x => ∃ t, v = .str x t
/-- the category: the five forms, and the names that it puts ahead -/
inductive CatV (news : List (Addr × Obj)) : Value → List Str → Prop
  | none : CatV news .none []
  | empty (t : Tok) : CatV news (.str (Str.ofString "") t) []
  | time (t : Tok) : CatV news (.str (Str.ofString "LC_TIME") t) [Str.ofString "LC_TIME"]
  | tup (d : Addr) (a b c : Tok) : (d, tupO [.str (Str.ofString "") a, .str (Str.ofString "LC_MESSAGES") b, .str (Str.ofString "LC_TIME") c]) ∈ news → CatV news (.ref d) [Str.ofString "", Str.ofString "LC_MESSAGES", Str.ofString "LC_TIME"]
  | lst (d : Addr) (a : Tok) (n : Nat) : (d, W.listOf [.str (Str.ofString "LC_MESSAGES") a].toArray n) ∈ news → CatV news (.ref d) [Str.ofString "LC_MESSAGES"]
/-- the aliases: None, an empty dict, or the law's -/
inductive TabV (w : World) (news : List (Addr × Obj)) : Value → List (Str × Str) → Prop
  | none : TabV w news .none []
  | dict (d : Addr) (c : List (Str × Str)) : EnvIn w news d c → c = [] ∨ c = tab0 → TabV w news (.ref d) c
theorem split_facts : ∀ t ∈ txts, Txt.split t (Str.ofString ":") ≠ [] ∧ t.length ≤ 1000 ∧ hd1 t (Str.ofString ":") ∈ txts ∧ Txt.split t (Str.ofString ".") ≠ [] := by decide +kernel

theorem newsCons {h₀ h : Heap} {L a : Addr} {o : Obj} {news : List (Addr × Obj)} (N : News h₀ L h news) (hm : (a, o) ∈ news) : News h₀ L h ((a, o) :: news) := fun p hp => by
  rcases List.mem_cons.mp hp with rfl | hp
  · exact N _ hm
  · exact N _ hp
/-- the facts of the plain law: every text that comes to the parser is one of the nineteen -/
theorem res_facts : ∀ b ∈ [true, false], ∀ tab ∈ [[], tab0], ∀ y ∈ txts, y = Str.ofString "" ∨ ((look goodOf (dlRes b y tab)).isSome || (badOf.contains (dlRes b y tab) && (look goodOf (dlRes b y tab)).isNone)) = true := by decide +kernel
theorem res_cases {b : Bool} {tab : List (Str × Str)} {y : Str} (htab : tab = [] ∨ tab = tab0) (hy : y ∈ txts) (hne : y ≠ Str.ofString "") :
    (∃ i, (dlRes b y tab, i) ∈ goodOf ∧ parseR (dlRes b y tab) = some i) ∨ (dlRes b y tab ∈ badOf ∧ parseR (dlRes b y tab) = none) := by
  have h := res_facts b (by cases b <;> simp) tab (by rcases htab with rfl | rfl <;> simp) y hy
  rcases h with h | h
  · exact absurd h hne
  · cases q : look goodOf (dlRes b y tab) with
    | some i => exact .inl ⟨i, look_mem q, q⟩
    | none =>
      rw [q] at h
      exact .inr ⟨by simpa using h, q⟩
theorem turnD_n0 {tab c : List (Str × Str)} {n : Str} (h : n = Str.ofString "") : turnD tab c n = none := by
  subst h; rfl
theorem turnD_look {tab c : List (Str × Str)} {n : Str} (h : look c n = none) : turnD tab c n = none := by
  unfold turnD; rw [h]; split <;> rfl
theorem turnD_y0 {tab c : List (Str × Str)} {n y : Str} (h : look c n = some y) (h0 : y = Str.ofString "") : turnD tab c n = none := by
  unfold turnD; rw [h, h0]; split <;> rfl
theorem turnD_val {tab c : List (Str × Str)} {n y : Str} (hn : n ≠ Str.ofString "") (h : look c n = some y) (hy : y ≠ Str.ofString "") : turnD tab c n = parseR (dlRes (n == lang) y tab) := by
  have e1 : (n == Str.ofString "") = false := beq_eq_false_iff_ne.mpr hn
  have e2 : (y == Str.ofString "") = false := beq_eq_false_iff_ne.mpr hy
  unfold turnD; rw [h, e1]; simp only [e2, Bool.false_eq_true, if_false]
theorem look_nil {tab : List (Str × Str)} {l : Str} (h : tab = []) : look tab l = none := by subst h; rfl
theorem dlLoc_n {n y : Str} (h : (n == Str.ofString "LANGUAGE") = false) : dlLoc (n == lang) y = y := by
  unfold dlLoc lang; rw [h]; rfl
theorem dlLoc_e {n y : Str} (h : (n == Str.ofString "LANGUAGE") = true) (h2 : (Builtin.Str.occurrences y (Str.ofString ":") 0 y.length 1).isEmpty = true) : dlLoc (n == lang) y = y := by
  unfold dlLoc lang; rw [h, h2]; rfl
theorem dlLoc_c {n y z : Str} (h : (n == Str.ofString "LANGUAGE") = true) (h2 : (Builtin.Str.occurrences y (Str.ofString ":") 0 y.length 1).isEmpty = false) (hz : z = hd1 y (Str.ofString ":")) : dlLoc (n == lang) y = z := by
  unfold dlLoc lang; rw [h, h2, hz]; rfl
theorem dlRes_C {b : Bool} {y l : Str} {tab : List (Str × Str)} (hl : dlLoc b y = l) (hc : ([Str.ofString "C", Str.ofString "POSIX"].any fun x => x == hd1 l (Str.ofString ".")) = true) : Str.ofString "en_US_POSIX" = dlRes b y tab := by
  unfold dlRes isC; rw [hl, hc]; rfl
theorem dlRes_none {b : Bool} {y l : Str} {tab : List (Str × Str)} (hl : dlLoc b y = l) (hc : ([Str.ofString "C", Str.ofString "POSIX"].any fun x => x == hd1 l (Str.ofString ".")) = false) (h : look tab l = none) : l = dlRes b y tab := by
  unfold dlRes isC; rw [hl, hc, h]; rfl
theorem dlRes_some {b : Bool} {y l r : Str} {tab : List (Str × Str)} (hl : dlLoc b y = l) (hc : ([Str.ofString "C", Str.ofString "POSIX"].any fun x => x == hd1 l (Str.ofString ".")) = false) (h : look tab l = some r) : r = dlRes b y tab := by
  unfold dlRes isC; rw [hl, hc, h]; rfl
theorem TabV.cases2 {w : World} {news : List (Addr × Obj)} {v : Value} {tab : List (Str × Str)} (h : TabV w news v tab) : tab = [] ∨ tab = tab0 := by
  cases h with
  | none => exact .inl rfl
  | dict d _ _ hc => exact hc
theorem locEq {r r' : Str} {t : Tok} (h : r = r') : some (Value.str r t) = some (Value.str r' t) := by rw [h]
theorem truthy_tabv {w : World} {A : Around} {E : Value → Shared → Prop} {s : Shared} {h₀ : Heap} {L : Addr} {news x : List (Addr × Obj)} {av : Value} {tab : List (Str × Str)} {Q : Bool → Shared → Prop}
    (ha : TabV w news av tab) (N : News h₀ L s.heap x) (hs : ∀ p ∈ news, p ∈ x) (h0 : ∀ tk', tab = [] → Q false { s with toks := tk' }) (h1 : ∀ d tk', av = .ref d → EnvIn w news d tab → tab = tab0 → Q true { s with toks := tk' }) :
    wpAny (model PG w) A (truthy av) Q E s := by
  cases ha with
  | none => exact truthy_none (h0 s.toks rfl)
  | dict d _ hE hc =>
    rcases hc with rfl | rfl
    · exact env_truthy hE N hs (by simp) false rfl (h0 _ rfl)
    · exact env_truthy hE N hs (by decide) true rfl (h1 d _ rfl hE rfl)
theorem txt_len : ∀ t ∈ txts, t.length ≤ 1000 := by decide +kernel
section
variable {prog : Program} {w : World} {A : Around} {E : Value → Shared → Prop} {s : Shared} {h₀ : Heap} {L D : Addr} {news : List (Addr × Obj)} {u : Tok} {l : List (Str × Tok)} {n : Nat} {t : Str} {value slice : Expr} {Q : Value → Shared → Prop}
theorem split_hdC (N : News h₀ L s.heap news) (hm : (D, W.listOf (strValues l).toArray n) ∈ news) (e : l.map (·.1) = Txt.split t (Str.ofString ":")) (ht : t ∈ txts) (h : ∀ z t', z = hd1 t (Str.ofString ":") → z ∈ txts → z.length ≤ 1000 → Q (.str z t') s)
    (hs : subscripted slice false (.ref D) (.int 0 u) = operate [.ref D, .int 0 u] (getItem (.ref D) (.int 0 u)) := by with_unfolding_all rfl) :
    wpAny (model prog w) A (subscriptTail value slice (.ref D) (.int 0 u)) Q E s :=
  split_hd N hm e (split_facts t ht).1 (fun t' => h _ t' rfl (split_facts t ht).2.2.1 (txt_len _ (split_facts t ht).2.2.1)) hs
theorem split_hdP (N : News h₀ L s.heap news) (hm : (D, W.listOf (strValues l).toArray n) ∈ news) (e : l.map (·.1) = Txt.split t (Str.ofString ".")) (ht : t ∈ txts) (h : ∀ t', Q (.str (hd1 t (Str.ofString ".")) t') s)
    (hs : subscripted slice false (.ref D) (.int 0 u) = operate [.ref D, .int 0 u] (getItem (.ref D) (.int 0 u)) := by with_unfolding_all rfl) :
    wpAny (model prog w) A (subscriptTail value slice (.ref D) (.int 0 u)) Q E s :=
  split_hd N hm e (split_facts t ht).2.2.2 h hs
end
theorem env_getT {w : World} {A : Around} {E : Value → Shared → Prop} {s : Shared} {h₀ : Heap} {L e : Addr} {news x : List (Addr × Obj)} {c : List (Str × Str)} {k : Str} {tk : Tok} {Q : Value → Shared → Prop} (htx : ∀ p ∈ c, p.2 ∈ txts) (hE : EnvIn w news e c) (N : News h₀ L s.heap x) (hs : ∀ p ∈ news, p ∈ x)
    (h0 : look c k = none → Q .none { s with toks := s.toks + 1 }) (h1 : ∀ y t, look c k = some y → y ∈ txts → Q (.str y t) { s with toks := s.toks + 1 }) :
    wpAny (model PG w) A (call (.builtin "dict.get") [.ref e, .str k tk]) Q E s := env_get hE N hs h0 fun y t h => h1 y t h (htx _ (look_mem h))
theorem firstD_none {f : Str → Option Str} : ∀ {names : List Str}, (∀ j, j < names.length → ∀ n, names[j]? = some n → f n = none) → firstD f names = none
  | [], _ => rfl
  | n :: r, h => by
    have h0 := h 0 (by simp) n rfl
    have hr : firstD f r = none := firstD_none fun j hj k hk => h (j + 1) (by simpa using hj) k (by simpa using hk)
    simp only [firstD, h0, hr, Option.none_or]
theorem firstD_some {f : Str → Option Str} {x : Str} {y : Str} : ∀ {names : List Str} {i : Nat}, (∀ j, j < i → ∀ n, names[j]? = some n → f n = none) → names[i]? = some y → f y = some x → firstD f names = some x
  | [], _, _, e, _ => by simp at e
  | n :: r, 0, _, e, hx => by
    have e' : n = y := by simpa using e
    subst e'
    simp only [firstD, hx, Option.some_or]
  | n :: r, i + 1, h, e, hx => by
    have h0 := h 0 (by omega) n rfl
    have hr : firstD f r = some x := firstD_some (i := i) (fun j hj k hk => h (j + 1) (by omega) k (by simpa using hk)) (by simpa using e) hx
    simp only [firstD, h0, hr, Option.none_or]
theorem noneStep {f : Str → Option Str} {names : List Str} {i : Nat} {n : Str} (h : ∀ j, j < i → ∀ n, names[j]? = some n → f n = none) (hn : names[i]? = some n) (hx : f n = none) : ∀ j, j < i + 1 → ∀ n, names[j]? = some n → f n = none := by
  intro j hj k hk
  rcases Nat.lt_or_ge j i with q | q
  · exact h j q k hk
  · have : j = i := by omega
    subst this
    rw [hn] at hk
    cases hk
    exact hx

section S4
local macro_rules | `(tactic| walk_at "truthy ref") => `(tactic| (k_here; k_dflt (first | refine truthyL (b := true) (by k_asm) (by k_mem) (by rfl) (by exact Nat.le_of_ble_eq_true rfl) ?_ | refine truthyL (b := false) (by k_asm) (by k_mem) (by rfl) (by exact Nat.le_of_ble_eq_true rfl) ?_)))
local macro_rules | `(tactic| walk_at "execs cons") => `(tactic| (k_here; dsimp only))
local macro_rules | `(tactic| walk_at "execs nil") => `(tactic| (k_here; dsimp only))
local macro_rules | `(tactic| walk_at "call builtin:dict.get") => `(tactic| (k_here; refine Halt.out ?_))
local macro_rules | `(tactic| walk_at "getMethod ref") => `(tactic| (k_here; k_dflt (refine env_meth (by assumption) (by k_asm) (by walk_at "MySub") ?_)))
local macro_rules | `(tactic| walk_at "call builtin:str.split") => `(tactic| (k_here; k_dflt (refine' KSpl.split1 ?F ?N ?y ?_ ?z; (case F => k_asm); (case N => k_asm); (case y => decide); (case z => (rw [sizeLine_eq]; omega))); intro D' l' h' k' e' a' F' N' l1; (try k_lt l1)))
local macro_rules | `(tactic| walk_at "subscriptTail Call Attribute cons nil Constant ref int") => `(tactic| (k_here; k_dflt (first
  | (refine' split_hdC ?zN ?zm ?ze ?zt ?_; (case zN => k_asm); (case zm => k_mem); (case ze => assumption); (case zt => assumption); intro z' t' hz' hzt' hzl')
  | (refine' split_hdP ?zN ?zm ?ze ?zt ?_; (case zN => k_asm); (case zm => k_mem); (case ze => assumption); (case zt => assumption); intro t'))))
local macro_rules | `(tactic| walk_at "compareOp In str ref") => `(tactic| (k_here; k_dflt (first
  | (refine' in_tup ?N ?m ?i ?_; (case N => k_asm); (case m => k_mem); (case i => repeat constructor))
  | (refine' env_in2 ?E ?N ?s ?_ ?_; (case E => assumption); (case N => k_asm); (case s => walk_at "MySub")))))
local macro_rules | `(tactic| walk_at "truthy") => `(tactic| (k_here; k_dflt (refine' truthy_tabv ?A ?N ?s ?_ ?_; (case A => assumption); (case N => k_asm); (case s => walk_at "MySub"); (rotate_left; (intro d' tk' hav' hE' ht'; subst hav'); rotate_left))))
local macro_rules | `(tactic| walk_at "subscriptTail Name Name ref str") => `(tactic| (k_here; k_dflt (refine' env_item ?E ?N ?s ?l ?_; (case E => assumption); (case N => k_asm); (case s => walk_at "MySub"); (case l => assumption); intro t')))
local macro_rules | `(tactic| walk_at "call ref") => `(tactic| (k_here; refine Halt.out ?_))
local macro_rules | `(tactic| walk_at "exec For Name Name cons nil") => `(tactic| (k_here; refine Halt.out ?_))

set_option maxRecDepth 100000 in
set_option maxHeartbeats 0 in
theorem dl_contract {w : World} {mean : ExcName → Option Value} {mg mb : Str → Option Value}
    {dp un : Nat} {gd : Option (List Code)} {cn : Str} {cs : Scope} {a : Addr} {ccd : Value} {outer : List Env} {A₀ : Around} {base h₀ g₀ : Heap} {L : Addr} {m : Str → Option Value} {news : List (Addr × Obj)} {s : Shared}
    {Q E : Value → Shared → Prop} {cv av : Value} {e : Addr} {ns : List Str} {tab c : List (Str × Str)}
    (XB : (hd.heap_39 w.params).In base) (TB : TP mean mg mb base) (B : Below A₀ base outer h₀) (F : Fr h₀ L s.heap m) (X : (hd.heap_39 w.params).In h₀) (N : News h₀ L s.heap news) (T : TP mean mg mb h₀)
    (D : KtsDicts (outer.filterMap (·.frame)) h₀) (T0 : KtsTurn (outer.filterMap (·.frame)) g₀ h₀) (hk : cs.kind = .function)
    (hdp : dp + 4 < recursionLimit) (hun : un + 40 < cLine) (hc : CatV news cv ns) (ha : TabV w news av tab) (he : EnvIn w news e c) (htx : ∀ p ∈ c, p.2 ∈ txts)
    (hret : ∀ h₀' r h' tk', KtsTurn (outer.filterMap (·.frame)) g₀ h₀' → Fr h₀' L h' m → News h₀' L h' news → Below A₀ base outer h₀' → (hd.heap_39 w.params).In h₀' → TP mean mg mb h₀' → KtsDicts (outer.filterMap (·.frame)) h₀' →
      OptV r (firstD (turnD tab c) (ns ++ [Str.ofString "LANGUAGE", Str.ofString "LC_ALL", Str.ofString "LC_CTYPE", Str.ofString "LANG"])) → Q r { s with heap := h', toks := tk' }) :
    wpAny (model PG w) (ktrTop dp un gd cn cs L a ccd [] outer) (call (.ref 26) [cv, av, .ref e]) Q E s := by
  refine wpAny_call ?_
  walk_at "MyEnterS"
  intro g1 L1 h1 FG1 F1 N1 B1 X1 T1 D1
  clear B F N T X D T0
  (try dsimp only)
  refine execs_join (fun s' => ∃ h tk m₀ x t vs, s' = { s with heap := h, toks := tk } ∧ Fr g1 L1 h m₀ ∧ News g1 L1 h x ∧ (∀ p ∈ news, p ∈ x) ∧ (t, tupO vs) ∈ x ∧
    StrsAre vs (ns ++ [Str.ofString "LANGUAGE", Str.ofString "LC_ALL", Str.ofString "LC_CTYPE", Str.ofString "LANG"]) ∧ m₀ (Str.ofString "varnames") = some (.ref t) ∧ m₀ (Str.ofString "aliases") = some av ∧ m₀ (Str.ofString "environ") = some (.ref e)) ?_ ?_
  · cases hc with
    | tup d ta tb tc hm =>
      have N2 := newsCons N1 hm
      clear N1
      k_steps
      all_goals refine Halt.mk ⟨rfl, _, _, _, _, _, _, rfl, by k_asm, by k_asm, by walk_at "MySub", List.mem_cons_self .., by repeat constructor, rfl, rfl, rfl⟩
    | lst d ta n hm =>
      have N2 := newsCons N1 hm
      clear N1
      k_steps
      all_goals refine Halt.mk ⟨rfl, _, _, _, _, _, _, rfl, by k_asm, by k_asm, by walk_at "MySub", List.mem_cons_self .., by repeat constructor, rfl, rfl, rfl⟩
    | _ =>
      k_steps
      all_goals refine Halt.mk ⟨rfl, _, _, _, _, _, _, rfl, by k_asm, by k_asm, by walk_at "MySub", List.mem_cons_self .., by repeat constructor, rfl, rfl, rfl⟩
  · rintro s' ⟨h, tk, m₀, x, t, vs, rfl, F, N, hsub, ht, hv, m1, m2, m3⟩
    have em : m₀ = fun z => if z = Str.ofString "environ" then some (.ref e) else if z = Str.ofString "aliases" then some av else if z = Str.ofString "varnames" then some (.ref t) else m₀ z := by
      funext z
      by_cases q1 : z = Str.ofString "environ"
      · simp only [q1, m3, if_pos]
      · by_cases q2 : z = Str.ofString "aliases"
        · rw [if_neg q1, if_pos q2, q2, m2]
        · by_cases q3 : z = Str.ofString "varnames"
          · rw [if_neg q1, if_neg q2, if_pos q3, q3, m1]
          · simp only [if_neg q1, if_neg q2, if_neg q3]
    rw [em] at F
    obtain ⟨mB, hmB⟩ : ∃ f : Str → Option Value, f = fun z => if z = Str.ofString "environ" then some (.ref e) else if z = Str.ofString "aliases" then some av else if z = Str.ofString "varnames" then some (.ref t) else m₀ z := ⟨_, rfl⟩
    clear em m1 m2 m3 N1 F1 FG1
    have hnames : ∀ n ∈ ns ++ [Str.ofString "LANGUAGE", Str.ofString "LC_ALL", Str.ofString "LC_CTYPE", Str.ofString "LANG"], n.length ≤ 1000 := by
      cases hc <;> decide +kernel
    generalize hnm : ns ++ [Str.ofString "LANGUAGE", Str.ofString "LC_ALL", Str.ofString "LC_CTYPE", Str.ofString "LANG"] = names at hv hret hnames
    clear hnm hc
    replace ha : TabV w x av tab := by
      cases ha with
      | none => exact .none
      | dict d _ h1 h2 => exact .dict d _ (h1.mono hsub) h2
    replace he := he.mono hsub
    k_steps
    refine Halt.mk ?_
    refine For_names (g := g1) (news := x) [Str.ofString "locale"] (fun i => ∀ j, j < i → ∀ n, names[j]? = some n → turnD tab c n = none) rfl rfl rfl (ld F rfl ⟨rfl, rfl⟩) ⟨KtsTurn.refl, F, N, B1, X1, T1, D1⟩ ht hv (fun j hj => absurd hj (Nat.not_lt_zero _)) ?_ ?_
    · intro i n tn g2 h2 tk2 u I o hn hP S
      obtain ⟨T0', F2, N2, B2, X2, T2, D2⟩ := S
      clear F N X1 T1 D1 B1
      have hnl : n.length ≤ 1000 := hnames n (List.mem_of_getElem? hn)
      k_steps
      · refine Halt.mk ?_
        refine env_getT htx he N2 (by walk_at "MySub") (fun hq => ?_) (fun y ty hq hy => ?_)
        · k_steps
          all_goals refine Halt.mk ⟨noneStep hP hn (turnD_look hq), g2, _, _, _, rfl, ⟨T0', by k_asm, by k_asm, B2, X2, T2, D2⟩, by k_same⟩
        · k_steps
          refine truthy_txt (txt_len y hy) (fun hy0 => ?_) (fun hy1 => ?_)
          · k_steps
            all_goals refine Halt.mk ⟨noneStep hP hn (turnD_y0 hq hy0), g2, _, _, _, rfl, ⟨T0', by k_asm, by k_asm, B2, X2, T2, D2⟩, by k_same⟩
          · dsimp only
            rw [if_pos rfl]
            refine execs_join (fun s' => ∃ h' tk' tkr m', s' = { s with heap := h', toks := tk' } ∧ Fr g2 L1 h' m' ∧ News g2 L1 h' ((I, o) :: x) ∧ m' (Str.ofString "locale") = some (.str (dlRes (n == lang) y tab) tkr) ∧
              (∀ z, z ≠ Str.ofString "name" → [Str.ofString "locale"].contains z = false → m' z = mB z)) ?_ ?_
            · clear hret
              have hyl := txt_len y hy
              k_steps
              all_goals (
                refine Halt.mk ⟨rfl, _, _, _, _, rfl, by k_asm, drop0 (by k_asm) (by walk_at "MySub"), locEq ?_, by (rw [hmB]; k_same)⟩
                first
                  | exact dlRes_C (by first | exact dlLoc_n (by assumption) | exact dlLoc_e (by assumption) (by assumption) | exact dlLoc_c (by assumption) (by assumption) (by assumption)) (by assumption)
                  | exact dlRes_none (by first | exact dlLoc_n (by assumption) | exact dlLoc_e (by assumption) (by assumption) | exact dlLoc_c (by assumption) (by assumption) (by assumption)) (by assumption) (by first | assumption | exact look_nil (by assumption))
                  | exact dlRes_some (by first | exact dlLoc_n (by assumption) | exact dlLoc_e (by assumption) (by assumption) | exact dlLoc_c (by assumption) (by assumption) (by assumption)) (by assumption) (by assumption))
            · rintro s3 ⟨h3, tk3, tkr, m3, rfl, F3, N3, ml, hag⟩
              have hn1 : n ≠ Str.ofString "" := fun z => by
                have : n.length = 0 := by rw [z]; rfl
                omega
              have hturn := turnD_val (tab := tab) hn1 hq hy1
              have hcs := res_cases (b := n == lang) ha.cases2 hy hy1
              generalize dlRes (n == lang) y tab = r at hturn hcs ml
              have em3 : m3 = fun z => if z = Str.ofString "locale" then some (.str r tkr) else m3 z := by
                funext z
                by_cases q1 : z = Str.ofString "locale"
                · rw [if_pos q1, q1, ml]
                · rw [if_neg q1]
              rw [em3] at F3
              clear em3 F2 N2
              rcases hcs with ⟨i0, hi, hp⟩ | ⟨hb, hp⟩
              · k_steps
                refine Halt.mk ?_
                refine' parse_good w mean mg mb hi _ _ _ _ _ _ _ _ _ _ _ _ _ _ _ _ _ _ ?pB ?pF ?pX ?pN ?pT ?pk ?pd ?pu ?_
                case pB => k_asm
                case pF => k_asm
                case pX => k_asm
                case pN => k_asm
                case pT => k_asm
                case pk => exact rfl
                case pd => (show dp + 1 + 2 < recursionLimit; omega)
                case pu => (show un + 3 + 16 < cLine; omega)
                intro D4 o4 h4 tk4 hP4 F4 N4
                k_steps
                refine Halt.mk ?_
                refine' ident_good w mean mg mb hP4 _ _ _ _ _ _ _ _ _ _ _ _ _ _ _ _ _ _ ?ipB ?ipF ?ipX ?ipN ?ipT ?ipk ?ipd ?ipu ?_
                case ipB => k_asm
                case ipF => k_asm
                case ipX => k_asm
                case ipN => k_asm
                case ipT => k_asm
                case ipk => exact rfl
                case ipd => (show dp + 1 + 2 < recursionLimit; omega)
                case ipu => (show un + 3 + 16 < cLine; omega)
                intro t5 h5 tk5 F5 N5
                k_steps
                all_goals refine hret _ _ _ _ (by assumption) (by k_asm) (drop0 (by k_asm) (by (intro p hp; first | exact hsub p hp | (refine List.mem_cons_of_mem _ ?_; exact hsub p hp)))) (by assumption) (by assumption) (by assumption) (by assumption) ?_
                rw [firstD_some hP hn (hturn.trans hp)]
                exact ⟨_, rfl⟩
              · k_steps
                refine Halt.mk ?_
                refine' parse_bad w mean mg mb hb _ _ _ _ _ _ _ _ _ _ _ _ _ _ _ _ _ _ ?bpB ?bpF ?bpX ?bpN ?bpT ?bpk ?bpd ?bpu ?_
                case bpB => k_asm
                case bpF => k_asm
                case bpX => k_asm
                case bpN => k_asm
                case bpT => k_asm
                case bpk => exact rfl
                case bpd => (show dp + 1 + 2 < recursionLimit; omega)
                case bpu => (show un + 3 + 16 < cLine; omega)
                intro G4 e4 t4 vs4 h4 tk4 FG4 R4 U4
                k_steps
                all_goals refine Halt.mk ⟨noneStep hP hn (hturn.trans hp), _, _, _, _, rfl, ⟨by assumption, by k_asm, by k_asm, by assumption, by assumption, by assumption, by assumption⟩, ?_⟩
                intro z q1 q2
                have q3 : z ≠ Str.ofString "locale" := fun q => by rw [q] at q2; exact absurd q2 (by decide)
                rw [if_neg q3, hag z q1 q2, hmB]
      · all_goals refine Halt.mk ⟨noneStep hP hn (turnD_n0 (eq_empty (by omega))), g2, _, _, _, rfl, ⟨T0', by k_asm, by k_asm, B2, X2, T2, D2⟩, by k_same⟩
    · intro g2 h2 tk2 m2 hP S
      obtain ⟨T0', F2, N2, B2, X2, T2, D2⟩ := S
      clear F N X1 T1 D1 B1
      k_steps
      all_goals refine hret _ _ _ _ (by assumption) (by k_asm) (drop0 (by k_asm) hsub) (by assumption) (by assumption) (by assumption) (by assumption) ?_
      rw [firstD_none hP]
      rfl
end S4
/-! the law's own small defs -/
def plainL : List (Str × Str) := [(Str.ofString "de", Str.ofString "de"), (Str.ofString "de_DE", Str.ofString "de_DE"), (Str.ofString "de_AT.UTF-8", Str.ofString "de_AT"), (Str.ofString "DE_at@euro", Str.ofString "de_AT@euro"), (Str.ofString "C@euro", Str.ofString "c@euro"), (Str.ofString "fr", Str.ofString "fr"), (Str.ofString "it_IT", Str.ofString "it_IT"), (Str.ofString "sv_SE", Str.ofString "sv_SE"), (Str.ofString "nn_NO", Str.ofString "nn_NO"), (Str.ofString "pl_PL", Str.ofString "pl_PL"), (Str.ofString "xx", Str.ofString "xx")]
def Ret1 (h₀ : Heap) (L : Addr) (m : Str → Option Value) (news : List (Addr × Obj)) (s : Shared) (Q : Value → Shared → Prop) (P : Value → List (Addr × Obj) → Prop) : Prop :=
  ∀ r x h' tk', Fr h₀ L h' m → News h₀ L h' x → (∀ p ∈ news, p ∈ x) → P r x → Q r { s with heap := h', toks := tk' }
set_option maxRecDepth 100000 in
set_option maxHeartbeats 0 in
theorem plain_contract {w : World} {mean : ExcName → Option Value} {mg mb : Str → Option Value}
    {dp un : Nat} {gd : Option (List Code)} {cn : Str} {cs : Scope} {a : Addr} {ccd : Value} {outer : List Env} {A₀ : Around} {base h₀ : Heap} {L : Addr} {m : Str → Option Value} {news : List (Addr × Obj)} {s : Shared}
    {Q E : Value → Shared → Prop}
    (B : Below A₀ base outer h₀) (F : Fr h₀ L s.heap m) (X : (hd.heap_39 w.params).In h₀) (N : News h₀ L s.heap news) (T : TP mean mg mb h₀) (hk : cs.kind = .function)
    (hdp : dp + 2 < recursionLimit) (hun : un + 16 < cLine)
    (hret : Ret1 h₀ L m news s Q fun r x => ∃ d, r = .ref d ∧ EnvIn w x d plainL) :
    wpAny (model PG w) (ktrTop dp un gd cn cs L a ccd [] outer) (call (.ref 49) []) Q E s := by
  refine wpAny_call ?_
  walk_at "MyEnter"
  k_steps
  all_goals refine hret _ _ _ _ (by k_asm) (by k_asm) (by walk_at "MySub") ⟨_, rfl, by assumption, _, List.mem_cons_self .., _, by assumption, by assumption⟩

theorem nodup_tab0 : (tab0.map (·.1)).Nodup := by decide +kernel
section S5
local macro_rules | `(tactic| walk_at "Exists") => `(tactic| (k_here; refine kdp_made_str (by k_asm) (by k_asm) (Top.nolimit (by k_asm)) (by rfl) (by exact nodup_tab0) (by rfl) ?_; intro h' o' F' N' l1 lo' hd' hf' ap'; (try k_lt l1)))
set_option maxRecDepth 100000 in
set_option maxHeartbeats 0 in
theorem table0 {w : World} {mean : ExcName → Option Value} {mg mb : Str → Option Value}
    {dp un : Nat} {gd : Option (List Code)} {cn : Str} {cs : Scope} {a : Addr} {ccd : Value} {outer : List Env} {A₀ : Around} {base h₀ : Heap} {L : Addr} {m : Str → Option Value} {news : List (Addr × Obj)} {s : Shared}
    {Q E : Value → Shared → Prop} {tk : Tok}
    (B : Below A₀ base outer h₀) (F : Fr h₀ L s.heap m) (X : (hd.heap_39 w.params).In h₀) (N : News h₀ L s.heap news) (T : TP mean mg mb h₀) (hck : cs.kind = .function)
    (hdp : dp + 2 < recursionLimit) (hun : un + 16 < cLine)
    (hret : Ret1 h₀ L m news s Q fun r x => ∃ d, r = .ref d ∧ EnvIn w x d tab0) :
    wpAny (model PG w) (ktrTop dp un gd cn cs L a ccd [] outer) (call (.ref 57) [.int 0 tk]) Q E s := by
  refine wpAny_call ?_
  walk_at "MyEnter"
  k_steps
  all_goals refine hret _ _ _ _ (by k_asm) (by k_asm) (by walk_at "MySub") ⟨_, rfl, by assumption, _, List.mem_cons_self .., _, by assumption, by assumption⟩
end S5
set_option maxRecDepth 100000 in
set_option maxHeartbeats 0 in
theorem table1 {w : World} {mean : ExcName → Option Value} {mg mb : Str → Option Value}
    {dp un : Nat} {gd : Option (List Code)} {cn : Str} {cs : Scope} {a : Addr} {ccd : Value} {outer : List Env} {A₀ : Around} {base h₀ : Heap} {L : Addr} {m : Str → Option Value} {news : List (Addr × Obj)} {s : Shared}
    {Q E : Value → Shared → Prop} {tk : Tok}
    (B : Below A₀ base outer h₀) (F : Fr h₀ L s.heap m) (X : (hd.heap_39 w.params).In h₀) (N : News h₀ L s.heap news) (T : TP mean mg mb h₀) (hck : cs.kind = .function)
    (hdp : dp + 2 < recursionLimit) (hun : un + 16 < cLine)
    (hret : Ret1 h₀ L m news s Q fun r x => r = .none) :
    wpAny (model PG w) (ktrTop dp un gd cn cs L a ccd [] outer) (call (.ref 57) [.int 1 tk]) Q E s := by
  refine wpAny_call ?_
  walk_at "MyEnter"
  k_steps
  all_goals refine hret _ _ _ _ (by k_asm) (by k_asm) (by walk_at "MySub") rfl
set_option maxRecDepth 100000 in
set_option maxHeartbeats 0 in
theorem table2 {w : World} {mean : ExcName → Option Value} {mg mb : Str → Option Value}
    {dp un : Nat} {gd : Option (List Code)} {cn : Str} {cs : Scope} {a : Addr} {ccd : Value} {outer : List Env} {A₀ : Around} {base h₀ : Heap} {L : Addr} {m : Str → Option Value} {news : List (Addr × Obj)} {s : Shared}
    {Q E : Value → Shared → Prop} {tk : Tok}
    (B : Below A₀ base outer h₀) (F : Fr h₀ L s.heap m) (X : (hd.heap_39 w.params).In h₀) (N : News h₀ L s.heap news) (T : TP mean mg mb h₀) (hck : cs.kind = .function)
    (hdp : dp + 2 < recursionLimit) (hun : un + 16 < cLine)
    (hret : Ret1 h₀ L m news s Q fun r x => ∃ d, r = .ref d ∧ EnvIn w x d []) :
    wpAny (model PG w) (ktrTop dp un gd cn cs L a ccd [] outer) (call (.ref 57) [.int 2 tk]) Q E s := by
  refine wpAny_call ?_
  walk_at "MyEnter"
  k_steps
  all_goals refine hret _ _ _ _ (by k_asm) (by k_asm) (by walk_at "MySub") ⟨_, rfl, by assumption, _, List.mem_cons_self .., _, by assumption, by assumption⟩
/-- the aliases by their number -/
def tabOf (k : Int) : List (Str × Str) := if k = 0 then tab0 else []
theorem table_contract {w : World} {mean : ExcName → Option Value} {mg mb : Str → Option Value}
    {dp un : Nat} {gd : Option (List Code)} {cn : Str} {cs : Scope} {a : Addr} {ccd : Value} {outer : List Env} {A₀ : Around} {base h₀ : Heap} {L : Addr} {m : Str → Option Value} {news : List (Addr × Obj)} {s : Shared}
    {Q E : Value → Shared → Prop} {k : Int} {tk : Tok}
    (B : Below A₀ base outer h₀) (F : Fr h₀ L s.heap m) (X : (hd.heap_39 w.params).In h₀) (N : News h₀ L s.heap news) (T : TP mean mg mb h₀) (hck : cs.kind = .function)
    (hdp : dp + 2 < recursionLimit) (hun : un + 16 < cLine) (hk : k = 0 ∨ k = 1 ∨ k = 2)
    (hret : Ret1 h₀ L m news s Q fun r x => (k = 1 ∧ r = .none) ∨ (k ≠ 1 ∧ ∃ d, r = .ref d ∧ EnvIn w x d (tabOf k))) :
    wpAny (model PG w) (ktrTop dp un gd cn cs L a ccd [] outer) (call (.ref 57) [.int k tk]) Q E s := by
  rcases hk with rfl | rfl | rfl
  · exact table0 B F X N T hck hdp hun fun r x h' tk' F' N' hs hP => hret r x h' tk' F' N' hs (.inr ⟨by decide, hP⟩)
  · exact table1 B F X N T hck hdp hun fun r x h' tk' F' N' hs hP => hret r x h' tk' F' N' hs (.inl ⟨rfl, hP⟩)
  · exact table2 B F X N T hck hdp hun fun r x h' tk' F' N' hs hP => hret r x h' tk' F' N' hs (.inr ⟨by decide, hP⟩)
/-! _law_means -/
def machL : List Str := [Str.ofString "C", Str.ofString "POSIX", Str.ofString "C.UTF-8", Str.ofString "POSIX.x@y", Str.ofString "C.", Str.ofString "C.UTF-8:de"]
def meansOf (p : Str) (tab : List (Str × Str)) : Option Str := if machL.any (· == p) then some (Str.ofString "en_US_POSIX") else look plainL ((look tab p).getD p)
def partOf (b : Bool) (y : Str) : Str := if b then hd1 y (Str.ofString ":") else y
theorem means_m {b : Bool} {y p : Str} {tab : List (Str × Str)} {t : Tok} (hp : p = partOf b y) (hm : (machL.any (· == p)) = true) : OptV (.str (Str.ofString "en_US_POSIX") t) (meansOf (partOf b y) tab) := by
  rw [← hp]; unfold meansOf; rw [hm]; exact ⟨_, rfl⟩
theorem means_p {b : Bool} {y p q : Str} {tab : List (Str × Str)} {v : Value} (hp : p = partOf b y) (hm : (machL.any (· == p)) = false) (hq : (look tab p).getD p = q) (h : OptV v (look plainL q)) : OptV v (meansOf (partOf b y) tab) := by
  rw [← hp]; unfold meansOf; rw [hm, hq]; exact h
theorem part_e {n y z : Str} (hb : (n == Str.ofString "LANGUAGE") = true) (hz : z = hd1 y (Str.ofString ":")) : z = partOf (n == lang) y := by
  unfold partOf lang; rw [hb, hz]; rfl
theorem part_n {n y : Str} (hb : (n == Str.ofString "LANGUAGE") = false) : y = partOf (n == lang) y := by
  unfold partOf lang; rw [hb]; rfl
theorem q_nil {tab : List (Str × Str)} {p : Str} (h : tab = []) : (look tab p).getD p = p := by subst h; rfl
theorem q_none {tab : List (Str × Str)} {p : Str} (h : look tab p = none) : (look tab p).getD p = p := by rw [h]; rfl
theorem q_some {tab : List (Str × Str)} {p q : Str} (h : look tab p = some q) : (look tab p).getD p = q := by rw [h]; rfl
theorem opt_none {v : Option Str} (h : v = none) : OptV .none v := by subst h; rfl
theorem opt_some {v : Option Str} {x : Str} {t : Tok} (h : v = some x) : OptV (.str x t) v := by subst h; exact ⟨_, rfl⟩
section S6
local macro_rules | `(tactic| walk_at "call builtin:dict.get") => `(tactic| (k_here; refine Halt.out ?_))
local macro_rules | `(tactic| walk_at "getMethod ref") => `(tactic| (k_here; k_dflt (refine env_meth (by assumption) (by k_asm) (by walk_at "MySub") ?_)))
local macro_rules | `(tactic| walk_at "call builtin:str.split") => `(tactic| (k_here; k_dflt (refine' KSpl.split1 ?F ?N ?y ?_ ?z; (case F => k_asm); (case N => k_asm); (case y => decide); (case z => (rw [sizeLine_eq]; omega))); intro D' l' h' k' e' a' F' N' l1; (try k_lt l1)))
local macro_rules | `(tactic| walk_at "subscriptTail Call Attribute cons nil Constant ref int") => `(tactic| (k_here; k_dflt (refine' split_hdC ?zN ?zm ?ze ?zt ?_; (case zN => k_asm); (case zm => k_mem); (case ze => assumption); (case zt => assumption); intro z' t' hz' hzt' hzl')))
local macro_rules | `(tactic| walk_at "compareOp In str ref") => `(tactic| (k_here; k_dflt (first
  | (refine' in_tuple_strs ?N ?i ?_; (case N => exact kun_topT (by k_asm) (by k_asm) (by k_is)); (case i => repeat constructor))
  | (refine' env_in2 ?E ?N ?s ?_ ?_; (case E => assumption); (case N => k_asm); (case s => walk_at "MySub")))))
local macro_rules | `(tactic| walk_at "truthy") => `(tactic| (k_here; k_dflt (refine' truthy_tabv ?A ?N ?s ?_ ?_; (case A => assumption); (case N => k_asm); (case s => walk_at "MySub"); (rotate_left; (intro d' tk' hav' hE' ht'; subst hav'); rotate_left))))
local macro_rules | `(tactic| walk_at "subscriptTail Name Name ref str") => `(tactic| (k_here; k_dflt (refine' env_item ?E ?N ?s ?l ?_; (case E => assumption); (case N => k_asm); (case s => walk_at "MySub"); (case l => assumption); intro t')))
local macro_rules | `(tactic| walk_at "call ref") => `(tactic| (k_here; refine Halt.out ?_))
local macro_rules | `(tactic| walk_at "execs cons") => `(tactic| (k_here; dsimp only))
local macro_rules | `(tactic| walk_at "execs nil") => `(tactic| (k_here; dsimp only))
set_option maxRecDepth 100000 in
set_option maxHeartbeats 0 in
theorem means_contract {w : World} {mean : ExcName → Option Value} {mg mb : Str → Option Value}
    {dp un : Nat} {gd : Option (List Code)} {cn : Str} {cs : Scope} {a : Addr} {ccd : Value} {outer : List Env} {A₀ : Around} {base h₀ : Heap} {L : Addr} {m : Str → Option Value} {news : List (Addr × Obj)} {s : Shared}
    {Q E : Value → Shared → Prop} {n y : Str} {tn ty : Tok} {av : Value} {tab : List (Str × Str)}
    (B : Below A₀ base outer h₀) (F : Fr h₀ L s.heap m) (X : (hd.heap_39 w.params).In h₀) (N : News h₀ L s.heap news) (T : TP mean mg mb h₀) (hck : cs.kind = .function)
    (hdp : dp + 3 < recursionLimit) (hun : un + 32 < cLine) (hy : y ∈ txts) (ha : TabV w news av tab) (hnl : n.length ≤ 1000)
    (hret : Ret1 h₀ L m news s Q fun r x => OptV r (meansOf (partOf (n == lang) y) tab)) :
    wpAny (model PG w) (ktrTop dp un gd cn cs L a ccd [] outer) (call (.ref 78) [.str n tn, .str y ty, av]) Q E s := by
  have hyl := txt_len y hy
  refine wpAny_call ?_
  walk_at "MyEnter"
  k_steps
  all_goals first
    | (refine hret _ _ _ _ (by k_asm) (by k_asm) (by walk_at "MySub") (means_m (by first | exact part_e (by assumption) (by assumption) | exact part_n (by assumption)) (by assumption)))
    | (refine Halt.mk ?_
       refine' plain_contract ?pB ?pF ?pX ?pN ?pT ?pk ?pd ?pu ?_
       case pB => k_asm
       case pF => k_asm
       case pX => k_asm
       case pN => k_asm
       case pT => k_asm
       case pk => exact rfl
       case pd => (show dp + 1 + 2 < recursionLimit; omega)
       case pu => (show un + 3 + 16 < cLine; omega)
       rintro r5 x5 h5 tk5 F5 N5 hs5 ⟨d5, rfl, hE5⟩
       k_steps
       refine Halt.mk ?_
       refine env_get hE5 (by k_asm) (by walk_at "MySub") (fun hq => ?_) (fun y6 t6 hq => ?_)
       all_goals k_steps
       all_goals refine hret _ _ _ _ (by k_asm) (by k_asm) (by intro p hp; first | exact hs5 _ hp | exact hs5 _ (List.mem_cons_of_mem _ hp)) (means_p (by first | exact part_e (by assumption) (by assumption) | exact part_n (by assumption)) (by assumption) (by first | exact q_nil (by assumption) | exact q_none (by assumption) | exact q_some (by assumption)) (by first | exact opt_none hq | exact opt_some hq)))
end S6
/-! _law_due and the two small tables of names -/
def turnL (tab c : List (Str × Str)) (n : Str) : Option Str := match look c n with
  | none => none
  | some y => if y == Str.ofString "" then none else meansOf (partOf (n == lang) y) tab
def askNames (k : Int) : List Str := if k = 2 then [Str.ofString "LC_TIME"] else if k = 3 then [Str.ofString "LC_MESSAGES", Str.ofString "LC_TIME"] else if k = 4 then [Str.ofString "LC_MESSAGES"] else []
def four : List Str := [Str.ofString "LANGUAGE", Str.ofString "LC_ALL", Str.ofString "LC_CTYPE", Str.ofString "LANG"]
/-- what _law_asked gives -/
inductive AskV (x : List (Addr × Obj)) : Int → Value → Prop
  | k0 (d : Addr) : (d, tupO []) ∈ x → AskV x 0 (.ref d)
  | k1 (d : Addr) : (d, tupO []) ∈ x → AskV x 1 (.ref d)
  | k2 (d : Addr) (a : Tok) : (d, tupO [.str (Str.ofString "LC_TIME") a]) ∈ x → AskV x 2 (.ref d)
  | k3 (d : Addr) (a b : Tok) : (d, tupO [.str (Str.ofString "LC_MESSAGES") a, .str (Str.ofString "LC_TIME") b]) ∈ x → AskV x 3 (.ref d)
  | k4 (d : Addr) (a : Tok) : (d, tupO [.str (Str.ofString "LC_MESSAGES") a]) ∈ x → AskV x 4 (.ref d)
set_option maxRecDepth 100000 in
set_option maxHeartbeats 0 in
theorem asked_contract {w : World} {mean : ExcName → Option Value} {mg mb : Str → Option Value}
    {dp un : Nat} {gd : Option (List Code)} {cn : Str} {cs : Scope} {a : Addr} {ccd : Value} {outer : List Env} {A₀ : Around} {base h₀ : Heap} {L : Addr} {m : Str → Option Value} {news : List (Addr × Obj)} {s : Shared}
    {Q E : Value → Shared → Prop} {k : Int} {tk : Tok}
    (B : Below A₀ base outer h₀) (F : Fr h₀ L s.heap m) (X : (hd.heap_39 w.params).In h₀) (N : News h₀ L s.heap news) (T : TP mean mg mb h₀) (hck : cs.kind = .function)
    (hdp : dp + 2 < recursionLimit) (hun : un + 16 < cLine) (hk : k ∈ [(0 : Int), 1, 2, 3, 4])
    (hret : Ret1 h₀ L m news s Q fun r x => AskV x k r) :
    wpAny (model PG w) (ktrTop dp un gd cn cs L a ccd [] outer) (call (.ref 71) [.int k tk]) Q E s := by
  simp only [List.mem_cons, List.not_mem_nil, or_false] at hk
  rcases hk with rfl | rfl | rfl | rfl | rfl
  all_goals
    refine wpAny_call ?_
    walk_at "MyEnter"
    k_steps
  all_goals first
    | refine hret _ _ _ _ (by k_asm) (by k_asm) (by walk_at "MySub") (.k0 _ (by k_mem))
    | refine hret _ _ _ _ (by k_asm) (by k_asm) (by walk_at "MySub") (.k1 _ (by k_mem))
    | refine hret _ _ _ _ (by k_asm) (by k_asm) (by walk_at "MySub") (.k2 _ _ (by k_mem))
    | refine hret _ _ _ _ (by k_asm) (by k_asm) (by walk_at "MySub") (.k3 _ _ _ (by k_mem))
    | refine hret _ _ _ _ (by k_asm) (by k_asm) (by walk_at "MySub") (.k4 _ _ (by k_mem))
theorem turnL_n {tab c : List (Str × Str)} {n : Str} (h : look c n = none) : turnL tab c n = none := by
  unfold turnL; rw [h]
theorem turnL_e {tab c : List (Str × Str)} {n y : Str} (h : look c n = some y) (h0 : y = Str.ofString "") : turnL tab c n = none := by
  unfold turnL; rw [h, h0]; rfl
theorem turnL_v {tab c : List (Str × Str)} {n y : Str} (h : look c n = some y) (hy : y ≠ Str.ofString "") : turnL tab c n = meansOf (partOf (n == lang) y) tab := by
  have e2 : (y == Str.ofString "") = false := beq_eq_false_iff_ne.mpr hy
  unfold turnL; rw [h]; simp only [e2, Bool.false_eq_true, if_false]
section S7
local macro_rules | `(tactic| walk_at "call builtin:dict.get") => `(tactic| (k_here; refine Halt.out ?_))
local macro_rules | `(tactic| walk_at "getMethod ref") => `(tactic| (k_here; k_dflt (refine env_meth (by assumption) (by k_asm) (by walk_at "MySub") ?_)))
local macro_rules | `(tactic| walk_at "call ref") => `(tactic| (k_here; refine Halt.out ?_))
local macro_rules | `(tactic| walk_at "exec For Name BinOp cons nil") => `(tactic| (k_here; refine Halt.out ?_))
local macro_rules | `(tactic| walk_at "execs cons") => `(tactic| (k_here; dsimp only))
local macro_rules | `(tactic| walk_at "execs nil") => `(tactic| (k_here; dsimp only))
set_option maxRecDepth 100000 in
set_option maxHeartbeats 0 in
theorem due_contract {w : World} {mean : ExcName → Option Value} {mg mb : Str → Option Value}
    {dp un : Nat} {gd : Option (List Code)} {cn : Str} {cs : Scope} {a : Addr} {ccd : Value} {outer : List Env} {A₀ : Around} {base h₀ g₀ : Heap} {L : Addr} {m : Str → Option Value} {news : List (Addr × Obj)} {s : Shared}
    {Q E : Value → Shared → Prop} {k : Int} {tkk : Tok} {av : Value} {e : Addr} {tab c : List (Str × Str)}
    (XB : (hd.heap_39 w.params).In base) (TB : TP mean mg mb base) (B : Below A₀ base outer h₀) (F : Fr h₀ L s.heap m) (X : (hd.heap_39 w.params).In h₀) (N : News h₀ L s.heap news) (T : TP mean mg mb h₀)
    (D : KtsDicts (outer.filterMap (·.frame)) h₀) (T0 : KtsTurn (outer.filterMap (·.frame)) g₀ h₀) (hk : cs.kind = .function)
    (hdp : dp + 5 < recursionLimit) (hun : un + 48 < cLine) (hkk : k ∈ [(0 : Int), 1, 2, 3, 4]) (ha : TabV w news av tab) (he : EnvIn w news e c) (htx : ∀ p ∈ c, p.2 ∈ txts)
    (hret : ∀ h₀' r h' tk', KtsTurn (outer.filterMap (·.frame)) g₀ h₀' → Fr h₀' L h' m → News h₀' L h' news → Below A₀ base outer h₀' → (hd.heap_39 w.params).In h₀' → TP mean mg mb h₀' → KtsDicts (outer.filterMap (·.frame)) h₀' →
      OptV r (firstD (turnL tab c) (askNames k ++ four)) → Q r { s with heap := h', toks := tk' }) :
    wpAny (model PG w) (ktrTop dp un gd cn cs L a ccd [] outer) (call (.ref 85) [.int k tkk, .ref e, av]) Q E s := by
  refine wpAny_call ?_
  walk_at "MyEnterS"
  intro g1 L1 h1 FG1 F1 N1 B1 X1 T1 D1
  clear B F N T X D T0
  (try dsimp only)
  k_steps
  refine Halt.mk ?_
  refine wpAny_For (wpAny_mono (?hev : wpAny _ _ _ (fun xv s₁ => Halt (∃ h tk m₀ x t vs, xv = .ref t ∧ s₁ = { s with heap := h, toks := tk } ∧ Fr g1 L1 h m₀ ∧ News g1 L1 h x ∧ (∀ p ∈ news, p ∈ x) ∧ (t, tupO vs) ∈ x ∧
    StrsAre vs (askNames k ++ four) ∧ m₀ (Str.ofString "table") = some av ∧ m₀ (Str.ofString "env") = some (.ref e))) _ _) (fun xv s₁ h₁ => ?_) (fun _ _ e => e))
  case hev =>
    k_steps
    refine Halt.mk ?_
    refine' asked_contract ?pB ?pF ?pX ?pN ?pT ?pk ?pd ?pu hkk ?_
    case pB => k_asm
    case pF => k_asm
    case pX => k_asm
    case pN => k_asm
    case pT => k_asm
    case pk => exact rfl
    case pd => (show dp + 1 + 2 < recursionLimit; omega)
    case pu => (show un + 3 + 16 < cLine; omega)
    intro r5 x5 h5 tk5 F5 N5 hs5 hr5
    cases hr5 with
    | _ =>
      rename_i hm
      have N6 := newsCons N5 hm
      clear N5
      k_steps
      all_goals refine Halt.mk ⟨_, _, _, _, _, _, rfl, rfl, by k_asm, by k_asm, (by intro p hp; have hp' := hs5 p hp; repeat (first | exact hp' | refine List.mem_cons_of_mem _ ?_)), List.mem_cons_self .., by repeat constructor, rfl, rfl⟩
  obtain ⟨h, tk, m₀, x, t, vs, rfl, rfl, F, N, hsub, ht, hv, m1, m2⟩ := h₁
  have em : m₀ = fun z => if z = Str.ofString "env" then some (.ref e) else if z = Str.ofString "table" then some av else m₀ z := by
    funext z
    by_cases q1 : z = Str.ofString "env"
    · simp only [q1, m2, if_pos]
    · by_cases q2 : z = Str.ofString "table"
      · rw [if_neg q1, if_pos q2, q2, m1]
      · simp only [if_neg q1, if_neg q2]
  rw [em] at F
  clear em m1 m2 N1 F1 FG1
  have hnames : ∀ n ∈ askNames k ++ four, n.length ≤ 1000 := by
    simp only [List.mem_cons, List.not_mem_nil, or_false] at hkk
    rcases hkk with rfl | rfl | rfl | rfl | rfl <;> decide +kernel
  generalize hnm : askNames k ++ four = names at hv hret hnames
  clear hnm hkk
  replace ha : TabV w x av tab := by
    cases ha with
    | none => exact .none
    | dict d _ h1 h2 => exact .dict d _ (h1.mono hsub) h2
  replace he := he.mono hsub
  refine loop_names (g := g1) (news := x) [Str.ofString "text", Str.ofString "told"] (fun i => ∀ j, j < i → ∀ n, names[j]? = some n → turnL tab c n = none) rfl rfl rfl ⟨KtsTurn.refl, F, N, B1, X1, T1, D1⟩ ht hv (fun j hj => absurd hj (Nat.not_lt_zero _)) ?_ ?_
  · intro i n tn g2 h2 tk2 u I o hn hP S
    obtain ⟨T0', F2, N2, B2, X2, T2, D2⟩ := S
    clear F N X1 T1 D1 B1
    have hnl : n.length ≤ 1000 := hnames n (List.mem_of_getElem? hn)
    k_steps
    refine Halt.mk ?_
    refine env_getT htx he N2 (by walk_at "MySub") (fun hq => ?_) (fun y ty hq hy => ?_)
    · k_steps
      all_goals refine Halt.mk ⟨noneStep hP hn (turnL_n hq), g2, _, _, _, rfl, ⟨T0', by k_asm, by k_asm, B2, X2, T2, D2⟩, by k_same⟩
    · k_steps
      refine truthy_txt (txt_len y hy) (fun hy0 => ?_) (fun hy1 => ?_)
      · k_steps
        all_goals refine Halt.mk ⟨noneStep hP hn (turnL_e hq hy0), g2, _, _, _, rfl, ⟨T0', by k_asm, by k_asm, B2, X2, T2, D2⟩, by k_same⟩
      · have hturn := turnL_v (tab := tab) hq hy1
        have ha2 : TabV w ((I, o) :: x) av tab := by
          cases ha with
          | none => exact .none
          | dict d _ h1 h2 => exact .dict d _ (h1.mono fun p hp => List.mem_cons_of_mem _ hp) h2
        k_steps
        refine Halt.mk ?_
        refine' means_contract ?pB ?pF ?pX ?pN ?pT ?pk ?pd ?pu hy ha2 hnl ?_
        case pB => k_asm
        case pF => k_asm
        case pX => k_asm
        case pN => k_asm
        case pT => k_asm
        case pk => exact rfl
        case pd => (show dp + 1 + 3 < recursionLimit; omega)
        case pu => (show un + 3 + 32 < cLine; omega)
        intro r5 x5 h5 tk5 F5 N5 hs5 hr5
        replace N5 := drop0 N5 hs5
        cases hq5 : meansOf (partOf (n == lang) y) tab with
        | none =>
          rw [hq5] at hr5
          cases (show r5 = .none from hr5)
          k_steps
          all_goals refine Halt.mk ⟨noneStep hP hn (hturn.trans hq5), g2, _, _, _, rfl, ⟨T0', by k_asm, by k_asm, B2, X2, T2, D2⟩, by k_same⟩
        | some z =>
          rw [hq5] at hr5
          obtain ⟨t6, rfl⟩ := hr5
          k_steps
          all_goals refine hret _ _ _ _ (by assumption) (by k_asm) (drop0 (by k_asm) (by (intro p hp; first | exact hsub p hp | (refine List.mem_cons_of_mem _ ?_; exact hsub p hp)))) (by assumption) (by assumption) (by assumption) (by assumption) ?_
          rw [firstD_some hP hn (hturn.trans hq5)]
          exact ⟨_, rfl⟩
  · intro g2 h2 tk2 m2 hP S
    obtain ⟨T0', F2, N2, B2, X2, T2, D2⟩ := S
    clear F N X1 T1 D1 B1
    k_steps
    all_goals refine hret _ _ _ _ (by assumption) (by k_asm) (drop0 (by k_asm) hsub) (by assumption) (by assumption) (by assumption) (by assumption) ?_
    rw [firstD_none hP]
    rfl
end S7
/-! _law_category, and the plain law: the two orders of names, the two ways to read a text -/
def catNs (k : Int) : List Str := if k = 2 then [Str.ofString "LC_TIME"] else if k = 3 then [Str.ofString "", Str.ofString "LC_MESSAGES", Str.ofString "LC_TIME"] else if k = 4 then [Str.ofString "LC_MESSAGES"] else []
set_option maxRecDepth 100000 in
set_option maxHeartbeats 0 in
theorem category_contract {w : World} {mean : ExcName → Option Value} {mg mb : Str → Option Value}
    {dp un : Nat} {gd : Option (List Code)} {cn : Str} {cs : Scope} {a : Addr} {ccd : Value} {outer : List Env} {A₀ : Around} {base h₀ : Heap} {L : Addr} {m : Str → Option Value} {news : List (Addr × Obj)} {s : Shared}
    {Q E : Value → Shared → Prop} {k : Int} {tk : Tok}
    (B : Below A₀ base outer h₀) (F : Fr h₀ L s.heap m) (X : (hd.heap_39 w.params).In h₀) (N : News h₀ L s.heap news) (T : TP mean mg mb h₀) (hck : cs.kind = .function)
    (hdp : dp + 2 < recursionLimit) (hun : un + 16 < cLine) (hk : k ∈ [(0 : Int), 1, 2, 3, 4])
    (hret : Ret1 h₀ L m news s Q fun r x => CatV x r (catNs k)) :
    wpAny (model PG w) (ktrTop dp un gd cn cs L a ccd [] outer) (call (.ref 64) [.int k tk]) Q E s := by
  simp only [List.mem_cons, List.not_mem_nil, or_false] at hk
  rcases hk with rfl | rfl | rfl | rfl | rfl
  all_goals
    refine wpAny_call ?_
    walk_at "MyEnter"
    k_steps
  all_goals first
    | refine hret _ _ _ _ (by k_asm) (by k_asm) (by walk_at "MySub") .none
    | refine hret _ _ _ _ (by k_asm) (by k_asm) (by walk_at "MySub") (.empty _)
    | refine hret _ _ _ _ (by k_asm) (by k_asm) (by walk_at "MySub") (.time _)
    | refine hret _ _ _ _ (by k_asm) (by k_asm) (by walk_at "MySub") (.tup _ _ _ _ (by k_mem))
    | refine hret _ _ _ _ (by k_asm) (by k_asm) (by walk_at "MySub") (.lst _ _ _ (by k_mem))
theorem plain_facts : ∀ b ∈ [true, false], ∀ tab ∈ [[], tab0], ∀ y ∈ txts, y = Str.ofString "" ∨ parseR (dlRes b y tab) = meansOf (partOf b y) tab := by decide +kernel
theorem turn_eq {tab c : List (Str × Str)} {n : Str} (htab : tab = [] ∨ tab = tab0) (htx : ∀ p ∈ c, p.2 ∈ txts) (hn : n ≠ Str.ofString "") : turnD tab c n = turnL tab c n := by
  cases q : look c n with
  | none => rw [turnD_look q, turnL_n q]
  | some y =>
    by_cases hy : y = Str.ofString ""
    · rw [turnD_y0 q hy, turnL_e q hy]
    · rw [turnD_val hn q hy, turnL_v q hy]
      exact (plain_facts (n == lang) (by cases n == lang <;> simp) tab (by rcases htab with rfl | rfl <;> simp) y (htx _ (look_mem q))).resolve_left hy
theorem firstD_congr {f g : Str → Option Str} : ∀ {names : List Str}, (∀ n ∈ names, f n = g n) → firstD f names = firstD g names
  | [], _ => rfl
  | n :: r, h => by
    simp only [firstD]
    rw [h n (by simp), firstD_congr fun z hz => h z (List.mem_cons_of_mem _ hz)]
theorem names_ne : ∀ k ∈ [(0 : Int), 1, 2, 3, 4], ∀ n ∈ askNames k ++ four, n ≠ Str.ofString "" := by decide +kernel
theorem law_eq {tab c : List (Str × Str)} {k : Int} (hk : k ∈ [(0 : Int), 1, 2, 3, 4]) (htab : tab = [] ∨ tab = tab0) (htx : ∀ p ∈ c, p.2 ∈ txts) :
    firstD (turnD tab c) (catNs k ++ [Str.ofString "LANGUAGE", Str.ofString "LC_ALL", Str.ofString "LC_CTYPE", Str.ofString "LANG"]) = firstD (turnL tab c) (askNames k ++ four) := by
  have h1 : firstD (turnD tab c) (catNs k ++ [Str.ofString "LANGUAGE", Str.ofString "LC_ALL", Str.ofString "LC_CTYPE", Str.ofString "LANG"]) = firstD (turnD tab c) (askNames k ++ four) := by
    simp only [List.mem_cons, List.not_mem_nil, or_false] at hk
    rcases hk with rfl | rfl | rfl | rfl | rfl
    · rfl
    · rfl
    · rfl
    · show (turnD tab c (Str.ofString "")).or _ = _
      rw [turnD_n0 rfl]
      rfl
    · rfl
  rw [h1]
  exact firstD_congr fun n hn => turn_eq htab htx (names_ne k hk n hn)
/-! dicts of texts: a stored text, a copy, two that hold the same; a loop over a range whose turns may leave a new base and new objects -/
def putE (c : List (Str × Str)) (k v : Str) : List (Str × Str) :=
  if c.any (fun p => decide (p.1 = k)) then c.map (fun p => if decide (p.1 = k) then (p.1, v) else p) else c ++ [(k, v)]
theorem envD_any (c : List (Str × Str)) (k : Str) : ((envD c).any fun p => PySem.Spec.same p.1 (PyData.str k)) = c.any fun p => decide (p.1 = k) := by
  simp only [envD, List.any_map, Function.comp_def, PyProof.V.same_str]
theorem envD_put (c : List (Str × Str)) (k v : Str) : PyProof.V.putD (PyData.str k) (PyData.str v) (envD c) = envD (putE c k v) := by
  simp only [PyProof.V.putD, putE, envD_any]
  split
  · simp only [envD, List.map_map, List.map_inj_left, Function.comp_def, PyProof.V.same_str]
    rintro ⟨a, b⟩ _
    by_cases h : a = k <;> simp [h]
  · simp [envD]
theorem putE_len (c : List (Str × Str)) (k v : Str) : (putE c k v).length ≤ c.length + 1 := by
  simp only [putE]; split <;> simp
theorem putE_txts {c : List (Str × Str)} {k v : Str} {T : List Str} (hc : ∀ p ∈ c, p.2 ∈ T) (hv : v ∈ T) : ∀ p ∈ putE c k v, p.2 ∈ T := by
  unfold putE
  split
  · intro p hp
    obtain ⟨q, hq, rfl⟩ := List.mem_map.mp hp
    split
    · exact hv
    · exact hc q hq
  · intro p hp
    rcases List.mem_append.mp hp with h | h
    · exact hc p h
    · have : p = (k, v) := by simpa using h
      rw [this]; exact hv
theorem envD_len (c : List (Str × Str)) : (envD c).length = c.length := by unfold envD; rw [List.length_map]
section
variable {w : World} {A : Around} {E : Value → Shared → Prop} {s : Shared} {h₀ : Heap} {L d : Addr} {m : Str → Option Value} {news : List (Addr × Obj)} {u : Obj → List (Addr × Obj)} {o : Obj} {c : List (Str × Str)} {k v : Str} {tk tv : Tok}
theorem env_set {Q : Unit → Shared → Prop} (F : Fr h₀ L s.heap m) (N : News h₀ L s.heap news) (U : UpdF d o news u) (hE : EnvO w o c) (hc : c.length ≤ 1000)
    (h : ∀ h' o', Fr h₀ L h' m → News h₀ L h' (u o') → EnvO w o' (putE c k v) → Q () { s with heap := h', toks := s.toks + 1 }) :
    wpAny (model PG w) A (setItem (.ref d) (.str k tk) (.str v tv)) Q E s := by
  obtain ⟨kvs, hd, hf⟩ := hE
  exact setItem_K PyProof.V.same_str (strKind_is _ _ _ _) (PyProof.V.Flat.str v tv) F N U hd hf (fun h' o' F' N' a b => h h' o' F' N' ⟨_, a, by rw [← envD_put]; exact b⟩) (by rw [envD_len, sizeLine_eq]; omega)
theorem env_copy {e : Addr} {Q : Value → Shared → Prop} {x : List (Addr × Obj)} (F : Fr h₀ L s.heap m) (N : News h₀ L s.heap news) (hbig : sysModules < h₀.objs.size) (hE : EnvIn w x e c) (hs : ∀ p ∈ x, p ∈ news) (hc : c.length ≤ 1000)
    (h : ∀ d h' o', Fr h₀ L h' m → News h₀ L h' ((d, o') :: news) → EnvIn w ((d, o') :: news) d c → (∀ p ∈ news, p.1 < d) → Q (.ref d) { s with heap := h' }) :
    wpAny (model PG w) A (call (.type "dict") [.ref e]) Q E s :=
  PyProof.Rows.kt_dict_of F N hbig (hE.tab N (by intro p hp; exact hs p hp)) (by rw [envD_len, sizeLine_eq]; omega) fun h' o kvs F' N' lo hd hf _ =>
    h _ h' o F' N' ⟨lo, o, List.mem_cons_self .., kvs, hd, hf⟩ fun p hp => Heap.lt_size (N p hp).1
end
theorem flat_at : ∀ {kvs : List (Str × Value)} {c : List (Str × Str)}, PyProof.V.FlatPairs PyData.str kvs (envD c) → kvs.map (·.1) = c.map (·.1) ∧ ∀ (i : Nat) (v : Value) (k : Str), kvs[i]? = some (k, v) → ∃ y : Str, c[i]? = some (k, y) ∧ PyProof.V.Flat v (.str y)
  | [], [], _ => ⟨rfl, fun i v k h => by simp at h⟩
  | [], p :: c, h => nomatch h
  | (k, v) :: kvs, [], h => nomatch h
  | (k, v) :: kvs, p :: c, h => by
    obtain ⟨pk, py⟩ := p
    have h' : PyProof.V.FlatPairs PyData.str ((k, v) :: kvs) ((PyData.str pk, PyData.str py) :: envD c) := h
    generalize hX : ((PyData.str pk, PyData.str py) :: envD c : List (PyData × PyData)) = X at h'
    cases h' with
    | cons hv hr =>
      injection hX with h1 h2
      injection h1 with h3 h4
      injection h3 with h5
      subst h5; subst h4; subst h2
      obtain ⟨e, ih⟩ := flat_at hr
      refine ⟨by simp [e], fun i v' k' hi => ?_⟩
      cases i with
      | zero =>
        simp only [List.getElem?_cons_zero, Option.some.injEq, Prod.mk.injEq] at hi
        obtain ⟨rfl, rfl⟩ := hi
        exact ⟨py, rfl, hv⟩
      | succ i =>
        simpa using ih i v' k' (by simpa using hi)
theorem env_hits {A : Around} {s : Shared} {kb : List (Str × Value)} {c : List (Str × Str)} (hb : PyProof.V.FlatPairs PyData.str kb (envD c)) (hn : (kb.map (·.1)).Nodup) : ∀ {ka : List (Str × Value)} {c' : List (Str × Str)}, PyProof.V.FlatPairs PyData.str ka (envD c') → (∀ p ∈ c', p ∈ c) → KeqHits A s kb ka true
  | [], _, _, _ => .nil
  | (k, v) :: ka, [], h, _ => nomatch h
  | (k, v) :: ka, p :: c', h, hs => by
    obtain ⟨y, hy, hv⟩ := (flat_at h).2 0 v k rfl
    have hp : p = (k, y) := by simpa using hy
    have hc : (k, y) ∈ c := hs _ (by rw [hp]; exact List.mem_cons_self ..)
    obtain ⟨i, hi⟩ := List.getElem?_of_mem hc
    have hkeys := (flat_at hb).1
    have hi2 : ((kb.map (·.1))[i]?) = some k := by rw [hkeys, List.getElem?_map, hi]; rfl
    rw [List.getElem?_map] at hi2
    cases hkb : kb[i]? with
    | none => rw [hkb] at hi2; cases hi2
    | some q =>
      obtain ⟨qk, qv⟩ := q
      rw [hkb] at hi2
      have : qk = k := by simpa using hi2
      subst this
      obtain ⟨y', hy', hv'⟩ := (flat_at hb).2 i qv qk hkb
      rw [hi] at hy'
      have ey : y = y' := by simpa using hy'
      subst ey
      have hr : PyProof.V.FlatPairs PyData.str ka (envD c') := by
        have h' : PyProof.V.FlatPairs PyData.str ((qk, v) :: ka) ((PyData.str p.1, PyData.str p.2) :: envD c') := h
        generalize hX : ((PyData.str p.1, PyData.str p.2) :: envD c' : List (PyData × PyData)) = X at h'
        cases h' with
        | cons _ hr => injection hX with _ h2; subst h2; exact hr
      have ee := keq_flat (A := A) (s := s) hv hv'
      have e2 : PyData.eqv (.str y) (.str y) = true := by show (y == y) = true; exact beq_self_eq_true y
      rw [e2] at ee
      exact .hit (valueAt_of_get hn hkb) ee (env_hits hb hn hr fun p hp => hs p (List.mem_cons_of_mem _ hp))
theorem env_eq {w : World} {A : Around} {E : Value → Shared → Prop} {s : Shared} {h₀ : Heap} {L a b : Addr} {news x y : List (Addr × Obj)} {c : List (Str × Str)} {Q : Value → Shared → Prop}
    (ha : EnvIn w x a c) (hb : EnvIn w y b c) (N : News h₀ L s.heap news) (hx : ∀ p ∈ x, p ∈ news) (hy : ∀ p ∈ y, p ∈ news) (hu : A.units < cLine) (h : Q (.bool true) s) :
    wpAny (model PG w) A (compareOp .Eq (.ref a) (.ref b)) Q E s := by
  obtain ⟨la, oa, hoa, ka, da, fa⟩ := ha
  obtain ⟨lb, ob, hob, kb, db, fb⟩ := hb
  have hn : (kb.map (·.1)).Nodup := let ⟨_, _, _, _, _, _, hn⟩ := db; hn
  have hlen : ka.length = kb.length := by
    have e1 := congrArg List.length (flat_at fa).1
    have e2 := congrArg List.length (flat_at fb).1
    simp only [List.length_map] at e1 e2
    omega
  refine keq_eq (r := true) la lb (Heap.dictOf_iff.mpr ⟨oa, (N _ (hx _ hoa)).1, da⟩) (Heap.dictOf_iff.mpr ⟨ob, (N _ (hy _ hob)).1, db⟩) hu (fun _ => env_hits fb hn fa fun _ h => h) ?_
  rw [hlen]
  simpa using h
theorem envO_new (w : World) {o : Obj} {kvs : List (Str × Value)} (hd : o.IsDictOf (PySem.strKind PG w) kvs) (hf : PyProof.V.FlatPairs PyData.str kvs []) : EnvO w o [] := ⟨kvs, hd, hf⟩
abbrev ritO (x left step : Int) : Obj := { cls := .type "range_iterator", dict := none, data := .fields #[rawInt x, rawInt left, rawInt step], slots := #[] }
section
variable {prog : Program} {w : World} {A : Around} {env : Env} {E : Value → Shared → Prop} {Q : Flow → Shared → Prop} {s : Shared} {x : Str} {px pos : Pos} {body : List Stmt}
  {A₀ : Around} {base : Heap} {outer : List Env} {KF : Frag} {p : Program} {loose : List Str} {mean : ExcName → Option Value} {mg mb : Str → Option Value} {g₀ g : Heap} {m₀ : Str → Option Value} {news : List (Addr × Obj)} {r : Addr} {a₀ b₀ c₀ : Int} {tr ur vr : Tok} {n : Nat}
theorem loop_range (st : List Str) (J : Nat → List (Addr × Obj) → Prop)
    (hh : A.handled = none) (hx : env.kindOf x = some .local) (hp : (env.scope.kind == .class || (env.scope.kind == .module && env.locals != env.globals)) = false)
    (S : FS A₀ base outer KF p loose mean mg mb g₀ g env.locals s.heap m₀ news) (hr : IsRange s.heap r a₀ b₀ c₀ tr ur vr) (hsmall : Builtin.Range.small a₀ b₀ c₀ = true) (hn : Builtin.Range.rangeSize a₀ b₀ c₀ = (n : Int)) (h0 : J 0 news)
    (turn : ∀ (i : Nat) (tn : Tok) (g' h : Heap) (tk : Nat) (u : Str → Option Value) (I : Addr) (nw : List (Addr × Obj)), i < n → J i nw → (∀ q ∈ nw, q.1 ≠ I) →
      FS A₀ base outer KF p loose mean mg mb g₀ g' env.locals h (fun z => if z = x then some (.int (a₀ + (i : Nat) * c₀) tn) else if st.contains z then u z else m₀ z) ((I, ritO (a₀ + (i + 1 : Nat) * c₀) ((n : Int) - (i + 1 : Nat)) c₀) :: nw) →
      wpAny (model prog w) A (execs body env) (fun f s₃ => match f with
        | .ret v => Q (.ret v) s₃
        | .brk => Q .next s₃
        | _ => Halt (∃ (g'' h' : Heap) (tk' : Nat) (m'' : Str → Option Value) (nw' : List (Addr × Obj)), J (i + 1) nw' ∧ (∀ q ∈ nw', q.1 ≠ I) ∧ s₃ = { s with heap := h', toks := tk' } ∧
            FS A₀ base outer KF p loose mean mg mb g₀ g'' env.locals h' m'' ((I, ritO (a₀ + (i + 1 : Nat) * c₀) ((n : Int) - (i + 1 : Nat)) c₀) :: nw') ∧ (∀ z, z ≠ x → st.contains z = false → m'' z = m₀ z))) E { s with heap := h, toks := tk })
    (done : ∀ (g' h : Heap) (tk : Nat) (u : Str → Option Value) (nw : List (Addr × Obj)), J n nw → FS A₀ base outer KF p loose mean mg mb g₀ g' env.locals h (fun z => if z = x then u z else if st.contains z then u z else m₀ z) nw → Q .next { s with heap := h, toks := tk })
    (hE : PassesOwn (model prog w) A env E := by passes_own) :
    wpAny (model prog w) A (pyIter (.ref r)) (fun it s₂ => codeAny (model prog w) A (.forLoop (.Name x px) it body [] env) (fun r s' => match r with | .ok f => Q f s' | .error e => cameBackBy (model prog w) A env E e s') s₂) E s := by
  obtain ⟨s₁, rfl⟩ : ∃ s₁, s₁ = s := ⟨_, rfl⟩
  obtain ⟨I, hI⟩ : ∃ I, I = s₁.heap.objs.size := ⟨_, rfl⟩
  have hnI : ∀ q ∈ news, q.1 ≠ I := fun q hq => by rw [hI]; exact Nat.ne_of_lt (Heap.lt_size (S.made q hq).1)
  refine wpAny_pyIter_range hr hsmall ?_
  rw [← hI]
  refine codeAny_forLoop (R := fun r s' => match r with | .ok f => Q f s' | .error e => cameBackBy (model prog w) A env E e s')
    (fun k s' => ∃ (i : Nat) (g' h : Heap) (tk : Nat) (m' : Str → Option Value) (nw : List (Addr × Obj)), s' = { s₁ with heap := h, toks := tk } ∧ k = n + 1 - i ∧ i ≤ n ∧ J i nw ∧ (∀ q ∈ nw, q.1 ≠ I) ∧
      FS A₀ base outer KF p loose mean mg mb g₀ g' env.locals h m' ((I, ritO (a₀ + (i : Nat) * c₀) ((n : Int) - (i : Nat)) c₀) :: nw) ∧ (∀ z, z ≠ x → st.contains z = false → m' z = m₀ z)) ?_ (n + 1)
    ⟨0, g, _, s₁.toks, m₀, news, rfl, rfl, Nat.zero_le _, h0, hnI, S.ofHeap (S.fr.push _) (by
      have e : ({ cls := .type "range_iterator", data := .fields #[rawInt a₀, rawInt (Builtin.Range.rangeSize a₀ b₀ c₀), rawInt c₀] } : Obj) = ritO (a₀ + ((0 : Nat) : Int) * c₀) ((n : Int) - ((0 : Nat) : Int)) c₀ := by
        rw [hn]; simp
      rw [← e, hI]; exact News.push S.fr S.made _), fun _ _ _ => rfl⟩
  rintro k s' ⟨i, g', h, tk, m', nw, rfl, rfl, hi, hJ, hnw, S', hag⟩
  have hIo := S'.made (I, _) (List.mem_cons_self ..)
  have N' : News g' env.locals h nw := fun q hq => S'.made q (List.mem_cons_of_mem _ hq)
  have hit : IsRangeIter h I (a₀ + (i : Nat) * c₀) ((n : Int) - (i : Nat)) c₀ := hIo.1
  have next : ∀ h' : Heap, (∀ b o, b ≠ I → h.get? b = some o → h'.get? b = some o) → Fr g' env.locals h' m' ∧ News g' env.locals h' nw := fun h' hk =>
    ⟨⟨S'.fr.ns.at' fun o e => hk _ o (fun q => hIo.2.1 q.symm) e, fun b o e => hk b o (fun q => by rw [q, hIo.2.2] at e; cases e) (S'.fr.keep b o e), S'.fr.above⟩,
      fun q hq => ⟨hk _ _ (hnw q hq) (N' q hq).1, (N' q hq).2⟩⟩
  by_cases hlt' : i < n
  · refine wpAny_pyNext_range_item hit (by omega) fun h₁ hit₁ hs₁ => ?_
    have e1 : a₀ + (i : Nat) * c₀ + c₀ = a₀ + (i + 1 : Nat) * c₀ := by
      rw [Int.natCast_add, Int.add_mul]; simp [Int.add_assoc]
    have e2 : (n : Int) - (i : Nat) - 1 = (n : Int) - (i + 1 : Nat) := by omega
    rw [e1, e2] at hit₁
    obtain ⟨F₁, N₁⟩ := next h₁ fun b o q e => (hs₁.2 b q).trans e
    refine wpAny_assign_Name (wpAny_storeName_local hx F₁.ns (fun h₂ hn₂ hs₂ => ?_) hp)
    have F₂ := F₁.set hn₂ hs₂
    obtain ⟨tn, htn⟩ : ∃ tn : Tok, tn = ({ s₁ with heap := h, toks := tk } : Shared).toks := ⟨_, rfl⟩
    rw [← htn] at F₂
    have em : (fun z => if z = x then some (Value.int (a₀ + (i : Nat) * c₀) tn) else m' z) = fun z => if z = x then some (Value.int (a₀ + (i : Nat) * c₀) tn) else if st.contains z then m' z else m₀ z := by
      funext z
      by_cases h1 : z = x
      · simp [h1]
      · simp only [if_neg h1]
        cases h2 : st.contains z with
        | true => simp
        | false => simp only [Bool.false_eq_true, if_false]; exact hag z h1 h2
    rw [em] at F₂
    have N₂ : News g' env.locals h₂ ((I, ritO (a₀ + (i + 1 : Nat) * c₀) ((n : Int) - (i + 1 : Nat)) c₀) :: nw) := fun q hq => by
      rcases List.mem_cons.mp hq with rfl | hq
      · exact ⟨(hs₂.2 _ hIo.2.1).trans hit₁, hIo.2⟩
      · exact (N₁.set hs₂) q hq
    refine wpAny_passesOwn hE (wpAny_mono (turn i tn g' h₂ _ m' I nw hlt' hJ hnw (S'.ofHeap F₂ N₂)) (fun f s₃ h₃ => ?_) fun _ _ e => e)
    have fin : (∃ (g'' h' : Heap) (tk' : Nat) (m'' : Str → Option Value) (nw' : List (Addr × Obj)), J (i + 1) nw' ∧ (∀ q ∈ nw', q.1 ≠ I) ∧ s₃ = { s₁ with heap := h', toks := tk' } ∧
            FS A₀ base outer KF p loose mean mg mb g₀ g'' env.locals h' m'' ((I, ritO (a₀ + (i + 1 : Nat) * c₀) ((n : Int) - (i + 1 : Nat)) c₀) :: nw') ∧ (∀ z, z ≠ x → st.contains z = false → m'' z = m₀ z)) →
        ∃ k', k' < n + 1 - i ∧ ∃ (i : Nat) (g' h : Heap) (tk : Nat) (m' : Str → Option Value) (nw : List (Addr × Obj)), s₃ = { s₁ with heap := h, toks := tk } ∧ k' = n + 1 - i ∧ i ≤ n ∧ J i nw ∧ (∀ q ∈ nw, q.1 ≠ I) ∧
      FS A₀ base outer KF p loose mean mg mb g₀ g' env.locals h m' ((I, ritO (a₀ + (i : Nat) * c₀) ((n : Int) - (i : Nat)) c₀) :: nw) ∧ (∀ z, z ≠ x → st.contains z = false → m' z = m₀ z) := by
      rintro ⟨g'', h', tk', m'', nw', hJ1, hnw1, e, S'', hag'⟩
      exact ⟨n + 1 - (i + 1), by omega, i + 1, g'', h', tk', m'', nw', e, rfl, hlt', hJ1, hnw1, S'', hag'⟩
    cases f with
    | ret v => exact h₃
    | brk => exact h₃
    | cont => exact fin h₃
    | next => exact fin h₃
  · have hin : i = n := by omega
    subst hin
    refine wpAny_pyNext_range_end hh hit (by omega) fun h₁ he₁ => wpAny_execs_nil ?_
    obtain ⟨F₁, N₁⟩ := next h₁ he₁
    refine done g' h₁ _ m' nw hJ (S'.ofHeap ?_ N₁)
    have em : (fun z => if z = x then m' z else if st.contains z then m' z else m₀ z) = m' := by
      funext z
      by_cases h1 : z = x
      · simp [h1]
      · simp only [if_neg h1]
        cases h2 : st.contains z with
        | true => simp
        | false => simp only [Bool.false_eq_true, if_false]; exact (hag z h1 h2).symm
    rw [em]; exact F₁
end
/-! _law_round -/
theorem fmod5 (x : Int) : x.fmod 5 ∈ [(0 : Int), 1, 2, 3, 4] := by
  have h : x.fmod 5 = x % 5 := Int.fmod_eq_emod_of_nonneg x (by decide)
  rw [h]
  simp only [List.mem_cons, List.not_mem_nil, or_false]
  omega
theorem fmod3 (x : Int) : x.fmod 3 = 0 ∨ x.fmod 3 = 1 ∨ x.fmod 3 = 2 := by
  have h : x.fmod 3 = x % 3 := Int.fmod_eq_emod_of_nonneg x (by decide)
  rw [h]
  omega
theorem setEq {m : Str → Option Value} {x : Str} {v : Value} (hm : m x = some v) : m = fun z => if z = x then some v else m z := by
  funext z
  by_cases q : z = x
  · rw [if_pos q, q, hm]
  · rw [if_neg q]
theorem txts_get {j : Nat} (h : j < 20) : txts.getD j Str.empty ∈ txts := by
  have e : txts.getD j Str.empty = txts[j]'h := by rw [List.getD_eq_getElem?_getD, List.getElem?_eq_getElem (show j < txts.length from h)]; rfl
  rw [e]; exact List.getElem_mem _
theorem apartI {I d : Addr} {o o' : Obj} {x : List (Addr × Obj)} (h : ∀ q ∈ (d, o) :: x, q.1 ≠ I) : ∀ q ∈ (d, o') :: x, q.1 ≠ I := fun q hq => by
  rcases List.mem_cons.mp hq with rfl | hq
  · exact h (d, o) (List.mem_cons_self ..)
  · exact h q (List.mem_cons_of_mem _ hq)
theorem sameA {M u : Str → Option Value} {va vp : Option Value} : ∀ z, z ≠ Str.ofString "place" → [Str.ofString "a"].contains z = false → (if z = Str.ofString "a" then va else if z = Str.ofString "place" then vp else if [Str.ofString "a"].contains z = true then u z else M z) = M z := by
  intro z q1 q2
  have q3 : z ≠ Str.ofString "a" := fun q => by rw [q] at q2; exact absurd q2 (by decide)
  rw [if_neg q3, if_neg q1, if_neg (by rw [q2]; decide)]
theorem tabV_of {w : World} {x y : List (Addr × Obj)} {av : Value} {kt : Int} (h : (kt = 1 ∧ av = .none) ∨ (kt ≠ 1 ∧ ∃ d, av = .ref d ∧ EnvIn w x d (tabOf kt))) (hs : ∀ p ∈ x, p ∈ y) : TabV w y av (tabOf kt) := by
  rcases h with ⟨rfl, rfl⟩ | ⟨_, d, rfl, hE⟩
  · exact .none
  · refine .dict d _ (hE.mono hs) ?_
    unfold tabOf
    by_cases q : kt = 0
    · rw [if_pos q]; exact .inr rfl
    · rw [if_neg q]; exact .inl rfl
theorem tabOf_cases (kt : Int) : tabOf kt = [] ∨ tabOf kt = tab0 := by
  unfold tabOf
  by_cases q : kt = 0
  · rw [if_pos q]; exact .inr rfl
  · rw [if_neg q]; exact .inl rfl
section S10
local macro_rules | `(tactic| walk_at "call ref") => `(tactic| (k_here; refine Halt.out ?_))
local macro_rules | `(tactic| walk_at "exec For Name Call cons nil") => `(tactic| (k_here; refine Halt.out ?_))
local macro_rules | `(tactic| walk_at "call type:dict") => `(tactic| (k_here; refine Halt.out ?_))
local macro_rules | `(tactic| walk_at "compareOp Eq ref ref") => `(tactic| (k_here; refine Halt.out ?_))
local macro_rules | `(tactic| walk_at "execs cons") => `(tactic| (k_here; dsimp only))
local macro_rules | `(tactic| walk_at "execs nil") => `(tactic| (k_here; dsimp only))
local macro_rules | `(tactic| walk_at "subscriptTail Name Constant ref int") => `(tactic| (k_here; k_dflt (refine itemL (by k_asm) (by k_mem) (by decide) (by decide) (by rfl) ?_)))
set_option maxRecDepth 100000 in
set_option maxHeartbeats 0 in
theorem round_contract {w : World} {mean : ExcName → Option Value} {mg mb : Str → Option Value}
    {dp un : Nat} {gd : Option (List Code)} {cn : Str} {cs : Scope} {a : Addr} {ccd : Value} {outer : List Env} {A₀ : Around} {base h₀ g₀ : Heap} {L : Addr} {m : Str → Option Value} {news : List (Addr × Obj)} {s : Shared}
    {Q E : Value → Shared → Prop} {nl : Addr} {cap : Nat} {x0 x1 x2 x3 x4 x5 x6 : Int} {u0 u1 u2 u3 u4 u5 u6 : Tok}
    (XB : (hd.heap_39 w.params).In base) (TB : TP mean mg mb base) (B : Below A₀ base outer h₀) (F : Fr h₀ L s.heap m) (X : (hd.heap_39 w.params).In h₀) (N : News h₀ L s.heap news) (T : TP mean mg mb h₀)
    (D : KtsDicts (outer.filterMap (·.frame)) h₀) (T0 : KtsTurn (outer.filterMap (·.frame)) g₀ h₀) (hk : cs.kind = .function)
    (hdp : dp + 6 < recursionLimit) (hun : un + 64 < cLine) (hnl : (nl, W.listOf [.int x0 u0, .int x1 u1, .int x2 u2, .int x3 u3, .int x4 u4, .int x5 u5, .int x6 u6].toArray cap) ∈ news)
    (hret : ∀ h₀' h' tk', KtsTurn (outer.filterMap (·.frame)) g₀ h₀' → Fr h₀' L h' m → News h₀' L h' news → Below A₀ base outer h₀' → (hd.heap_39 w.params).In h₀' → TP mean mg mb h₀' → KtsDicts (outer.filterMap (·.frame)) h₀' →
      Q (.bool true) { s with heap := h', toks := tk' }) :
    wpAny (model PG w) (ktrTop dp un gd cn cs L a ccd [] outer) (call (.ref 92) [.ref nl]) Q E s := by
  refine wpAny_call ?_
  walk_at "MyEnterS"
  intro g1 L1 h1 FG1 F1 N1 B1 X1 T1 D1
  clear B F N T X D T0
  (try dsimp only)
  have N2 := newsCons N1 hnl
  clear N1
  k_steps
  refine Halt.mk ?_
  refine' table_contract ?pB ?pF ?pX ?pN ?pT ?pk ?pd ?pu (fmod3 _) ?_
  case pB => k_asm
  case pF => k_asm
  case pX => k_asm
  case pN => k_asm
  case pT => k_asm
  case pk => exact rfl
  case pd => (show dp + 1 + 2 < recursionLimit; omega)
  case pu => (show un + 3 + 16 < cLine; omega)
  intro av x5 h5 tk5 F5 N5 hs5 hav
  generalize hkt : (x0.fdiv 5).fmod 3 = kt at *
  k_steps
  refine Halt.mk ?_
  (rename Fr g1 L1 _ _ => F6)
  (rename News g1 L1 _ _ => N6)
  (rename Obj.IsDictOf (PySem.strKind PG w) _ [] => hd6)
  (rename PyProof.V.FlatPairs PyData.str [] [] => hf6)
  (rename (∀ p ∈ x5, _ < _) => lt6)
  (rename ((_ == sysModules) = false) => lo6)
  have hE6 := envO_new w hd6 hf6
  clear hd6 hf6
  refine wpAny_For (wpAny_mono (?hev : wpAny _ _ _ (fun xv s₁ => Halt (∃ h tk r tr ur vr m₀ d o x, xv = .ref r ∧ s₁ = { s with heap := h, toks := tk } ∧ Fr g1 L1 h m₀ ∧ News g1 L1 h ((d, o) :: x) ∧ IsRange h r 0 6 1 tr ur vr ∧
    m₀ (Str.ofString "numbers") = some (.ref nl) ∧ m₀ (Str.ofString "head") = some (.int x0 u0) ∧ (∃ t, m₀ (Str.ofString "k") = some (.int (x0.fmod 5) t)) ∧ m₀ (Str.ofString "table") = some av ∧ m₀ (Str.ofString "env") = some (.ref d) ∧
    (∀ p ∈ x5, p ∈ x) ∧ EnvO w o [] ∧ (∀ p ∈ x, p.1 ≠ d) ∧ (d == sysModules) = false)) _ _) (fun xv s₁ h₁ => ?_) (fun _ _ e => e))
  case hev =>
    k_steps
    all_goals refine Halt.mk ⟨_, _, _, _, _, _, _, _, _, _, rfl, rfl, by k_asm, by k_asm, by assumption, rfl, rfl, ⟨_, rfl⟩, rfl, rfl, by (intro p hp; exact hp), hE6, (fun p hp => Nat.ne_of_lt (lt6 p hp)), lo6⟩
  obtain ⟨h6, tk6, r6, tr6, ur6, vr6, m₀, d6, o6, x6, rfl, rfl, F7, N7, R7, mn, mh, ⟨tkk, mk⟩, mt, me, hs6, hE7, hne6, lo7⟩ := h₁
  rw [setEq me] at F7; rw [setEq mt] at F7; rw [setEq mk] at F7; rw [setEq mh] at F7; rw [setEq mn] at F7
  clear F6 N6 hE6 mn mh mk mt me
  have hnl6 := hs6 _ (hs5 _ (List.mem_cons_self ..))
  refine loop_range (n := 6) (g := g1) (news := (d6, o6) :: x6) [Str.ofString "a"] (fun i nw => ∃ o c, nw = (d6, o) :: x6 ∧ EnvO w o c ∧ (∀ p ∈ c, p.2 ∈ txts) ∧ c.length ≤ i) rfl rfl rfl ⟨KtsTurn.refl, F7, N7, B1, X1, T1, D1⟩ R7 (by decide) (by decide) ⟨o6, [], rfl, hE7, by simp, Nat.zero_le _⟩ ?_ ?_
  · rintro i tn g2 h2 tk2 u I nw hi ⟨o, c, rfl, hE, htx, hlen⟩ hI S
    obtain ⟨T0', F2, N2, B2, X2, T2, D2⟩ := S
    clear F7 N7 X1 T1 D1 B1
    have hnl2 := hnl6
    obtain ⟨ro, hro⟩ : ∃ ro, ro = ritO (0 + (i + 1 : Nat) * 1) (((6 : Nat) : Int) - (i + 1 : Nat)) 1 := ⟨_, rfl⟩
    rw [← hro] at N2 ⊢
    replace N2 := newsCons N2 (List.mem_cons_of_mem _ (List.mem_cons_of_mem _ hnl6))
    obtain ⟨pv, hpv⟩ : ∃ pv : Int, pv = 0 + (i : Nat) * 1 := ⟨_, rfl⟩
    rw [← hpv] at F2
    have hp6 : pv = 0 ∨ pv = 1 ∨ pv = 2 ∨ pv = 3 ∨ pv = 4 ∨ pv = 5 := by omega
    clear hro
    have hnd : nl ≠ d6 := hne6 _ hnl6
    have hId : I ≠ d6 := fun q => hI _ (List.mem_cons_self ..) q.symm
    rcases hp6 with rfl | rfl | rfl | rfl | rfl | rfl
    all_goals k_steps
    all_goals first
      | refine Halt.mk ⟨g2, _, _, _, (d6, o) :: x6, ⟨o, c, rfl, hE, htx, by omega⟩, hI, rfl, ⟨T0', by k_asm, drop0 (by k_asm) (by walk_at "MySub"), B2, X2, T2, D2⟩, by exact sameA⟩
      | (refine env_set (by k_asm) (by k_asm) (.tail hnd (.tail hId (.head hne6))) hE (by omega) ?_
         intro h9 o9 F9 N9 hE9
         k_steps
         all_goals refine Halt.mk ⟨g2, _, _, _, (d6, o9) :: x6, ⟨o9, _, rfl, hE9, putE_txts htx (txts_get (by assumption)), Nat.le_trans (putE_len _ _ _) (by omega)⟩, apartI hI, rfl, ⟨T0', by k_asm, drop0 (by k_asm) (by walk_at "MySub"), B2, X2, T2, D2⟩, by exact sameA⟩)
  · rintro g2 h2 tk2 u nw ⟨o, c, rfl, hE, htx, hlen⟩ S
    obtain ⟨T0', F2, N2, B2, X2, T2, D2⟩ := S
    clear F7 N7 X1 T1 D1 B1
    k_steps
    refine Halt.mk ?_
    refine env_copy (x := (d6, o) :: x6) (by k_asm) (by k_asm) (modules_low (Top.nolimit (by k_asm))) ⟨lo7, o, List.mem_cons_self .., hE⟩ (fun p hp => hp) (by omega) ?_
    intro d7 h7 o7 F8 N8 hE8 lt8
    have hs7 : ∀ p ∈ x5, p ∈ (d7, o7) :: (d6, o) :: x6 := fun p hp => List.mem_cons_of_mem _ (List.mem_cons_of_mem _ (hs6 p hp))
    have haT := tabV_of hav hs7
    k_steps
    refine Halt.mk ?_
    refine' due_contract (g₀ := g1) XB TB ?pB ?pF ?pX ?pN ?pT ?pD ?pT0 ?pk ?pd ?pu (fmod5 _) haT hE8 htx ?_
    case pB => k_asm
    case pF => k_asm
    case pX => k_asm
    case pN => k_asm
    case pT => k_asm
    case pD => assumption
    case pT0 => assumption
    case pk => exact rfl
    case pd => (show dp + 1 + 5 < recursionLimit; omega)
    case pu => (show un + 3 + 48 < cLine; omega)
    clear T0' F2 N2 B2 X2 T2 D2 F8 N8
    intro g3 r9 h9 tk9 T9 F9 N9 B9 X9 TT9 D9 hr9
    k_steps
    refine Halt.mk ?_
    refine' category_contract ?cB ?cF ?cX ?cN ?cT ?ck ?cd ?cu (fmod5 _) ?_
    case cB => k_asm
    case cF => k_asm
    case cX => k_asm
    case cN => k_asm
    case cT => k_asm
    case ck => exact rfl
    case cd => (show dp + 1 + 2 < recursionLimit; omega)
    case cu => (show un + 3 + 16 < cLine; omega)
    intro cv x10 h10 tk10 F10 N10 hs10 hcv
    k_steps
    refine Halt.mk ?_
    have haT2 := tabV_of hav (fun p hp => hs10 _ (hs7 p hp))
    have hE10 : EnvIn w x10 d6 c := ⟨lo7, o, hs10 _ (List.mem_cons_of_mem _ (List.mem_cons_self ..)), hE⟩
    have hE8' := hE8.mono hs10
    refine' dl_contract (g₀ := g1) XB TB ?dB ?dF ?dX ?dN ?dT ?dD ?dT0 ?dk ?dd ?du hcv haT2 hE10 htx ?_
    case dB => k_asm
    case dF => k_asm
    case dX => k_asm
    case dN => k_asm
    case dT => k_asm
    case dD => assumption
    case dT0 => assumption
    case dk => exact rfl
    case dd => (show dp + 1 + 4 < recursionLimit; omega)
    case du => (show un + 3 + 40 < cLine; omega)
    clear T9 B9 X9 TT9 D9 F10 N10
    intro g4 r11 h11 tk11 T11 F11 N11 B11 X11 TT11 D11 hr11
    rw [law_eq (fmod5 _) (tabOf_cases kt) htx] at hr11
    generalize firstD (turnL (tabOf kt) c) (askNames (x0.fmod 5) ++ four) = res at hr9 hr11
    have hsp : (r9 = .none ∧ r11 = .none) ∨ ∃ z t t', r9 = .str z t ∧ r11 = .str z t' := by
      cases res with
      | none => exact .inl ⟨hr9, hr11⟩
      | some z => obtain ⟨t, e1⟩ := hr9; obtain ⟨t', e2⟩ := hr11; exact .inr ⟨z, t, t', e1, e2⟩
    clear hr9 hr11
    rcases hsp with ⟨rfl, rfl⟩ | ⟨z, t9, t11, rfl, rfl⟩
    all_goals k_steps
    all_goals first
      | (exfalso; exact absurd ‹(z == z) = false› (by simp))
      | (refine Halt.mk ?_
         refine env_eq hE10 hE8' (by k_asm) (fun p hp => hp) (fun p hp => hp) (by (show un + 3 < cLine); omega) ?_
         k_steps
         refine Halt.mk ?_
         refine' table_contract ?tB ?tF ?tX ?tN ?tT ?tk ?td ?tu (fmod3 _) ?_
         case tB => k_asm
         case tF => k_asm
         case tX => k_asm
         case tN => k_asm
         case tT => k_asm
         case tk => exact rfl
         case td => (show dp + 1 + 2 < recursionLimit; omega)
         case tu => (show un + 3 + 16 < cLine; omega)
         intro bv x12 h12 tk12 F12 N12 hs12 hbv
         rw [hkt] at hbv
         have hsN : ∀ p ∈ news, p ∈ x12 := fun p hp => hs12 _ (hs10 _ (hs7 _ (hs5 _ (List.mem_cons_of_mem _ hp))))
         have hs57 : ∀ p ∈ x5, p ∈ x12 := fun p hp => hs12 _ (hs10 _ (hs7 _ hp))
         clear haT haT2
         rcases hav with ⟨e1, rfl⟩ | ⟨e1, da, rfl, hEa⟩
         · rcases hbv with ⟨_, rfl⟩ | ⟨e2, _⟩
           · k_steps
             all_goals refine hret _ _ _ (by assumption) (by k_asm) (drop0 (by k_asm) hsN) (by assumption) (by assumption) (by assumption) (by assumption)
           · exact absurd e1 e2
         · rcases hbv with ⟨e2, _⟩ | ⟨_, db, rfl, hEb⟩
           · exact absurd e2 e1
           · refine env_eq hEa hEb (by k_asm) hs57 (fun p hp => hp) (by (show un + 3 < cLine); omega) ?_
             k_steps
             all_goals refine hret _ _ _ (by assumption) (by k_asm) (drop0 (by k_asm) hsN) (by assumption) (by assumption) (by assumption) (by assumption))
end S10
/-! law: the walk of the whole -/
theorem back {g₀ g' h : Heap} {L : Addr} {m : Str → Option Value} (T : KtsTurn [] g₀ g') (F : Fr g' L h m) : Fr g₀ L h m :=
  ⟨F.ns, fun b o e => F.keep b o (T.other b o e (by simp)), by rw [← T.size]; exact F.above⟩
theorem backN {g₀ g' h : Heap} {L : Addr} {news : List (Addr × Obj)} (T : KtsTurn [] g₀ g') (N : News g' L h news) : News g₀ L h news := fun p hp => ⟨(N p hp).1, (N p hp).2.1, by
  cases q : g₀.get? p.1 with
  | none => rfl
  | some o =>
    have := T.other _ _ q (by simp)
    rw [(N p hp).2.2] at this; cases this⟩
theorem pad_ints {us : List Value} {l : List Int} (h : IntsAre us (l ++ (List.replicate ((-(l.length : Int)).fmod 7).toNat [0]).flatten)) (hl : l.length ≤ 56) : ∃ (xs : List Int) (n : Nat), IntsAre us xs ∧ xs.length = 7 * n ∧ n ≤ 8 := by
  have e : (-(l.length : Int)).fmod 7 = (-(l.length : Int)) % 7 := Int.fmod_eq_emod_of_nonneg _ (by decide)
  have hlen : (l ++ (List.replicate ((-(l.length : Int)).fmod 7).toNat [0]).flatten).length = l.length + ((-(l.length : Int)) % 7).toNat := by
    rw [e]; simp
  exact ⟨_, (l.length + ((-(l.length : Int)) % 7).toNat) / 7, h, by rw [hlen]; omega, by omega⟩
theorem pad_sz {l : List Int} (hl : l.length ≤ 56) : l.length + (List.replicate ((-(l.length : Int)).fmod 7).toNat [(0 : Int)]).flatten.length ≤ sizeLine := by
  have e : (-(l.length : Int)).fmod 7 = (-(l.length : Int)) % 7 := Int.fmod_eq_emod_of_nonneg _ (by decide)
  have hlen : (List.replicate ((-(l.length : Int)).fmod 7).toNat [(0 : Int)]).flatten.length = ((-(l.length : Int)) % 7).toNat := by
    rw [e]; simp
  rw [hlen, sizeLine_eq]; omega
theorem seven {ws : List Value} {ms : List Int} (h : IntsAre ws ms) (hl : ms.length = 7) : ∃ x0 x1 x2 x3 x4 x5 x6 u0 u1 u2 u3 u4 u5 u6, ws = [.int x0 u0, .int x1 u1, .int x2 u2, .int x3 u3, .int x4 u4, .int x5 u5, .int x6 u6] := by
  rcases h with _ | ⟨x0, u0, h⟩ <;> simp at hl
  rcases h with _ | ⟨x1, u1, h⟩ <;> simp at hl
  rcases h with _ | ⟨x2, u2, h⟩ <;> simp at hl
  rcases h with _ | ⟨x3, u3, h⟩ <;> simp at hl
  rcases h with _ | ⟨x4, u4, h⟩ <;> simp at hl
  rcases h with _ | ⟨x5, u5, h⟩ <;> simp at hl
  rcases h with _ | ⟨x6, u6, h⟩ <;> simp at hl
  subst hl
  cases h
  exact ⟨_, _, _, _, _, _, _, _, _, _, _, _, _, _, rfl⟩
theorem rng7 (n : Nat) (h : n ≤ 8) : Builtin.Range.small 0 (7 * (n : Int)) 7 = true ∧ Builtin.Range.rangeSize 0 (7 * (n : Int)) 7 = (n : Int) := by
  have h' : n = 0 ∨ n = 1 ∨ n = 2 ∨ n = 3 ∨ n = 4 ∨ n = 5 ∨ n = 6 ∨ n = 7 ∨ n = 8 := by omega
  rcases h' with rfl | rfl | rfl | rfl | rfl | rfl | rfl | rfl | rfl <;> decide
def fin1 : List (Str × Str) := [(Str.ofString "LANGUAGE", Str.ofString ":de"), (Str.ofString "LC_ALL", Str.ofString "de")]
def fin2 : List (Str × Str) := [(Str.ofString "LANGUAGE", Str.ofString "fr:de"), (Str.ofString "LC_CTYPE", Str.ofString "de")]
theorem fin1_t : ∀ p ∈ fin1, p.2 ∈ txts := by decide +kernel
theorem fin2_t : ∀ p ∈ fin2, p.2 ∈ txts := by decide +kernel
theorem fin1_r : firstD (turnD tab0 fin1) ([] ++ [Str.ofString "LANGUAGE", Str.ofString "LC_ALL", Str.ofString "LC_CTYPE", Str.ofString "LANG"]) = some (Str.ofString "pl_PL") := by decide +kernel
theorem fin2_r : firstD (turnD tab0 fin2) ([] ++ [Str.ofString "LANGUAGE", Str.ofString "LC_ALL", Str.ofString "LC_CTYPE", Str.ofString "LANG"]) = some (Str.ofString "de_DE") := by decide +kernel
section S11
local macro_rules | `(tactic| walk_at "call ref") => `(tactic| (k_here; refine Halt.out ?_))
local macro_rules | `(tactic| walk_at "exec For Name Call cons nil") => `(tactic| (k_here; refine Halt.out ?_))
local macro_rules | `(tactic| walk_at "binaryOp Add ref ref") => `(tactic| (k_here; refine Halt.out ?_))
local macro_rules | `(tactic| walk_at "execs cons") => `(tactic| (k_here; dsimp only))
local macro_rules | `(tactic| walk_at "execs nil") => `(tactic| (k_here; dsimp only))
set_option maxRecDepth 100000 in
set_option maxHeartbeats 0 in
theorem lawT : PySem.Challenge.rw_ew5005_01.Holds := Mine.hd (by
  k_go0
  (all_goals try k_fold)
  k_steps
  refine Halt.mk ?_
  (rename IntsAre _ (List.map _ _) => iA)
  (rename IntsAre (List.flatten _) _ => iB)
  (rename Below callerA _ [] _ => K0)
  refine' kmk_add_ints ?adF ?adN ?adA ?adB iA iB ?_ ?adZ
  case adF => k_asm
  case adN => k_asm
  case adA => kmk_list
  case adB => kmk_list
  case adZ => exact pad_sz (by simp; omega)
  intro D us h' F1 N1 l1 hI
  obtain ⟨xs, n, hx, hn, hn8⟩ := pad_ints hI (by simp; omega)
  clear hI iA iB
  (rename Shared => s1)
  (rename (hd.heap_39 _).In _ => X1)
  (rename Top hd.view_39 _ _ _ _ _ => T1)
  k_steps
  refine Halt.mk ?_
  refine wpAny_For (wpAny_mono (?lhev : wpAny _ _ _ (fun xv s' => Halt (∃ h tk r tr ur vr m₀ x, xv = .ref r ∧ s' = { s1 with heap := h, toks := tk } ∧ Fr s1.heap s1.heap.objs.size h m₀ ∧ News s1.heap s1.heap.objs.size h x ∧ IsRange h r 0 (7 * (n : Int)) 7 tr ur vr ∧
    m₀ (Str.ofString "numbers") = some (.ref D) ∧ (D, W.listOf us.toArray 0) ∈ x)) _ _) (fun xv s' h₁ => ?_) (fun _ _ e => e))
  case lhev =>
    k_steps
    all_goals refine Halt.mk ⟨_, _, _, _, _, _, _, _, rfl, rfl, by k_asm, by k_asm, (by rw [show (7 * (n : Int)) = (xs.length : Int) by omega]; assumption), rfl, List.mem_cons_self ..⟩
  obtain ⟨h6, tk6, r6, tr6, ur6, vr6, m₀, x6, rfl, rfl, F6, N6, R6, mn, hD6⟩ := h₁
  rw [setEq mn] at F6
  clear mn
  refine loop_range (n := n) (g := s1.heap) (g₀ := s1.heap) (news := x6) (outer := []) (A₀ := callerA) (base := s1.heap) [] (fun _ nw => nw = x6) rfl rfl rfl ⟨KtsTurn.refl, F6, N6, K0, X1, T1, ktsDicts_nil⟩ R6 (rng7 n hn8).1 (rng7 n hn8).2 rfl ?_ ?_
  · rintro i tn g2 h2 tk2 u I nw hi rfl hI ⟨T0', F2, N2, -, -, -, -⟩
    replace F2 := back T0' F2
    replace N2 := backN T0' N2
    clear F6 N6 T0'
    generalize hro : ritO (0 + (i + 1 : Nat) * 7) ((n : Int) - (i + 1 : Nat)) 7 = ro at N2 ⊢
    replace N2 := newsCons N2 (List.mem_cons_of_mem _ hD6)
    obtain ⟨sv, hsv⟩ : ∃ sv : Int, sv = 0 + (i : Nat) * 7 := ⟨_, rfl⟩
    rw [← hsv] at F2
    have hsv0 : 0 ≤ sv := by omega
    have hsv7 : 0 ≤ sv + 7 := by omega
    k_steps
    refine Halt.mk ?_
    (rename IntsAre _ (List.take _ _) => hS)
    obtain ⟨x0, x1, x2, x3, x4, x5, x6, u0, u1, u2, u3, u4, u5, u6, rfl⟩ := seven hS (by rw [List.length_take, List.length_drop]; omega)
    refine' round_contract (g₀ := s1.heap) (outer := []) X1 T1 ?rB ?rF X1 ?rN T1 ktsDicts_nil KtsTurn.refl ?rk ?rd ?ru (List.mem_cons_self ..) ?_
    case rB => k_asm
    case rF => k_asm
    case rN => k_asm
    case rk => exact rfl
    case rd => decide
    case ru => decide
    intro g3 h3 tk3 T3 F3 N3 _ _ _ _
    replace F3 := back T3 F3
    replace N3 := backN T3 N3
    clear T3
    k_steps
    all_goals refine Halt.mk ⟨s1.heap, _, _, _, nw, rfl, hI, rfl, ⟨KtsTurn.refl, by k_asm, drop0 (by k_asm) (by intro p hp; rcases List.mem_cons.mp hp with rfl | hp; exact List.mem_cons_of_mem _ (List.mem_cons_of_mem _ (List.mem_cons_self ..)); exact List.mem_cons_of_mem _ (List.mem_cons_of_mem _ (List.mem_cons_of_mem _ hp))), K0, X1, T1, ktsDicts_nil⟩, fun z q1 q2 => by rw [if_neg q1]; rfl⟩
  · rintro g2 h2 tk2 u nw rfl ⟨T0', F2, N2, -, -, -, -⟩
    replace F2 := back T0' F2
    replace N2 := backN T0' N2
    clear F6 N6 T0'
    k_steps
    refine Halt.mk ?_
    refine' table0 ?ta1 ?tb1 X1 ?tc1 T1 ?td1 ?te1 ?tf1 ?_
    case ta1 => k_asm
    case tb1 => k_asm
    case tc1 => k_asm
    case td1 => exact rfl
    case te1 => decide
    case tf1 => decide
    rintro r14 x14 h14 tk14 F14 N14 hs14 ⟨d14, rfl, hE14⟩
    k_steps
    refine Halt.mk ?_
    refine' dl_contract (c := fin1) (g₀ := s1.heap) (outer := []) X1 T1 ?da1 ?db1 X1 ?dc1 T1 ktsDicts_nil KtsTurn.refl ?dd1 ?de1 ?df1 .none (.dict d14 tab0 (hE14.mono ?dg1) (.inr rfl)) ⟨?dh1, _, List.mem_cons_self .., _, ?di1, ?dj1⟩ fin1_t ?_
    case da1 => k_asm
    case db1 => k_asm
    case dc1 => k_asm
    case dd1 => exact rfl
    case de1 => decide
    case df1 => decide
    case dg1 => (intro p hp; exact List.mem_cons_of_mem _ hp)
    case dh1 => assumption
    case di1 => assumption
    case dj1 => assumption
    intro g15 r15 h15 tk15 T15 F15 N15 _ _ _ _ hr15
    replace F15 := back T15 F15
    replace N15 := backN T15 N15
    clear T15
    rw [fin1_r] at hr15
    obtain ⟨t15, rfl⟩ := hr15
    k_steps
    refine Halt.mk ?_
    refine' table0 ?ta2 ?tb2 X1 ?tc2 T1 ?td2 ?te2 ?tf2 ?_
    case ta2 => k_asm
    case tb2 => k_asm
    case tc2 => k_asm
    case td2 => exact rfl
    case te2 => decide
    case tf2 => decide
    rintro r24 x24 h24 tk24 F24 N24 hs24 ⟨d24, rfl, hE24⟩
    k_steps
    refine Halt.mk ?_
    refine' dl_contract (c := fin2) (g₀ := s1.heap) (outer := []) X1 T1 ?da2 ?db2 X1 ?dc2 T1 ktsDicts_nil KtsTurn.refl ?dd2 ?de2 ?df2 .none (.dict d24 tab0 (hE24.mono ?dg2) (.inr rfl)) ⟨?dh2, _, List.mem_cons_self .., _, ?di2, ?dj2⟩ fin2_t ?_
    case da2 => k_asm
    case db2 => k_asm
    case dc2 => k_asm
    case dd2 => exact rfl
    case de2 => decide
    case df2 => decide
    case dg2 => (intro p hp; exact List.mem_cons_of_mem _ hp)
    case dh2 => assumption
    case di2 => assumption
    case dj2 => assumption
    intro g25 r25 h25 tk25 T25 F25 N25 _ _ _ _ hr25
    replace F25 := back T25 F25
    replace N25 := backN T25 N25
    clear T25
    rw [fin2_r] at hr25
    obtain ⟨t25, rfl⟩ := hr25
    k_steps)
end S11
end Mine
theorem PySem.Challenge.cw_ew5005_01_holds : PySem.Challenge.rw_ew5005_01.Holds := by
  exact Mine.lawT

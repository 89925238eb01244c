import PyProof.Rows.All
import Wide.All
import OpenK.AllK
import Wide.FinOn
import PyProof.IsiH_list
import PyProof.FactsAll.list
import PyProof.EnumMake
import PyProof.TupleIter
import PyProof.Walk
import PyProof.WalkLemmas
import PyProof.WalksMore
import PyProof.StrWalks
import KE.KLcTest
import PyProof.SeqInW
import Wide.BytesFacts
import KE.KxBytes
import PyProof.ListStr
import KE.KBytesWalk
import PyProof.ListNew
import PyProof.CollectWalk
import KE.KTextTable
import KE.BitLaws
import PySem.Challenge.RW_il0163_01
set_option Elab.async false
section
open PySem PySem.W PyProof.Rows
set_option Elab.async false
set_option maxRecDepth 100000
set_option maxHeartbeats 8000000
namespace Mine
def notName : Stmt → Bool
  | .Assign [.Name n _] _ _ => !(n == Str.ofString "__name__")
  | _ => true
def hdView : Program := { PySem.Challenge.pw_il0163_01 with main := { PySem.Challenge.pw_il0163_01.main with body := PySem.Challenge.pw_il0163_01.main.body.filter notName } }
local macro_rules | `(tactic| o_law) => `(tactic| refine holds_law (by decide +kernel) fun said => ?_)
local macro_rules | `(tactic| o_head $H) => `(tactic| (refine holds_open (q := Mine.hdView) (loose := [Str.ofString "_filemode_table", Str.ofString "bytes_types", Str.ofString "filterfalse"]) (Xt := fun s => xlAt Mine.hdView [] s && recOk (RowW.records (OpenRow.toRowW (OpenLaw.row PySem.Challenge.rw_il0163_01))) s) (XP := XL Mine.hdView []) (Yf := Hook.obs $H) (Ya := Hook.val $H) (YP := Hook.says $H) (N := 2056) ?hl (Hook.of $H) (Hook.keeps $H) (fun s e => xl_of s (Bool.and_eq_true_iff.mp e).1) XL.keeps (by rfl) (by rfl) (by rfl) (fun s e => recFacts_of (Bool.and_eq_true_iff.mp e).2) (by rfl) (by first | assumption | decide +kernel) (by decide +kernel) ⟨rfl, rfl, rfl, rfl, rfl, by decide +kernel⟩ ?hw ?hc; (case hl => (intro w; kernel_rfl))))
open_top hd for PySem.Challenge.rw_il0163_01
end Mine
end

section
open PySem PySem.W PyProof.Rows PySem.Spec PySem.Calls
set_option Elab.async false
set_option maxRecDepth 100000
set_option maxHeartbeats 4000000
namespace Mine
open PySem.F

theorem lk_list_contains : typeLookup (.type "list") "__contains__" = pure (some (.builtin "list.__contains__")) := F.slot_list_contains.lookup
theorem ty_list_contains : typeOf (.builtin "list.__contains__") = pure (.type "wrapper_descriptor") := by kernel_rfl
theorem wd_get : Slot "wrapper_descriptor" "__get__" "wrapper_descriptor.__get__" :=
  .of (owner := "wrapper_descriptor") (n := "__get__") (by rw [typeLookup_type, builtinLookup_eq_fast]; kernel_rfl) (by decide +kernel) (by decide +kernel) (by decide +kernel)
    (by first | exact .inl (by decide +kernel) | exact .inr (by decide +kernel)) (by rw [isSubtype_type]; kernel_rfl)
theorem wd_set : typeLookup (.type "wrapper_descriptor") "__set__" = pure none := by rw [typeLookup_type, builtinLookup_eq_fast]; kernel_rfl
theorem wd_delete : typeLookup (.type "wrapper_descriptor") "__delete__" = pure none := by rw [typeLookup_type, builtinLookup_eq_fast]; kernel_rfl
theorem entry_wd_get : entryFor table "wrapper_descriptor.__get__" = some Builtin.«wrapper_descriptor.__get__» := entryFor_of_tree (by kernel_rfl)
theorem args_wd_get (a b c : Value) : argsOk "wrapper_descriptor.__get__" ⟨[a, b, c], []⟩ := by unfold argsOk; kernel_rfl
theorem owner_list_contains : (".".intercalate ("list.__contains__".cutAt '.').dropLast) = "list" := by
  have e0 : "list.__contains__".cutAt '.' = ["list", "__contains__"] := by first | rfl | decide +kernel
  rw [e0]; decide +kernel
theorem sub_list_contains_owner : isSubtype (.type "list") (.type (".".intercalate ("list.__contains__".cutAt '.').dropLast)) = pure true := by
  rw [owner_list_contains, isSubtype_type]; kernel_rfl

section
variable {prog : Program} {w : World} {A : Around} {E : Value → Shared → Prop} {h : Heap} {g : Array GenState} {d : Drawn} {t : Nat} {os : OsState} {a : Addr} {o : Obj}
abbrev mwObj (a : Addr) : Obj := { cls := .type "method-wrapper", data := .fields #[.builtin "list.__contains__", .ref a] }

theorem contains_get {R : Result → Shared → Prop} (hx : h.get? a = some o) (hc : o.cls = .type "list") (hq : R (.ok (.ret (.ref h.objs.size))) ⟨h.push (mwObj a), g, d, t, os⟩) :
    codeAny (model prog w) A (.call (.builtin "wrapper_descriptor.__get__") ⟨[.builtin "list.__contains__", .ref a, .type "list"], []⟩) R ⟨h, g, d, t, os⟩ := by
  have hT : (⟨h, g, d, t, os⟩ : Shared).TypeIs (.ref a) "list" := ⟨_, hx, hc⟩
  have hT5 : (⟨h, g, d, t, os⟩ : Shared).TypeIs (.builtin "list.__contains__") "wrapper_descriptor" := ty_list_contains
  have f8 := sub_list_contains_owner
  refine codeAny_call_builtin wd_get.plain entry_wd_get (wd_get.check _ _ _ _ _ _ _ _ hT5 (args_wd_get _ _ _) ?_)
  repeat (any_goals (first | assumption | wp_step))

abbrev lstObj (vs : Array Value) (n : Nat) : Obj := { cls := .type "list", data := .seq vs n }
variable {vs : Array Value} {n : Nat}
theorem contains_entry {tk : Tok} {Q : Fin → Shared → Prop} (hx : h.get? a = some (lstObj vs n)) (hq : Q (.done (.ret (.ref h.objs.size))) ⟨h.push (mwObj a), g, d, t, os⟩) :
    wpAny (model prog w) A (Builtin.«object.__getattribute__» ⟨[.ref a, .str "__contains__" tk], []⟩) Q E ⟨h, g, d, t, os⟩ := by
  have hT : (⟨h, g, d, t, os⟩ : Shared).TypeIs (.ref a) "list" := ⟨_, hx, rfl⟩
  have f4 := lk_list_contains
  have f5 := ty_list_contains
  have f6 := wd_get.lookup
  have f7 := wd_set
  have f8 := wd_delete
  repeat (any_goals (first | assumption | wp_step))
  refine contains_get hx rfl ?_
  repeat (any_goals (first | assumption | wp_step))

theorem contains_call {tk : Tok} {R : Result → Shared → Prop} (hx : h.get? a = some (lstObj vs n)) (hq : R (.ok (.ret (.ref h.objs.size))) ⟨h.push (mwObj a), g, d, t, os⟩) :
    codeAny (model prog w) A (.call (.builtin "list.__getattribute__") ⟨[.ref a, .str "__contains__" tk], []⟩) R ⟨h, g, d, t, os⟩ :=
  codeAny_call_builtin F.slot_list_getattribute.plain F.entry_list_ga (F.slot_list_getattribute.check _ _ _ _ _ _ _ _ (show (⟨h, g, d, t, os⟩ : Shared).TypeIs (.ref a) "list" from ⟨_, hx, rfl⟩) (F.args_list_getattribute_2 _ _) (contains_entry hx hq))

theorem contains_attr {Q : Value → Shared → Prop} (hx : h.get? a = some (lstObj vs n)) (hq : Q (.ref h.objs.size) ⟨h.push (mwObj a), g, d, t + 1, os⟩) : wpAny (model prog w) A (getAttr (.ref a) "__contains__" true) Q E ⟨h, g, d, t, os⟩ := by
  have hT : (⟨h, g, d, t, os⟩ : Shared).TypeIs (.ref a) "list" := ⟨_, hx, rfl⟩
  have f2 := F.slot_list_getattribute.lookup
  have f3 := F.slot_list_getattribute.bind (.ref a)
  unfold getAttr getAttrBy
  repeat (any_goals (first | assumption | wp_step))
  refine contains_call hx ?_
  repeat (any_goals (first | assumption | wp_step))

theorem lt_size_of_news {h₀ h : Heap} {L : Addr} {news : List (Addr × Obj)} (N : News h₀ L h news) : ∀ p ∈ news, p.1 < h.objs.size := fun p hp => Heap.lt_size (N p hp).1
theorem k_contains {s : Shared} {h₀ : Heap} {L : Addr} {m : Str → Option Value} {news : List (Addr × Obj)} {Q : Value → Shared → Prop} {prog : Program} {w : World} (F : Fr h₀ L s.heap m) (N : News h₀ L s.heap news) (hm : (a, lstObj vs n) ∈ news)
    (k : ∀ q h', Fr h₀ L h' m → News h₀ L h' ((q, mwObj a) :: news) → (∀ p ∈ news, p.1 < q) → Q (.ref q) { s with heap := h', toks := s.toks + 1 }) :
    wpAny (model prog w) A (getAttr (.ref a) "__contains__" true) Q E s :=
  contains_attr (N _ hm).1 (k _ _ (F.push _) (N.push F _) (lt_size_of_news N))
end
end Mine
end

section
open PySem PySem.W PyProof.Rows PySem.Spec PySem.Calls PySem.SeqAt
set_option Elab.async false
set_option maxRecDepth 100000
set_option maxHeartbeats 4000000
namespace Mine

section
variable {prog : Program} {w : World} {A : Around} {E : Value → Shared → Prop} {s : Shared} {h₀ : Heap} {L it l : Addr} {m : Str → Option Value} {news : List (Addr × Obj)}

theorem entry_next' : entryFor table "next" = some Builtin.«next» := entryFor_of_tree (by kernel_rfl)
theorem args_next' (a : Value) : argsOk "next" ⟨[a], []⟩ := by unfold argsOk; kernel_rfl
theorem entry_iter' : entryFor table "iter" = some Builtin.«iter» := entryFor_of_tree (by kernel_rfl)
theorem args_iter' (a : Value) : argsOk "iter" ⟨[a], []⟩ := by unfold argsOk; kernel_rfl

abbrev iterObj (l : Addr) (i : Nat) : Obj := { cls := .type "list_iterator", data := .fields #[.ref l, .int i 0] }
theorem call_iter_list {vs : Array Value} {Q : Value → Shared → Prop} (hl : s.heap.IsList l vs)
    (h : Q (.ref s.heap.objs.size) { s with heap := s.heap.push (iterObj l 0) }) : wpAny (model prog w) A (call (.builtin "iter") [.ref l]) Q E s := by
  refine call_function_entry (by decide +kernel) (by decide +kernel) entry_iter' (args_iter' _) ?_
  unfold Builtin.«iter»
  refine wpAny_bind (m := someArgs "iter" 1 2 _) (wpAny_of_eq (a := [Value.ref l]) (by first | rfl | kernel_rfl!) ?_)
  show wpAny _ _ (pyIter (.ref l) >>= _) _ _ _
  exact wpAny_bind (wpAny_pyIter_list hl (wpAny_pure ⟨_, rfl, h⟩))

theorem k_iter_list {vs : Array Value} {n : Nat} {Q : Value → Shared → Prop} (F : Fr h₀ L s.heap m) (N : News h₀ L s.heap news) (hm : (l, lstObj vs n) ∈ news)
    (k : ∀ q h', Fr h₀ L h' m → News h₀ L h' ((q, iterObj l 0) :: news) → (∀ p ∈ news, p.1 < q) → Q (.ref q) { s with heap := h' }) :
    wpAny (model prog w) A (call (.builtin "iter") [.ref l]) Q E s :=
  call_iter_list ⟨_, (N _ hm).1, rfl, _, rfl⟩ (k _ _ (F.push _) (N.push F _) (lt_size_of_news N))

theorem call_next_item {items : Array Value} {i : Nat} {x : Value} {Q : Value → Shared → Prop} (ho : s.heap.get? it = some (iterObj l i)) (hl : s.heap.IsList l items) (hx : items[i]? = some x)
    (hQ : Q x { s with heap := s.heap.update it (Obj.mapFields (·.setIfInBounds 1 (rawInt ((i : Int) + 1)))) }) :
    wpAny (model prog w) A (call (.builtin "next") [.ref it]) Q E s := by
  have hit : s.heap.IsListIter it l i := ⟨_, ho, rfl, rfl⟩
  obtain ⟨ol, hol, _, nl, hdl⟩ := hl
  refine call_function_entry (by decide +kernel) (by decide +kernel) entry_next' (args_next' _) ?_
  unfold Builtin.«next»
  refine wpAny_bind (m := someArgs "next" 1 2 _) (wpAny_of_eq (a := [Value.ref it]) (by first | rfl | kernel_rfl!) ?_)
  dsimp only
  refine wpAny_bind (wpAny_specialOf (name := Str.ofString "__next__") hit.typeIs slot_listiter_next.lookup ?_)
  refine wpAny_ite_split (fun hab => absurd hab (by decide)) (fun _ => ?_)
  refine wpAny_bind (wpAny_callSpecial?_slot (name := Str.ofString "__next__") hit.typeIs slot_listiter_next
    (wpAny_call_entry slot_listiter_next hit.typeIs entry_listiter_next ?_ (args_listiter_next _)))
  show wpAny _ _ (field (.ref it) 0 >>= _) _ _ s
  refine wpAny_bind (wpAny_field ho rfl (x := .ref l) rfl ?_)
  show wpAny _ _ (if (Value.ref l == Value.none) = true then _ else _) _ _ s
  rw [if_neg (show ¬ ((Value.ref l == Value.none) = true) from Bool.false_ne_true)]
  show wpAny _ _ (field (.ref it) 1 >>= _) _ _ s
  refine wpAny_bind (wpAny_field ho rfl (x := .int i 0) rfl ?_)
  show wpAny _ _ (seqItems? (.ref l) >>= _) _ _ s
  refine wpAny_bind (wpAny_seqItems hol hdl ?_)
  simp only [Int.toNat_natCast, hx]
  refine wpAny_bind (wpAny_setField ho rfl (by simp) (wpAny_pure ⟨x, rfl, ?_⟩))
  exact wpAny_pure ⟨_, rfl, hQ⟩

theorem call_next_end {items : Array Value} {i : Nat} {Q : Value → Shared → Prop} (hh : A.handled = none) (ho : s.heap.get? it = some (iterObj l i)) (hl : s.heap.IsList l items) (hx : items[i]? = none)
    (hQ : ∀ h₁ h' e, Heap.SameBut it s.heap h₁ → Heap.MadeExcOf h₁ h' e (.type "StopIteration") [] → E (.ref e) { s with heap := h' }) :
    wpAny (model prog w) A (call (.builtin "next") [.ref it]) Q E s := by
  have hit : s.heap.IsListIter it l i := ⟨_, ho, rfl, rfl⟩
  obtain ⟨ol, hol, _, nl, hdl⟩ := hl
  refine call_function_entry (by decide +kernel) (by decide +kernel) entry_next' (args_next' _) ?_
  unfold Builtin.«next»
  refine wpAny_bind (m := someArgs "next" 1 2 _) (wpAny_of_eq (a := [Value.ref it]) (by first | rfl | kernel_rfl!) ?_)
  dsimp only
  refine wpAny_bind (wpAny_specialOf (name := Str.ofString "__next__") hit.typeIs slot_listiter_next.lookup ?_)
  refine wpAny_ite_split (fun hab => absurd hab (by decide)) (fun _ => ?_)
  refine wpAny_bind (wpAny_callSpecial?_slot (name := Str.ofString "__next__") hit.typeIs slot_listiter_next
    (wpAny_call_entry slot_listiter_next hit.typeIs entry_listiter_next ?_ (args_listiter_next _)))
  show wpAny _ _ (field (.ref it) 0 >>= _) _ _ s
  refine wpAny_bind (wpAny_field ho rfl (x := .ref l) rfl ?_)
  show wpAny _ _ (if (Value.ref l == Value.none) = true then _ else _) _ _ s
  rw [if_neg (show ¬ ((Value.ref l == Value.none) = true) from Bool.false_ne_true)]
  show wpAny _ _ (field (.ref it) 1 >>= _) _ _ s
  refine wpAny_bind (wpAny_field ho rfl (x := .int i 0) rfl ?_)
  show wpAny _ _ (seqItems? (.ref l) >>= _) _ _ s
  refine wpAny_bind (wpAny_seqItems hol hdl ?_)
  simp only [Int.toNat_natCast, hx]
  refine wpAny_bind (wpAny_rule (wpAny_bind (wpAny_setField ho rfl (by simp) ?_)))
  show wpAny _ _ (newExc (.type "StopIteration") [] >>= _) _ _ _
  refine wpAny_bind ?_
  simp only [newExc, newTuple]
  refine wpAny_bind (wpAny_newObj_type ?_ (by size_fits))
  refine wpAny_bind (m := firstArgMember _ _) (wpAny_of_eq (a := Value.none) (by first | rfl | (simp only [firstArgMember]; rfl)) ?_)
  refine wpAny_newObj_type ?_ (by size_fits)
  simp only [raiseNew]
  refine wpAny_bind (wpAny_handled ?_)
  rw [show A.in1.in1.handled = none from hh]
  refine wpAny_bind (wpAny_pure (wpAny_throw ?_))
  refine hQ _ _ _ (Heap.SameBut.update ..) ⟨fun b o e => Heap.get?_push_of_some _ (Heap.get?_push_of_some _ e), ?_, ⟨_, Heap.get?_push_size _ rfl, ?_, Heap.get?_push_of_some _ (Heap.get?_push_size _ rfl)⟩⟩
  · exact Heap.get?_none_of_le (by simp only [Heap.size_push]; exact Nat.le_succ _)
  · exact Heap.get?_none_of_le (Nat.le_refl _)
end

theorem fr_lt {h₀ h : Heap} {L : Addr} {m : Str → Option Value} (F : Fr h₀ L h m) : L < h.objs.size := by
  obtain ⟨o, es, ep, ho, _⟩ := F.ns
  exact Heap.lt_size ho
theorem fr_grow' {h₀ h h' : Heap} {L : Addr} {m : Str → Option Value} (F : Fr h₀ L h m) (k : h.StaysIn h') : Fr h₀ L h' m := ⟨F.ns.keeps k, fun b o e => k b o (F.keep b o e), F.above⟩
theorem fr_cong {h₀ h : Heap} {L : Addr} {m m' : Str → Option Value} (F : Fr h₀ L h m) (e : ∀ y, m y = m' y) : Fr h₀ L h m' := (funext e : m = m') ▸ F
theorem k_next_item {prog : Program} {w : World} {A : Around} {E : Value → Shared → Prop} {s : Shared} {h₀ : Heap} {L it l : Addr} {m : Str → Option Value} {items : Array Value} {i n : Nat} {x : Value} {rest : List (Addr × Obj)} {Q : Value → Shared → Prop}
    (F : Fr h₀ L s.heap m) (N : News h₀ L s.heap ((it, iterObj l i) :: rest)) (hne : ∀ p ∈ rest, p.1 ≠ it) (hm : (l, lstObj items n) ∈ rest) (hx : items[i]? = some x)
    (k : ∀ h', Fr h₀ L h' m → News h₀ L h' ((it, iterObj l (i + 1)) :: rest) → Q x { s with heap := h' }) : wpAny (model prog w) A (call (.builtin "next") [.ref it]) Q E s := by
  refine call_next_item (N _ (.head _)).1 ⟨_, (N _ (.tail _ hm)).1, rfl, _, rfl⟩ hx ?_
  obtain ⟨F', N'⟩ := news_upd (pre := []) (f := Obj.mapFields (·.setIfInBounds 1 (rawInt ((i : Int) + 1)))) (o' := iterObj l (i + 1)) F N (fun _ h => nomatch h) hne rfl rfl
  exact k _ F' N'

/-- two things wanted, for the walk to stop at -/
def Both (a b : Prop) : Prop := a ∧ b
theorem callWith_mw {M : Model} {A : Around} {E : Value → Shared → Prop} {s : Shared} {pos : Pos} {u a : Addr} {env : Env} {e : Expr} {rest : List Expr} {Q : Value → Shared → Prop}
    (h : wpAny M A (spliced (backTo pos (starEach (e :: rest) env))) (fun vs s₁ => Both (s₁.heap.get? u = some (mwObj a)) (wpAny M A (call (.ref u) vs) Q E s₁)) E s)
    (he : starEach (e :: rest) env = (false, eval e env) :: starEach rest env := by rfl) (hplain : (backTo pos (starEach rest env)).any (·.1) = false := by rfl) :
    wpAny M A (callWith pos (.ref u) [] (backTo pos (starEach (e :: rest) env)) []) Q E s := by
  rw [he] at h ⊢
  have hp : (backTo pos ((false, eval e env) :: starEach rest env)).any (·.1) = false := by show (false || (backTo pos (starEach rest env)).any (·.1)) = false; rw [hplain]; rfl
  unfold callWith
  refine wpAny_bind (wpAny_holding (wpAny_mono (evalArgs_plain (Q := fun x s₁ => Both (s₁.heap.get? u = some (mwObj a)) (wpAny M A (call (.ref u) x.pos x.kw) Q E s₁)) h) (fun x s₁ h₁ => wpAny_bind (wpAny_standAt ?_)) fun _ _ x => x))
  obtain ⟨ho, hcall⟩ := h₁
  simp only [hp, List.any_nil, Bool.or_false]
  refine wpAny_bind (m := keeperOf (.ref u)) ?_
  unfold keeperOf
  refine wpAny_bind (wpAny_load ho ?_)
  simp only [show (Value.type "method-wrapper" != Value.type "method") = true by decide, show (Value.type "method-wrapper" == Value.type "builtin_function_or_method" || Value.type "method-wrapper" == Value.type "method-wrapper") = true by decide, if_true]
  refine wpAny_pure ?_
  exact wpAny_bind (wpAny_mono hcall (fun r s₂ hr => wpAny_bind (wpAny_holding (wpAny_point (wpAny_pure hr)))) fun _ _ x => x)

/-- a def of the written part entered, over a ground of our own -/
theorem enter_raw {prog : Program} {w : World} {A : Around} {s : Shared} {B : Heap} {K : Frag} {p : Program} {loose : List Str} {mean : ExcName → Option Value} {mg mb : Str → Option Value} {news : List (Addr × Obj)} {Q E : Value → Shared → Prop}
    {name qual : Str} {params : Arguments} {body : List Stmt} {scope : Scope} {dV kV doc pm cdv ct oc : Value} {an od : Option Addr} {osl : Array (Option Value)} {f : Addr} {args : List Value} {binds : List (Str × Value)}
    (XB : K.In B) (TB : Top p loose mean mg mb B) (hB : B.StaysIn s.heap) (hsz : B.objs.size ≤ s.heap.objs.size) (N : News B s.heap.objs.size s.heap news)
    (ho : K.lookup f = some ⟨oc, od, .func (fnOf name qual params body scope dV kV doc pm an cdv ct), osl⟩) (hcd : codeIn K cdv qual = true) (hroom : A.depth < recursionLimit)
    (hbind : BindsTo s (fnOf name qual params body scope dV kV doc pm an cdv ct) ⟨args, []⟩ binds) (hloc : ∀ y ∈ binds, scope.names.lookup y.1 = some .local)
    (h : ∀ h₁ tk, Fr B s.heap.objs.size h₁ (fun y => binds.reverse.lookup y) → News B s.heap.objs.size h₁ news → (∀ b o, s.heap.get? b = some o → h₁.get? b = some o) →
      wpAny (model prog w) (A.deeper (envOf qual scope s.heap.objs.size f cdv)) (execs body (envOf qual scope s.heap.objs.size f cdv))
        (fun fl s' => Q (match fl with | .ret v => v | _ => .none) s')
        (fun e s' => wpAny (model prog w) (A.deeper (envOf qual scope s.heap.objs.size f cdv)) (leaving (envOf qual scope s.heap.objs.size f cdv) e) (fun _ s'' => E e s'') (fun e' s'' => E e' s'') s')
        { s with heap := h₁, toks := tk })
    (hco : scope.isCoroutine = false) (hgen : scope.isGenerator = false) (hk : scope.kind = .function)
    (hcell : ∀ x ∈ scope.names, x.2 ≠ .cell) : wpAny (model prog w) A (call (.ref f) args) Q E s := by
  refine wpAny_call ?_
  have X := XB.keeps hB
  refine codeAny_call_def (fd := fnOf name qual params body scope dV kV doc pm an cdv ct) (body := body) (binds := binds) hroom (X _ _ ho) rfl (TB.nolimit.keeps hB) (codeRec_of X hcd) rfl hbind hcell hloc (fun h₁ hns hk₁ => ?_) hco hgen hk
  exact h h₁ _ ⟨hns, fun b o e => hk₁ b o (hB b o e), hsz⟩ (fun p hp => ⟨hk₁ _ _ (N p hp).1, (N p hp).2⟩) hk₁

section
variable {M : Model} {A : Around} {E : Value → Shared → Prop} {s : Shared} {base h : Heap} {env : Env} {outer : List Env} {L e : Addr} {cls : Value} {args : List Value}
/-- a first note of a fresh exception in its own frame -/
theorem note_first {Q : Unit → Shared → Prop} (hfr : A.frames = some (env :: outer)) (hf : env.frame = some L) (hkb : base.StaysIn h) (hl : h.FunFrames base (env :: outer)) (hx : Heap.MadeExcOf h s.heap e cls args)
    (hQ : ∀ h' t, Heap.HeldW base (env :: outer) e cls (.ref t) L h' → h'.TupAt t args → base.get? t = none → s.heap.UpToSlots h' → Q () { s with heap := h' }) : wpAny M A (noteFrame (.ref e) env) Q E s := by
  obtain ⟨t, he, htn, ht⟩ := hx.there
  have fresh : ∀ b, h.get? b = none → base.get? b = none := fun b hb => by
    cases hq : base.get? b with
    | none => rfl
    | some o' => have := hkb b o' hq; rw [hb] at this; cases this
  unfold noteFrame
  simp only [hf]
  refine wpAny_bind (wpAny_field he rfl (x := .none) rfl ?_)
  rw [if_neg (by decide)]
  refine wpAny_entryW (a0 := .ref t) hfr (hl.of_keeps fun b o hb _ => ⟨o, hx.keeps b o hb, rfl⟩) hf he (fun b o hb => hx.keeps b o (hkb b o hb)) (fresh e hx.new) rfl (by simp) rfl fun h' hN => ?_
  obtain ⟨k1, k2, k3, k4⟩ := hN
  exact hQ h' t ⟨k1, fresh e hx.new, k2, k3⟩ (Heap.TupAt.of_slots ⟨_, _, ht, rfl, rfl⟩ k4) (fresh t htn) k4

/-- the flight comes back to its own frame -/
theorem came_back (hf : env.frame = some L) {l : List Env} {a0 : Value} (hh : Heap.HeldW base l e cls a0 L s.heap)
    (hE : ∀ h', Heap.HeldW base l e cls a0 L h' → s.heap.UpToSlots h' → E (.ref e) { s with heap := h' }) : cameBackBy M A env E (.ref e) s := by
  obtain ⟨f1, f2, f3, oe, vs, T, oT, ts, he, hcls, hd, h1, hnT, hTe, hT, hdT, h3⟩ := hh
  have hsz3 : 3 < ts.size := (Array.getElem?_eq_some_iff.mp h3).1
  unfold cameBackBy
  refine wpAny_bind (wpAny_field he hd h1 ?_)
  rw [if_neg (by simp)]
  unfold setFlight
  refine wpAny_bind (wpAny_field he hd h1 ?_)
  rw [if_pos (show (Value.ref T != Value.none) = true from by simp)]
  have other : ∀ b, b ≠ T → (s.heap.update T (Obj.mapFields (·.setIfInBounds 3 (env.frame.elim Value.none fun f => rawInt f)))).get? b = s.heap.get? b :=
    fun b hb => Heap.get?_update_other _ _ (Ne.symm hb)
  have apart : ∀ b o, s.heap.get? b = some o → (∀ vs, o.data ≠ .fields vs) → b ≠ T := fun b o hb hnf q => by
    rw [q, hT] at hb; injection hb with hb; subst hb; exact hnf ts hdT
  refine wpAny_setField hT hdT hsz3 (hE _ ⟨fun b o hbo => (other b fun q => by rw [q, hnT] at hbo; cases hbo).trans (f1 b o hbo), f2,
    f3.of_keeps fun b o hb hnf => ⟨o, (other b (apart b o hb hnf)).trans hb, rfl⟩, ?_⟩ fun b o hb hnf => ⟨o.slots, (other b (apart b o hb hnf)).trans hb⟩)
  exact ⟨oe, vs, T, _, _, (other e (Ne.symm hTe)).trans he, hcls, hd, h1, hnT, hTe, Heap.get?_update_self _ hT (Obj.isFreed_of_fields (Obj.data_mapFields hdT _)), Obj.data_mapFields hdT _, by rw [hf]; simp [hsz3, rawInt]⟩

/-- leaving with a held exception, with what stays told -/
theorem leaves_held {Q : Unit → Shared → Prop} {a0 : Value} (hf : env.frame = some L) (hh : Heap.HeldW base (env :: outer) e cls a0 L s.heap)
    (hQ : ∀ h', Heap.FlyingW base outer e cls a0 h' → s.heap.UpToSlots h' → Q () { s with heap := h' }) : wpAny M A (leaving env (.ref e)) Q E s := by
  unfold leaving
  refine wpAny_bind (wpAny_noteFrame_againW hf hh.2.2.2 ?_)
  refine wpAny_landsW hh fun h' hfl hu => ?_
  obtain ⟨k1, k2, ⟨_, _, k3⟩, k4⟩ := hfl
  exact hQ h' ⟨k1, k2, k3, k4⟩ hu

/-- out of a loop of its frame, and out of the frame -/
theorem out_of_loop {R : Value → Shared → Prop} (hfr : A.frames = some (env :: outer)) (hf : env.frame = some L) (hkb : base.StaysIn h) (hl : h.FunFrames base (env :: outer)) (hx : Heap.MadeExcOf h s.heap e cls args)
    (hR : ∀ h' a0, Heap.FlyingW base outer e cls a0 h' → s.heap.UpToSlots h' → R (.ref e) { s with heap := h' }) :
    notedBy M A env (cameBackBy M A env fun x s' => wpAny M A (leaving env x) (fun _ s'' => R x s'') E s') (.ref e) s := by
  unfold notedBy
  refine note_first hfr hf hkb hl hx fun h₁ t hh _ _ u1 => ?_
  refine came_back hf hh fun h₂ hh₂ u2 => ?_
  exact leaves_held hf hh₂ fun h₃ hfl u3 => hR _ _ hfl ((u1.trans u2).trans u3)
end

section
variable {prog : Program} {w : World} {A : Around} {E : Value → Shared → Prop} {s : Shared} {a q : Addr}
theorem check_contains (a : Addr) (x : Value) : checkBoundCall "list.__contains__" ⟨[.ref a, x], []⟩ = pure () := by
  first | kernel_rfl | rfl
theorem plain_contains : plainId "list.__contains__" = true := by decide +kernel
/-- the bound test of a list called upon a value -/
theorem call_contains {x : Value} {items : Array Value} {n : Nat} {Q : Value → Shared → Prop} (e : Value → Bool) (hq : s.heap.get? q = some (mwObj a)) (ha : s.heap.get? a = some (lstObj items n))
    (he : ∀ y, y ∈ items → ∀ A, EqAt A s y x (e y)) (h : Q (.bool (items.any e)) s) :
    wpAny (model prog w) A (call (.ref q) [x]) Q E s := by
  refine wpAny_call (codeAny_of_tree ?_)
  show wpAny _ A.in1 (callAny (.ref q) ⟨[x], []⟩) _ _ s
  simp only [callAny]
  refine wpAny_bind (wpAny_load hq ?_)
  simp only [mwObj, show (Value.type "method-wrapper" == Value.type "method" || Value.type "method-wrapper" == Value.type "builtin_function_or_method" || Value.type "method-wrapper" == Value.type "method-wrapper") = true by decide, if_true]
  refine wpAny_ite_split (fun _ => ?_) (fun hab => absurd (by decide) hab)
  refine wpAny_bind (wpAny_of_eq (a := ()) (check_contains a x) ?_)
  refine wpAny_bind (wpAny_pure (wpAny_pure ?_))
  refine ⟨plainId_quiet plain_contains _, codeAny_builtin F.entry_list_contains ?_⟩
  exact list_containsAt a items n none #[] x e prog w _ _ _ ⟨ha, fun y hy => he y hy _, h⟩
end
end Mine
end

section
open PySem PySem.W PyProof.Rows PySem.Spec PySem.Calls PySem.SeqAt
set_option Elab.async false
set_option maxRecDepth 100000
set_option maxHeartbeats 4000000
namespace Mine

section
variable {prog : Program} {w : World} {A : Around} {E : Value → Shared → Prop} {h : Heap} {g : Array GenState} {d : Drawn} {tk : Nat} {os : OsState}
abbrev tiObj (t : Addr) (i : Nat) : Obj := { cls := .type "tuple_iterator", data := .fields #[.ref t, .int i 0] }
abbrev tupObj (vs : Array Value) (n : Nat) : Obj := { cls := .type "tuple", data := .seq vs n }
abbrev enObj (own : Value) (it : Addr) (i : Nat) (old : Value) : Obj := { cls := .type "enumerate", data := .fields #[own, .bool false, .ref it, rawInt i, .none, old] }

theorem ti_next : typeLookup (.type "tuple_iterator") "__next__" = pure (some (.builtin "tuple_iterator.__next__")) := F.slot_tuple_iterator_next.lookup
theorem nextOf_tuple {it t : Addr} {i n : Nat} {items : Array Value} {x : Value} {Q : Value → Shared → Prop} (hit : h.get? it = some (tiObj t i)) (ht : h.get? t = some (tupObj items n)) (hx : items[i]? = some x)
    (hQ : Q x ⟨h.update it (Obj.mapFields (·.setIfInBounds 1 (rawInt ((i : Int) + 1)))), g, d, tk, os⟩) : wpAny (model prog w) A (Builtin.SmallTypes.nextOf (.ref it)) Q E ⟨h, g, d, tk, os⟩ := by
  have hT : (⟨h, g, d, tk, os⟩ : Shared).TypeIs (.ref it) "tuple_iterator" := ⟨_, hit, rfl⟩
  have hx' : items[((i : Nat) : Int).toNat]? = some x := hx
  unfold Builtin.SmallTypes.nextOf
  refine wpAny_bind (wpAny_callSpecial?_slot (name := Str.ofString "__next__") hT F.slot_tuple_iterator_next (wpAny_call_entry F.slot_tuple_iterator_next hT F.entry_tuple_iterator_next ?_ (F.args_tuple_iterator_next_1 _)))
  show wpAny _ _ (field (.ref it) 0 >>= _) _ _ _
  refine wpAny_bind (wpAny_field hit rfl (x := .ref t) rfl ?_)
  show wpAny _ _ (if (Value.ref t == Value.none) = true then _ else _) _ _ _
  rw [if_neg (show ¬ ((Value.ref t == Value.none) = true) from Bool.false_ne_true)]
  show wpAny _ _ (field (.ref it) 1 >>= _) _ _ _
  refine wpAny_bind (wpAny_field hit rfl (x := .int i 0) rfl ?_)
  show wpAny _ _ (seqItems? (.ref t) >>= _) _ _ _
  refine wpAny_bind (wpAny_seqItems ht rfl ?_)
  simp only [hx']
  exact wpAny_bind (wpAny_setField hit rfl (by simp) (wpAny_pure ⟨x, rfl, wpAny_pure hQ⟩))

theorem nextOf_tuple_end {it t : Addr} {i n : Nat} {items : Array Value} {Q : Value → Shared → Prop} (hh : A.handled = none) (hit : h.get? it = some (tiObj t i)) (ht : h.get? t = some (tupObj items n)) (hx : items[i]? = none)
    (hE : ∀ h' ex, Heap.ExtBut it h h' → (∃ o, h'.get? ex = some o ∧ o.cls = .type "StopIteration") → E (.ref ex) ⟨h', g, d, tk, os⟩) : wpAny (model prog w) A (Builtin.SmallTypes.nextOf (.ref it)) Q E ⟨h, g, d, tk, os⟩ := by
  have hT : (⟨h, g, d, tk, os⟩ : Shared).TypeIs (.ref it) "tuple_iterator" := ⟨_, hit, rfl⟩
  have hx' : items[((i : Nat) : Int).toNat]? = none := hx
  unfold Builtin.SmallTypes.nextOf
  refine wpAny_bind (wpAny_callSpecial?_slot (name := Str.ofString "__next__") hT F.slot_tuple_iterator_next (wpAny_call_entry F.slot_tuple_iterator_next hT F.entry_tuple_iterator_next ?_ (F.args_tuple_iterator_next_1 _)))
  show wpAny _ _ (field (.ref it) 0 >>= _) _ _ _
  refine wpAny_bind (wpAny_field hit rfl (x := .ref t) rfl ?_)
  show wpAny _ _ (if (Value.ref t == Value.none) = true then _ else _) _ _ _
  rw [if_neg (show ¬ ((Value.ref t == Value.none) = true) from Bool.false_ne_true)]
  show wpAny _ _ (field (.ref it) 1 >>= _) _ _ _
  refine wpAny_bind (wpAny_field hit rfl (x := .int i 0) rfl ?_)
  show wpAny _ _ (seqItems? (.ref t) >>= _) _ _ _
  refine wpAny_bind (wpAny_seqItems ht rfl ?_)
  simp only [hx']
  refine wpAny_bind (wpAny_rule (wpAny_bind (wpAny_setField hit rfl (by simp) ?_)))
  show wpAny _ _ (newExc (.type "StopIteration") [] >>= _) _ _ _
  refine wpAny_bind ?_
  simp only [newExc, newTuple]
  refine wpAny_bind (wpAny_newObj_type ?_ (by size_fits))
  refine wpAny_bind (m := firstArgMember _ _) (wpAny_of_eq (a := Value.none) (by first | rfl | (simp only [firstArgMember]; rfl)) ?_)
  refine wpAny_newObj_type ?_ (by size_fits)
  simp only [raiseNew]
  refine wpAny_bind (wpAny_handled ?_)
  rw [show A.in1.handled = none from hh]
  refine wpAny_bind (wpAny_pure (wpAny_throw ?_))
  exact hE _ _ (((Heap.SameBut.update ..).extBut.push _).push _) ⟨_, Heap.get?_push_size _ rfl, rfl⟩

theorem pyNext_tuple {it t : Addr} {i n : Nat} {items : Array Value} {x : Value} {Q : Option Value → Shared → Prop} (hit : h.get? it = some (tiObj t i)) (ht : h.get? t = some (tupObj items n)) (hx : items[i]? = some x)
    (hQ : ∀ h', h'.get? it = some (tiObj t (i + 1)) → Heap.SameBut it h h' → Q (some x) ⟨h', g, d, tk, os⟩) : wpAny (model prog w) A (pyNext (.ref it)) Q E ⟨h, g, d, tk, os⟩ := by
  have hT : (⟨h, g, d, tk, os⟩ : Shared).TypeIs (.ref it) "tuple_iterator" := ⟨_, hit, rfl⟩
  have hx' : items[((i : Nat) : Int).toNat]? = some x := hx
  unfold pyNext
  refine wpAny_bind (wpAny_attempt (wpAny_callSpecial?_slot (name := Str.ofString "__next__") hT F.slot_tuple_iterator_next (wpAny_call_entry F.slot_tuple_iterator_next hT F.entry_tuple_iterator_next ?_ (F.args_tuple_iterator_next_1 _))))
  show wpAny _ _ (field (.ref it) 0 >>= _) _ _ _
  refine wpAny_bind (wpAny_field hit rfl (x := .ref t) rfl ?_)
  show wpAny _ _ (if (Value.ref t == Value.none) = true then _ else _) _ _ _
  rw [if_neg (show ¬ ((Value.ref t == Value.none) = true) from Bool.false_ne_true)]
  show wpAny _ _ (field (.ref it) 1 >>= _) _ _ _
  refine wpAny_bind (wpAny_field hit rfl (x := .int i 0) rfl ?_)
  show wpAny _ _ (seqItems? (.ref t) >>= _) _ _ _
  refine wpAny_bind (wpAny_seqItems ht rfl ?_)
  simp only [hx']
  exact wpAny_bind (wpAny_setField_rec hit (by simp) fun h' he hs => wpAny_pure ⟨x, rfl, wpAny_pure (hQ h' he hs)⟩)

/-- one turn of an enumerate over a tuple -/
theorem enumT_item {e it t : Addr} {i n : Nat} {items : Array Value} {x old : Value} {Q : Value → Shared → Prop}
    (he : h.get? e = some (enObj .none it i old)) (hit : h.get? it = some (tiObj t i)) (ht : h.get? t = some (tupObj items n)) (hx : items[i]? = some x) (hne : e ≠ it)
    (hQ : ∀ h', h'.get? e = some (enObj (rawInt h.objs.size) it (i + 1) x) → h'.get? it = some (tiObj t (i + 1)) → h'.get? h.objs.size = some (tupObj #[.int i tk, x] 0) → h'.objs.size = h.objs.size + 1 →
      (∀ b o, b ≠ e → b ≠ it → h.get? b = some o → h'.get? b = some o) → Q (.ref h.objs.size) ⟨h', g, d, tk + 1, os⟩) :
    wpAny (model prog w) A (Builtin.«enumerate.__next__» ⟨[.ref e], []⟩) (fun fin s' => ∃ v, fin = .done (.ret v) ∧ Q v s') E ⟨h, g, d, tk, os⟩ := by
  show wpAny _ _ (field (.ref e) 2 >>= _) _ _ _
  refine wpAny_bind (wpAny_field he rfl (x := .ref it) rfl ?_)
  refine wpAny_bind (nextOf_tuple hit ht hx ?_)
  have he₁ : (h.update it (Obj.mapFields (·.setIfInBounds 1 (rawInt ((i : Int) + 1))))).get? e = some (enObj .none it i old) := (Heap.get?_update_other _ _ (Ne.symm hne)).trans he
  have hit₁ : (h.update it (Obj.mapFields (·.setIfInBounds 1 (rawInt ((i : Int) + 1))))).get? it = some (tiObj t (i + 1)) := Heap.get?_update_self _ hit rfl
  have hk₁ : ∀ b o, b ≠ it → h.get? b = some o → (h.update it (Obj.mapFields (·.setIfInBounds 1 (rawInt ((i : Int) + 1))))).get? b = some o := fun b o hb q => (Heap.get?_update_other _ _ (Ne.symm hb)).trans q
  have hz₁ : (h.update it (Obj.mapFields (·.setIfInBounds 1 (rawInt ((i : Int) + 1))))).objs.size = h.objs.size := Heap.size_after_update ..
  generalize (h.update it (Obj.mapFields (·.setIfInBounds 1 (rawInt ((i : Int) + 1))))) = h₁ at *
  clear he hit
  show wpAny _ _ (field (.ref e) 3 >>= _) _ _ _
  refine wpAny_bind (wpAny_field he₁ rfl (x := rawInt i) rfl ?_)
  show wpAny _ _ (field (.ref e) 4 >>= _) _ _ _
  refine wpAny_bind (wpAny_field he₁ rfl (x := .none) rfl ?_)
  show wpAny _ _ (mkInt i >>= _) _ _ _
  refine wpAny_bind (wpAny_mkInt ?_)
  show wpAny _ _ (setField (.ref e) 3 (rawInt ((i : Int) + 1)) >>= _) _ _ _
  refine wpAny_bind (wpAny_setField_rec he₁ (by simp) fun h₂ he₂ hs₂ => ?_)
  replace hs₂ : Heap.SameBut e h₁ h₂ := hs₂
  replace he₂ : h₂.get? e = some (enObj .none it (i + 1) old) := he₂
  show wpAny _ _ (setField (.ref e) 4 .none >>= _) _ _ _
  refine wpAny_bind (wpAny_setField_rec he₂ (by simp) fun h₃ he₃ hs₃ => ?_)
  replace hs₃ : Heap.SameBut e h₁ h₃ := hs₂.trans hs₃
  replace he₃ : h₃.get? e = some (enObj .none it (i + 1) old) := he₃
  show wpAny _ _ (newTuple [.int i tk, x] >>= _) _ _ _
  refine wpAny_bind (wpAny_newTuple ?_)
  dsimp only
  have hz₃ : h₃.objs.size = h.objs.size := hs₃.1.trans hz₁
  rw [hz₃]
  have hk₄ : ∀ b o, b ≠ e → b ≠ it → h.get? b = some o → (h₃.push (tupObj #[.int i tk, x] 0)).get? b = some o := fun b o h1 h2 q => Heap.get?_push_of_some _ ((hs₃.2 b h1).trans (hk₁ b o h2 q))
  have hit₄ : (h₃.push (tupObj #[.int i tk, x] 0)).get? it = some (tiObj t (i + 1)) := Heap.get?_push_of_some _ ((hs₃.2 it (Ne.symm hne)).trans hit₁)
  have ht₄ : (h₃.push (tupObj #[.int i tk, x] 0)).get? h.objs.size = some (tupObj #[.int i tk, x] 0) := hz₃ ▸ Heap.get?_push_size h₃ rfl
  have he₄ : (h₃.push (tupObj #[.int i tk, x] 0)).get? e = some (enObj .none it (i + 1) old) := Heap.get?_push_of_some _ he₃
  have hz₄ : (h₃.push (tupObj #[.int i tk, x] 0)).objs.size = h.objs.size + 1 := by rw [Heap.size_push, hz₃]
  have hne₄ : h.objs.size ≠ e := Nat.ne_of_gt (hz₃ ▸ Heap.lt_size he₃)
  generalize (h₃.push (tupObj #[.int i tk, x] 0)) = h₄ at *
  show wpAny _ _ (Builtin.SmallTypes.ownedTupleIsFree (.ref e) >>= _) _ _ _
  refine wpAny_bind ?_
  unfold Builtin.SmallTypes.ownedTupleIsFree
  refine wpAny_bind (wpAny_field he₄ rfl (x := .none) rfl (wpAny_pure ?_))
  simp only [if_true]
  refine wpAny_bind (wpAny_rule ?_)
  refine wpAny_bind (wpAny_field he₄ rfl (x := old) rfl ?_)
  refine wpAny_bind (wpAny_setField_rec he₄ (by simp) fun h₅ he₅ hs₅ => ?_)
  replace hs₅ : Heap.SameBut e h₄ h₅ := hs₅
  replace he₅ : h₅.get? e = some (enObj .none it (i + 1) x) := he₅
  show wpAny _ _ (Builtin.SmallTypes.ownedTupleHandOut (.ref e) (.ref h.objs.size) >>= _) _ _ _
  refine wpAny_bind ?_
  unfold Builtin.SmallTypes.ownedTupleHandOut
  refine wpAny_bind (wpAny_setField_rec he₅ (by simp) fun h₆ he₆ hs₆ => ?_)
  replace hs₆ : Heap.SameBut e h₄ h₆ := hs₅.trans hs₆
  replace he₆ : h₆.get? e = some (enObj (rawInt h.objs.size) it (i + 1) x) := he₆
  refine wpAny_setField_rec he₆ (by simp) fun h₇ he₇ hs₇ => ?_
  replace hs₇ : Heap.SameBut e h₄ h₇ := hs₆.trans hs₇
  replace he₇ : h₇.get? e = some (enObj (rawInt h.objs.size) it (i + 1) x) := he₇
  refine wpAny_bind (wpAny_letGo (wpAny_pure ⟨_, rfl, hQ h₇ he₇ ?_ ?_ (hs₇.1.trans hz₄) ?_⟩))
  · exact (hs₇.2 it (Ne.symm hne)).trans hit₄
  · exact (hs₇.2 _ hne₄).trans ht₄
  · exact fun b o h1 h2 q => (hs₇.2 b h1).trans (hk₄ b o h1 h2 q)

/-- the end of an enumerate over a tuple, by pyNext -/
theorem enumT_next {e it t : Addr} {i n : Nat} {items : Array Value} {x old : Value} {Q : Option Value → Shared → Prop}
    (he : h.get? e = some (enObj .none it i old)) (hit : h.get? it = some (tiObj t i)) (ht : h.get? t = some (tupObj items n)) (hx : items[i]? = some x) (hne : e ≠ it)
    (hQ : ∀ h', h'.get? e = some (enObj (rawInt h.objs.size) it (i + 1) x) → h'.get? it = some (tiObj t (i + 1)) → h'.get? h.objs.size = some (tupObj #[.int i tk, x] 0) → h'.objs.size = h.objs.size + 1 →
      (∀ b o, b ≠ e → b ≠ it → h.get? b = some o → h'.get? b = some o) → Q (some (.ref h.objs.size)) ⟨h', g, d, tk + 1, os⟩) :
    wpAny (model prog w) A (pyNext (.ref e)) Q E ⟨h, g, d, tk, os⟩ := by
  have hT : (⟨h, g, d, tk, os⟩ : Shared).TypeIs (.ref e) "enumerate" := ⟨_, he, rfl⟩
  unfold pyNext
  exact wpAny_bind (wpAny_attempt (wpAny_callSpecial?_slot (name := Str.ofString "__next__") hT F.slot_enumerate_next
    (wpAny_call_entry F.slot_enumerate_next hT F.entry_enumerate_next
      (enumT_item he hit ht hx hne fun h' a b c d k => wpAny_pure (hQ h' a b c d k)) (F.args_enumerate_next_1 _))))

theorem enumT_end {e it t : Addr} {i n : Nat} {items : Array Value} {old : Value} {Q : Option Value → Shared → Prop} (hh : A.handled = none)
    (he : h.get? e = some (enObj .none it i old)) (hit : h.get? it = some (tiObj t i)) (ht : h.get? t = some (tupObj items n)) (hx : items[i]? = none)
    (hQ : ∀ h', Heap.ExtBut it h h' → Q none ⟨h', g, d, tk, os⟩) : wpAny (model prog w) A (pyNext (.ref e)) Q E ⟨h, g, d, tk, os⟩ := by
  have hT : (⟨h, g, d, tk, os⟩ : Shared).TypeIs (.ref e) "enumerate" := ⟨_, he, rfl⟩
  unfold pyNext
  refine wpAny_bind (wpAny_attempt (wpAny_callSpecial?_slot (name := Str.ofString "__next__") hT F.slot_enumerate_next
    (wpAny_call_entry F.slot_enumerate_next hT F.entry_enumerate_next ?_ (F.args_enumerate_next_1 _))))
  show wpAny _ _ (field (.ref e) 2 >>= _) _ _ _
  refine wpAny_bind (wpAny_field he rfl (x := .ref it) rfl ?_)
  refine wpAny_bind (nextOf_tuple_end hh hit ht hx fun h' ex he' hx' => ?_)
  obtain ⟨o, ho, hc⟩ := hx'
  refine wpAny_bind (wpAny_isInstance (T := "StopIteration") (b := true) ⟨o, ho, hc⟩ isSubtype_stop ?_)
  exact wpAny_pure (hQ _ he')

theorem enumT_new (t : Addr) (items : Array Value) (n : Nat) :
    Meets (Builtin.«enumerate.__new__» ⟨[.type "enumerate", .ref t], []⟩) (fun _ R s => s.heap.get? t = some (tupObj items n) ∧
      R (.ok (.ret (.ref (s.heap.push (tiObj t 0)).objs.size))) { s with heap := (s.heap.push (tiObj t 0)).push (enObj .none s.heap.objs.size 0 .none) }) :=
  .of_wp fun prog w A R s hs => by
    obtain ⟨hp, g, d, tk, os⟩ := s; obtain ⟨ht, hR⟩ := hs
    have hsub := sub_enumerate
    have hL : Heap.IsTuple (Shared.heap ⟨hp, g, d, tk, os⟩) t items := ⟨_, ht, rfl, n, rfl⟩
    wp_walk using AutoSeq1.wpAny_loadPart' ht
    refine wpAny_stack_any fun st => wpAny_pure ?_
    split
    · rename_i c _ _ _ _ _
      cases (c == Value.type "enumerate") <;> (wp_walk using AutoSeq1.wpAny_loadPart' ht, wpAny_pyIter_tuple hL; exact ⟨_, rfl, hR⟩)
    · wp_walk using AutoSeq1.wpAny_loadPart' ht, wpAny_pyIter_tuple hL
      exact ⟨_, rfl, hR⟩

theorem call_enumT {s : Shared} {t : Addr} {items : Array Value} {n : Nat} {Q : Value → Shared → Prop} (ht : s.heap.get? t = some (tupObj items n))
    (k : ∀ h', h'.get? (s.heap.objs.size + 1) = some (enObj .none s.heap.objs.size 0 .none) → h'.get? s.heap.objs.size = some (tiObj t 0) → h'.objs.size = s.heap.objs.size + 2 →
      (∀ b o, s.heap.get? b = some o → h'.get? b = some o) → Q (.ref (s.heap.objs.size + 1)) { s with heap := h' }) :
    wpAny (model prog w) A (call (.type "enumerate") [.ref t]) Q E s := by
  refine callType_new F.called_enumerate (by decide) (F.typeCall_enumerate_1 _) (F.newCall_enumerate_1 _) (fun obj => F.args_object_init_2 obj _) F.entry_enumerate_new (enumT_new t items n) ⟨ht, ?_⟩
  have hz : (s.heap.push (tiObj t 0)).objs.size = s.heap.objs.size + 1 := Heap.size_push ..
  show _ ∧ _
  rw [hz]
  have he : ((s.heap.push (tiObj t 0)).push (enObj .none s.heap.objs.size 0 .none)).get? (s.heap.objs.size + 1) = some (enObj .none s.heap.objs.size 0 .none) := hz ▸ Heap.get?_push_size (s.heap.push (tiObj t 0)) rfl
  exact ⟨⟨_, he, rfl⟩, k _ he (Heap.get?_push_of_some _ (Heap.get?_push_size _ rfl)) (by rw [Heap.size_push, hz]) fun b o x => Heap.get?_push_of_some _ (Heap.get?_push_of_some _ x)⟩
end
end Mine
end

section
open PySem PySem.W PyProof.Rows PySem.Spec PySem.Calls PySem.SeqAt
set_option Elab.async false
set_option maxRecDepth 100000
set_option maxHeartbeats 4000000
namespace Mine

def PairsAt (h : Heap) : List Value → List (Int × Nat) → Prop
  | [], [] => True
  | .ref a :: rs, (b, c) :: ps => (∃ t t' n, h.get? a = some (tupObj #[.int b t, .str ⟨#[c]⟩ t'] n)) ∧ PairsAt h rs ps
  | _, _ => False
def TableAt (h : Heap) (t : Addr) (ps : List (Int × Nat)) : Prop := ∃ n rs, h.get? t = some (tupObj rs n) ∧ PairsAt h rs.toList ps
def TablesAt (h : Heap) : List Value → List (List (Int × Nat)) → Prop
  | [], [] => True
  | .ref t :: rs, ps :: r => TableAt h t ps ∧ TablesAt h rs r
  | _, _ => False

theorem PairsAt.keeps {h h' : Heap} (k : h.StaysIn h') : ∀ {rs : List Value} {ps : List (Int × Nat)}, PairsAt h rs ps → PairsAt h' rs ps
  | [], [], _ => trivial
  | .ref _ :: _, (_, _) :: _, ⟨⟨t, t', n, q⟩, r⟩ => ⟨⟨t, t', n, k _ _ q⟩, PairsAt.keeps k r⟩
theorem PairsAt.get {h : Heap} : ∀ {rs : List Value} {ps : List (Int × Nat)} {j : Nat} {v : Value}, PairsAt h rs ps → rs[j]? = some v → ∃ a b c t t' n, v = .ref a ∧ ps[j]? = some (b, c) ∧ h.get? a = some (tupObj #[.int b t, .str ⟨#[c]⟩ t'] n)
  | .ref a :: rs, (b, c) :: ps, 0, v, ⟨⟨t, t', n, q⟩, _⟩, hv => ⟨a, b, c, t, t', n, by simpa using hv.symm, rfl, q⟩
  | .ref _ :: rs, (_, _) :: ps, j + 1, v, ⟨_, r⟩, hv => by
    obtain ⟨a, b, c, t, t', n, h1, h2, h3⟩ := PairsAt.get (j := j) r (by simpa using hv)
    exact ⟨a, b, c, t, t', n, h1, by simpa using h2, h3⟩
theorem PairsAt.length {h : Heap} : ∀ {rs : List Value} {ps : List (Int × Nat)}, PairsAt h rs ps → rs.length = ps.length
  | [], [], _ => rfl
  | .ref _ :: _, (_, _) :: _, ⟨_, r⟩ => by simp [PairsAt.length r]
theorem TablesAt.get {h : Heap} : ∀ {rs : List Value} {r : List (List (Int × Nat))} {i : Nat} {v : Value}, TablesAt h rs r → rs[i]? = some v → ∃ t ps, v = .ref t ∧ r[i]? = some ps ∧ TableAt h t ps
  | .ref t :: rs, ps :: r, 0, v, ⟨q, _⟩, hv => ⟨t, ps, by simpa using hv.symm, rfl, q⟩
  | .ref _ :: rs, _ :: r, i + 1, v, ⟨_, q⟩, hv => by
    obtain ⟨t, ps, h1, h2, h3⟩ := TablesAt.get (i := i) q (by simpa using hv)
    exact ⟨t, ps, h1, by simpa using h2, h3⟩
theorem TablesAt.length {h : Heap} : ∀ {rs : List Value} {r : List (List (Int × Nat))}, TablesAt h rs r → rs.length = r.length
  | [], [], _ => rfl
  | .ref _ :: _, _ :: _, ⟨_, r⟩ => by simp [TablesAt.length r]

def modeTabs : List (List (Int × Nat)) := [[(40960, 108), (49152, 115), (32768, 45), (24576, 98), (16384, 100), (8192, 99), (4096, 112)], [(256, 114)], [(128, 119)], [(2112, 115), (2048, 83), (64, 120)], [(32, 114)], [(16, 119)],
  [(1032, 115), (1024, 83), (8, 120)], [(4, 114)], [(2, 119)], [(513, 116), (512, 84), (1, 120)]]
def hits (x : Int) (i : Nat) (b : Int) : Bool := if i = 0 then Builtin.bitAnd x 61440 == b else Builtin.bitAnd x b == b
def signOf (x : Int) (i : Nat) (ps : List (Int × Nat)) : Nat := match ps.find? (fun p => hits x i p.1) with
  | some p => p.2
  | none => if i = 0 then 63 else 45
def modeSigns (x : Int) : List Nat := modeTabs.zipIdx.map fun p => signOf x p.2 p.1
def modeText (x : Int) : Str := ⟨(modeSigns x).toArray⟩

theorem signOf_hit {x : Int} {i : Nat} {ps : List (Int × Nat)} {j : Nat} {b : Int} {c : Nat} (h : ps[j]? = some (b, c)) (hh : hits x i b = true) (no : ∀ (k : Nat) b' c', k < j → ps[k]? = some (b', c') → hits x i b' = false) : signOf x i ps = c := by
  have : ps.find? (fun p => hits x i p.1) = some (b, c) := by
    rw [List.find?_eq_some_iff_getElem]
    obtain ⟨hlt, he⟩ := List.getElem?_eq_some_iff.mp h
    refine ⟨hh, j, hlt, he, fun k hk => ?_⟩
    have := no k (ps[k]).1 (ps[k]).2 hk (by rw [List.getElem?_eq_getElem])
    simp [this]
  unfold signOf
  rw [this]
theorem signOf_miss {x : Int} {i : Nat} {ps : List (Int × Nat)} (no : ∀ (k : Nat) b' c', ps[k]? = some (b', c') → hits x i b' = false) : signOf x i ps = if i = 0 then 63 else 45 := by
  have : ps.find? (fun p => hits x i p.1) = none := by
    rw [List.find?_eq_none]
    intro p hp
    obtain ⟨k, hk, rfl⟩ := List.mem_iff_getElem.mp hp
    have := no k (ps[k]).1 (ps[k]).2 (by rw [List.getElem?_eq_getElem])
    simp [this]
  unfold signOf
  rw [this]

/-- a list of one-sign texts -/
def SignsAre (vs : List Value) (cs : List Nat) : Prop := StrsAre vs (cs.map fun c => (⟨#[c]⟩ : Str))
theorem strsAre_snoc {y : Str} {t : Tok} : ∀ {vs : List Value} {ys : List Str}, StrsAre vs ys → StrsAre (vs ++ [.str y t]) (ys ++ [y])
  | [], [], .nil => .cons y t .nil
  | _ :: _, _ :: _, .cons z u r => .cons z u (strsAre_snoc r)
theorem SignsAre.snoc {c : Nat} {t : Tok} {vs : List Value} {cs : List Nat} (h : SignsAre vs cs) : SignsAre (vs ++ [.str ⟨#[c]⟩ t]) (cs ++ [c]) := by
  unfold SignsAre at h ⊢
  rw [List.map_append]
  exact strsAre_snoc h
theorem strsAre_len : ∀ {vs : List Value} {ys : List Str}, StrsAre vs ys → vs.length = ys.length
  | [], [], .nil => rfl
  | _ :: _, _ :: _, .cons _ _ r => by simp [strsAre_len r]

/-- the names of filemode's frame -/
abbrev fmNames (x : Int) (tk : Tok) (P : Addr) (o1 o2 o3 o4 : Option Value) : Str → Option Value := fun y =>
  if y = Str.ofString "char" then o1 else if y = Str.ofString "bit" then o2 else if y = Str.ofString "table" then o3 else if y = Str.ofString "index" then o4 else if y = Str.ofString "perm" then some (.ref P) else if y = Str.ofString "mode" then some (.int x tk) else none
def signsUpTo (x : Int) (i : Nat) : List Nat := ((modeTabs.zipIdx).take i).map fun p => signOf x p.2 p.1
theorem signsUpTo_succ {x : Int} {i : Nat} {ps : List (Int × Nat)} (h : modeTabs[i]? = some ps) : signsUpTo x (i + 1) = signsUpTo x i ++ [signOf x i ps] := by
  unfold signsUpTo
  obtain ⟨hlt, he⟩ := List.getElem?_eq_some_iff.mp h
  have hlt' : i < modeTabs.zipIdx.length := by rw [List.length_zipIdx]; exact hlt
  rw [List.take_succ_eq_append_getElem hlt', List.map_append, List.map_cons, List.map_nil, List.getElem_zipIdx, he]
  simp

/-- filemode's outer loop between the turns -/
structure FmI (B : Heap) (L : Addr) (s : Shared) (x : Int) (tk : Tok) (P e it tt : Addr) (n : Nat) (s' : Shared) : Prop where
  ex : ∃ (i : Nat) (h' : Heap) (tk' : Nat) (o1 o2 o3 o4 : Option Value) (old : Value) (vs : List Value) (c : Nat), n = 11 - i ∧ i ≤ 10 ∧ s' = { s with heap := h', toks := tk' } ∧ Fr B L h' (fmNames x tk P o1 o2 o3 o4) ∧
    News B L h' [(e, enObj .none it i old), (it, tiObj tt i), (P, lstObj vs.toArray c)] ∧ SignsAre vs (signsUpTo x i)
/-- its inner loop -/
structure FmJ (B : Heap) (L : Addr) (s : Shared) (x : Int) (tk : Tok) (P e it tt T it2 t2 : Addr) (i : Nat) (tki : Tok) (old : Value) (ps : List (Int × Nat)) (vs : List Value) (c : Nat) (n : Nat) (s' : Shared) : Prop where
  ex : ∃ (j : Nat) (h' : Heap) (tk' : Nat) (o1 o2 : Option Value), n = ps.length + 1 - j ∧ j ≤ ps.length ∧ s' = { s with heap := h', toks := tk' } ∧ Fr B L h' (fmNames x tk P o1 o2 (some (.ref t2)) (some (.int i tki))) ∧
    News B L h' [(it2, tiObj t2 j), (T, tupObj #[.int i tki, .ref t2] 0), (e, enObj .none it (i + 1) old), (it, tiObj tt (i + 1)), (P, lstObj vs.toArray c)] ∧ ∀ (k : Nat) b c', k < j → ps[k]? = some (b, c') → hits x i b = false
end Mine
end

section
open PySem PySem.W PyProof.Rows PySem.Spec PySem.Calls PySem.SeqAt
set_option Elab.async false
set_option maxRecDepth 100000
set_option maxHeartbeats 4000000
namespace Mine
open PySem.Builtin PySem.Builtin._codecs

def asciiBytes (s : Str) : Array UInt8 := (s.cps.toList.map fun c => c.toUInt8).toArray
theorem foldl_bytes : ∀ (l : List Nat) (acc : Array UInt8), l.foldl (fun acc y => acc ++ (asciiCodec.bytesOf y).toArray) acc = acc ++ (l.map fun c => c.toUInt8).toArray
  | [], acc => by simp
  | c :: r, acc => by
    rw [List.foldl_cons, foldl_bytes r]
    show acc ++ #[c.toUInt8] ++ _ = _
    rw [List.map_cons, Array.append_assoc]
    congr 1
    apply Array.ext'
    simp
theorem bad_none {a : Array Nat} (h : a.all (· < 128) = true) : a.findIdx? asciiCodec.bad = none := by
  rw [Array.findIdx?_eq_none_iff]
  intro x hx
  have := Array.all_eq_true_iff_forall_mem.mp h x hx
  show decide (x ≥ 128) = false
  simp at this ⊢
  omega
section
variable {M : Model} {A : Around} {E : Value → Shared → Prop} {sh : Shared}
theorem enc_ok {id : String} {self : Value} {s : Str} {Q : Array UInt8 → Shared → Prop} (h : s.cps.all (· < 128) = true) (hs : s.length ≤ sizeLine) (hQ : Q (asciiBytes s) sh) :
    wpAny M A (encodeNarrow id asciiCodec none self s) Q E sh := by
  have hsz : (asciiBytes s).size = s.length := by simp [asciiBytes, PySem.Str.length]
  unfold encodeNarrow
  simp only [Std.Legacy.Range.forIn_eq_forIn_range']
  refine wpAny_bind (wpAny_forIn_list _ (fun rest st s' => s' = sh ∧ ((st = (0, #[], {}) ∧ rest.length = s.length) ∨ st = (s.length, asciiBytes s, {}))) _ ?_ ?_ _ _ ?_)
  · rintro x rest ⟨i, out, st⟩ s' ⟨rfl, hI⟩
    rcases hI with ⟨hst, hl⟩ | hst
    · obtain ⟨rfl, rfl, rfl⟩ : i = 0 ∧ out = #[] ∧ st = {} := by simpa using hst
      have hn : 0 < s.cps.size := by rw [← show s.length = s.cps.size from rfl, ← hl]; simp
      have hx : s.cps[0]? = some s.cps[0] := Array.getElem?_eq_getElem hn
      have hgood : (!asciiCodec.bad s.cps[0]) = true := by
        have := Array.all_eq_true_iff_forall_mem.mp h s.cps[0] (Array.getElem_mem hn)
        show (!decide (s.cps[0] ≥ 128)) = true
        simp at this ⊢
        omega
      have he : s.cps.extract 0 = s.cps := by simp
      dsimp only
      rw [if_neg (show ¬ ((#[] : Array UInt8).size > sizeLine) by decide), hx]
      dsimp only
      rw [if_pos hgood, he, bad_none h]
      refine wpAny_pure ?_
      refine ⟨rfl, .inr ?_⟩
      simp only [Option.getD_none, Array.extract_size, Nat.zero_add]
      rw [← Array.foldl_toList, foldl_bytes]
      simp [asciiBytes, PySem.Str.length]
    · obtain ⟨rfl, rfl, rfl⟩ : i = s.length ∧ out = asciiBytes s ∧ st = {} := by simpa using hst
      have hx : s.cps[s.length]? = none := Array.getElem?_eq_none (Nat.le_refl _)
      dsimp only
      rw [hx, if_neg (show ¬ ((asciiBytes s).size > sizeLine) by rw [hsz]; omega)]
      exact wpAny_pure (wpAny_pure hQ)
  · rintro ⟨i, out, st⟩ s' ⟨rfl, hI⟩
    rcases hI with ⟨hst, hl⟩ | hst
    · obtain ⟨rfl, rfl, rfl⟩ : i = 0 ∧ out = #[] ∧ st = {} := by simpa using hst
      have e0 : asciiBytes s = #[] := Array.eq_empty_of_size_eq_zero (by rw [hsz, ← hl]; rfl)
      rw [e0] at hQ
      exact wpAny_pure hQ
    · obtain ⟨rfl, rfl, rfl⟩ : i = s.length ∧ out = asciiBytes s ∧ st = {} := by simpa using hst
      exact wpAny_pure hQ
  · exact ⟨rfl, .inl ⟨rfl, by simp⟩⟩
end

section
variable {prog : Program} {w : World} {A : Around} {E : Value → Shared → Prop} {sh : Shared}
theorem gm_encode {x : Str} {t : Tok} {pl : Sem Bool} {Q : Value × List Value → Shared → Prop} (h : Q (.builtin "str.encode", [.str x t]) sh) : wpAny (model prog w) A (getMethod (.str x t) "encode" pl) Q E sh := by
  with_reducible exact PySem.GM.of (.str x t) (typeIs_str _ _ _) F.slot_str_encode F.type_str_encode PySem.GM.noRef h
theorem enc_road (id : String) (self : Value) (x : Str) : encodeRoad id self x (Str.ofString "ascii") none = (do mkBytes (← encodeNarrow id asciiCodec none self x)) := by
  first | rfl | (unfold encodeRoad; rfl) | (unfold encodeRoad; simp only []; rfl)
theorem encode_tree2 (x : Str) (t u : Tok) : Builtin.«str.encode» ⟨[.str x t, .str (Str.ofString "ascii") u], []⟩ = (do ret (← encodeRoad "str.encode" (.str x t) x (Str.ofString "ascii") none)) := by first | rfl | kernel_rfl
theorem call_encode {s : Str} {t u : Tok} {Q : Value → Shared → Prop} (h : s.cps.all (· < 128) = true) (hs : s.length ≤ sizeLine) (hQ : ∀ tk, Q (.bytes (asciiBytes s) tk) { sh with toks := sh.toks + 1 }) :
    wpAny (model prog w) A (call (.builtin "str.encode") [.str s t, .str (Str.ofString "ascii") u]) Q E sh := by
  refine wpAny_call_entry F.slot_str_encode (typeIs_str _ _ _) F.entry_str_encode ?_ (F.args_str_encode_2 _ _)
  rw [encode_tree2, enc_road]
  refine wpAny_bind (wpAny_bind (enc_ok h hs ?_))
  have hsz : (asciiBytes s).size ≤ sizeLine := by simpa [asciiBytes, PySem.Str.length] using hs
  unfold mkBytes
  rw [if_neg (by omega)]
  exact wpAny_bind (wpAny_fresh (wpAny_pure (wpAny_pure ⟨_, rfl, hQ _⟩)))
end
end Mine
end

section
open PySem PySem.W PyProof.Rows PySem.Spec PySem.Calls PySem.SeqAt PyProof.Rows.LCg PyProof.Rows.LCt
set_option Elab.async false
set_option maxRecDepth 100000
set_option maxHeartbeats 4000000
namespace Mine

/-- a value whose walk leaves what stands and what is new alone -/
def Feeds (prog : Program) (w : World) (A : Around) (h₀ : Heap) (L : Addr) (m : Str → Option Value) (news : List (Addr × Obj)) (xv : Value) (s₁ : Shared) (n : Nat) (P : Nat → Value → Prop) : Prop :=
  ∀ (Q : Value → Shared → Prop) (E : Value → Shared → Prop), (∀ (I : Addr) (h₂ : Heap) (fp : List Addr) (St : Nat → Heap → Prop) (S : List (Addr × Obj) → Prop), Walks prog w A I fp [I] n P St → (∀ i h, St i h → ∃ o, h.get? I = some o) →
    (∀ i h h' o nw, St i h → h.get? I = some o → h'.get? I = some o → (∀ b o, h₀.get? b = some o → h'.get? b = some o) → News h₀ L h' nw → S nw → St i h') → St 0 h₂ → (∀ b ∈ fp, b < h₂.objs.size) → Fr h₀ L h₂ m → News h₀ L h₂ news →
    L ≠ I → h₀.get? I = none → (∀ p ∈ news, p.1 ≠ I) → S news → Q (.ref I) { s₁ with heap := h₂ }) → wpAny (model prog w) A (pyIter xv) Q E s₁

section
variable {prog : Program} {w : World} {A : Around} {E : Value → Shared → Prop} {s : Shared} {h₀ : Heap} {L : Addr} {m : Str → Option Value} {news : List (Addr × Obj)}

theorem feeds_list {ax : Addr} {its : Array Value} (hh : A.handled = none) (F : Fr h₀ L s.heap m) (N : News h₀ L s.heap news) (S : SrcAt h₀ ax its news) : Feeds prog w A h₀ L m news (.ref ax) s its.size (fun i v => its[i]? = some v) := by
  intro Q E k
  have hl := S.list F.keep N
  have hlt : ax < s.heap.objs.size := by obtain ⟨_, e, _⟩ := hl; exact Heap.lt_size e
  refine wpAny_pyIter_list hl ?_
  have up : ∀ b o, s.heap.get? b = some o → (s.heap.push { cls := .type "list_iterator", data := .fields #[.ref ax, .int 0 0] }).get? b = some o := fun b o e => Heap.get?_push_of_some _ e
  refine k _ _ _ _ (SrcAt h₀ ax its) (Walks.list hh s.heap.objs.size ax (Nat.ne_of_lt hlt) its) (fun i h st => by obtain ⟨o, e, _⟩ := st.1; exact ⟨o, e⟩) list_st ⟨⟨_, Heap.get?_push_size _ rfl, rfl, rfl⟩, hl.push _⟩ (fun b hb => ?_)
    (F.keeps up) (N.grown up) (Nat.ne_of_lt F.ns.lt) (next_is_new F) (fun p hp => Nat.ne_of_lt (Heap.lt_size (N p hp).1)) S
  rw [Heap.size_push]
  rcases List.mem_cons.mp hb with rfl | hb
  · exact Nat.lt_succ_self _
  · rw [List.mem_singleton.mp hb]; exact Nat.lt_succ_of_lt hlt

def SrcTu (h₀ : Heap) (ax : Addr) (its : Array Value) (news : List (Addr × Obj)) : Prop := h₀.IsTuple ax its ∨ ∃ o, (ax, o) ∈ news ∧ o.cls = .type "tuple" ∧ ∃ n, o.data = .seq its n
theorem SrcTu.tup {h : Heap} {ax : Addr} {its : Array Value} (x : SrcTu h₀ ax its news) (k : ∀ b o, h₀.get? b = some o → h.get? b = some o) (N : News h₀ L h news) : h.IsTuple ax its := by
  rcases x with ⟨o, e, r⟩ | ⟨o, hm, r⟩
  · exact ⟨o, k _ _ e, r⟩
  · exact ⟨o, (N _ hm).1, r⟩
theorem tup_st {ax I : Addr} {its : Array Value} : ∀ i (h h' : Heap) (o : Obj) (nw : List (Addr × Obj)), (h.IsTupleIter I ax i ∧ h.IsTuple ax its) → h.get? I = some o → h'.get? I = some o → (∀ b o, h₀.get? b = some o → h'.get? b = some o) → News h₀ L h' nw → SrcTu h₀ ax its nw → (h'.IsTupleIter I ax i ∧ h'.IsTuple ax its) :=
  fun i h h' o nw st e e' k N S => ⟨by obtain ⟨o', q, r⟩ := st.1; rw [e] at q; cases q; exact ⟨o, e', r⟩, S.tup k N⟩
theorem feeds_tuple {ax : Addr} {its : Array Value} (hh : A.handled = none) (F : Fr h₀ L s.heap m) (N : News h₀ L s.heap news) (S : SrcTu h₀ ax its news) : Feeds prog w A h₀ L m news (.ref ax) s its.size (fun i v => its[i]? = some v) := by
  intro Q E k
  have hl := S.tup F.keep N
  have hlt : ax < s.heap.objs.size := by obtain ⟨_, e, _⟩ := hl; exact Heap.lt_size e
  refine wpAny_pyIter_tuple hl ?_
  have up : ∀ b o, s.heap.get? b = some o → (s.heap.push { cls := .type "tuple_iterator", data := .fields #[.ref ax, .int 0 0] }).get? b = some o := fun b o e => Heap.get?_push_of_some _ e
  refine k _ _ _ _ (SrcTu h₀ ax its) (Walks.tuple hh s.heap.objs.size ax (Nat.ne_of_lt hlt) its) (fun i h st => by obtain ⟨o, e, _⟩ := st.1; exact ⟨o, e⟩) tup_st ⟨⟨_, Heap.get?_push_size _ rfl, rfl, rfl⟩, hl.push _⟩ (fun b hb => ?_)
    (F.keeps up) (N.grown up) (Nat.ne_of_lt F.ns.lt) (next_is_new F) (fun p hp => Nat.ne_of_lt (Heap.lt_size (N p hp).1)) S
  rw [Heap.size_push]
  rcases List.mem_cons.mp hb with rfl | hb
  · exact Nat.lt_succ_self _
  · rw [List.mem_singleton.mp hb]; exact Nat.lt_succ_of_lt hlt

theorem feeds_tup {ax : Addr} {its : Array Value} {n k : Nat} (hh : A.handled = none) (F : Fr h₀ L s.heap m) (N : News h₀ L s.heap news) (hm : (ax, ({ cls := .type "tuple", data := .seq its n } : Obj)) ∈ news) (hk : its.size = k) : Feeds prog w A h₀ L m news (.ref ax) s k (fun i v => its[i]? = some v) :=
  hk ▸ feeds_tuple hh F N (.inr ⟨_, hm, rfl, _, rfl⟩)
theorem feeds_lst {ax : Addr} {its : Array Value} {n k : Nat} (hh : A.handled = none) (F : Fr h₀ L s.heap m) (N : News h₀ L s.heap news) (hm : (ax, ({ cls := .type "list", data := .seq its n } : Obj)) ∈ news) (hk : its.size = k) : Feeds prog w A h₀ L m news (.ref ax) s k (fun i v => its[i]? = some v) :=
  hk ▸ feeds_list hh F N (.inr ⟨_, hm, rfl, _, rfl⟩)
theorem feeds_range {r : Addr} {a b : Int} {t u v : Tok} {n : Nat} (hh : A.handled = none) (F : Fr h₀ L s.heap m) (N : News h₀ L s.heap news) (hr : IsRange s.heap r a b 1 t u v) (hsm : Builtin.Range.small a b 1 = true) (hn : Builtin.Range.rangeSize a b 1 = ((n : Nat) : Int)) :
    Feeds prog w A h₀ L m news (.ref r) s n (fun i v => ∃ t, v = .int (a + (i : Int)) t) := by
  intro Q E k
  refine wpAny_pyIter_range hr hsm ?_
  refine k _ _ _ _ (fun _ => True) (range_walks hh a n) (fun i h st => ⟨_, st⟩) range_st (by show IsRangeIter _ _ _ _ _; rw [hn]; simpa using Heap.get?_push_size _ rfl) (fun b hb => ?_)
    (F.keeps fun _ _ e => Heap.get?_push_of_some _ e) (N.grown fun _ _ e => Heap.get?_push_of_some _ e) (Nat.ne_of_lt F.ns.lt) (next_is_new F) (fun p hp => Nat.ne_of_lt (Heap.lt_size (N p hp).1)) trivial
  rw [List.mem_singleton.mp hb, Heap.size_push]; exact Nat.lt_succ_self _

theorem feeds_str {x : Str} {t : Tok} (hh : A.handled = none) (F : Fr h₀ L s.heap m) (N : News h₀ L s.heap news) : Feeds prog w A h₀ L m news (.str x t) s x.cps.size (SignAt x) := by
  intro Q E k
  cases ha : x.cps.all (· < 128)
  · refine wpAny_pyIter_wide ha (k _ _ [s.heap.objs.size] _ (fun _ => True) (Walks.strWide hh _ x t) (fun i h st => let ⟨o, ho, _⟩ := st; ⟨o, ho⟩) (fun i h h' o nw st e e' _ _ _ => by obtain ⟨o', q, r⟩ := st; rw [e] at q; cases q; exact ⟨o, e', r⟩) ⟨_, Heap.get?_push_size _ rfl, rfl, rfl⟩ (fun b hb => ?_)
      (F.keeps fun _ _ e => Heap.get?_push_of_some _ e) (N.grown fun _ _ e => Heap.get?_push_of_some _ e) (Nat.ne_of_lt F.ns.lt) (next_is_new F) (fun p hp => Nat.ne_of_lt (Heap.lt_size (N p hp).1)) trivial)
    rw [List.mem_singleton.mp hb, Heap.size_push]; exact Nat.lt_succ_self _
  · refine wpAny_pyIter_ascii ha (k _ _ [s.heap.objs.size] _ (fun _ => True) (Walks.strAscii hh _ x t) (fun i h st => let ⟨o, ho, _⟩ := st; ⟨o, ho⟩) (fun i h h' o nw st e e' _ _ _ => by obtain ⟨o', q, r⟩ := st; rw [e] at q; cases q; exact ⟨o, e', r⟩) ⟨_, Heap.get?_push_size _ rfl, rfl, rfl⟩ (fun b hb => ?_)
      (F.keeps fun _ _ e => Heap.get?_push_of_some _ e) (N.grown fun _ _ e => Heap.get?_push_of_some _ e) (Nat.ne_of_lt F.ns.lt) (next_is_new F) (fun p hp => Nat.ne_of_lt (Heap.lt_size (N p hp).1)) trivial)
    rw [List.mem_singleton.mp hb, Heap.size_push]; exact Nat.lt_succ_self _
end

theorem intsAre_len : ∀ {vs : List Value} {ns : List Int}, IntsAre vs ns → vs.length = ns.length
  | [], [], .nil => rfl
  | _ :: _, _ :: _, .cons _ _ r => by simp [intsAre_len r]
theorem intsAre_get : ∀ {vs : List Value} {ns : List Int} {i : Nat} {v : Value}, IntsAre vs ns → vs.toArray[i]? = some v → ∃ a, ns[i]? = some a ∧ ∃ t, v = .int a t
  | _ :: _, _ :: _, 0, v, .cons x t r, h => ⟨x, rfl, t, by simpa using h.symm⟩
  | _ :: _, _ :: _, i + 1, v, .cons _ _ r, h => by
    obtain ⟨a, h1, h2⟩ := intsAre_get (i := i) r (by simpa using h)
    exact ⟨a, by simpa using h1, h2⟩
theorem intsAre_snoc {y : Int} {t : Tok} : ∀ {vs : List Value} {ys : List Int}, IntsAre vs ys → IntsAre (vs ++ [.int y t]) (ys ++ [y])
  | [], [], .nil => .cons y t .nil
  | _ :: _, _ :: _, .cons z u r => .cons z u (intsAre_snoc r)

section
variable {prog : Program} {w : World} {A : Around} {E : Value → Shared → Prop} {s : Shared} {h₀ : Heap} {L : Addr} {m : Str → Option Value} {env : Env}

abbrev TurnHeap (h₀ : Heap) (L : Addr) (m : Str → Option Value) (news : List (Addr × Obj)) (x : Str) (v : Value) (I : Addr) (oI : Obj) (C : Addr) (oC : Obj) (D : Addr) (ys : List Value) (m₂ : Str → Option Value) (h : Heap) : Prop :=
  NsObj oC m₂ ∧ m₂ x = some v ∧ Fr h₀ L h m ∧ News h₀ L h ((I, oI) :: (C, oC) :: (D, lst ys) :: news) ∧ Off3 I C D news ∧ ((@Ne Nat I C) ∧ (@Ne Nat I D) ∧ (@Ne Nat C D))

/-- what a test or an element of a comprehension does at a value -/
def TestTurn (prog : Program) (w : World) (A : Around) (h₀ : Heap) (L : Addr) (m : Str → Option Value) (env : Env) (ct : Expr) (x : Str) (scope : Scope) (cl : List (Str × Addr)) (news : List (Addr × Obj)) (s : Shared) (v : Value) (b : Bool) : Prop :=
  ∀ (I : Addr) (oI : Obj) (C : Addr) (oC : Obj) (D : Addr) (ys : List Value) (m₂ : Str → Option Value) (h : Heap) (tk : Nat) (Q : Bool → Shared → Prop) (E : Value → Shared → Prop), TurnHeap h₀ L m news x v I oI C oC D ys m₂ h →
    (∀ h' tk', Fr h₀ L h' m → News h₀ L h' ((I, oI) :: (C, oC) :: (D, lst ys) :: news) → Q b { s with heap := h', toks := tk' }) →
    wpAny (model prog w) A (isTrue ct (compEnvC scope cl C env) (eval ct (compEnvC scope cl C env))) Q E { s with heap := h, toks := tk }
def EltTurn (prog : Program) (w : World) (A : Around) (h₀ : Heap) (L : Addr) (m : Str → Option Value) (env : Env) (elt : Expr) (x : Str) (scope : Scope) (cl : List (Str × Addr)) (news : List (Addr × Obj)) (s : Shared) (v : Value) (y : Int) : Prop :=
  ∀ (I : Addr) (oI : Obj) (C : Addr) (oC : Obj) (D : Addr) (ys : List Value) (m₂ : Str → Option Value) (h : Heap) (tk : Nat) (Q : Value → Shared → Prop) (E : Value → Shared → Prop), TurnHeap h₀ L m news x v I oI C oC D ys m₂ h →
    (∀ t h' tk', Fr h₀ L h' m → News h₀ L h' ((I, oI) :: (C, oC) :: (D, lst ys) :: news) → Q (.int y t) { s with heap := h', toks := tk' }) →
    wpAny (model prog w) A (eval elt (compEnvC scope cl C env)) Q E { s with heap := h, toks := tk }

theorem rest_T {α : Type} {xs : List α} {V : α → Value → Prop} {p : α → Bool} {f : α → Int} {ct elt : Expr} {x : Str} {scope : Scope} {cl : List (Str × Addr)} {S : List (Addr × Obj) → Prop} {P : Nat → Value → Prop} {Fin : List Value → List (Addr × Obj) → Prop} {news : List (Addr × Obj)}
    (hP : ∀ i v, i < xs.length → P i v → ∃ a, xs[i]? = some a ∧ V a v) (hS : S news)
    (ht : ∀ a v, a ∈ xs → V a v → TestTurn prog w A h₀ L m env ct x scope cl news s v (p a)) (he : ∀ a v, a ∈ xs → V a v → p a = true → EltTurn prog w A h₀ L m env elt x scope cl news s v (f a))
    (hF : ∀ ys, IntsAre ys ((xs.filter p).map f) → Fin ys news) : ∀ (k i : Nat) (ys : List Value), i + k = xs.length → IntsAre ys (((xs.take i).filter p).map f) → CompRestT prog w A h₀ L m env ct elt x scope cl s S P Fin k i ys news
  | 0, i, ys, hi, hy => CompRestT.zero (hF ys (by rw [List.take_of_length_le (by omega)] at hy; exact hy))
  | k + 1, i, ys, hi, hy => by
    refine CompRestT.succ fun v I oI C oC D m₂ h tk E' hv hC hx F N off ne => ?_
    obtain ⟨a, ha, hVa⟩ := hP i v (by omega) hv
    have hm : a ∈ xs := List.mem_of_getElem? ha
    have hlt : i < xs.length := (List.getElem?_eq_some_iff.mp ha).1
    have hget : xs[i] = a := (List.getElem?_eq_some_iff.mp ha).2
    refine ht a v hm hVa I oI C oC D ys m₂ h tk _ E' ⟨hC, hx, F, N, off, ne⟩ fun h' tk' F' N' => ?_
    cases hp : p a with
    | true =>
      simp only [if_true]
      refine he a v hm hVa hp I oI C oC D ys m₂ h' tk' _ E' ⟨hC, hx, F', N', off, ne⟩ fun t h'' tk'' F'' N'' => ?_
      refine ⟨h'', tk'', news, rfl, F'', N'', off, hS, rest_T hP hS ht he hF k (i + 1) _ (by omega) ?_⟩
      rw [List.take_succ_eq_append_getElem hlt, List.filter_append, List.map_append, hget, List.filter_cons, hp]
      exact intsAre_snoc hy
    | false =>
      simp only [Bool.false_eq_true, if_false]
      refine ⟨h', tk', news, rfl, F', N', off, hS, rest_T hP hS ht he hF k (i + 1) _ (by omega) ?_⟩
      rw [List.take_succ_eq_append_getElem hlt, List.filter_append, hget, List.filter_cons, hp]
      simpa using hy

theorem rest_U {α : Type} {xs : List α} {V : α → Value → Prop} {f : α → Int} {elt : Expr} {x : Str} {scope : Scope} {cl : List (Str × Addr)} {S : List (Addr × Obj) → Prop} {P : Nat → Value → Prop} {Fin : List Value → List (Addr × Obj) → Prop} {news : List (Addr × Obj)}
    (hP : ∀ i v, i < xs.length → P i v → ∃ a, xs[i]? = some a ∧ V a v) (hS : S news)
    (he : ∀ a v, a ∈ xs → V a v → EltTurn prog w A h₀ L m env elt x scope cl news s v (f a))
    (hF : ∀ ys, IntsAre ys (xs.map f) → Fin ys news) : ∀ (k i : Nat) (ys : List Value), i + k = xs.length → IntsAre ys ((xs.take i).map f) → CompRest prog w A h₀ L m env elt x scope cl s S P Fin k i ys news
  | 0, i, ys, hi, hy => CompRest.zero (hF ys (by rw [List.take_of_length_le (by omega)] at hy; exact hy))
  | k + 1, i, ys, hi, hy => by
    refine CompRest.succ fun v I oI C oC D m₂ h tk E' hv hC hx F N off ne => ?_
    obtain ⟨a, ha, hVa⟩ := hP i v (by omega) hv
    have hm : a ∈ xs := List.mem_of_getElem? ha
    have hlt : i < xs.length := (List.getElem?_eq_some_iff.mp ha).1
    have hget : xs[i] = a := (List.getElem?_eq_some_iff.mp ha).2
    refine he a v hm hVa I oI C oC D ys m₂ h tk _ E' ⟨hC, hx, F, N, off, ne⟩ fun t h'' tk'' F'' N'' => ?_
    refine ⟨h'', tk'', news, rfl, F'', N'', off, hS, rest_U hP hS he hF k (i + 1) _ (by omega) ?_⟩
    rw [List.take_succ_eq_append_getElem hlt, List.map_append, hget]
    exact intsAre_snoc hy

/-- a list comprehension with a test that gives ints -/
theorem comp_T {α : Type} (xs : List α) (V : α → Value → Prop) (p : α → Bool) (f : α → Int) {ct elt iter : Expr} {x : Str} {px : Pos} {scope : Scope} {cl : List (Str × Addr)} {pos : Pos} {Q : Value → Shared → Prop}
    (hclos : closureFor scope env = pure cl) (hcell : ∀ y ∈ scope.names, y.2 ≠ .cell) (hkind : scope.kind = .function)
    (hnames : ∀ y ∈ scope.names, y.2 = .local → scope.names.lookup y.1 = some .local) (hx : scope.names.lookup x = some .local) (hsz : xs.length ≤ sizeLine)
    (h : wpAny (model prog w) A (eval iter env) (fun xv s₁ => ∃ h₀ L m news P, Feeds prog w A h₀ L m news xv s₁ xs.length P ∧ (∀ i v, i < xs.length → P i v → ∃ a, xs[i]? = some a ∧ V a v) ∧
      (∀ g a v, a ∈ xs → V a v → TestTurn prog w A h₀ L m env ct x scope cl news { s₁ with heap := g } v (p a)) ∧ (∀ g a v, a ∈ xs → V a v → p a = true → EltTurn prog w A h₀ L m env elt x scope cl news { s₁ with heap := g } v (f a)) ∧
      ∀ ys D h tk, IntsAre ys ((xs.filter p).map f) → Fr h₀ L h m → News h₀ L h ((D, lst ys) :: news) → Off1 D news → Q (.ref D) { s₁ with heap := h, toks := tk }) E s)
    (hs : ∀ x, foldedSetIterable iter env x = pure x := by intro _; rfl) :
    wpAny (model prog w) A (eval (.ListComp elt [⟨.Name x px, iter, [ct], 0⟩] scope pos) env) Q E s := by
  rw [eval_ListComp]
  refine wpAny_comprehension_free (use := none) rfl hs hclos hkind hnames (wpAny_mono h (fun xv s₁ h₁ => ?_) fun _ _ e => e)
  obtain ⟨h₀, L, m, news, P, hfeed, hP, ht, he, hQ⟩ := h₁
  refine hfeed _ _ fun I h₂ fp St S W hIo hSt hst hfp F N hIL hI₀ off hS => ?_
  refine block_T W hsz hIo hSt hcell hkind hx hst hfp F N hIL hI₀ off hS (rest_T (Fin := FinE h₀ L m { s₁ with heap := h₂ } Q) hP hS (ht _) (he _) (fun ys hy D h tk F' N' o1 => hQ ys D h tk hy F' N' o1) xs.length 0 [] (by omega) .nil) ?_
  intro D C h tk m' ys news' F' N' o1 hn hC₀ hD₀ hCL hDL hCD offC fin
  refine ⟨m', hn, fun h'' hs'' => fin D h'' tk (F'.change hs'' hCL hC₀) (fun p hp => ?_) o1⟩
  refine ⟨hs''.extBut _ _ ?_ (N' p hp).1, (N' p hp).2⟩
  rcases List.mem_cons.mp hp with rfl | hp
  · exact Ne.symm hCD
  · exact offC p hp

/-- and one without a test -/
theorem comp_U {α : Type} (xs : List α) (V : α → Value → Prop) (f : α → Int) {elt iter : Expr} {x : Str} {px : Pos} {scope : Scope} {cl : List (Str × Addr)} {pos : Pos} {Q : Value → Shared → Prop}
    (hclos : closureFor scope env = pure cl) (hcell : ∀ y ∈ scope.names, y.2 ≠ .cell) (hkind : scope.kind = .function)
    (hnames : ∀ y ∈ scope.names, y.2 = .local → scope.names.lookup y.1 = some .local) (hx : scope.names.lookup x = some .local) (hsz : xs.length ≤ sizeLine)
    (h : wpAny (model prog w) A (eval iter env) (fun xv s₁ => ∃ h₀ L m news P, Feeds prog w A h₀ L m news xv s₁ xs.length P ∧ (∀ i v, i < xs.length → P i v → ∃ a, xs[i]? = some a ∧ V a v) ∧
      (∀ g a v, a ∈ xs → V a v → EltTurn prog w A h₀ L m env elt x scope cl news { s₁ with heap := g } v (f a)) ∧
      ∀ ys D h tk, IntsAre ys (xs.map f) → Fr h₀ L h m → News h₀ L h ((D, lst ys) :: news) → Off1 D news → Q (.ref D) { s₁ with heap := h, toks := tk }) E s)
    (hs : ∀ x, foldedSetIterable iter env x = pure x := by intro _; rfl) :
    wpAny (model prog w) A (eval (.ListComp elt [⟨.Name x px, iter, [], 0⟩] scope pos) env) Q E s := by
  rw [eval_ListComp]
  refine wpAny_comprehension_free (use := none) rfl hs hclos hkind hnames (wpAny_mono h (fun xv s₁ h₁ => ?_) fun _ _ e => e)
  obtain ⟨h₀, L, m, news, P, hfeed, hP, he, hQ⟩ := h₁
  refine hfeed _ _ fun I h₂ fp St S W hIo hSt hst hfp F N hIL hI₀ off hS => ?_
  refine block_U W hsz hIo hSt hcell hkind hx hst hfp F N hIL hI₀ off hS (rest_U (Fin := FinE h₀ L m { s₁ with heap := h₂ } Q) hP hS (he _) (fun ys hy D h tk F' N' o1 => hQ ys D h tk hy F' N' o1) xs.length 0 [] (by omega) .nil) ?_
  intro D C h tk m' ys news' F' N' o1 hn hC₀ hD₀ hCL hDL hCD offC fin
  refine ⟨m', hn, fun h'' hs'' => fin D h'' tk (F'.change hs'' hCL hC₀) (fun p hp => ?_) o1⟩
  refine ⟨hs''.extBut _ _ ?_ (N' p hp).1, (N' p hp).2⟩
  rcases List.mem_cons.mp hp with rfl | hp
  · exact Ne.symm hCD
  · exact offC p hp

/-- a name bound to such a comprehension -/
theorem assign_T {α : Type} (xs : List α) (V : α → Value → Prop) (p : α → Bool) (f : α → Int) {ct elt iter : Expr} {x y : Str} {px py : Pos} {scope : Scope} {cl : List (Str × Addr)} {pos spos : Pos} {Q : Flow → Shared → Prop}
    (hsw : swapsWith (.ListComp elt [⟨.Name x px, iter, [ct], 0⟩] scope pos) (some (.Name y py)) spos.line env = pure true)
    (hclos : closureFor scope env = pure cl) (hcell : ∀ y ∈ scope.names, y.2 ≠ .cell) (hkind : scope.kind = .function)
    (hnames : ∀ y ∈ scope.names, y.2 = .local → scope.names.lookup y.1 = some .local) (hx : scope.names.lookup x = some .local)
    (hy : env.kindOf y = some .local) (hp : (env.scope.kind == .class || (env.scope.kind == .module && env.locals != env.globals)) = false) (hsz : xs.length ≤ sizeLine)
    (h : wpAny (model prog w) A (eval iter env) (fun xv s₁ => ∃ h₀ m news P, Feeds prog w A h₀ env.locals m news xv s₁ xs.length P ∧ (∀ i v, i < xs.length → P i v → ∃ a, xs[i]? = some a ∧ V a v) ∧
      (∀ g a v, a ∈ xs → V a v → TestTurn prog w A h₀ env.locals m env ct x scope cl news { s₁ with heap := g } v (p a)) ∧ (∀ g a v, a ∈ xs → V a v → p a = true → EltTurn prog w A h₀ env.locals m env elt x scope cl news { s₁ with heap := g } v (f a)) ∧
      ∀ ys D h tk, IntsAre ys ((xs.filter p).map f) → Fr h₀ env.locals h (fun z => if z = y then some (.ref D) else m z) → News h₀ env.locals h ((D, lst ys) :: news) → Off1 D news → Q .next { s₁ with heap := h, toks := tk }) E s)
    (hs : ∀ x, foldedSetIterable iter env x = pure x := by intro _; rfl) :
    wpAny (model prog w) A (exec (.Assign [.Name y py] (.ListComp elt [⟨.Name x px, iter, [ct], 0⟩] scope pos) spos) env) Q E s := by
  rw [exec_Assign_Name_used _ _ _ _ hsw]
  refine wpAny_bind (wpAny_standAt (wpAny_bind ?_))
  show wpAny _ A (do let _ ← comprehension (.ListComp elt [⟨.Name x px, iter, [ct], 0⟩] scope pos) scope env _ (newList []) false (eval iter env) (some (assign (.Name y py) env))) _ _ s
  refine wpAny_bind (wpAny_mono (wpAny_comprehension_free (use := some (assign (.Name y py) env)) (Q := fun _ s' => Q .next s') rfl hs hclos hkind hnames
    (wpAny_mono h (fun xv s₁ h₁ => ?_) fun _ _ e => e)) (fun _ s' hq => wpAny_pure (wpAny_pure hq)) fun _ _ e => e)
  obtain ⟨h₀, m, news, P, hfeed, hP, ht, he, hQ⟩ := h₁
  refine hfeed _ _ fun I h₂ fp St S W hIo hSt hst hfp F N hIL hI₀ off hS => ?_
  refine block_T W hsz hIo hSt hcell hkind hx hst hfp F N hIL hI₀ off hS (rest_T (Fin := FinA h₀ env.locals m { s₁ with heap := h₂ } y Q) hP hS (ht _) (he _) (fun ys hy D h tk F' N' o1 => hQ ys D h tk hy F' N' o1) xs.length 0 [] (by omega) .nil) ?_
  intro D C h tk m' ys news' F' N' o1 hn hC₀ hD₀ hCL hDL hCD offC fin
  show wpAny _ A (assign (.Name y py) env (.ref D)) _ _ _
  refine wpAny_assign_Name (wpAny_storeName_local hy F'.ns (fun h₂ hn₂ hs₂ => ?_) hp)
  have hL₀ : h₀.get? env.locals = none := Heap.get?_none_of_le F'.above
  have F₂ : Fr h₀ env.locals h₂ (fun z => if z = y then some (.ref D) else m z) := ⟨hn₂, fun b o e => hs₂.extBut b o (fun q => by rw [q, hL₀] at e; cases e) (F'.keep b o e), F'.above⟩
  refine ⟨m', hn.sameBut hs₂ hCL, fun h'' hs'' => fin D h'' _ (F₂.change hs'' hCL hC₀) (fun p hp => ?_) o1⟩
  have z : h₂.get? p.1 = some p.2 := hs₂.extBut _ _ (N' p hp).2.1 (N' p hp).1
  refine ⟨hs''.extBut _ _ ?_ z, (N' p hp).2⟩
  rcases List.mem_cons.mp hp with rfl | hp
  · exact Ne.symm hCD
  · exact offC p hp
end
end Mine
end

section
open PySem PySem.W PyProof.Rows PySem.Spec PySem.Calls PySem.SeqAt PyProof.Rows.LCg PyProof.Rows.LCt
set_option Elab.async false
set_option maxRecDepth 100000
set_option maxHeartbeats 4000000
namespace Mine
/-- the end of a turn: the frame's names as told, what is new still there -/
def TurnEnd (h₀ : Heap) (L : Addr) (J : (Str → Option Value) → Prop) (need : List (Addr × Obj)) (s : Shared) (Q : Flow → Shared → Prop) (f : Flow) (s₂ : Shared) : Prop :=
  (f = .next ∧ ∃ h' tk m', s₂ = { s with heap := h', toks := tk } ∧ Fr h₀ L h' m' ∧ News h₀ L h' need ∧ J m') ∨ ∃ v, f = .ret v ∧ Q (.ret v) s₂
/-- a for over a range, by what holds of the frame's names -/
theorem loop_range {prog : Program} {w : World} {A : Around} {E : Value → Shared → Prop} {s : Shared} {env : Env} {h₀ : Heap} {x : Str} {body : List Stmt} {Q : Flow → Shared → Prop} {m : Str → Option Value} {news : List (Addr × Obj)}
    {r : Addr} {b : Int} {t u v : Tok} {n : Nat} (J : Nat → (Str → Option Value) → Prop) (hh : A.handled = none) (F : Fr h₀ env.locals s.heap m) (N : News h₀ env.locals s.heap news) (hr : IsRange s.heap r 0 b 1 t u v)
    (hsm : Builtin.Range.small 0 b 1 = true) (hn : Builtin.Range.rangeSize 0 b 1 = ((n : Nat) : Int)) (hj : J 0 m)
    (turn : ∀ i t m₁ h tk own, i < n → J i m₁ → Fr h₀ env.locals h (fun y => if y = x then some (.int (i : Int) t) else m₁ y) → News h₀ env.locals h (own ++ news) →
      wpAny (model prog w) A (execs body env) (TurnEnd h₀ env.locals (J (i + 1)) (own ++ news) s Q) E { s with heap := h, toks := tk })
    (done : ∀ m₁ h tk, J n m₁ → Fr h₀ env.locals h m₁ → News h₀ env.locals h news → Q .next { s with heap := h, toks := tk }) :
    wpAny (model prog w) A (pyIter (.ref r)) (fun it s₂ => LoopAtV prog w A h₀ env x body Q E it s₂) E s := by
  refine wpAny_pyIter_range hr hsm ?_
  have hL : env.locals ≠ s.heap.objs.size := Nat.ne_of_lt F.ns.lt
  refine ⟨_, _, _, n, _, _, m, news, fun i m₁ news₁ => news₁ = news ∧ J i m₁, rfl, range_walks hh 0 n, fun hm => hL (List.mem_singleton.mp hm), fun b hb => by rw [List.mem_singleton.mp hb]; exact next_is_new F, fun p hp hm => ?_,
    by show IsRangeIter _ _ _ _ _; rw [hn]; simpa using Heap.get?_push_size _ rfl, F.keeps fun _ _ e => Heap.get?_push_of_some _ e, N.grown fun _ _ e => Heap.get?_push_of_some _ e, ⟨rfl, hj⟩, ?_, ?_⟩
  · exact absurd (Heap.lt_size (N p hp).1) ((List.mem_singleton.mp hm) ▸ Nat.lt_irrefl _)
  · rintro i v m₁ news₁ s₁ own ⟨h, tk, rfl⟩ hin ⟨t, rfl⟩ ⟨rfl, hJ⟩ hoff _ _ _ _ F₁ N₁
    have e0 : (0 : Int) + (i : Int) = (i : Int) := Int.zero_add _
    rw [e0] at F₁
    refine wpAny_mono (turn i t m₁ h tk own hin hJ F₁ N₁) (fun f s₂ p => ?_) fun _ _ e => e
    rcases p with ⟨rfl, h', tk', m', rfl, F', N', hm⟩ | ⟨v, rfl, hv⟩
    · exact .next ⟨rfl, h', tk', m', news₁, rfl, F', N', hoff, rfl, hm⟩
    · exact .ret hv
  · rintro h' tk m' news' F' N' _ ⟨rfl, hJ⟩
    exact done m' h' tk hJ F' N'
end Mine
end

section
open PySem PySem.W PyProof.Rows PySem.Spec PySem.Calls PySem.SeqAt
set_option Elab.async false
set_option maxRecDepth 100000
set_option maxHeartbeats 4000000
namespace Mine
/-- a def with cells entered, over a ground of our own -/
theorem enter_cells {prog : Program} {w : World} {A : Around} {s : Shared} {B : Heap} {K : Frag} {p : Program} {loose : List Str} {mean : ExcName → Option Value} {mg mb : Str → Option Value} {news : List (Addr × Obj)} {Q E : Value → Shared → Prop}
    {name qual : Str} {params : Arguments} {body : List Stmt} {scope : Scope} {dV kV doc pm cdv ct oc : Value} {an od : Option Addr} {osl : Array (Option Value)} {f : Addr} {args : List Value} {binds : List (Str × Value)}
    (XB : K.In B) (TB : Top p loose mean mg mb B) (hB : B.StaysIn s.heap) (hsz : B.objs.size ≤ s.heap.objs.size) (N : News B s.heap.objs.size s.heap news)
    (ho : K.lookup f = some ⟨oc, od, .func (fnOf name qual params body scope dV kV doc pm an cdv ct), osl⟩) (hcd : codeIn K cdv qual = true) (hroom : A.depth < recursionLimit)
    (hbind : BindsTo s (fnOf name qual params body scope dV kV doc pm an cdv ct) ⟨args, []⟩ binds) (hkind : (binds.all fun y => scope.names.lookup y.1 == some .local || scope.names.lookup y.1 == some .cell) = true)
    (hnd : ((cellsFrom 0 scope.names []).map (·.1)).Nodup)
    (h : ∀ h₁ tk cells, Fr B s.heap.objs.size h₁ (bindL (envOfC qual scope s.heap.objs.size f cdv).kindOf binds fun _ => none) → News B s.heap.objs.size h₁ (cells ++ news) →
      CellsAre (bindC (envOfC qual scope s.heap.objs.size f cdv).kindOf binds fun _ => none) (cellsFrom (s.heap.objs.size + 1) scope.names []) cells → (∀ b o, s.heap.get? b = some o → h₁.get? b = some o) →
      wpAny (model prog w) (A.deeper (envOfC qual scope s.heap.objs.size f cdv)) (execs body (envOfC qual scope s.heap.objs.size f cdv))
        (fun fl s' => Q (match fl with | .ret v => v | _ => .none) s')
        (fun e s' => wpAny (model prog w) (A.deeper (envOfC qual scope s.heap.objs.size f cdv)) (leaving (envOfC qual scope s.heap.objs.size f cdv) e) (fun _ s'' => E e s'') (fun e' s'' => E e' s'') s')
        { s with heap := h₁, toks := tk })
    (hco : scope.isCoroutine = false) (hgen : scope.isGenerator = false) (hk : scope.kind = .function) : wpAny (model prog w) A (call (.ref f) args) Q E s := by
  refine wpAny_call ?_
  have X := XB.keeps hB
  refine codeAny_call_function (fd := fnOf name qual params body scope dV kV doc pm an cdv ct) hroom (X _ _ ho) rfl hco hgen rfl (codeRec_of X hcd) (hbind _ _ _ _ ?_)
  refine wpAny_newFunctionEnv_cells hk (kindsX hkind _) fun env' he s' x => ?_
  subst he
  refine ⟨(TB.nolimit.keeps hB).keeps x.toInCall.keep, codeAny_func ?_⟩
  obtain ⟨h₁, tk, rfl, _⟩ := x.done
  have hk₁ := x.toInCall.keep
  obtain ⟨cells, NC, Y⟩ := Cl.news (h₀ := s.heap) (Nat.le_refl _) fun n c hm => ⟨x.cell n c (lookup_of_mem_nodup (cellsFrom_names scope.names 0 (s.heap.objs.size + 1) [] [] rfl ▸ hnd) hm), x.above n c hm⟩
  refine wpAny_mono (h h₁ tk cells ⟨x.toInCall.ns, fun b o e => hk₁ b o (hB b o e), hsz⟩ (fun p hp => ?_) Y hk₁) (fun fl s' hl => hl) fun _ _ y => y
  rcases List.mem_append.mp hp with hp | hp
  · refine ⟨(NC p hp).1, (NC p hp).2.1, ?_⟩
    cases q : B.get? p.1 with
    | none => rfl
    | some o => have := hB _ _ q; rw [(NC p hp).2.2] at this; cases this
  · exact ⟨hk₁ _ _ (N p hp).1, (N p hp).2⟩
end Mine
end

section
open PySem PySem.W PyProof.Rows PySem.Spec PySem.Calls PySem.SeqAt
set_option Elab.async false
set_option maxRecDepth 100000
set_option maxHeartbeats 4000000
namespace Mine
theorem meets_bytes_contains (b : Array UInt8) (u : Tok) (k : Int) (t : Tok) (h0 : 0 ≤ k) (h1 : k < 256) : Meets (Builtin.«bytes.__contains__» ⟨[.bytes b u, .int k t], []⟩) (fun _ R s => R (.ok (.ret (.bool (b.contains k.toNat.toUInt8)))) s) := by
  intro prog w A R s h
  obtain ⟨hp, g, d, tk, os⟩ := s
  have hk : (decide (k < 0) || decide (k ≥ 256)) = false := by simp; omega
  show wpAny _ _ (Builtin.Bytes.containsIn "bytes.__contains__" (.bytes b u) (.int k t) >>= fun r => ret (.bool r)) _ _ _
  refine wpAny_bind ?_
  show wpAny _ _ ((asIndex (.int k t)).attempt >>= fun i => _) _ _ _
  refine wpAny_bind (wpAny_of_eq (a := Except.ok k) (by first | rfl | kernel_rfl!) ?_)
  dsimp only
  refine wpAny_bind (wpAny_of_eq KBy.buffer_eq ?_)
  show wpAny _ _ (if (decide (k < 0) || decide (k ≥ 256)) = true then _ else pure (b.contains k.toNat.toUInt8)) _ _ _
  rw [if_neg (by rw [hk]; exact Bool.false_ne_true)]
  exact wpAny_pure (wpAny_pure h)
theorem in_bytes {prog : Program} {w : World} {A : Around} {E : Value → Shared → Prop} {s : Shared} {b : Array UInt8} {u : Tok} {k : Int} {t : Tok} {Q : Value → Shared → Prop} (h0 : 0 ≤ k) (h1 : k < 256)
    (h : Q (.bool (b.contains k.toNat.toUInt8)) s) : wpAny (model prog w) A (compareOp .In (.int k t) (.bytes b u)) Q E s :=
  SeqRoads2.in_meets (typeIs_bytes _ _ _) FB.slot_bytes_contains FB.entry_bytes_contains (FB.args_bytes_contains_2 _ _) (meets_bytes_contains b u k t h0 h1) ⟨_, rfl, h⟩
end Mine
namespace Mine
section
variable {prog : Program} {w : World} {A : Around} {E : Value → Shared → Prop} {s : Shared} {h₀ : Heap} {L : Addr} {m : Str → Option Value} {news : List (Addr × Obj)}
theorem ext_list {D b : Addr} {its its2 : Array Value} {n n2 : Nat} {g : Obj → List (Addr × Obj)} {Q : Value → Shared → Prop} (F : Fr h₀ L s.heap m) (N : News h₀ L s.heap news) (hb : (b, lstObj its2 n2) ∈ news)
    (U : UpdF D (lstObj its n) news g) (hz : its.size + its2.size ≤ sizeLine) (h : ∀ h' c', Fr h₀ L h' m → News h₀ L h' (g (lstObj (its ++ its2) c')) → Q .none { s with heap := h' }) :
    wpAny (model prog w) A (call (.builtin "list.extend") [.ref D, .ref b]) Q E s := by
  obtain ⟨pre, post, rfl, hg, a, c⟩ := U.split
  have z := N (D, lstObj its n) (List.mem_append.mpr (.inr (.head _)))
  have hd : ¬(!its.isEmpty && Builtin.List.listTooLong (its.size + its2.size)) = true := by
    have : Builtin.List.listTooLong (its.size + its2.size) = false := decide_eq_false (by omega)
    rw [this]; simp
  refine call_meets PySem.F.slot_list_extend ⟨_, z.1, rfl⟩ PySem.F.entry_list_extend (PySem.F.args_list_extend_2 _ _) (PySem.AutoSeq1.list_extend_list_list_0 D its n b its2 n2 hd (by omega) (by omega)) ⟨z.1, (N _ hb).1, ?_⟩
  have q := PySem.IsL.update z.1 fun x => x ++ its2
  refine h _ _ (F.change (Heap.SameBut.update ..) z.2.1 z.2.2) ((hg _).symm ▸ news_set N a c (Heap.SameBut.update ..) q)
end
end Mine
end

section
open PySem PySem.W PyProof.Rows PySem.Spec PySem.Calls PySem.SeqAt
set_option Elab.async false
set_option maxRecDepth 100000
set_option maxHeartbeats 4000000
namespace Mine
section
variable {prog : Program} {w : World} {A : Around} {E : Value → Shared → Prop} {s : Shared}
def ByteAt (b : Array UInt8) (i : Nat) (v : Value) : Prop := ∃ c u, b[i]? = some c ∧ v = .int (c.toNat : Int) u
theorem extend_bytes {R : Result → Shared → Prop} (hh : A.handled = none) (x : Array UInt8) (t : Tok) (S : Addr) (res : Value) (c₀ : Nat) (hS : s.heap.get? S = some { cls := .type "list", data := .seq #[] c₀ })
    (hR : ∀ h' tk acc' c', (∀ b o, b ≠ S → s.heap.get? b = some o → h'.get? b = some o) → h'.get? S = some { cls := .type "list", dict := none, data := .seq acc' c', slots := #[] } →
      ItemsOf (ByteAt x) acc' x.size → R (.ok (.ret res)) { s with heap := h', toks := tk }) (hn : x.size ≤ sizeLine) :
    wpAny (model prog w) A.in1 (Builtin.List.listExtendWith (.ref S) (.bytes x t) res)
      (fun fin s' => match fin with | .done f => R (.ok f) s' | .again c' => c'.quiet = true ∧ codeAny (model prog w) A c' R s') (fun e s' => R (.error e) s') s := by
  have hSI : S ≠ s.heap.objs.size := Nat.ne_of_lt (Heap.lt_size hS)
  have hSf : S ∉ [s.heap.objs.size] := fun hm => hSI (List.mem_singleton.mp hm)
  unfold Builtin.List.listExtendWith
  refine wpAny_bind (wpAny_typeOf (T := "bytes") (v := .bytes x t) rfl ?_)
  have h1 : Builtin.List.listSameRef (.ref S) (.bytes x t) = false := rfl
  have h2 : (Value.type "bytes" == Value.type "list") = false := by decide
  have h3 : (Value.type "bytes" == Value.type "tuple") = false := by decide
  simp only [h1, h2, h3, Bool.or_false, Bool.false_eq_true, if_false]
  refine wpAny_bind (KBw.pyIter_bytes ?_)
  refine wpAny_bind (wpAny_holding ?_)
  unfold Builtin.List.listLengthHint
  refine wpAny_bind (wpAny_specialOf (T := "bytes") (v := .bytes x t) rfl FB.slot_bytes_len.lookup ?_)
  wp_delta
  refine wpAny_bind (wpAny_isInstance (T := "bytes") (v := .bytes x t) (b := true) rfl (by rw [isSubtype_type]; kernel_rfl) ?_)
  show wpAny _ _ (typeOf (Value.bytes x t) >>= _) _ _ _
  refine wpAny_bind (wpAny_typeOf (T := "bytes") (v := .bytes x t) rfl ?_)
  refine wpAny_pure ?_
  rw [if_neg (by decide)]
  have W := KBw.walks (prog := prog) (w := w) (A := A.in1) hh s.heap.objs.size x t
  refine wpAny_pure ⟨plainId_quiet F.plain_extend_loop _, codeAny_extend_loopS W.toS hn _ hSf _ x.size 0 _ _ _ rfl (Nat.zero_le _) ⟨_, Heap.get?_push_size _ rfl, rfl, rfl⟩ (Heap.get?_push_of_some _ hS) (ItemsOf.nil _) fun s' acc' c' hm hS' hacc => ?_⟩
  rw [Moved.eq_with hm]
  refine hR s'.heap s'.toks acc' c' (fun b ob hb e => hm.heap b ob (fun hmem => ?_) (Heap.get?_push_of_some _ e)) hS' hacc
  rcases List.mem_cons.mp hmem with e' | hmem
  · exact hb e'
  · exact absurd (Heap.lt_size e) (by rw [List.mem_singleton.mp hmem]; exact Nat.lt_irrefl _)
theorem list_init_bytes {R : Result → Shared → Prop} (hh : A.handled = none) (x : Array UInt8) (t : Tok) (S : Addr) (hS : s.heap.get? S = some { cls := .type "list", data := .seq #[] })
    (hR : ∀ h' tk acc' c', (∀ b o, b ≠ S → s.heap.get? b = some o → h'.get? b = some o) → h'.get? S = some { cls := .type "list", dict := none, data := .seq acc' c', slots := #[] } →
      ItemsOf (ByteAt x) acc' x.size → R (.ok (.ret .none)) { s with heap := h', toks := tk }) (hn : x.size ≤ sizeLine) :
    wpAny (model prog w) A.in1 (Builtin.«list.__init__» ⟨[.ref S, .bytes x t], []⟩)
      (fun fin s' => match fin with | .done f => R (.ok f) s' | .again c' => c'.quiet = true ∧ codeAny (model prog w) A c' R s') (fun e s' => R (.error e) s') s := by
  show wpAny _ _ (do let old ← Builtin.List.listItems (.ref S); Builtin.List.listUpdate (.ref S) (fun _ => #[]); letGo old.toList.reverse; Builtin.List.listExtendWith (.ref S) (.bytes x t) .none) _ _ s
  refine wpAny_bind ?_
  unfold Builtin.List.listItems
  refine wpAny_bind (wpAny_seqItems hS rfl (wpAny_pure ?_))
  show wpAny _ _ (updateSeq S (fun _ => #[]) >>= fun _ => letGo (#[] : Array Value).toList.reverse >>= fun _ => Builtin.List.listExtendWith (.ref S) (.bytes x t) .none) _ _ s
  refine wpAny_bind (wpAny_updateSeq hS rfl ?_)
  have hS₂ := Heap.get?_update_self (Obj.mapSeq (fun _ => (#[] : Array Value))) hS rfl
  have oth : ∀ b o, b ≠ S → s.heap.get? b = some o → (s.heap.update S (Obj.mapSeq (fun _ => (#[] : Array Value)))).get? b = some o :=
    fun b o hb e => (Heap.get?_update_other _ _ (Ne.symm hb)).trans e
  refine wpAny_bind (wpAny_letGo ?_)
  refine extend_bytes (hn := hn) hh x t S .none _ hS₂ fun h' tk acc' c' hk hS' hacc => ?_
  exact hR h' tk acc' c' (fun b o hb e => hk b o hb (oth b o hb e)) hS' hacc
theorem intsAre_by : ∀ (l : List Value) (ks : List Int), l.length = ks.length → (∀ (j : Nat) v, l[j]? = some v → ∃ k u, ks[j]? = some k ∧ v = .int k u) → IntsAre l ks
  | [], [], _, _ => .nil
  | v :: l, k :: ks, hl, h => by
    obtain ⟨k', u, e, rfl⟩ := h 0 v rfl
    simp only [List.getElem?_cons_zero, Option.some.injEq] at e
    subst e
    exact .cons _ _ (intsAre_by l ks (by simpa using hl) fun j v hv => by simpa using h (j + 1) v (by simpa using hv))
theorem items_ints {b : Array UInt8} {acc : Array Value} (h : ItemsOf (ByteAt b) acc b.size) : IntsAre acc.toList (KBw.bInts b) := by
  refine intsAre_by _ _ (by rw [KBw.ints_length, Array.length_toList]; exact h.1) fun j v hv => ?_
  obtain ⟨c, u, hc, rfl⟩ := h.2 j v (by rw [← Array.getElem?_toList]; exact hv)
  exact ⟨_, u, KBw.ints_get hc, rfl⟩
theorem call_list_bytes {Q : Value → Shared → Prop} (hh : A.handled = none) (x : Array UInt8) (t : Tok)
    (hQ : ∀ h' tk acc' c', s.heap.StaysIn h' → s.heap.get? s.heap.objs.size = none → h'.get? s.heap.objs.size = some (lstObj acc' c') → IntsAre acc'.toList (KBw.bInts x) → Q (.ref s.heap.objs.size) { s with heap := h', toks := tk }) (hn : x.size ≤ sizeLine) :
    wpAny (model prog w) A (call (.type "list") [.bytes x t]) Q E s := by
  refine callType_codes (Q₁ := fun obj s₁ => obj = .ref s.heap.objs.size ∧ s₁ = { s with heap := s.heap.push { cls := .type "list", data := .seq #[] } }) F.called_list (F.typeCall_list_1 _) F.entry_list_init
    (code_list_new _ ⟨rfl, rfl⟩) fun obj s₁ h₁ => ?_
  obtain ⟨rfl, rfl⟩ := h₁
  have hS : (s.heap.push { cls := .type "list", data := .seq #[] }).get? s.heap.objs.size = some { cls := .type "list", data := .seq #[] } := Heap.get?_push_size _ rfl
  refine ⟨⟨_, hS, rfl⟩, F.args_list_init_2 _ _, list_init_bytes (A := A.in1) (hn := hn) hh x t _ hS fun h' tk acc' c' hk hS' hacc => ?_⟩
  exact ⟨rfl, hQ h' tk acc' c' (fun b o e => hk b o (Nat.ne_of_lt (Heap.lt_size e)) (Heap.get?_push_of_some _ e)) (Heap.get?_none_of_le (Nat.le_refl _)) hS' (items_ints hacc)⟩
end
end Mine
end

section
open PySem PySem.W PyProof.Rows PySem.Spec PySem.Calls PySem.SeqAt
set_option Elab.async false
set_option maxRecDepth 100000
set_option maxHeartbeats 8000000
namespace Mine

abbrev ffObj (C dx it q : Addr) : Obj := { cls := .ref C, dict := some dx, data := .plain, slots := #[some (.ref q), some (.ref it)] }

local macro_rules | `(tactic| walk_at "pad 0") => `(tactic| skip)
local macro_rules | `(tactic| k_room) => `(tactic| ktr_room)
local macro_rules | `(tactic| k_units) => `(tactic| ktr_units)

local macro_rules | `(tactic| walk_at "my_stop") => `(tactic| with_reducible show wpAny _ _ (exec (Stmt.While _ _ _ _) _) _ _ _)
local macro_rules | `(tactic| walk_at "my_stop") => `(tactic| with_reducible show wpAny _ _ (call (Value.builtin "next") _) _ _ _)
local macro_rules | `(tactic| walk_at "my_stop") => `(tactic| with_reducible show wpAny _ _ (call (Value.ref _) _) _ _ _)
local macro_rules | `(tactic| walk_at "my_steps") => `(tactic| repeat' ((fail_if_success walk_at "my_stop"); first | (k_unfold; (try dsimp only)) | (k_end; wrow_close) | walk1 | (dsimp only; walk1) | (leave1; walk_say "STEP leave1"; try dsimp only) | fail "no step"))

local macro_rules | `(tactic| walk_at "my_stop") => `(tactic| with_reducible refine Exists.intro ?_ ?_)

abbrev ffNews (C x dx q it fl sk : Addr) (items skip : Array Value) (n1 n2 : Nat) (rest : List (Addr × Obj)) (i : Nat) : List (Addr × Obj) := (it, iterObj fl i) :: (x, ffObj C dx it q) :: (dx, dictOf [] 0) :: (q, mwObj sk) :: (fl, lstObj items n1) :: (sk, lstObj skip n2) :: rest
structure NextI (B : Heap) (L : Addr) (s : Shared) (C x dx q it fl sk : Addr) (items skip : Array Value) (n1 n2 : Nat) (rest : List (Addr × Obj)) (i : Nat) (e : Value → Value → Bool) (n : Nat) (s' : Shared) : Prop where
  ex : ∃ (idx : Nat) (vi : Option Value) (h' : Heap) (tk' : Nat), n = items.size - idx ∧ i ≤ idx ∧ idx ≤ items.size ∧ (∀ k v, i ≤ k → k < idx → items[k]? = some v → skip.any (fun y => e y v) = true) ∧
    s' = { s with heap := h', toks := tk' } ∧ Fr B L h' (fun y => if y = Str.ofString "item" then vi else if y = Str.ofString "func" then some (.ref q) else [(Str.ofString "self", Value.ref x)].reverse.lookup y) ∧
    News B L h' (ffNews C x dx q it fl sk items skip n1 n2 rest idx)

/-- what is there when the own iterator has ended -/
structure Ended (B : Heap) (l : List Env) (news : List (Addr × Obj)) (ex : Addr) (h' : Heap) : Prop where
  exc : ∃ o, h'.get? ex = some o ∧ o.cls = .type "StopIteration"
  news : ∀ p ∈ news, h'.get? p.1 = some p.2
  same : ∀ b o, B.get? b = some o → b ∉ l.filterMap (·.frame) → h'.get? b = some o
  frames : B.UpToSlots h'

theorem next_spec {w : World} {lo : List Str} {mean : ExcName → Option Value} {mg mb : Str → Option Value} {A : Around} {l : List Env} {s : Shared} {base B : Heap} {x dx q it fl sk : Addr} {items skip : Array Value} {n1 n2 i : Nat} {rest : List (Addr × Obj)} {Q E : Value → Shared → Prop} (e : Value → Value → Bool)
    (XB : (hd.heap_1 w.params).In B) (TB : Top hdView lo mean mg mb B) (Bw : Below A base l B)
    (hB : B.StaysIn s.heap) (hsz : B.objs.size ≤ s.heap.objs.size)
    (N : News B s.heap.objs.size s.heap (ffNews 109 x dx q it fl sk items skip n1 n2 rest i))
    (nr : ∀ p ∈ rest, p.1 ≠ it) (nd : it ∉ [x, dx, q, fl, sk]) (hi : i ≤ items.size)
    (hh : A.handled = none) (hdp : A.depth + 4 < recursionLimit) (hun : A.units + 40 < cLine)
    (he : ∀ y, y ∈ skip → ∀ z, z ∈ items → ∀ A s, EqAt A s y z (e y z))
    (hQ : ∀ j v h' tk', i ≤ j → items[j]? = some v → skip.any (fun y => e y v) = false → (∀ k v', i ≤ k → k < j → items[k]? = some v' → skip.any (fun y => e y v') = true) →
      B.StaysIn h' → s.heap.objs.size < h'.objs.size → (∀ p ∈ ffNews 109 x dx q it fl sk items skip n1 n2 rest (j + 1), h'.get? p.1 = some p.2) → Q v { s with heap := h', toks := tk' })
    (hE : ∀ ex h' tk', (∀ k v', i ≤ k → items[k]? = some v' → skip.any (fun y => e y v') = true) →
      Ended B l ((x, ffObj 109 dx it q) :: (dx, dictOf [] 0) :: (q, mwObj sk) :: (fl, lstObj items n1) :: (sk, lstObj skip n2) :: rest) ex h' → E (.ref ex) { s with heap := h', toks := tk' }) :
    wpAny (model PySem.Challenge.rw_il0163_01.row.prog w) A (call (.ref 105) [.ref x]) Q E s := by
  revert XB
  w_top off
  k_fill
  intro XB
  refine enter_raw (binds := [(Str.ofString "self", .ref x)]) (f := 105) XB TB hB hsz N rfl rfl (by omega) (BindsTo.of_eq rfl) (locs rfl) (fun h₁ tk F N₁ hk₁ => ?_) rfl rfl rfl (by decide)
  have B₁ := fun scope (hk : scope.kind = .function) => Bw.push (name := Str.ofString "filterfalse.__next__") (scope := scope) (a := 105) (cd := .ref 104) F hk
  clear N
  generalize s.heap.objs.size = L at *
  (try k_unmd)
  k_fold
  walk_at "my_steps"
  refine wpAny_While (codeAny_whileLoop (NextI B L s 109 x dx q it fl sk items skip n1 n2 rest i e) (fun n s' hI => ?_) (items.size - i) ?_)
  · obtain ⟨idx, vi, h', tk', hn, hi1, hi2, hsk, rfl, F', N'⟩ := hI
    k_fold
    walk_at "my_steps"
    have hne : ∀ p ∈ ((x, ffObj 109 dx it q) :: (dx, dictOf [] 0) :: (q, mwObj sk) :: (fl, lstObj items n1) :: (sk, lstObj skip n2) :: rest), p.1 ≠ it := by
      simp only [List.mem_cons, not_or, List.not_mem_nil] at nd
      intro p hp
      simp only [List.mem_cons] at hp
      rcases hp with rfl | rfl | rfl | rfl | rfl | hp
      all_goals first
        | exact nr p hp
        | (simp only [ne_eq]; intro hq; simp_all; done)
    rcases hx : items[idx]? with _ | v
    · have K' := Bw.push (name := Str.ofString "filterfalse.__next__") (scope := { kind := ScopeKind.function, names := [(Str.ofString "self", NameKind.local), (Str.ofString "func", NameKind.local), (Str.ofString "item", NameKind.local), (Str.ofString "next", NameKind.globalImplicit), (Str.ofString "bool", NameKind.globalImplicit)], isGenerator := false, isCoroutine := false }) (a := 105) (cd := .ref 104) F' rfl
      have hit := N' (it, iterObj fl idx) (List.Mem.head _)
      refine call_next_end (items := items) hh hit.1 ⟨_, (N' (fl, lstObj items n1) (by simp)).1, rfl, _, rfl⟩ hx (fun h₂ h₃ ex hs hm => ?_)
      have hfr : ∀ b o, h'.get? b = some o → (∀ vs, o.data ≠ .fields vs) → h₂.get? b = some o := fun b o hb hn => (hs.2 b (fun hq => by subst hq; rw [hit.1] at hb; cases hb; exact hn _ rfl)).trans hb
      refine out_of_loop (R := E) (E := fun e' s'' => E e' s'') (cls := .type "StopIteration") (args := []) (base := hideAll h₂ ((envOf (Str.ofString "filterfalse.__next__") _ L 105 (.ref 104) :: l).filterMap (·.frame))) K'.stack rfl (fun b o q => of_hideAll _ q) (funFrames_hide (K'.frames.of_keeps fun b o hb hn => ⟨o, hfr b o hb hn, rfl⟩) fun env he b hb => List.mem_filterMap.mpr ⟨env, he, hb⟩) hm (fun h₄ a0 hfl hu => ?_)
      have hLB : B.get? L = none := kts_self F'
      have nfr : ∀ b, B.get? b = none → b ≠ L → b ∉ (envOf (Str.ofString "filterfalse.__next__") { kind := ScopeKind.function, names := [(Str.ofString "self", NameKind.local), (Str.ofString "func", NameKind.local), (Str.ofString "item", NameKind.local), (Str.ofString "next", NameKind.globalImplicit), (Str.ofString "bool", NameKind.globalImplicit)], isGenerator := false, isCoroutine := false } L 105 (.ref 104) :: l).filterMap (·.frame) := fun b hb hn hm => by
        rcases kts_mem hm with z | z
        · exact hn z
        · obtain ⟨_, o, ho, _⟩ := Bw.frames.mem z
          rw [hb] at ho; cases ho
      refine hE ex h₄ _ (fun k v' h1 h2 => ?_) ⟨hfl.there, fun p hp => ?_, fun b o hb hn => ?_, ?_⟩
      · refine hsk k v' h1 ?_ h2
        rcases Nat.lt_or_ge k idx with hk | hk
        · exact hk
        · rw [Array.getElem?_eq_none (Nat.le_trans (Array.getElem?_eq_none_iff.mp hx) hk)] at h2; cases h2
      · have hp' := N' p (List.mem_cons_of_mem _ hp)
        exact hfl.1 _ _ (hideAll_get _ ((hs.2 p.1 (hne p hp)).trans hp'.1) (nfr _ hp'.2.2 hp'.2.1))
      · have hbit : b ≠ it := fun hq => by subst hq; rw [hit.2.2] at hb; cases hb
        refine hfl.1 _ _ (hideAll_get _ ((hs.2 b hbit).trans (F'.keep _ _ hb)) fun hm => ?_)
        rcases kts_mem hm with z | z
        · subst z; rw [hLB] at hb; cases hb
        · exact hn z
      · exact ((Heap.UpToSlots.of_keeps F'.keep).trans (fun b o hb hn => ⟨o.slots, hfr b o hb hn⟩)).trans ((Heap.UpToSlots.of_keeps hm.keeps).trans hu)
    · refine k_next_item (n := n1) F' N' hne (by simp) hx (fun h₂ F₂ N₂ => ?_)
      clear F' N'
      walk_at "my_steps"
      refine callWith_mw (a := sk) ?_
      walk_at "my_steps"
      rename News _ _ _ _ => N₃
      rename Fr _ _ _ _ => F₃
      refine ⟨(N₃ (q, mwObj sk) (by simp)).1, ?_⟩
      refine call_contains (fun y => e y v) (N₃ (q, mwObj sk) (by simp)).1 (N₃ (sk, lstObj skip n2) (by simp)).1 (fun y hy A => he y hy v (Array.mem_of_getElem? hx) _ _) ?_
      have hlt : idx < items.size := (Array.getElem?_eq_some_iff.mp hx).1
      rcases hb : skip.any (fun y => e y v) with _ | _
      · walk_at "my_steps"
        rename Fr _ _ _ _ => F₄
        rename News _ _ _ _ => N₄
        exact hQ idx v _ _ hi1 hx hb (fun k v' h1 h2 h3 => hsk k v' h1 h2 h3) F₄.keep (fr_lt F₄) (fun p hp => (N₄ p hp).1)
      · walk_at "my_steps"
        rename Fr _ _ _ _ => F₄
        rename News _ _ _ _ => N₄
        refine ⟨items.size - (idx + 1), by omega, ⟨idx + 1, some v, _, _, rfl, by omega, by omega, fun k v' h1 h2 h3 => ?_, rfl, ?_, N₄⟩⟩
        · rcases Nat.lt_or_ge k idx with hk | hk
          · exact hsk k v' h1 hk h3
          · obtain rfl : k = idx := by omega
            rw [hx] at h3; cases h3; exact hb
        · exact fr_cong F₄ fun y => by split <;> rfl
  · refine ⟨i, none, _, _, rfl, Nat.le_refl _, hi, fun k v h1 h2 => by omega, rfl, ?_, ?_⟩
    · refine fr_cong (by assumption) fun y => ?_
      by_cases hy : y = Str.ofString "item"
      · subst hy; rfl
      · rw [if_neg hy]
    · assumption
end Mine
end

section
open PySem PySem.W PyProof.Rows PySem.Spec PySem.Calls PySem.SeqAt
set_option Elab.async false
set_option maxRecDepth 100000
set_option maxHeartbeats 8000000
namespace Mine
local macro_rules | `(tactic| k_room) => `(tactic| ktr_room)
local macro_rules | `(tactic| k_units) => `(tactic| ktr_units)

/-- what the sieve leaves -/
def sieve (e : Value → Value → Bool) (skip : Array Value) (vs : List Value) : List Value := vs.filter fun v => !(skip.any fun y => e y v)

theorem sieve_end {e : Value → Value → Bool} {skip items : Array Value} {i : Nat} (h : ∀ k v', i ≤ k → items[k]? = some v' → skip.any (fun y => e y v') = true) : sieve e skip (items.toList.drop i) = [] := by
  unfold sieve
  rw [List.filter_eq_nil_iff]
  intro v hv
  obtain ⟨k, hk, rfl⟩ := List.mem_iff_getElem.mp hv
  have hk' : i + k < items.size := by simp only [List.length_drop, Array.length_toList] at hk; omega
  have := h (i + k) items[i + k] (by omega) (Array.getElem?_eq_getElem hk')
  simp only [List.getElem_drop, Array.getElem_toList, this, Bool.not_true, Bool.false_eq_true, not_false_eq_true]

theorem sieve_found {e : Value → Value → Bool} {skip items : Array Value} {v : Value} : ∀ {d i j : Nat}, j - i = d → i ≤ j → items[j]? = some v → skip.any (fun y => e y v) = false →
    (∀ k v', i ≤ k → k < j → items[k]? = some v' → skip.any (fun y => e y v') = true) → sieve e skip (items.toList.drop i) = v :: sieve e skip (items.toList.drop (j + 1))
  | 0, i, j, hd, hij, hv, hn, _ => by
    obtain rfl : i = j := by omega
    obtain ⟨hlt, rfl⟩ := Array.getElem?_eq_some_iff.mp hv
    rw [List.drop_eq_getElem_cons (by simpa using hlt)]
    unfold sieve
    rw [List.filter_cons, Array.getElem_toList, if_pos (by rw [hn]; rfl)]
  | d + 1, i, j, hd, hij, hv, hn, hs => by
    have hij' : i < j := by omega
    obtain ⟨hlt, rfl⟩ := Array.getElem?_eq_some_iff.mp hv
    have hi : i < items.size := by omega
    rw [← sieve_found (d := d) (i := i + 1) (by omega) (by omega) hv hn (fun k v' h1 h2 h3 => hs k v' (by omega) h2 h3)]
    rw [List.drop_eq_getElem_cons (by simpa using hi)]
    unfold sieve
    rw [List.filter_cons, Array.getElem_toList, if_neg (by rw [hs i items[i] (Nat.le_refl _) hij' (Array.getElem?_eq_getElem hi)]; decide)]

theorem iter_spec {w : World} {lo : List Str} {mean : ExcName → Option Value} {mg mb : Str → Option Value} {A : Around} {s : Shared} {B : Heap} {x : Addr} {ox : Obj} {Q E : Value → Shared → Prop}
    (XB : (hd.heap_1 w.params).In B) (TB : Top hdView lo mean mg mb B)
    (hB : B.StaysIn s.heap) (hsz : B.objs.size ≤ s.heap.objs.size) (N : News B s.heap.objs.size s.heap [(x, ox)]) (hdp : A.depth + 4 < recursionLimit)
    (hQ : ∀ h' tk', (∀ b o, s.heap.get? b = some o → h'.get? b = some o) → s.heap.objs.size < h'.objs.size → Q (.ref x) { s with heap := h', toks := tk' }) :
    wpAny (model PySem.Challenge.rw_il0163_01.row.prog w) A (call (.ref 98) [.ref x]) Q E s := by
  revert XB
  w_top off
  k_fill
  intro XB
  refine enter_raw (binds := [(Str.ofString "self", .ref x)]) (f := 98) XB TB hB hsz N rfl rfl (by omega) (BindsTo.of_eq rfl) (locs rfl) (fun h₁ tk F N₁ hk₁ => ?_) rfl rfl rfl (by decide)
  clear N
  generalize s.heap.objs.size = L at *
  (try k_unmd)
  k_fold
  k_steps
  exact hQ _ _ hk₁ (fr_lt F)

theorem below_in1 {A : Around} {base B : Heap} {l : List Env} (K : Below A base l B) : Below A.in1 base l B := ⟨K.stack, K.stays, K.frames⟩
theorem fr_grow {h₀ h h' : Heap} {L : Addr} {m : Str → Option Value} (F : Fr h₀ L h m) (k : h.StaysIn h') : Fr h₀ L h' m := ⟨F.ns.keeps k, fun b o e => k b o (F.keep b o e), F.above⟩

/-- what is there when the list of what the own iterator gives is made -/
structure ListMade (B : Heap) (l : List Env) (S : Addr) (vs : List Value) (news : List (Addr × Obj)) (h' : Heap) : Prop where
  list : ∃ c, h'.get? S = some (lstObj vs.toArray c)
  news : ∀ p ∈ news, h'.get? p.1 = some p.2
  same : ∀ b o, B.get? b = some o → b ∉ l.filterMap (·.frame) → h'.get? b = some o
  frames : B.UpToSlots h'

theorem ext_loop {w : World} {lo : List Str} {mean : ExcName → Option Value} {mg mb : Str → Option Value} {A : Around} {l : List Env} {base B : Heap} {x dx q it fl sk S Lf : Addr} {mf : Str → Option Value} {items skip : Array Value} {n1 n2 : Nat} {rest : List (Addr × Obj)} {R : Result → Shared → Prop} (e : Value → Value → Bool)
    (XB : (hd.heap_1 w.params).In base) (TB : Top hdView lo mean mg mb base) (Bw : Below A base l B) (Fb : Fr base Lf B mf)
    (nr : ∀ p ∈ rest, p.1 ≠ it) (nS : ∀ p ∈ rest, p.1 ≠ S) (nd : it ∉ [x, dx, q, fl, sk]) (nSd : S ∉ [it, x, dx, q, fl, sk])
    (hh : A.handled = none) (hdp : A.depth + 4 < recursionLimit) (hun : A.units + 50 < cLine) (hsz' : items.size ≤ sizeLine)
    (he : ∀ y, y ∈ skip → ∀ z, z ∈ items → ∀ A s, EqAt A s y z (e y z)) :
    ∀ (k i : Nat) (s : Shared) (acc : Array Value) (c : Nat), items.size - i = k → i ≤ items.size → acc.size ≤ i → B.StaysIn s.heap → B.objs.size ≤ s.heap.objs.size →
      News B s.heap.objs.size s.heap (ffNews 109 x dx q it fl sk items skip n1 n2 ((S, lstObj acc c) :: rest) i) →
      (∀ h' tk', ListMade B l S (acc.toList ++ sieve e skip (items.toList.drop i)) ((x, ffObj 109 dx it q) :: (dx, dictOf [] 0) :: (q, mwObj sk) :: (fl, lstObj items n1) :: (sk, lstObj skip n2) :: rest) h' → R (.ok (.ret .none)) { s with heap := h', toks := tk' }) →
      codeAny (model PySem.Challenge.rw_il0163_01.row.prog w) A (.builtin "list.extend.loop" ⟨[.ref S, .ref x, .none], []⟩) R s := by
  intro k
  induction k using Nat.strongRecOn with
  | ind k ih =>
  intro i s acc c hk hi hac hB hsz N hR
  have XB' := XB.keeps Bw.stays
  have TB' := TB.keeps Bw.stays
  refine codeAny_builtin F.entry_extend_loop ?_
  rw [Around.under_plainId F.plain_extend_loop _]
  show wpAny _ A.in1 (pyNext (.ref x) >>= _) _ _ s
  have I : InstAt s.heap x (ffObj 109 dx it q) 109 (some (dictOf [] 0)) := ⟨(N (x, ffObj 109 dx it q) (.tail _ (.head _))).1, rfl, rfl, (N (dx, dictOf [] 0) (.tail _ (.tail _ (.head _)))).1⟩
  refine wpAny_bind (owit_next (f := 105) (fr_grow Fb hB) XB I rfl rfl ?_)
  refine next_spec (rest := (S, lstObj acc c) :: rest) e XB' TB' (below_in1 Bw) hB hsz N (fun p hp => ?_) nd hi hh hdp (by show A.units + 1 + 40 < cLine; omega) he (fun j v h' tk' hij hv hn hs hB' hlt hnews => ?_) (fun ex h' tk' hs hend => ?_)
  · rcases List.mem_cons.mp hp with rfl | hp
    · intro hq; exact nSd (hq ▸ List.Mem.head _)
    · exact nr p hp
  · have hS : h'.get? S = some (lstObj acc c) := hnews (S, lstObj acc c) (by simp)
    show wpAny _ A.in1 (updateSeq S (·.push v) >>= _) _ _ _
    have hjlt : j < items.size := (Array.getElem?_eq_some_iff.mp hv).1
    refine wpAny_bind (wpAny_updateSeq hS rfl (wpAny_pure ⟨plainId_quiet F.plain_extend_loop _, ?_⟩) (by omega) (by show (acc.push v).size ≤ sizeLine + 1; rw [Array.size_push]; omega))
    refine ih (items.size - (j + 1)) (by omega) (j + 1) _ (acc.push v) (c + 1) rfl (by omega) (by rw [Array.size_push]; omega) ?_ ?_ ?_ ?_
    · intro b o hb
      have hbS : S ≠ b := fun hq => by subst hq; rw [(N (S, lstObj acc c) (by simp)).2.2] at hb; cases hb
      exact (Heap.get?_update_other _ _ hbS).trans (hB' b o hb)
    · show B.objs.size ≤ (h'.update S _).objs.size
      rw [Heap.size_after_update]; omega
    · intro p hp
      have hpS : p = (S, lstObj (acc.push v) (c + 1)) ∨ (p ∈ ffNews 109 x dx q it fl sk items skip n1 n2 rest (j + 1) ∧ p.1 ≠ S) := by
        simp only [ffNews, List.mem_cons, List.not_mem_nil] at hp nSd ⊢
        rcases hp with rfl | rfl | rfl | rfl | rfl | rfl | rfl | hp
        all_goals first
          | exact .inl rfl
          | exact .inr ⟨by simp, fun hq => nSd (by simp only at hq; subst hq; simp)⟩
          | exact .inr ⟨by simp [hp], nS p hp⟩
      rcases hpS with rfl | ⟨hp', hpS⟩
      · have h0 := N (S, lstObj acc c) (by simp)
        have hu : (h'.update S (Obj.mapSeq (·.push v))).get? S = some (lstObj (acc.push v) (c + 1)) := (Heap.get?_update_self _ hS rfl).trans (by simp [Obj.mapSeq])
        exact ⟨hu, Nat.ne_of_lt (Heap.lt_size hu), h0.2.2⟩
      · have hin : p ∈ ffNews 109 x dx q it fl sk items skip n1 n2 ((S, lstObj acc c) :: rest) (j + 1) := by
          simp only [ffNews, List.mem_cons] at hp' ⊢
          rcases hp' with h | h | h | h | h | h | h <;> simp [h]
        have hu := (Heap.get?_update_other h' (Obj.mapSeq (·.push v)) (Ne.symm hpS)).trans (hnews p hin)
        refine ⟨hu, Nat.ne_of_lt (Heap.lt_size hu), ?_⟩
        have : ∃ o, (p.1, o) ∈ ffNews 109 x dx q it fl sk items skip n1 n2 ((S, lstObj acc c) :: rest) i := by
          simp only [ffNews, List.mem_cons] at hp' ⊢
          rcases hp' with h | h | h | h | h | h | h
          · exact ⟨iterObj fl i, .inl (by rw [h])⟩
          all_goals exact ⟨p.2, by simp [h]⟩
        obtain ⟨o, ho⟩ := this
        exact (N (p.1, o) ho).2.2
    · intro h'' tk'' hm
      refine hR h'' tk'' ⟨?_, hm.news, hm.same, hm.frames⟩
      rw [sieve_found rfl hij hv hn hs]
      simpa using hm.list
  · obtain ⟨o, ho, hc⟩ := hend.exc
    unfold OwitStop
    refine wpAny_isInstance (T := "StopIteration") (b := true) ⟨o, ho, hc⟩ isSubtype_stop ?_
    rw [if_pos rfl]
    refine wpAny_pure (hR h' tk' ⟨?_, ?_, hend.same, hend.frames⟩)
    · rw [sieve_end hs, List.append_nil]
      exact ⟨c, hend.news (S, lstObj acc c) (by simp)⟩
    · intro p hp
      refine hend.news p ?_
      simp only [List.mem_cons] at hp ⊢
      rcases hp with h | h | h | h | h | h <;> simp [h]

theorem list_own {w : World} {lo : List Str} {mean : ExcName → Option Value} {mg mb : Str → Option Value} {A : Around} {E : Value → Shared → Prop} {s : Shared} {l : List Env} {base B : Heap} {x dx q it fl sk Lf : Addr} {mf : Str → Option Value} {items skip : Array Value} {n1 n2 : Nat} {Q : Value → Shared → Prop} (e : Value → Value → Bool)
    (XB : (hd.heap_1 w.params).In base) (TB : Top hdView lo mean mg mb base) (Bw : Below A base l B) (Fb : Fr base Lf B mf)
    (nd : it ∉ [x, dx, q, fl, sk]) (hB : B.StaysIn s.heap) (hsz : B.objs.size ≤ s.heap.objs.size) (N : News B s.heap.objs.size s.heap (ffNews 109 x dx q it fl sk items skip n1 n2 [] 0))
    (hh : A.handled = none) (hdp : A.depth + 4 < recursionLimit) (hun : A.units + 60 < cLine) (hsz' : items.size ≤ sizeLine)
    (he : ∀ y, y ∈ skip → ∀ z, z ∈ items → ∀ A s, EqAt A s y z (e y z))
    (hQ : ∀ S h' tk', s.heap.get? S = none → ListMade B l S (sieve e skip items.toList) ((x, ffObj 109 dx it q) :: (dx, dictOf [] 0) :: (q, mwObj sk) :: (fl, lstObj items n1) :: (sk, lstObj skip n2) :: []) h' → Q (.ref S) { s with heap := h', toks := tk' }) :
    wpAny (model PySem.Challenge.rw_il0163_01.row.prog w) A (call (.type "list") [.ref x]) Q E s := by
  have XB' := XB.keeps Bw.stays
  have TB' := TB.keeps Bw.stays
  refine callType_codes (Q₁ := fun obj s₁ => obj = .ref s.heap.objs.size ∧ s₁ = { s with heap := s.heap.push { cls := .type "list", data := .seq #[] } }) F.called_list (F.typeCall_list_1 _) F.entry_list_init
    (code_list_new _ ⟨rfl, rfl⟩) fun obj s₁ h₁ => ?_
  obtain ⟨rfl, rfl⟩ := h₁
  have hS : (s.heap.push { cls := .type "list", data := .seq #[] }).get? s.heap.objs.size = some { cls := .type "list", data := .seq #[] } := Heap.get?_push_size _ rfl
  refine ⟨⟨_, hS, rfl⟩, F.args_list_init_2 _ _, ?_⟩
  generalize hSe : s.heap.objs.size = S at *
  have hSn : s.heap.get? S = none := Heap.get?_none_of_le (Nat.le_of_eq hSe)
  show wpAny _ _ (do let old ← Builtin.List.listItems (.ref S); Builtin.List.listUpdate (.ref S) (fun _ => #[]); letGo old.toList.reverse; Builtin.List.listExtendWith (.ref S) (.ref x) .none) _ _ _
  refine wpAny_bind ?_
  unfold Builtin.List.listItems
  refine wpAny_bind (wpAny_seqItems hS rfl (wpAny_pure ?_))
  show wpAny _ _ (updateSeq S (fun _ => #[]) >>= fun _ => letGo (#[] : Array Value).toList.reverse >>= fun _ => Builtin.List.listExtendWith (.ref S) (.ref x) .none) _ _ _
  refine wpAny_bind (wpAny_updateSeq hS rfl ?_)
  refine wpAny_bind (wpAny_letGo ?_)
  dsimp only
  have hk₁ : s.heap.StaysIn ((s.heap.push { cls := .type "list", data := .seq #[] }).update S (Obj.mapSeq fun _ => #[])) := fun b o hb =>
    (Heap.get?_update_other _ _ (fun hq : S = b => by subst hq; rw [hSn] at hb; cases hb)).trans (Heap.get?_push_of_some _ hb)
  have hS₁ : ((s.heap.push { cls := .type "list", data := .seq #[] }).update S (Obj.mapSeq fun _ => #[])).get? S = some (lstObj #[] 0) := Heap.get?_update_self _ hS rfl
  generalize ((s.heap.push { cls := .type "list", data := .seq #[] }).update S (Obj.mapSeq fun _ => #[])) = h₁ at hk₁ hS₁ ⊢
  have hB₁ : B.StaysIn h₁ := fun b o hb => hk₁ b o (hB b o hb)
  have F₁ : Fr base Lf h₁ mf := fr_grow Fb hB₁
  have I : InstAt h₁ x (ffObj 109 dx it q) 109 (some (dictOf [] 0)) := ⟨hk₁ _ _ (N (x, ffObj 109 dx it q) (.tail _ (.head _))).1, rfl, rfl, hk₁ _ _ (N (dx, dictOf [] 0) (.tail _ (.tail _ (.head _)))).1⟩
  have hSx : S ≠ x := fun hq => (N (x, ffObj 109 dx it q) (.tail _ (.head _))).2.1 hq.symm
  unfold Builtin.List.listExtendWith
  refine wpAny_bind (I.type.here ?_)
  have c1 : Builtin.List.listSameRef (.ref S) (.ref x) = false := by simp [Builtin.List.listSameRef, hSx]
  have c2 : (Value.ref 109 == Value.type "list") = false := by decide
  have c3 : (Value.ref 109 == Value.type "tuple") = false := by decide
  simp only [c1, c2, c3, Bool.or_false, Bool.false_eq_true, if_false]
  have hlt₁ : S < h₁.objs.size := Heap.lt_size hS₁
  refine wpAny_bind (owit_iter (f := 98) F₁ XB I rfl rfl ?_)
  have hszB : B.objs.size ≤ h₁.objs.size := Nat.le_trans hsz (Nat.le_of_lt hlt₁)
  refine iter_spec (B := B) XB' TB' hB₁ hszB (fun p hp => ?_) (by show A.depth + 4 < recursionLimit; omega) (fun h₂ tk₂ hk₂ hlt₂ => ?_) (ox := ffObj 109 dx it q)
  · rw [List.mem_singleton.mp hp]
    have := N (x, ffObj 109 dx it q) (.tail _ (.head _))
    exact ⟨I.at_, Nat.ne_of_lt (Heap.lt_size I.at_), this.2.2⟩
  have hB₂ : B.StaysIn h₂ := fun b o hb => hk₂ b o (hB₁ b o hb)
  have F₂ : Fr base Lf h₂ mf := fr_grow Fb hB₂
  have I₂ : InstAt h₂ x (ffObj 109 dx it q) 109 (some (dictOf [] 0)) := ⟨hk₂ _ _ I.at_, rfl, rfl, hk₂ _ _ I.dict⟩
  have X₂ := XB.keeps F₂.keep
  refine owit_it F₂ XB I₂ (g := .ref 105) rfl ?_
  refine wpAny_bind (wpAny_holding ?_)
  unfold Builtin.List.listLengthHint
  refine wpAny_bind (wpAny_bind (I₂.type.here ((looks_findIn X₂ (r := none) rfl).here ?_)))
  show wpAny _ _ (specialOf (Value.ref x) (Str.ofString "__length_hint__") >>= _) _ _ _
  refine wpAny_bind (wpAny_bind (I₂.type.here ((looks_findIn X₂ (r := none) rfl).here ?_)))
  refine wpAny_pure ?_
  show wpAny _ _ (rule "list.extend.makes-room" >>= fun _ => Builtin.List.listTouch (.ref S) >>= fun _ =>
    again (.builtin "list.extend.loop" ⟨[.ref S, .ref x, .none], []⟩)) _ _ _
  refine wpAny_bind (wpAny_rule ?_)
  refine wpAny_bind ?_
  have hS₂ : h₂.get? S = some (lstObj #[] 0) := hk₂ _ _ hS₁
  show wpAny _ _ (updateSeq S (·.push .none) >>= fun _ => updateSeq S (·.pop)) _ _ _
  refine wpAny_bind (wpAny_updateSeq hS₂ rfl ?_)
  have hS₃ := Heap.get?_update_self (Obj.mapSeq (·.push Value.none)) hS₂ rfl
  refine wpAny_updateSeq (hz := by seq_fits) hS₃ rfl ?_
  have hS₄ : ((h₂.update S (Obj.mapSeq (·.push Value.none))).update S (Obj.mapSeq (·.pop))).get? S = some (lstObj #[] 2) := (Heap.get?_update_self (Obj.mapSeq (·.pop)) hS₃ rfl).trans (by simp [Obj.mapSeq])
  have hk₄ : ∀ b o, b ≠ S → h₂.get? b = some o → ((h₂.update S (Obj.mapSeq (·.push Value.none))).update S (Obj.mapSeq (·.pop))).get? b = some o :=
    fun b o hb q => (Heap.get?_update_other _ _ (Ne.symm hb)).trans ((Heap.get?_update_other _ _ (Ne.symm hb)).trans q)
  have hz₄ : ((h₂.update S (Obj.mapSeq (·.push Value.none))).update S (Obj.mapSeq (·.pop))).objs.size = h₂.objs.size := by rw [Heap.size_after_update, Heap.size_after_update]
  generalize ((h₂.update S (Obj.mapSeq (·.push Value.none))).update S (Obj.mapSeq (·.pop))) = h₄ at hS₄ hk₄ hz₄ ⊢
  have nB : ∀ b o, s.heap.get? b = some o → b ≠ S := fun b o q hq => by subst hq; rw [hSn] at q; cases q
  have nS : B.get? S = none := by
    cases q : B.get? S with
    | none => rfl
    | some o => have := hB _ _ q; rw [hSn] at this; cases this
  have hk : ∀ b o, s.heap.get? b = some o → h₄.get? b = some o := fun b o q => hk₄ b o (nB b o q) (hk₂ _ _ (hk₁ _ _ q))
  refine wpAny_pure ⟨plainId_quiet F.plain_extend_loop _, ext_loop (rest := []) (S := S) (n1 := n1) (n2 := n2) (fl := fl) (sk := sk) (dx := dx) (it := it) (q := q) e XB TB (below_in1 Bw) Fb (fun _ h => nomatch h) (fun _ h => nomatch h) nd ?_ hh hdp (by show A.units + 1 + 50 < cLine; omega) hsz' he items.size 0 _ #[] 2 rfl (Nat.zero_le _) (Nat.le_refl _) (fun b o hb => hk _ _ (hB b o hb)) ?_ ?_ fun h' tk' hm => ?_⟩
  · intro hm
    simp only [List.mem_cons, List.not_mem_nil, or_false] at hm
    rcases hm with hm | hm | hm | hm | hm | hm
    · exact (N (it, iterObj fl 0) (by simp)).2.1 hm.symm
    · exact (N (x, ffObj 109 dx it q) (by simp)).2.1 hm.symm
    · exact (N (dx, dictOf [] 0) (by simp)).2.1 hm.symm
    · exact (N (q, mwObj sk) (by simp)).2.1 hm.symm
    · exact (N (fl, lstObj items n1) (by simp)).2.1 hm.symm
    · exact (N (sk, lstObj skip n2) (by simp)).2.1 hm.symm
  · show B.objs.size ≤ h₄.objs.size
    have hlt₃ : h₁.objs.size < h₂.objs.size := hlt₂
    omega
  · intro p hp
    have hin : p = (S, lstObj #[] 2) ∨ p ∈ ffNews 109 x dx q it fl sk items skip n1 n2 [] 0 := by
      simp only [ffNews, List.mem_cons, List.not_mem_nil, or_false] at hp ⊢
      rcases hp with h | h | h | h | h | h | h <;> simp [h]
    rcases hin with rfl | hin
    · exact ⟨hS₄, Nat.ne_of_lt (Heap.lt_size hS₄), nS⟩
    · have hp' := hk _ _ (N p hin).1
      exact ⟨hp', Nat.ne_of_lt (Heap.lt_size hp'), (N p hin).2.2⟩
  · exact ⟨rfl, hQ S h' _ hSn (by simpa using hm)⟩
end Mine
end

section
open PySem PySem.W PyProof.Rows PySem.Spec PySem.Calls PySem.SeqAt
set_option Elab.async false
set_option maxRecDepth 100000
set_option maxHeartbeats 8000000
namespace Mine
local macro_rules | `(tactic| walk_at "pad 0") => `(tactic| skip)
local macro_rules | `(tactic| k_room) => `(tactic| ktr_room)
local macro_rules | `(tactic| k_units) => `(tactic| ktr_units)
local macro_rules | `(tactic| walk_at "my_stop") => `(tactic| with_reducible show wpAny _ _ (call (Value.type "list") _) _ _ _)
local macro_rules | `(tactic| walk_at "my_steps") => `(tactic| repeat' ((fail_if_success walk_at "my_stop"); first | (k_unfold; (try dsimp only)) | (k_end; wrow_close) | walk1 | (dsimp only; walk1) | (leave1; walk_say "STEP leave1"; try dsimp only) | fail "no step"))
local macro_rules | `(tactic| walk_at "getAttr ref") => `(tactic| (k_here; (with_reducible show wpAny _ _ (getAttr (Value.ref _) (PySem.Str.ofString "__contains__") _) _ _ _); k_dflt (refine' k_contains ?F ?N ?m ?_; (case F => k_asm); (case N => k_asm); (case m => k_mem); k_whole); intro q' h' F' N' l1; (try k_lt l1); (try k_sweep)))
local macro_rules | `(tactic| walk_at "call builtin:iter") => `(tactic| (k_here; (with_reducible show wpAny _ _ (call (Value.builtin "iter") [Value.ref _]) _ _ _); k_dflt (refine' k_iter_list ?F ?N ?m ?_; (case F => k_asm); (case N => k_asm); (case m => k_mem); k_whole); intro q' h' F' N' l1; (try k_lt l1); (try k_sweep)))

theorem filter_end {w : World} {lo : List Str} {mean : ExcName → Option Value} {mg mb : Str → Option Value} {A : Around} {E : Value → Shared → Prop} {s : Shared} {l : List Env} {base B₀ : Heap} {name : Str} {scope : Scope} {cd : Value} {f L x dx q it fl sk : Addr} {m : Str → Option Value} {items skip : Array Value} {n1 n2 : Nat} {Q : Value → Shared → Prop} (e : Value → Value → Bool)
    (XB : (hd.heap_1 w.params).In base) (TB : Top hdView lo mean mg mb base)
    (Bw : Below A base l B₀) (hbs : base.objs.size ≤ B₀.objs.size) (hk : scope.kind = .function) (kF : Fr B₀ L s.heap m) (kN : News B₀ L s.heap (ffNews 109 x dx q it fl sk items skip n1 n2 [] 0)) (nd : it ∉ [x, dx, q, fl, sk])
    (hh : A.handled = none) (hdp : A.depth + 6 < recursionLimit) (hun : A.units + 80 < cLine) (hsz' : items.size ≤ sizeLine)
    (he : ∀ y, y ∈ skip → ∀ z, z ∈ items → ∀ A s, EqAt A s y z (e y z))
    (hQ : ∀ S h' tk' c, s.heap.get? S = none → h'.get? S = some (lstObj (sieve e skip items.toList).toArray c) → h'.get? fl = some (lstObj items n1) → h'.get? sk = some (lstObj skip n2) →
      (∀ b o, B₀.get? b = some o → b ∉ l.filterMap (·.frame) → h'.get? b = some o) → B₀.UpToSlots h' → Q (.ref S) { s with heap := h', toks := tk' }) :
    wpAny (model PySem.Challenge.rw_il0163_01.row.prog w) (A.deeper (envOf name scope L f cd)) (call (.type "list") [.ref x]) Q E s := by
  have B₁ := Bw.push (name := name) (scope := scope) (a := f) (cd := cd) kF hk
  have none_of : ∀ a ∈ [it, x, dx, q, fl, sk], B₀.get? a = none ∧ a ≠ L := fun a ha => by
    have : ∃ o, (a, o) ∈ ffNews 109 x dx q it fl sk items skip n1 n2 [] 0 := by
      simp only [List.mem_cons, List.not_mem_nil, or_false] at ha
      rcases ha with h | h | h | h | h | h
      · exact ⟨iterObj fl 0, by simp [h]⟩
      · exact ⟨ffObj 109 dx it q, by simp [h]⟩
      · exact ⟨dictOf [] 0, by simp [h]⟩
      · exact ⟨mwObj sk, by simp [h]⟩
      · exact ⟨lstObj items n1, by simp [h]⟩
      · exact ⟨lstObj skip n2, by simp [h]⟩
    obtain ⟨o, ho⟩ := this
    exact ⟨(kN _ ho).2.2, (kN _ ho).2.1⟩
  have ofH : ∀ b o, B₀.get? b = some o → (hideAll s.heap [it, x, dx, q, fl, sk]).get? b = some o := fun b o hb => hideAll_get _ (kF.keep b o hb) fun hm => by rw [(none_of b hm).1] at hb; cases hb
  have hL : ∀ o, s.heap.get? L = some o → (hideAll s.heap [it, x, dx, q, fl, sk]).get? L = some o := fun o ho => hideAll_get _ ho fun hm => (none_of L hm).2 rfl
  refine list_own (B := hideAll s.heap [it, x, dx, q, fl, sk]) (Lf := L) (mf := m) (l := envOf name scope L f cd :: l) (base := base) (n1 := n1) (n2 := n2) (it := it) (dx := dx) (q := q) (fl := fl) (sk := sk) e XB TB ⟨B₁.stack, fun b o hb => ofH b o (Bw.stays b o hb), ?_⟩ ?_ nd (fun b o hb => of_hideAll _ hb) (Nat.le_of_eq (hideAll_size _ _)) (fun p hp => ?_) hh (by show A.depth + 1 + 4 < recursionLimit; omega) (by show A.units + 3 + 60 < cLine; omega) hsz' he (fun S h' tk' hS hm => ?_)
  · exact funFrames_hideAll B₁.frames fun env he a ha hf => by
      rcases List.mem_cons.mp he with rfl | he
      · exact (none_of a ha).2 (Option.some.inj hf).symm
      · obtain ⟨_, o, ho, _⟩ := Bw.frames.mem (List.mem_filterMap.mpr ⟨env, he, hf⟩)
        rw [(none_of a ha).1] at ho; cases ho
  · obtain ⟨oL, es, ep, h1, h2, h3, h4⟩ := kF.ns
    exact ⟨⟨oL, es, ep, hL _ h1, h2, h3, h4⟩, fun b o hb => ofH b o (Bw.stays b o hb), Nat.le_trans hbs kF.above⟩
  · have hp' := kN p hp
    refine ⟨hp'.1, Nat.ne_of_lt (Heap.lt_size hp'.1), hideAll_none _ ?_⟩
    simp only [ffNews, List.mem_cons, List.not_mem_nil, or_false] at hp ⊢
    rcases hp with h | h | h | h | h | h <;> simp [h]
  · obtain ⟨c, hc⟩ := hm.list
    have hLB : B₀.get? L = none := kts_self kF
    refine hQ S h' tk' c hS hc (hm.news (fl, lstObj items n1) (by simp)) (hm.news (sk, lstObj skip n2) (by simp)) (fun b o hb hn => hm.same b o (ofH b o hb) fun hmm => ?_) fun b o hb hn => hm.frames b o (ofH b o hb) hn
    rcases kts_mem hmm with z | z
    · subst z; rw [hLB] at hb; cases hb
    · exact hn z

theorem filter_raw {w : World} {lo : List Str} {mean : ExcName → Option Value} {mg mb : Str → Option Value} {dp un : Nat} {gd : Option (List Code)} {E : Value → Shared → Prop} {s : Shared} {l : List Env} {base : Heap} {fl sk : Addr} {items skip : Array Value} {n1 n2 : Nat} {Q : Value → Shared → Prop} (e : Value → Value → Bool)
    (XB : (hd.heap_1 w.params).In base) (TB : Top hdView lo mean mg mb base)
    (hst : base.StaysIn s.heap) (hbs : base.objs.size ≤ s.heap.objs.size) (hfr : s.heap.FunFrames base l) (hfl : s.heap.get? fl = some (lstObj items n1)) (hsk : s.heap.get? sk = some (lstObj skip n2)) (bfl : base.get? fl = none) (bsk : base.get? sk = none)
    (ffl : fl ∉ l.filterMap (·.frame)) (fsk : sk ∉ l.filterMap (·.frame))
    (hdp : dp + 12 < recursionLimit) (hun : un + 120 < cLine) (hsz' : items.size ≤ sizeLine)
    (he : ∀ y, y ∈ skip → ∀ z, z ∈ items → ∀ A s, EqAt A s y z (e y z))
    (hQ : ∀ S h' tk' c, s.heap.get? S = none → h'.get? S = some (lstObj (sieve e skip items.toList).toArray c) → (∀ b o, s.heap.get? b = some o → b ∉ l.filterMap (·.frame) → h'.get? b = some o) → s.heap.UpToSlots h' → Q (.ref S) { s with heap := h', toks := tk' }) :
    wpAny (model PySem.Challenge.rw_il0163_01.row.prog w) { handled := none, depth := dp, frames := some l, guards := gd, units := un } (call (.ref 120) [.ref fl, .ref sk]) Q E s := by
  revert XB
  w_top off
  k_fill
  intro XB
  have hst₀ : base.StaysIn (hideAll s.heap [fl, sk]) := fun b o q => hideAll_get _ (hst b o q) fun hm => by
    simp only [List.mem_cons, List.not_mem_nil, or_false] at hm
    rcases hm with rfl | rfl
    · rw [bfl] at q; cases q
    · rw [bsk] at q; cases q
  have Bw : Below { handled := none, depth := dp, frames := some l, guards := gd, units := un } base l (hideAll s.heap [fl, sk]) := ⟨rfl, hst₀, funFrames_hideAll hfr fun env he a ha hf => by
    have hm : a ∈ l.filterMap (·.frame) := List.mem_filterMap.mpr ⟨env, he, hf⟩
    simp only [List.mem_cons, List.not_mem_nil, or_false] at ha
    rcases ha with rfl | rfl
    · exact ffl hm
    · exact fsk hm⟩
  have N : News (hideAll s.heap [fl, sk]) s.heap.objs.size s.heap [(fl, lstObj items n1), (sk, lstObj skip n2)] := fun p hp => by
    simp only [List.mem_cons, List.not_mem_nil, or_false] at hp
    rcases hp with rfl | rfl
    · exact ⟨hfl, Nat.ne_of_lt (Heap.lt_size hfl), hideAll_none _ (by simp)⟩
    · exact ⟨hsk, Nat.ne_of_lt (Heap.lt_size hsk), hideAll_none _ (by simp)⟩
  refine enter_raw (binds := [(Str.ofString "flist", .ref fl), (Str.ofString "skip", .ref sk)]) (f := 120) (XB.keeps hst₀) (TB.keeps hst₀) (fun b o q => of_hideAll _ q) (Nat.le_of_eq (hideAll_size _ _)) N rfl rfl (by show dp < _; omega) (BindsTo.of_eq rfl) (locs rfl) (fun h₁ tk F N₁ hk₁ => ?_) rfl rfl rfl (by decide)
  have XB₀ := XB.keeps hst₀
  have TB₀ := TB.keeps hst₀
  have ofB : ∀ b o, (hideAll s.heap [fl, sk]).get? b = some o → s.heap.get? b = some o := fun b o q => of_hideAll _ q
  have toB : ∀ b o, s.heap.get? b = some o → b ∉ [fl, sk] → (hideAll s.heap [fl, sk]).get? b = some o := fun b o q h => hideAll_get _ q h
  have hbs₀ : base.objs.size ≤ (hideAll s.heap [fl, sk]).objs.size := by rw [hideAll_size]; exact hbs
  clear N hbs
  generalize (hideAll s.heap [fl, sk]) = B₀ at *
  generalize s.heap.objs.size = L at *
  have hdp' := hdp
  have hun' := hun
  (try k_unmd)
  k_fold
  walk_at "my_steps"
  refine filter_end e XB TB Bw hbs₀ rfl (by assumption) (by assumption) ?_ rfl (by show dp + 6 < _; omega) (by show un + 80 < _; omega) hsz' he (fun S h' tk' c h1 h2 h3 h4 h5 h6 => ?_)
  · simp only [List.mem_cons, List.not_mem_nil, or_false, not_or]
    exact ⟨neN (by omega), neN (by omega), neN (by omega), neN (by omega), neN (by omega)⟩
  · rename Fr B₀ L _ _ => kF
    rename News B₀ L _ _ => kN
    have back : ∀ b o, s.heap.get? b = some o → b ∉ l.filterMap (·.frame) → h'.get? b = some o := fun b o hb hn => by
      by_cases hm : b ∈ [fl, sk]
      · simp only [List.mem_cons, List.not_mem_nil, or_false] at hm
        rcases hm with rfl | rfl
        · rw [hfl] at hb; cases hb; exact h3
        · rw [hsk] at hb; cases hb; exact h4
      · exact h5 b o (toB b o hb hm) hn
    refine hQ S h' _ c ?_ h2 back fun b o hb hn => ?_
    · cases q : s.heap.get? S with
      | none => rfl
      | some o =>
        exfalso
        by_cases hm : S ∈ [fl, sk]
        · simp only [List.mem_cons, List.not_mem_nil, or_false] at hm
          rcases hm with rfl | rfl
          · have := (kN (S, lstObj items n1) (by simp)).1; rw [h1] at this; cases this
          · have := (kN (S, lstObj skip n2) (by simp)).1; rw [h1] at this; cases this
        · have := kF.keep _ _ (toB S o q hm); rw [h1] at this; cases this
    · by_cases hm : b ∈ [fl, sk]
      · simp only [List.mem_cons, List.not_mem_nil, or_false] at hm
        rcases hm with rfl | rfl
        · rw [hfl] at hb; cases hb; exact ⟨_, h3⟩
        · rw [hsk] at hb; cases hb; exact ⟨_, h4⟩
      · exact h6 b o (toB b o hb hm) hn
end Mine
end

section
open PySem PySem.W PyProof.Rows PySem.Spec PySem.Calls PySem.SeqAt
set_option Elab.async false
set_option maxRecDepth 100000
set_option maxHeartbeats 8000000
namespace Mine
local macro_rules | `(tactic| k_room) => `(tactic| ktr_room)
local macro_rules | `(tactic| k_units) => `(tactic| ktr_units)

/-- a call that changes nothing of what stood: what it asks of the heap, what it gives -/
def Pure (prog : Program) (w : World) (K : Frag) (p : Program) (lo : List Str) (mean : ExcName → Option Value) (mg mb : Str → Option Value) (dd uu : Nat) (f : Addr) (args : List Value) (Pre : Heap → Prop) (Post : Heap → Value → Heap → Prop) : Prop :=
  ∀ (A : Around) (s : Shared) (Q E : Value → Shared → Prop), K.In s.heap → Top p lo mean mg mb s.heap → A.handled = none → A.depth + dd < recursionLimit → A.units + uu < cLine → Pre s.heap →
    (∀ v h' tk', s.heap.StaysIn h' → Post s.heap v h' → Q v { s with heap := h', toks := tk' }) → wpAny (model prog w) A (call (.ref f) args) Q E s

theorem Pure.use {prog : Program} {w : World} {K : Frag} {p : Program} {lo : List Str} {mean : ExcName → Option Value} {mg mb : Str → Option Value} {dd uu : Nat} {f : Addr} {args : List Value} {Pre : Heap → Prop} {Post : Heap → Value → Heap → Prop}
    (S : Pure prog w K p lo mean mg mb dd uu f args Pre Post) {A : Around} {s : Shared} {Q E : Value → Shared → Prop} {h₀ : Heap} {L : Addr} {m : Str → Option Value} {news : List (Addr × Obj)}
    (F : Fr h₀ L s.heap m) (N : News h₀ L s.heap news) (X : K.In h₀) (T : Top p lo mean mg mb h₀) (hh : A.handled = none) (hd : A.depth + dd < recursionLimit) (hu : A.units + uu < cLine) (hp : Pre s.heap)
    (k : ∀ v h' tk', Fr h₀ L h' m → News h₀ L h' news → s.heap.StaysIn h' → Post s.heap v h' → Q v { s with heap := h', toks := tk' }) : wpAny (model prog w) A (call (.ref f) args) Q E s :=
  S A s Q E (X.keeps F.keep) (T.keeps F.keep) hh hd hu hp fun v h' tk' hk hP => k v h' tk' (fr_grow' F hk) (fun q hq => ⟨hk _ _ (N q hq).1, (N q hq).2⟩) hk hP

theorem sp_ifmt {w : World} {lo : List Str} {mean : ExcName → Option Value} {mg mb : Str → Option Value} (x : Int) (tk : Tok) :
    Pure PySem.Challenge.rw_il0163_01.row.prog w (hd.heap_1 w.params) hdView lo mean mg mb 4 20 28 [.int x tk] (fun _ => True) (fun _ v _ => ∃ t, v = .int (Builtin.bitAnd x 61440) t) := by
  w_top off
  k_fill
  intro A s Q E X T hh hd hu _ hQ
  refine enter_raw (binds := [(Str.ofString "mode", .int x tk)]) (f := 28) X T (fun _ _ q => q) (Nat.le_refl _) News.nil rfl rfl (by omega) (BindsTo.of_eq rfl) (locs rfl) (fun h₁ tk F N₁ hk₁ => ?_) rfl rfl rfl (by decide)
  generalize s.heap.objs.size = L at *
  (try k_unmd)
  k_fold
  k_steps
  rename Fr _ _ _ _ => F₁
  exact hQ _ _ _ F₁.keep ⟨_, rfl⟩
theorem sp_imode {w : World} {lo : List Str} {mean : ExcName → Option Value} {mg mb : Str → Option Value} (x : Int) (tk : Tok) :
    Pure PySem.Challenge.rw_il0163_01.row.prog w (hd.heap_1 w.params) hdView lo mean mg mb 4 20 21 [.int x tk] (fun _ => True) (fun _ v _ => ∃ t, v = .int (Builtin.bitAnd x 4095) t) := by
  k_fill
  intro A s Q E X T hh hd hu _ hQ
  refine enter_raw (binds := [(Str.ofString "mode", .int x tk)]) (f := 21) X T (fun _ _ q => q) (Nat.le_refl _) News.nil rfl rfl (by omega) (BindsTo.of_eq rfl) (locs rfl) (fun h₁ tk F N₁ hk₁ => ?_) rfl rfl rfl (by decide)
  generalize s.heap.objs.size = L at *
  (try k_unmd)
  k_fold
  k_steps
  rename Fr _ _ _ _ => F₁
  exact hQ _ _ _ F₁.keep ⟨_, rfl⟩
end Mine
end

section
open PySem PySem.W PyProof.Rows PySem.Spec PySem.Calls PySem.SeqAt
set_option Elab.async false
set_option maxRecDepth 100000
set_option maxHeartbeats 8000000
namespace Mine
local macro_rules | `(tactic| walk_at "pad 0") => `(tactic| skip)
local macro_rules | `(tactic| k_room) => `(tactic| ktr_room)
local macro_rules | `(tactic| k_units) => `(tactic| ktr_units)
local macro_rules | `(tactic| walk_at "my_stop") => `(tactic| with_reducible show wpAny _ _ (exec (Stmt.For _ _ _ _ _) _) _ _ _)
local macro_rules | `(tactic| walk_at "my_stop") => `(tactic| with_reducible show wpAny _ _ (call (Value.type "enumerate") _) _ _ _)
local macro_rules | `(tactic| walk_at "my_stop") => `(tactic| with_reducible show wpAny _ _ (call (Value.ref _) _) _ _ _)
local macro_rules | `(tactic| walk_at "my_stop") => `(tactic| with_reducible show wpAny _ _ (pyIter (Value.ref _)) _ _ _)
local macro_rules | `(tactic| walk_at "my_stop") => `(tactic| with_reducible refine Exists.intro ?_ ?_)
local macro_rules | `(tactic| walk_at "my_steps") => `(tactic| repeat' ((try ((with_reducible show wpAny _ _ (execs (_ :: _) _) _ _ _); k_fold; (try dsimp only))); (fail_if_success walk_at "my_stop"); first | (k_unfold; (try dsimp only)) | (k_end; wrow_close) | (dsimp only; walk1) | walk1 | (leave1; walk_say "STEP leave1"; try dsimp only) | fail "no step"))

theorem sp_filemode {w : World} {lo : List Str} {mean : ExcName → Option Value} {mg mb : Str → Option Value} (x : Int) (tx : Tok) :
    Pure PySem.Challenge.rw_il0163_01.row.prog w (hd.heap_1 w.params) hdView lo mean mg mb 8 40 68 [.int x tx] (fun _ => True) (fun _ v _ => ∃ t, v = .str (modeText x) t) := by
  w_top off
  k_fill
  intro A s Q E X T hh hd hu _ hQ
  obtain ⟨ah, ad, af, ag, au⟩ := A
  obtain rfl : ah = none := hh
  replace hd : ad + 8 < recursionLimit := hd
  replace hu : au + 40 < cLine := hu
  refine enter_raw (binds := [(Str.ofString "mode", .int x tx)]) (f := 68) X T (fun _ _ q => q) (Nat.le_refl _) News.nil rfl rfl (by show ad < _; omega) (BindsTo.of_eq rfl) (locs rfl) (fun h₁ tk₀ F N₁ hk₁ => ?_) rfl rfl rfl (by decide)
  generalize s.heap.objs.size = L at *
  (try k_unmd)
  k_fold
  walk_at "my_steps"
  refine wpAny_For ?_
  walk_at "my_steps"
  have hTabs : ∃ rs n, s.heap.get? 61 = some (tupObj rs n) ∧ TablesAt s.heap rs.toList modeTabs := by
    refine ⟨_, _, X 61 _ rfl, ?_⟩
    unfold modeTabs
    repeat' first
      | exact True.intro
      | exact ⟨_, _, _, X _ _ rfl⟩
      | refine ⟨_, _, X _ _ rfl, ?_⟩
      | refine And.intro ?_ ?_
  obtain ⟨rs, rn, hTab, hTabs⟩ := hTabs
  rename_i P h₁a l1a h₂ F₂ N₂
  have hlen : rs.toList.length = 10 := hTabs.length
  refine call_enumT (s := { s with heap := h₂, toks := tk }) (F₂.keep _ _ hTab) (fun h₃ he hi hz hk₃ => ?_)
  dsimp only at he hi hz hk₃ ⊢
  generalize hit : h₂.objs.size = it at *
  refine wpAny_pyIter_enum he ?_
  have hPlt : @LT.lt Nat _ P it := hit ▸ Heap.lt_size (N₂ (P, lstObj #[] 0) (by simp)).1
  have hLlt : L < it := hit ▸ fr_lt F₂
  have bnone : ∀ a, it ≤ a → s.heap.get? a = none := fun a ha => by
    cases q : s.heap.get? a with
    | none => rfl
    | some o => exact absurd (hit ▸ Heap.lt_size (F₂.keep _ _ q)) (Nat.not_lt.mpr ha)
  refine codeAny_forLoop_any (FmI s.heap L s x tx P (it + 1) it 61) (fun n s' hI => ?_) 11 ?_
  · obtain ⟨i, h', tk', o1, o2, o3, o4, old, vs, c, hn, hi10, rfl, F', N', hS⟩ := hI
    have Hen := N' (it + 1, enObj .none it i old) (by simp)
    have Hti := N' (it, tiObj 61 i) (by simp)
    have HPl := N' (P, lstObj vs.toArray c) (by simp)
    rcases Nat.lt_or_ge i 10 with hlt | hge
    · have hi' : i < rs.toList.length := by omega
      have hv : rs[i]? = some (rs.toList[i]) := by rw [← Array.getElem?_toList, List.getElem?_eq_getElem hi']
      obtain ⟨t2, ps, hv2, hps, hT2⟩ := hTabs.get (List.getElem?_eq_getElem hi')
      rw [hv2] at hv
      refine enumT_next Hen.1 Hti.1 (F'.keep _ _ hTab) hv (Nat.succ_ne_self it) (fun h₄ he₄ hi₄ hT₄ hz₄ hk₄ => ?_)
      dsimp only
      refine wpAny_letOwnedTupleGo_enum he₄ (fun h₅ he₅ hs₅ => ?_)
      dsimp only at hs₅ ⊢
      have hTe : h'.objs.size ≠ it + 1 := Nat.ne_of_gt (Heap.lt_size Hen.1)
      have hTi : h'.objs.size ≠ it := Nat.ne_of_gt (Heap.lt_size Hti.1)
      have kk : ∀ b o, b ≠ it + 1 → b ≠ it → h'.get? b = some o → h₅.get? b = some o := fun b o h1 h2 q => (hs₅.2 b h1).trans (hk₄ b o h1 h2 q)
      have F₅ : Fr s.heap L h₅ (fmNames x tx P o1 o2 o3 o4) := ⟨F'.ns.at' fun o q => kk _ o (by omega) (by omega) q, fun b o q => kk b o (fun z => by rw [z, bnone _ (Nat.le_succ it)] at q; cases q) (fun z => by rw [z, bnone _ (Nat.le_refl it)] at q; cases q) (F'.keep b o q), F'.above⟩
      have N₅ : News s.heap L h₅ [(h'.objs.size, tupObj #[.int i tk', .ref t2] 0), (it + 1, enObj .none it (i + 1) (.ref t2)), (it, tiObj 61 (i + 1)), (P, lstObj vs.toArray c)] := fun p hp => by
        simp only [List.mem_cons, List.not_mem_nil, or_false] at hp
        rcases hp with rfl | rfl | rfl | rfl
        · exact ⟨(hs₅.2 _ hTe).trans hT₄, Nat.ne_of_gt (fr_lt F'), bnone _ (Nat.le_of_lt (Heap.lt_size Hti.1))⟩
        · exact ⟨he₅, Hen.2⟩
        · exact ⟨(hs₅.2 _ (Nat.ne_of_lt (Nat.lt_succ_self it))).trans hi₄, Hti.2⟩
        · exact ⟨kk _ _ (Nat.ne_of_lt (Nat.lt_succ_of_lt hPlt)) (Nat.ne_of_lt hPlt) HPl.1, HPl.2⟩
      have hPTu := ltN (Heap.lt_size HPl.1)
      have hvl : vs.toArray.size ≤ sizeLine := by
        have := strsAre_len hS
        rw [List.size_toArray, this, List.length_map]
        unfold signsUpTo
        rw [List.length_map, List.length_take]
        exact Nat.le_trans (Nat.min_le_left _ _) (Nat.le_trans hi10 (by decide))
      generalize h'.objs.size = Tu at *
      clear hk₄ hs₅ hT₄ he₄ hi₄ hz₄ he₅
      walk_at "my_steps"
      refine wpAny_For ?_
      walk_at "my_steps"
      rename_i F₆ N₆
      obtain ⟨n2, rs2, hT2g, hps2⟩ := hT2
      have hlen2 := hps2.length
      refine wpAny_pyIter_tuple ⟨_, F₆.keep _ _ hT2g, rfl, _, rfl⟩ ?_
      dsimp only
      rename Heap => h₆
      have F₇ := fr_grow' F₆ (h' := h₆.push (tiObj t2 0)) fun b o q => Heap.get?_push_of_some _ q
      have N₇ := N₆.push F₆ (tiObj t2 0)
      have hlt2 := lt_size_of_news N₆
      have b2 : s.heap.get? h₆.objs.size = none := (N₇ _ (.head _)).2.2
      generalize h₆.push (tiObj t2 0) = h₇ at *
      generalize h₆.objs.size = it2 at *
      have hP2 := ltN (hlt2 (P, lstObj vs.toArray c) (by simp))
      have hT2' := ltN (hlt2 (Tu, tupObj #[.int i tk', .ref t2] 0) (by simp))
      have fin : ∀ (h' : Heap) (tk : Nat) (o5 o6 : Option Value) (ch : Nat) (tS : Tok) (c' : Nat), ch = signOf x i ps → Fr s.heap L h' (fmNames x tx P o5 o6 (some (.ref t2)) (some (.int i tk'))) →
          News s.heap L h' [(it + 1, enObj .none it (i + 1) (.ref t2)), (it, tiObj 61 (i + 1)), (P, lstObj (vs.toArray.push (.str ⟨#[ch]⟩ tS)) c')] → ∃ m, m < n ∧ FmI s.heap L s x tx P (it + 1) it 61 m { s with heap := h', toks := tk } := by
        rintro h' tk o5 o6 ch tS c' rfl F' N'
        refine ⟨11 - (i + 1), by omega, ⟨i + 1, h', tk, o5, o6, some (.ref t2), some (.int i tk'), .ref t2, vs ++ [.str ⟨#[signOf x i ps]⟩ tS], c', rfl, by omega, rfl, F', ?_, ?_⟩⟩
        · have e1 : (vs ++ [Value.str ⟨#[signOf x i ps]⟩ tS]).toArray = vs.toArray.push (.str ⟨#[signOf x i ps]⟩ tS) := by simp
          rw [e1]; exact N'
        · rw [signsUpTo_succ hps]; exact hS.snoc
      refine codeAny_forLoop_any (FmJ s.heap L s x tx P (it + 1) it 61 Tu it2 t2 i tk' (.ref t2) ps vs c) (fun n₂ s'' hJ => ?_) (ps.length + 1) ?_
      · obtain ⟨j, h₈, tk₈, o5, o6, hn2, hj, rfl, F₈, N₈, hno⟩ := hJ
        have Nt := N₈ (it2, tiObj t2 j) (by simp)
        have hne2 : ∀ p ∈ [(Tu, tupObj #[Value.int (i : Int) tk', .ref t2] 0), (it + 1, enObj .none it (i + 1) (.ref t2)), (it, tiObj 61 (i + 1)), (P, lstObj vs.toArray c)], p.1 ≠ it2 := fun p hp => Nat.ne_of_lt (hlt2 p hp)
        rcases Nat.lt_or_ge j ps.length with hjl | hjg
        · have hj' : j < rs2.toList.length := by omega
          have hv3 : rs2[j]? = some (rs2.toList[j]) := by rw [← Array.getElem?_toList, List.getElem?_eq_getElem hj']
          obtain ⟨a, b, ch, t, t', n', hva, hpj, hag⟩ := hps2.get (List.getElem?_eq_getElem hj')
          rw [hva] at hv3
          refine pyNext_tuple Nt.1 (F₈.keep _ _ hT2g) hv3 (fun h₉ hit₉ hs₉ => ?_)
          dsimp only
          refine letGo_tupleiter (s' := ⟨h₉, _, _, _, _⟩) ⟨_, hit₉, rfl, rfl⟩ ?_
          have hb9 : ∀ b o, s.heap.get? b = some o → b ≠ it2 := fun b o q z => by rw [z, b2] at q; cases q
          have F₉ : Fr s.heap L h₉ (fmNames x tx P o5 o6 (some (.ref t2)) (some (.int i tk'))) := ⟨F₈.ns.at' fun o q => (hs₉.2 _ (_root_.Ne.symm Nt.2.1)).trans q, fun b o q => (hs₉.2 b (hb9 b o q)).trans (F₈.keep b o q), F₈.above⟩
          have N₉ : News s.heap L h₉ [(it2, tiObj t2 (j + 1)), (Tu, tupObj #[Value.int (i : Int) tk', .ref t2] 0), (it + 1, enObj .none it (i + 1) (.ref t2)), (it, tiObj 61 (i + 1)), (P, lstObj vs.toArray c)] := fun p hp => by
            rcases List.mem_cons.mp hp with rfl | hp
            · exact ⟨hit₉, Nt.2⟩
            · exact ⟨(hs₉.2 _ (hne2 p hp)).trans (N₈ p (List.mem_cons_of_mem _ hp)).1, (N₈ p (List.mem_cons_of_mem _ hp)).2⟩
          have hTa : IsTup h₉ a #[.int b t, .str ⟨#[ch]⟩ t'] := ⟨_, F₉.keep _ _ hag, rfl, _, rfl⟩
          clear hs₉ hit₉ F₈ N₈ F₇ N₇ F₆ N₆
          have nmEq : ∀ (y : Str), (if y = Str.ofString "char" then some (Value.str ⟨#[ch]⟩ t') else if y = Str.ofString "bit" then some (Value.int b t) else fmNames x tx P o5 o6 (some (.ref t2)) (some (.int i tk')) y) = fmNames x tx P (some (.str ⟨#[ch]⟩ t')) (some (.int b t)) (some (.ref t2)) (some (.int i tk')) y := fun y => by
            unfold fmNames
            by_cases h1 : y = Str.ofString "char"
            · rw [if_pos h1, if_pos h1]
            · by_cases h2 : y = Str.ofString "bit"
              · rw [if_neg h1, if_pos h2, if_neg h1, if_pos h2]
              · rw [if_neg h1, if_neg h2, if_neg h1, if_neg h2, if_neg h1, if_neg h2]
          walk_at "my_steps"
          · rename Fr _ _ _ _ => F'
            rename News _ _ _ _ => N'
            rename (i : Int) = 0 => hi0
            refine (sp_ifmt x tx).use F' N' X T rfl (by show ad + 1 + 4 < _; omega) (by show au + 3 + 20 < _; omega) trivial (fun v h' tk' F' N' _ hv => ?_)
            obtain ⟨tv, rfl⟩ := hv
            walk_at "my_steps"
            · rename Fr _ _ _ _ => F'
              rename News _ _ _ _ => N'
              rename Builtin.bitAnd x 61440 = b => hb
              exact fin _ _ _ _ ch t' _ (signOf_hit hpj (by unfold hits; rw [if_pos (by omega)]; simpa using hb) hno).symm (fr_cong F' nmEq) (fun p hp => N' p (List.mem_cons_of_mem _ (List.mem_cons_of_mem _ hp)))
            · rename Fr _ _ _ _ => F'
              rename News _ _ _ _ => N'
              rename Builtin.bitAnd x 61440 ≠ b => hb
              refine ⟨ps.length + 1 - (j + 1), by omega, ⟨j + 1, _, _, _, _, rfl, by omega, rfl, fr_cong F' nmEq, N', fun k b' c'' hk hpk => ?_⟩⟩
              rcases Nat.lt_or_ge k j with hkj | hkj
              · exact hno k b' c'' hkj hpk
              · obtain rfl : k = j := by omega
                rw [hpj] at hpk; cases hpk
                unfold hits
                rw [if_pos (by omega)]
                simpa using hb
          · rename Fr _ _ _ _ => F'
            rename News _ _ _ _ => N'
            rename Builtin.bitAnd x b = b => hb
            rename (i : Int) ≠ 0 => hi0
            exact fin _ _ _ _ ch t' _ (signOf_hit hpj (by unfold hits; rw [if_neg (by omega)]; simpa using hb) hno).symm (fr_cong F' nmEq) (fun p hp => N' p (List.mem_cons_of_mem _ (List.mem_cons_of_mem _ hp)))
          · rename Fr _ _ _ _ => F'
            rename News _ _ _ _ => N'
            rename Builtin.bitAnd x b ≠ b => hb
            rename (i : Int) ≠ 0 => hi0
            refine ⟨ps.length + 1 - (j + 1), by omega, ⟨j + 1, _, _, _, _, rfl, by omega, rfl, fr_cong F' nmEq, N', fun k b' c'' hk hpk => ?_⟩⟩
            rcases Nat.lt_or_ge k j with hkj | hkj
            · exact hno k b' c'' hkj hpk
            · obtain rfl : k = j := by omega
              rw [hpj] at hpk; cases hpk
              unfold hits
              rw [if_neg (by omega)]
              simpa using hb
        · obtain rfl : j = ps.length := Nat.le_antisymm hj hjg
          refine wpAny_pyNext_tuple_end (t := t2) (i := ps.length) (items := rs2) rfl ⟨_, Nt.1, rfl, rfl⟩ ⟨_, F₈.keep _ _ hT2g, rfl, _, rfl⟩ (Array.getElem?_eq_none (by rw [← Array.length_toList]; omega)) (fun h₉ hs₉ => ?_)
          dsimp only
          have hb9 : ∀ b o, s.heap.get? b = some o → b ≠ it2 := fun b o q z => by rw [z, b2] at q; cases q
          have F₉ : Fr s.heap L h₉ (fmNames x tx P o5 o6 (some (.ref t2)) (some (.int i tk'))) := ⟨F₈.ns.at' fun o q => hs₉ _ o (_root_.Ne.symm Nt.2.1) q, fun b o q => hs₉ b o (hb9 b o q) (F₈.keep b o q), F₈.above⟩
          have N₉ : News s.heap L h₉ [(it + 1, enObj .none it (i + 1) (.ref t2)), (it, tiObj 61 (i + 1)), (P, lstObj vs.toArray c)] := fun p hp => ⟨hs₉ _ _ (hne2 p (List.mem_cons_of_mem _ hp)) (N₈ p (List.mem_cons_of_mem _ (List.mem_cons_of_mem _ hp))).1, (N₈ p (List.mem_cons_of_mem _ (List.mem_cons_of_mem _ hp))).2⟩
          have hmiss : signOf x i ps = if i = 0 then 63 else 45 := signOf_miss fun k b' c'' hk => by
            rcases Nat.lt_or_ge k ps.length with hk' | hk'
            · exact hno k b' c'' hk' hk
            · rw [List.getElem?_eq_none hk'] at hk; cases hk
          clear hs₉ F₈ N₈ F₇ N₇ F₆ N₆
          have eq1 : Str.ofString "?" = ⟨#[63]⟩ := by rfl
          have eq2 : Str.ofString "-" = ⟨#[45]⟩ := by rfl
          walk_at "my_steps"
          · rename Fr _ _ _ _ => F'
            rename News _ _ _ _ => N'
            rename (i : Int) = 0 => hi0
            rw [eq1] at N'
            exact fin _ _ o5 o6 63 _ _ (by rw [hmiss, if_pos (by omega)]) F' N'
          · rename Fr _ _ _ _ => F'
            rename News _ _ _ _ => N'
            rename (i : Int) ≠ 0 => hi0
            rw [eq2] at N'
            exact fin _ _ o5 o6 45 _ _ (by rw [hmiss, if_neg (by omega)]) F' N'
      · refine ⟨⟨0, h₇, _, o1, o2, rfl, Nat.zero_le _, rfl, fr_cong F₇ fun y => ?_, N₇, fun k b c' hk => by omega⟩⟩
        unfold fmNames
        by_cases h1 : y = Str.ofString "char"
        · subst h1; rfl
        · by_cases h2 : y = Str.ofString "bit"
          · subst h2; rfl
          · rw [if_neg h1, if_neg h2, if_neg h1, if_neg h2]
            by_cases h3 : y = Str.ofString "table"
            · rw [if_pos h3, if_pos h3]
            · by_cases h4 : y = Str.ofString "index"
              · rw [if_neg h3, if_pos h4, if_neg h3, if_pos h4]
              · rw [if_neg h3, if_neg h4, if_neg h3, if_neg h4, if_neg h3, if_neg h4]
    · obtain rfl : i = 10 := Nat.le_antisymm hi10 hge
      refine enumT_end rfl Hen.1 Hti.1 (F'.keep _ _ hTab) (Array.getElem?_eq_none (by rw [← Array.length_toList]; omega)) (fun h₉ hs₉ => ?_)
      dsimp only
      have F₉ : Fr s.heap L h₉ (fmNames x tx P o1 o2 o3 o4) := ⟨F'.ns.at' fun o q => hs₉ _ o (Nat.ne_of_lt hLlt) q, fun b o q => hs₉ b o (fun z => by rw [z, bnone _ (Nat.le_refl it)] at q; cases q) (F'.keep b o q), F'.above⟩
      have N₉ : News s.heap L h₉ [(P, lstObj vs.toArray c)] := fun p hp => by
        rw [List.mem_singleton.mp hp]
        exact ⟨hs₉ _ _ (Nat.ne_of_lt hPlt) HPl.1, HPl.2⟩
      clear hs₉
      have hS' : StrsAre vs.toArray.toList ((signsUpTo x 10).map fun c => (⟨#[c]⟩ : Str)) := hS
      have hw : (((signsUpTo x 10).map fun c => (⟨#[c]⟩ : Str)).map (·.length)).sum + ((signsUpTo x 10).map fun c => (⟨#[c]⟩ : Str)).length ≤ 1048576 := by
        rw [List.map_map, List.length_map]
        show ((signsUpTo x 10).map fun _ => 1).sum + _ ≤ _
        have hl : (signsUpTo x 10).length = 10 := rfl
        rw [List.map_const', List.sum_replicate_nat, hl]
        decide
      walk_at "my_steps"
      refine join_listW ⟨_, (N₉ _ (.head _)).1, rfl, _, rfl⟩ hS' (by decide) hw (fun t' k => ?_)
      have hJ : Txt.join (Str.ofString "") ((signsUpTo x 10).map fun c => (⟨#[c]⟩ : Str)) = modeText x := by rfl
      rw [hJ]
      exact hQ _ _ _ F₉.keep ⟨_, rfl⟩
  · refine ⟨⟨0, h₃, _, none, none, none, none, .none, [], 0, rfl, Nat.zero_le _, rfl, fr_cong (fr_grow' F₂ hk₃) fun y => ?_, fun p hp => ?_, .nil⟩⟩
    · unfold fmNames
      by_cases h1 : y = Str.ofString "char"
      · subst h1; rfl
      by_cases h2 : y = Str.ofString "bit"
      · subst h2; rfl
      by_cases h3 : y = Str.ofString "table"
      · subst h3; rfl
      by_cases h4 : y = Str.ofString "index"
      · subst h4; rfl
      rw [if_neg h1, if_neg h2, if_neg h3, if_neg h4]
      by_cases h5 : y = Str.ofString "perm"
      · rw [if_pos h5, if_pos h5]
      rw [if_neg h5, if_neg h5]
      by_cases h6 : y = Str.ofString "mode"
      · subst h6; rfl
      · rw [if_neg h6]
        show List.lookup y [(Str.ofString "mode", Value.int x tx)] = none
        rw [List.lookup_cons, beq_false_of_ne h6]; rfl
    · simp only [List.mem_cons, List.not_mem_nil, or_false] at hp
      rcases hp with rfl | rfl | rfl
      · exact ⟨he, Nat.ne_of_gt (Nat.lt_succ_of_lt hLlt), bnone _ (Nat.le_succ it)⟩
      · exact ⟨hi, Nat.ne_of_gt hLlt, bnone _ (Nat.le_refl it)⟩
      · have := N₂ (P, lstObj #[] 0) (by simp)
        exact ⟨hk₃ _ _ this.1, this.2⟩
end Mine
end

section
open PySem PySem.W PyProof.Rows PySem.Spec PySem.Calls PySem.SeqAt
set_option Elab.async false
set_option maxRecDepth 100000
set_option maxHeartbeats 8000000
namespace Mine
local macro_rules | `(tactic| k_room) => `(tactic| ktr_room)
local macro_rules | `(tactic| k_units) => `(tactic| ktr_units)
local macro_rules | `(tactic| walk_at "my_stop") => `(tactic| with_reducible show wpAny _ _ (call (Value.builtin "str.encode") _) _ _ _)
local macro_rules | `(tactic| walk_at "my_steps") => `(tactic| repeat' ((fail_if_success walk_at "my_stop"); first | (k_unfold; (try dsimp only)) | (k_end; wrow_close) | walk1 | (dsimp only; walk1) | (leave1; walk_say "STEP leave1"; try dsimp only) | fail "no step"))

theorem sp_bytes {w : World} {lo : List Str} {mean : ExcName → Option Value} {mg mb : Str → Option Value} (x : Str) (tx : Tok) (ha : x.cps.all (· < 128) = true) (hs : x.length ≤ sizeLine) :
    Pure PySem.Challenge.rw_il0163_01.row.prog w (hd.heap_1 w.params) hdView lo mean mg mb 4 20 76 [.str x tx] (fun _ => True) (fun _ v _ => ∃ t, v = .bytes (asciiBytes x) t) := by
  w_top off
  k_fill
  intro A s Q E X T hh hd hu _ hQ
  obtain ⟨ah, ad, af, ag, au⟩ := A
  obtain rfl : ah = none := hh
  replace hd : ad + 4 < recursionLimit := hd
  replace hu : au + 20 < cLine := hu
  refine enter_raw (binds := [(Str.ofString "s", .str x tx)]) (f := 76) X T (fun _ _ q => q) (Nat.le_refl _) News.nil rfl rfl (by show ad < _; omega) (BindsTo.of_eq rfl) (locs rfl) (fun h₁ tk F N₁ hk₁ => ?_) rfl rfl rfl (by decide)
  generalize s.heap.objs.size = L at *
  (try k_unmd)
  k_fold
  walk_at "my_steps"
  refine gm_encode ?_
  walk_at "my_steps"
  refine call_encode ha hs (fun t => ?_)
  walk_at "my_steps"
  exact hQ _ _ _ F.keep ⟨_, rfl⟩
end Mine
end

section
open PySem PySem.W PyProof.Rows PySem.Spec PySem.Calls PySem.SeqAt PyProof.Rows.LCg PyProof.Rows.LCt
set_option Elab.async false
set_option maxRecDepth 100000
set_option maxHeartbeats 8000000
namespace Mine
local macro_rules | `(tactic| k_room) => `(tactic| ktr_room)
local macro_rules | `(tactic| k_units) => `(tactic| ktr_units)
local macro_rules | `(tactic| walk_at "my_stop") => `(tactic| with_reducible first | show wpAny _ _ (pyIter (Value.ref _)) _ _ _ | show wpAny _ _ (eval (Expr.ListComp _ _ _ _) _) _ _ _ | show wpAny _ _ (subscriptTail _ _ (Value.ref _) _) _ _ _ | refine Exists.intro ?_ ?_)
local macro_rules | `(tactic| walk_at "my_steps") => `(tactic| repeat' ((fail_if_success walk_at "my_stop"); first | (k_unfold; (try dsimp only)) | (k_end; wrow_close) | (dsimp only; walk1) | walk1 | (leave1; walk_say "STEP leave1"; try dsimp only) | fail "no step"))
abbrev threeText (ns : List Int) (i : Int) (t y : Str) : Str := y ++ (Txt.item (Str.ofString "-r") (ns.count (2 ^ (8 - 3 * i).toNat) : Nat) ++ Txt.item (Str.ofString "-w") (ns.count ((2 ^ (8 - 3 * i).toNat : Int).fdiv 2) : Nat)) ++
  Txt.item t ((ns.count ((2 ^ (8 - 3 * i).toNat : Int).fdiv 4) : Nat) + 2 * (ns.count (2 ^ (11 - i).toNat) : Nat))
/-- the listing that the law writes of a row -/
abbrev rowText (ns : List Int) : Str := threeText ns (0 + ((0 + 1 + 1 : Nat) : Int)) (Str.ofString "-xTt") (threeText ns (0 + ((0 + 1 : Nat) : Int)) (Str.ofString "-xSs") (threeText ns (0 + ((0 : Nat) : Int)) (Str.ofString "-xSs")
  (Txt.item (Str.ofString "?pc?d?b?-?l?s???") (ns.map (fun n => n.fdiv 4096)).sum)))
theorem len_rowText (ns : List Int) : (rowText ns).cps.size = 10 := by show (rowText ns).length = 10; simp only [rowText, threeText, Str.length_append, len_item]
abbrev endTab : List Str := [Str.ofString "-xSs", Str.ofString "-xSs", Str.ofString "-xTt"]
def rowPart (ns : List Int) : Nat → Str
  | 0 => Txt.item (Str.ofString "?pc?d?b?-?l?s???") (ns.map (fun n => n.fdiv 4096)).sum
  | i + 1 => threeText ns (i : Int) (endTab.getD (i : Int).toNat Str.empty) (rowPart ns i)
abbrev wrNames (r : Addr) (o1 o2 o3 : Option Value) (y : Str) (t : Tok) : Str → Option Value := fun z =>
  if z = Str.ofString "end" then o3 else if z = Str.ofString "right" then o2 else if z = Str.ofString "three" then o1 else if z = Str.ofString "signs" then some (.str y t) else if z = Str.ofString "row" then some (.ref r) else none
theorem len_rowPart (ns : List Int) : ∀ i, (rowPart ns i).length = 1 + 3 * i
  | 0 => by simp only [rowPart, len_item]
  | i + 1 => by simp only [rowPart, threeText, Str.length_append, len_item, len_rowPart ns i]; omega
theorem wr_other {r : Addr} {y x : Str} {t : Tok} (h : y ≠ Str.ofString "signs") : List.lookup y [(Str.ofString "row", Value.ref r)].reverse = wrNames r none none none x t y := by
  show List.lookup y [(Str.ofString "row", Value.ref r)] = _
  by_cases h2 : y = Str.ofString "row"
  · subst h2; rfl
  simp only [wrNames, if_neg h, if_neg h2, ite_self]
  rw [List.lookup_cons, beq_false_of_ne h2]; rfl
theorem count_hi {ns : List Int} (hc : ∀ k, ns.count k ≤ 1) (k : Int) : ((ns.count k : Nat) : Int) < ((2 : Nat) : Int) := by have := hc k; omega
theorem count_end {ns : List Int} (hc : ∀ k, ns.count k ≤ 1) (k l : Int) : ((ns.count k : Nat) : Int) + 2 * ((ns.count l : Nat) : Int) < ((4 : Nat) : Int) := by have := hc k; have := hc l; omega
theorem count_lo (ns : List Int) (k : Int) (n : Nat) : -(n : Int) ≤ ((ns.count k : Nat) : Int) := by omega
theorem count_end_lo (ns : List Int) (k l : Int) (n : Nat) : -(n : Int) ≤ ((ns.count k : Nat) : Int) + 2 * ((ns.count l : Nat) : Int) := by omega
local macro_rules | `(tactic| kxi_len) => `(tactic| assumption)
local macro_rules | `(tactic| kxi_fact) => `(tactic| first | omega | exact count_lo _ _ _ | exact count_hi (by assumption) _ | exact count_end_lo _ _ _ _ | exact count_end (by assumption) _ _)
local macro_rules | `(tactic| walk_at "getMethod ref") => `(tactic| ((with_reducible show wpAny _ _ (getMethod (Value.ref _) (Str.ofString "count") _) _ _ _); with_unfolding_all refine getMethod_list_of PySem.F.slot_list_count PySem.F.type_list_count (by is_list) (Heap.NoDictAt.keeps (Fr.keep (by assumption)) (by assumption)) ?_))
theorem sp_written {w : World} {lo : List Str} {mean : ExcName → Option Value} {mg mb : Str → Option Value} (r : Addr) (vs : List Value) (ns : List Int) (hi : IntsAre vs ns) (hsz : ns.length ≤ sizeLine) (hs0 : 0 ≤ (ns.map (fun n => n.fdiv 4096)).sum) (hs1 : (ns.map (fun n => n.fdiv 4096)).sum < 16) (hc : ∀ k, ns.count k ≤ 1) :
    Pure PySem.Challenge.rw_il0163_01.row.prog w (hd.heap_1 w.params) hdView lo mean mg mb 8 60 130 [.ref r] (fun h => ∃ n, h.get? r = some (lstObj vs.toArray n)) (fun h v h' => ∃ D, v = .ref D ∧ h.get? D = none ∧ ∃ ys n, h'.get? D = some (lstObj ys.toArray n) ∧ IntsAre ys ((rowText ns).cps.toList.map fun (c : Nat) => (c : Int))) := by
  w_top off
  k_fill
  intro A s Q E X T hh hd hu hl hQ
  obtain ⟨nr, hrow⟩ := hl
  have hl : s.heap.IsList r vs.toArray := ⟨_, hrow, rfl, _, rfl⟩
  have hnd : s.heap.NoDictAt (.ref r) := ⟨_, hrow, rfl⟩
  obtain ⟨ah, ad, af, ag, au⟩ := A
  obtain rfl : ah = none := hh
  replace hd : ad + 8 < recursionLimit := hd
  replace hu : au + 60 < cLine := hu
  refine enter_raw (binds := [(Str.ofString "row", .ref r)]) (f := 130) X T (fun _ _ q => q) (Nat.le_refl _) News.nil rfl rfl (by show ad < _; omega) (BindsTo.of_eq rfl) (locs rfl) (fun h₁ tk₀ F N₁ hk₁ => ?_) rfl rfl rfl (by decide)
  generalize s.heap.objs.size = L at *
  (try k_unmd)
  k_fold
  walk_at "my_steps"
  have hlen : vs.length = ns.length := intsAre_len hi
  refine comp_U ns (fun n v => ∃ t, v = .int n t) (fun n => n.fdiv 4096) (by with_unfolding_all rfl) (by decide) (by rfl) (by decide) (by rfl) hsz ?_
  walk_at "my_steps"
  refine ⟨_, _, _, _, _, (by rw [← hlen]; exact feeds_list rfl (by assumption) (by assumption) (.inl hl)), (fun i v _ hv => intsAre_get hi hv), ?_, ?_⟩
  · intro g a v ha hv I oI C oC D ys m₂ h tk Q' E' hTH k
    obtain ⟨t, rfl⟩ := hv
    obtain ⟨hC, hx, F', N', off, ne⟩ := hTH
    walk_at "my_steps"
    exact k _ _ _ (by assumption) (by assumption)
  intro ys D h tk hys F' N' off
  walk_at "my_steps"
  rename Fr _ _ _ _ => F1
  rename News _ _ _ _ => N1
  rename IsRange _ _ _ _ _ _ _ _ => hR
  obtain ⟨t0, F0⟩ : ∃ t, Fr s.heap L _ (wrNames r none none none (rowPart ns 0) t) := ⟨_, fr_cong F1 fun y => by
    by_cases h1 : y = Str.ofString "signs"
    · subst h1; rfl
    rw [if_neg h1, wr_other h1]⟩
  clear F1
  refine loop_range (n := 3) (fun i m => ∃ o1 o2 o3 t, m = wrNames r o1 o2 o3 (rowPart ns i) t) rfl F0 N1 hR (by decide) rfl ⟨none, none, none, t0, rfl⟩ (fun i t m₁ h tk own hi3 hJ F2 N2 => ?_) (fun m₁ h tk hJ F2 N2 => ?_)
  · clear F0 N1
    obtain ⟨o1, o2, o3, t4, rfl⟩ := hJ
    (try dsimp only)
    have hlen := len_rowPart ns i
    walk_at "my_steps"
    rename News _ _ _ _ => N3
    refine KTb.item_tup (ws := endTab) (News.isTup N3 (.head _)) (.cons _ _ (.cons _ _ (.cons _ _ .nil))) (by omega) (by show (i : Int) < 3; omega) (by omega) (fun t' _ => ?_)
    have he : (endTab.getD (i : Int).toNat Str.empty).length = 4 := by
      have : i = 0 ∨ i = 1 ∨ i = 2 := by omega
      rcases this with rfl | rfl | rfl <;> rfl
    have e1 : threeText ns (i : Int) (endTab.getD (i : Int).toNat Str.empty) (rowPart ns i) = rowPart ns (i + 1) := rfl
    generalize endTab.getD (i : Int).toNat Str.empty = e at *
    walk_at "my_steps"
    rename Fr _ _ _ _ => F4
    rename News _ _ _ _ => N4
    walk_at "my_steps"
    rename Fr _ _ _ _ => F4
    rename News _ _ _ _ => N4
    refine' .inl ⟨rfl, _, _, _, rfl, fr_cong F4 (fun y => _), fun p hp => N4 p (.tail _ hp), _, _, _, _, rfl⟩
    by_cases h1 : y = Str.ofString "signs"
    · subst h1; rw [← e1]; rfl
    by_cases h2 : y = Str.ofString "end"
    · subst h2; rfl
    by_cases h3 : y = Str.ofString "right"
    · subst h3; rfl
    by_cases h4 : y = Str.ofString "three"
    · subst h4; rfl
    simp only [wrNames, if_neg h1, if_neg h2, if_neg h3, if_neg h4]
  obtain ⟨o1, o2, o3, t4, rfl⟩ := hJ
  clear F0 N1
  have e3 : rowPart ns 3 = rowText ns := rfl
  rw [e3] at F2
  (try dsimp only)
  walk_at "my_steps"
  refine comp_U ((rowText ns).cps.toList) (fun c v => ∃ u, v = .str ⟨#[c]⟩ u) (fun c => (c : Int)) (by with_unfolding_all rfl) (by decide) (by rfl) (by decide) (by rfl) (by rw [Array.length_toList, len_rowText]; decide) ?_
  walk_at "my_steps"
  refine ⟨_, _, _, _, _, (by rw [Array.length_toList]; exact feeds_str rfl (by assumption) (by assumption)), ?_, ?_, ?_⟩
  · rintro i v - ⟨c, u, h1, h2⟩
    exact ⟨c, by rw [Array.getElem?_toList]; exact h1, u, h2⟩
  · intro g a v ha hv I oI C oC D ys m₂ h tk Q' E' hTH k
    obtain ⟨t, rfl⟩ := hv
    obtain ⟨hC, hx, F', N', off, ne⟩ := hTH
    walk_at "my_steps"
    exact k _ _ _ (by assumption) (by assumption)
  intro ys D h tk hys F' N' off
  walk_at "my_steps"
  exact hQ _ _ _ F'.keep ⟨D, rfl, (N' _ (.head _)).2.2, ys, _, (N' _ (.head _)).1, hys⟩
end Mine
end

section
open PySem PySem.W PyProof.Rows PySem.Spec PySem.Calls PySem.SeqAt PyProof.Rows.LCg PyProof.Rows.LCt
set_option Elab.async false
set_option maxRecDepth 100000
set_option maxHeartbeats 8000000
namespace Mine
local macro_rules | `(tactic| walk_at "pad 0") => `(tactic| skip)
local macro_rules | `(tactic| walk_at "pad 1") => `(tactic| skip)
local macro_rules | `(tactic| k_room) => `(tactic| ktr_room)
local macro_rules | `(tactic| k_units) => `(tactic| ktr_units)
local macro_rules | `(tactic| walk_at "my_stop") => `(tactic| with_reducible show wpAny _ _ (exec (Stmt.Assign _ (Expr.ListComp _ _ _ _) _) _) _ _ _)
local macro_rules | `(tactic| walk_at "my_stop") => `(tactic| with_reducible show wpAny _ _ (eval (Expr.ListComp _ _ _ _) _) _ _ _)
local macro_rules | `(tactic| walk_at "my_stop") => `(tactic| with_reducible refine Exists.intro ?_ ?_)
local macro_rules | `(tactic| walk_at "my_steps") => `(tactic| repeat' ((fail_if_success walk_at "my_stop"); first | (k_unfold; (try dsimp only)) | (k_end; wrow_close) | walk1 | (dsimp only; walk1) | (leave1; walk_say "STEP leave1"; try dsimp only) | fail "no step"))

/-- the row that the law reads off a listing's octets and a kind -/
abbrev readRow (ks : List Int) (kd : Int) : List Int :=
  (([32768, 16384, 8192, 4096] : List Int).filter (fun n => (kd.fdiv n).fmod 2 == 1)).map id ++
  (([3, 6, 9] : List Int).filter (fun n => (#[83, 115, 84, 116] : Array UInt8).contains (ks.getD n.toNat 0).toNat.toUInt8)).map (fun n => 2 ^ (12 - n.fdiv 3).toNat) ++
  (([1, 2, 3, 4, 5, 6, 7, 8, 9] : List Int).filter (fun n => (#[114, 119, 120, 115, 116] : Array UInt8).contains (ks.getD n.toNat 0).toNat.toUInt8)).map (fun n => 2 ^ (9 - n).toNat)
local macro_rules | `(tactic| walk_at "compareOp In int bytes") => `(tactic| ((with_reducible show wpAny _ _ (compareOp CmpOp.In (Value.int _ _) (Value.bytes _ _)) _ _ _); refine in_bytes (by assumption) (by assumption) ?_))
local macro_rules | `(tactic| walk_at "call builtin:list.extend") => `(tactic| ((with_reducible show wpAny _ _ (call (Value.builtin "list.extend") [Value.ref _, Value.ref _]) _ _ _); refine' ext_list ?F ?N ?b ?U ?z ?_; (case F => k_asm); (case N => k_asm); (case b => k_mem); (case U => k_updF); (case z => (rw [sizeLine_eq]; (try simp only [Array.size_append]); omega)); k_whole; intro h' c' F' N'))
theorem sp_read {w : World} {lo : List Str} {mean : ExcName → Option Value} {mg mb : Str → Option Value} (bs : Array UInt8) (tb : Tok) (kd : Int) (tkd : Tok) (ks : List Int) (hks : KBw.bInts bs = ks) (hkl : ks.length = 10) :
    Pure PySem.Challenge.rw_il0163_01.row.prog w (hd.heap_1 w.params) hdView lo mean mg mb 8 60 125 [.bytes bs tb, .int kd tkd] (fun _ => True) (fun h v h' => ∃ D, v = .ref D ∧ h.get? D = none ∧ ∃ ys n, h'.get? D = some (lstObj ys.toArray n) ∧ IntsAre ys (readRow ks kd)) := by
  w_top off
  k_fill
  intro A s Q E X T hh hd hu _ hQ
  obtain ⟨ah, ad, af, ag, au⟩ := A
  obtain rfl : ah = none := hh
  replace hd : ad + 8 < recursionLimit := hd
  replace hu : au + 60 < cLine := hu
  refine enter_cells (binds := [(Str.ofString "octets", .bytes bs tb), (Str.ofString "kind", .int kd tkd)]) (f := 125) X T (fun _ _ q => q) (Nat.le_refl _) News.nil rfl rfl (by show ad < _; omega) (BindsTo.of_eq rfl) (by rfl) (by decide +kernel) (fun h₁ tk₀ cells F N₁ Y hk₁ => ?_) rfl rfl rfl
  generalize s.heap.objs.size = L at *
  obtain ⟨o1, o2, rfl, d1, d2⟩ := PyProof.Rows.CellsAre.two Y
  replace d1 : o1.data = .cell (some (.int kd tkd)) := d1
  replace d2 : o2.data = .cell (some (.bytes bs tb)) := d2
  (try simp only [List.cons_append, List.nil_append] at N₁)
  (try k_unmd)
  (try dsimp only)
  k_fold
  walk_at "my_steps"
  refine assign_T [32768, 16384, 8192, 4096] (fun (n : Int) v => ∃ t, v = .int n t) (fun n => (kd.fdiv n).fmod 2 == 1) id (by with_unfolding_all rfl) (by with_unfolding_all rfl) (by decide) (by rfl) (by decide) (by rfl) (by rfl) (by rfl) (by decide) ?_
  walk_at "my_steps"
  rename Fr _ _ _ _ => F1
  rename News _ _ _ _ => N1
  refine ⟨_, _, _, _, feeds_tup rfl F1 N1 (.head _) rfl, (fun i v _ hv => intsAre_get (.cons _ _ (.cons _ _ (.cons _ _ (.cons _ _ .nil)))) hv), ?_, ?_, ?_⟩
  · intro g a v ha hv I oI C oC D ys m₂ h tk Q' E' hTH k
    obtain ⟨t, rfl⟩ := hv
    obtain ⟨hC, hx, F', N', off, ne⟩ := hTH
    simp only [List.mem_cons, List.not_mem_nil, or_false] at ha
    rcases ha with rfl | rfl | rfl | rfl
    all_goals walk_at "my_steps"
    all_goals exact k _ _ (by assumption) (by assumption)
  · intro g a v ha hv hp I oI C oC D ys m₂ h tk Q' E' hTH k
    obtain ⟨t, rfl⟩ := hv
    obtain ⟨hC, hx, F', N', off, ne⟩ := hTH
    walk_at "my_steps"
    exact k _ _ _ (by assumption) (by assumption)
  intro ys D h tk hys F' N' off
  walk_at "my_steps"
  refine comp_T [3, 6, 9] (fun (n : Int) v => ∃ t, v = .int n t) (fun n => (#[83, 115, 84, 116] : Array UInt8).contains (ks.getD n.toNat 0).toNat.toUInt8) (fun n => 2 ^ (12 - n.fdiv 3).toNat) (by with_unfolding_all rfl) (by decide) (by rfl) (by decide) (by rfl) (by decide) ?_
  walk_at "my_steps"
  rename Fr _ _ _ _ => F1
  rename News _ _ _ _ => N1
  refine ⟨_, _, _, _, _, feeds_tup rfl F1 N1 (.head _) rfl, (fun i v _ hv => intsAre_get (.cons _ _ (.cons _ _ (.cons _ _ .nil))) hv), ?_, ?_, ?_⟩
  · intro g a v ha hv I oI C oC D ys m₂ h tk Q' E' hTH k
    obtain ⟨t, rfl⟩ := hv
    obtain ⟨hC, hx, F', N', off, ne⟩ := hTH
    simp only [List.mem_cons, List.not_mem_nil, or_false] at ha
    rcases ha with rfl | rfl | rfl
    all_goals walk_at "my_steps"
    all_goals exact k _ _ (by assumption) (by assumption)
  · intro g a v ha hv hp I oI C oC D ys m₂ h tk Q' E' hTH k
    obtain ⟨t, rfl⟩ := hv
    obtain ⟨hC, hx, F', N', off, ne⟩ := hTH
    simp only [List.mem_cons, List.not_mem_nil, or_false] at ha
    rcases ha with rfl | rfl | rfl
    all_goals walk_at "my_steps"
    all_goals exact k _ _ _ (by assumption) (by assumption)
  intro ys2 D2 h2 tk2 hys2 F2 N2 off2
  simp only [LCg.Off1, and_true] at off off2
  have hl1 : ys.toArray.size ≤ 4 := by rw [List.size_toArray, intsAre_len hys, List.length_map]; exact Nat.le_trans (List.length_filter_le _ _) (by decide)
  have hl2 : ys2.toArray.size ≤ 3 := by rw [List.size_toArray, intsAre_len hys2, List.length_map]; exact Nat.le_trans (List.length_filter_le _ _) (by decide)
  walk_at "my_steps"
  refine comp_T [1, 2, 3, 4, 5, 6, 7, 8, 9] (fun (n : Int) v => ∃ t, v = .int n t) (fun n => (#[114, 119, 120, 115, 116] : Array UInt8).contains (ks.getD n.toNat 0).toNat.toUInt8) (fun n => 2 ^ (9 - n).toNat) (by with_unfolding_all rfl) (by decide) (by rfl) (by decide) (by rfl) (by decide) ?_
  walk_at "my_steps"
  rename Fr _ _ _ _ => F1
  rename News _ _ _ _ => N1
  rename IsRange _ _ _ _ _ _ _ _ => hR
  refine ⟨_, _, _, _, _, feeds_range rfl F1 N1 hR (by decide) rfl, ?_, ?_, ?_, ?_⟩
  · rintro i v hi ⟨t, rfl⟩
    have : i = 0 ∨ i = 1 ∨ i = 2 ∨ i = 3 ∨ i = 4 ∨ i = 5 ∨ i = 6 ∨ i = 7 ∨ i = 8 := by
      have : i < 9 := hi
      omega
    rcases this with rfl | rfl | rfl | rfl | rfl | rfl | rfl | rfl | rfl
    all_goals exact ⟨_, rfl, t, rfl⟩
  · intro g a v ha hv I oI C oC D ys m₂ h tk Q' E' hTH k
    obtain ⟨t, rfl⟩ := hv
    obtain ⟨hC, hx, F', N', off, ne⟩ := hTH
    simp only [List.mem_cons, List.not_mem_nil, or_false] at ha
    rcases ha with rfl | rfl | rfl | rfl | rfl | rfl | rfl | rfl | rfl
    all_goals walk_at "my_steps"
    all_goals exact k _ _ (by assumption) (by assumption)
  · intro g a v ha hv hp I oI C oC D ys m₂ h tk Q' E' hTH k
    obtain ⟨t, rfl⟩ := hv
    obtain ⟨hC, hx, F', N', off, ne⟩ := hTH
    simp only [List.mem_cons, List.not_mem_nil, or_false] at ha
    rcases ha with rfl | rfl | rfl | rfl | rfl | rfl | rfl | rfl | rfl
    all_goals walk_at "my_steps"
    all_goals exact k _ _ _ (by assumption) (by assumption)
  intro ys3 D3 h3 tk3 hys3 F3 N3 off3
  simp only [LCg.Off1, and_true] at off3
  have hl3 : ys3.toArray.size ≤ 9 := by rw [List.size_toArray, intsAre_len hys3, List.length_map]; exact Nat.le_trans (List.length_filter_le _ _) (by decide)
  walk_at "my_steps"
  rename Fr _ _ _ _ => F4
  rename News _ _ _ _ => N4
  have hD := N4 (D, _) (.tail _ (.tail _ (.tail _ (.head _))))
  have e1 : ys.toArray ++ ys2.toArray ++ ys3.toArray = (ys ++ ys2 ++ ys3).toArray := by simp
  rw [e1] at hD
  exact hQ _ _ _ F4.keep ⟨D, rfl, hD.2.2, _, _, hD.1, (hys.append hys2).append hys3⟩
end Mine
end

section
open PySem PySem.W PyProof.Rows PySem.Spec PySem.Calls PySem.SeqAt
set_option Elab.async false
set_option maxRecDepth 100000
set_option maxHeartbeats 8000000
namespace Mine

/-- the first n places of a heap -/
def cut (h : Heap) (n : Nat) : Heap := ⟨h.objs.extract 0 n, h.life⟩
theorem cut_get {h : Heap} {n : Nat} {b : Addr} (hb : @LT.lt Nat _ b n) : (cut h n).get? b = h.get? b := by
  unfold cut Heap.get?
  have : (h.objs.extract 0 n)[b]? = h.objs[b]? := by
    rw [Array.getElem?_extract]
    simp only [Nat.sub_zero, Nat.zero_add]
    split
    · rfl
    · rename_i hn
      rw [Array.getElem?_eq_none]
      have : ¬ @LT.lt Nat _ b (min n h.objs.size) := hn
      have hb' : @LT.lt Nat _ b n := hb
      omega
  simp only [this]
theorem cut_size (h : Heap) (n : Nat) : (cut h n).objs.size ≤ n := by
  show (h.objs.extract 0 n).size ≤ n
  rw [Array.size_extract]; omega
theorem cut_of {h : Heap} {n : Nat} {b : Addr} {o : Obj} (e : (cut h n).get? b = some o) : h.get? b = some o := by
  have hb : @LT.lt Nat _ b n := Nat.lt_of_lt_of_le (Heap.lt_size e) (cut_size h n)
  rwa [cut_get hb] at e

/-- a ground for a frame above outer frames: the heap at its start, up to the frames' slots -/
structure Gnd (H₀ base : Heap) (l : List Env) (B : Heap) : Prop where
  st : base.StaysIn B
  fr : B.FunFrames base l
  old : ∀ b o, H₀.get? b = some o → b ∉ l.filterMap (·.frame) → B.get? b = some o
  up : H₀.UpToSlots B
theorem Gnd.here {H₀ base : Heap} {l : List Env} (st : base.StaysIn H₀) (fr : H₀.FunFrames base l) : Gnd H₀ base l H₀ := ⟨st, fr, fun _ _ e _ => e, .refl _⟩

def intE (y z : Value) : Bool := match y, z with
  | .int a _, .int b _ => a == b
  | _, _ => false
theorem intE_any (b : Int) (t : Tok) : ∀ {vs : List Value} {ms : List Int}, IntsAre vs ms → vs.any (fun y => intE y (.int b t)) = ms.contains b
  | [], [], .nil => rfl
  | _ :: _, a :: ms, .cons _ u r => by
    rw [List.any_cons, intE_any b t r, List.contains_cons]
    show (a == b || _) = _
    rw [show (a == b) = (b == a) from by rw [Bool.eq_iff_iff, beq_iff_eq, beq_iff_eq]; exact ⟨Eq.symm, Eq.symm⟩]
theorem intsAre_of_mem : ∀ {vs : List Value} {ms : List Int}, IntsAre vs ms → ∀ y ∈ vs, ∃ a t, y = .int a t
  | _, _, .cons a t r, y, hy => by
    rcases List.mem_cons.mp hy with rfl | hy
    · exact ⟨a, t, rfl⟩
    · exact intsAre_of_mem r y hy
theorem sieve_ints {skip : Array Value} {ms : List Int} (hs : IntsAre skip.toList ms) : ∀ {vs : List Value} {ns : List Int}, IntsAre vs ns → IntsAre (sieve intE skip vs) (ns.filter fun a => !ms.contains a)
  | [], [], .nil => .nil
  | _ :: vs, a :: ns, .cons _ t r => by
    have e : (skip.any fun y => intE y (.int a t)) = ms.contains a := by rw [← Array.any_toList]; exact intE_any a t hs
    have ih := sieve_ints hs r
    unfold sieve at ih ⊢
    rw [List.filter_cons, List.filter_cons]
    simp only [e]
    cases ms.contains a with
    | true => simpa using ih
    | false => simpa using IntsAre.cons a t ih

theorem off1_of {D : Addr} : ∀ {l : List (Addr × Obj)}, (∀ p ∈ l, p.1 ≠ D) → LCg.Off1 D l
  | [], _ => trivial
  | p :: _, h => ⟨h p (.head _), off1_of fun q hq => h q (.tail _ hq)⟩
theorem filter_frame {w : World} {lo : List Str} {mean : ExcName → Option Value} {mg mb : Str → Option Value} {dp un : Nat} {gd : Option (List Code)} {E : Value → Shared → Prop} {s : Shared} {l : List Env} {env : Env} {H₀ base B : Heap} {L fl sk : Addr}
    {m : Str → Option Value} {news : List (Addr × Obj)} {ws vs : List Value} {ns ms : List Int} {c1 c2 : Nat} {Q : Value → Shared → Prop}
    (XB : (hd.heap_1 w.params).In base) (TB : Top hdView lo mean mg mb base) (hbL : base.objs.size ≤ L) (G : Gnd H₀ base l B) (F : Fr B L s.heap m) (N : News B L s.heap news)
    (hk : env.scope.kind = .function) (hf : env.frame = some L)
    (hfl : (B.get? fl = some (lstObj ws.toArray c1) ∧ base.get? fl = none ∧ fl ∉ l.filterMap (·.frame)) ∨ (fl, lstObj ws.toArray c1) ∈ news)
    (hsk : (B.get? sk = some (lstObj vs.toArray c2) ∧ base.get? sk = none ∧ sk ∉ l.filterMap (·.frame)) ∨ (sk, lstObj vs.toArray c2) ∈ news)
    (hi : IntsAre ws ns) (hj : IntsAre vs ms) (hsz : ns.length ≤ sizeLine)
    (hdp : dp + 12 < recursionLimit) (hun : un + 120 < cLine)
    (k : ∀ B₁ S h' tk' zs c, Gnd H₀ base l B₁ → Fr B₁ L h' m → News B₁ L h' ((S, lstObj zs.toArray c) :: news) → LCg.Off1 S news → IntsAre zs (ns.filter fun a => !ms.contains a) → Q (.ref S) { s with heap := h', toks := tk' }) :
    wpAny (model PySem.Challenge.rw_il0163_01.row.prog w) { handled := none, depth := dp, frames := some (env :: l), guards := gd, units := un } (call (.ref 120) [.ref fl, .ref sk]) Q E s := by
  have BL : B.get? L = none := Heap.get?_none_of_le F.above
  have noFr : ∀ b, B.get? b = none → b ∉ l.filterMap (·.frame) := fun b hb hm => by
    obtain ⟨_, o, ho, _⟩ := G.fr.mem hm
    rw [hb] at ho; cases ho
  have baseN : ∀ b, B.get? b = none → base.get? b = none := fun b hb => by
    cases q : base.get? b with
    | none => rfl
    | some o => rw [G.st b o q] at hb; cases hb
  have notL : ∀ b o, B.get? b = some o → b ≠ L := fun b o hb z => by rw [z, BL] at hb; cases hb
  have frs : ∀ b, b ∈ (env :: l).filterMap (·.frame) → b = L ∨ b ∈ l.filterMap (·.frame) := fun b hb => by
    rw [List.filterMap_cons, hf] at hb
    exact List.mem_cons.mp hb
  have facts : ∀ {a : Addr} {o : Obj}, ((B.get? a = some o ∧ base.get? a = none ∧ a ∉ l.filterMap (·.frame)) ∨ (a, o) ∈ news) → s.heap.get? a = some o ∧ base.get? a = none ∧ a ∉ (env :: l).filterMap (·.frame) := by
    intro a o ha
    rcases ha with ⟨h1, h2, h3⟩ | ha
    · refine ⟨F.keep _ _ h1, h2, fun hm => ?_⟩
      rcases frs _ hm with z | z
      · exact notL _ _ h1 z
      · exact h3 z
    · refine ⟨(N _ ha).1, baseN _ (N _ ha).2.2, fun hm => ?_⟩
      rcases frs _ hm with z | z
      · exact (N _ ha).2.1 z
      · exact noFr _ (N _ ha).2.2 z
  have f1 := facts hfl
  have f2 := facts hsk
  have hfr : s.heap.FunFrames base (env :: l) := Heap.FunFrames.cons (by rw [hk]; decide) hf F.ns (baseN L BL) (G.fr.of_keeps fun b o hb _ => ⟨o, F.keep b o hb, rfl⟩)
  refine filter_raw intE XB TB (fun b o q => F.keep b o (G.st b o q)) (Nat.le_trans hbL (Nat.le_of_lt (fr_lt F))) hfr f1.1 f2.1 f1.2.1 f2.2.1 f1.2.2 f2.2.2 hdp hun (by rw [List.size_toArray, intsAre_len hi]; exact hsz) (fun y hy z hz A s => ?_) (fun S h' tk' c hS hS' hold hup => ?_)
  · obtain ⟨a, t, rfl⟩ := intsAre_of_mem hj y (by simpa using hy)
    obtain ⟨b, u, rfl⟩ := intsAre_of_mem hi z (by simpa using hz)
    exact EqAt.int_int _ _ _ _
  · have SN : ∀ p ∈ news, p.1 ≠ S := fun p hp z => by have := (N p hp).1; rw [z, hS] at this; cases this
    have hidden : ∀ b o, B.get? b = some o → b ∉ S :: news.map (·.1) := fun b o hb hm => by
      rcases List.mem_cons.mp hm with z | hm
      · rw [← z, F.keep _ _ hb] at hS; cases hS
      · obtain ⟨p, hp, rfl⟩ := List.mem_map.mp hm
        rw [(N p hp).2.2] at hb; cases hb
    have ltL : ∀ b o, B.get? b = some o → @LT.lt Nat _ b L := fun b o hb => Nat.lt_of_lt_of_le (Heap.lt_size hb) F.above
    have exact' : ∀ b o, B.get? b = some o → b ∉ l.filterMap (·.frame) → (hideAll (cut h' L) (S :: news.map (·.1))).get? b = some o := fun b o hb hn => by
      refine hideAll_get _ ?_ (hidden b o hb)
      rw [cut_get (ltL b o hb)]
      exact hold b o (F.keep b o hb) fun hm => (frs b hm).elim (notL b o hb) hn
    have up' : B.UpToSlots (hideAll (cut h' L) (S :: news.map (·.1))) := fun b o hb hn => by
      obtain ⟨sl, e⟩ := hup b o (F.keep b o hb) hn
      exact ⟨sl, hideAll_get _ (by rw [cut_get (ltL b o hb)]; exact e) (hidden b o hb)⟩
    have ofB : ∀ b o, (hideAll (cut h' L) (S :: news.map (·.1))).get? b = some o → h'.get? b = some o := fun b o q => cut_of (of_hideAll _ q)
    refine k (hideAll (cut h' L) (S :: news.map (·.1))) S h' tk' _ c ⟨fun b o q => exact' b o (G.st b o q) fun hm => ?_, G.fr.of_keeps fun b o hb hn => ?_, fun b o hb hn => exact' b o (G.old b o hb hn) hn, G.up.trans up'⟩ ⟨hup.ns F.ns, ofB, by rw [hideAll_size]; exact cut_size _ _⟩ (fun p hp => ?_) (off1_of SN) (sieve_ints hj hi)
    · have := (G.fr.mem hm).1; rw [q] at this; cases this
    · obtain ⟨sl, e⟩ := up' b o hb hn
      exact ⟨_, e, rfl⟩
    · rcases List.mem_cons.mp hp with rfl | hp
      · refine ⟨hS', fun z => ?_, hideAll_none _ (.head _)⟩
        obtain ⟨o, _, _, ho, _⟩ := F.ns
        have z' : S = L := z
        rw [z', ho] at hS; cases hS
      · refine ⟨hold _ _ (N p hp).1 fun hm => ?_, (N p hp).2.1, hideAll_none _ (.tail _ (List.mem_map_of_mem hp))⟩
        exact (frs _ hm).elim (N p hp).2.1 (noFr _ (N p hp).2.2)
end Mine
end

section
open PySem PySem.W PyProof.Rows PySem.Spec PySem.Calls PySem.SeqAt
set_option Elab.async false
set_option maxRecDepth 100000
set_option maxHeartbeats 8000000
namespace Mine
local macro_rules | `(tactic| walk_at "pad 0") => `(tactic| skip)
local macro_rules | `(tactic| walk_at "pad 1") => `(tactic| skip)
local macro_rules | `(tactic| k_room) => `(tactic| ktr_room)
local macro_rules | `(tactic| k_units) => `(tactic| ktr_units)
local macro_rules | `(tactic| walk_at "my_stop") => `(tactic| with_reducible show wpAny _ _ (subscriptTail _ _ (Value.ref _) _) _ _ _)
local macro_rules | `(tactic| walk_at "my_stop") => `(tactic| with_reducible show wpAny _ _ (eval (Expr.ListComp _ _ _ _) _) _ _ _)
local macro_rules | `(tactic| walk_at "my_stop") => `(tactic| with_reducible show wpAny _ _ (call (Value.ref _) _) _ _ _)
local macro_rules | `(tactic| walk_at "my_stop") => `(tactic| with_reducible show wpAny _ _ (binaryOp Operator.Add (Value.ref _) _) _ _ _)
local macro_rules | `(tactic| walk_at "my_stop") => `(tactic| with_reducible refine Exists.intro ?_ ?_)
local macro_rules | `(tactic| walk_at "my_steps") => `(tactic| repeat' ((try ((with_reducible show wpAny _ _ (execs (_ :: _) _) _ _ _); k_fold; (try dsimp only))); (fail_if_success walk_at "my_stop"); first | (k_unfold; (try dsimp only)) | (k_end; wrow_close) | (dsimp only; walk1) | walk1 | (leave1; walk_say "STEP leave1"; try dsimp only) | fail "no step"))

theorem len_is {prog : Program} {w : World} {A : Around} {E : Value → Shared → Prop} {s : Shared} {l : Addr} {items : Array Value} {n : Nat} {Q : Value → Shared → Prop} (hl : s.heap.IsList l items) (hn : items.size = n) (hfit : n ≤ 20)
    (h : Q (.int n (s.toks + 1)) { s with toks := s.toks + 1 + 1 }) : wpAny (model prog w) A (call (.builtin "len") [.ref l]) Q E s :=
  PyProof.Rows.len_list hl (by omega) (by rw [hn]; exact h)
local macro_rules | `(tactic| walk_at "call builtin:len") => `(tactic| ((with_reducible show wpAny _ _ (call (Value.builtin "len") [Value.ref _]) _ _ _); refine len_is (by is_list) (by assumption) (by assumption) ?_))
def Free (base : Heap) (l : List Env) (a : Addr) : Prop := base.get? a = none ∧ a ∉ l.filterMap (·.frame)
/-- a pair of the shelf: a number and a row -/
def EntryAt (base : Heap) (l : List Env) (h : Heap) (v : Value) (n : Int) (ns : List Int) : Prop :=
  ∃ t tk r ws c1 c2, v = .ref t ∧ h.get? t = some (tupObj #[.int n tk, .ref r] c1) ∧ h.get? r = some (lstObj (List.toArray ws) c2) ∧ IntsAre ws ns ∧ Free base l t ∧ Free base l r
def ShelfAt (base : Heap) (l : List Env) (h : Heap) (vs : List Value) (es : List (Int × List Int)) : Prop :=
  vs.length = es.length ∧ ∀ (i : Nat) v n ns, vs[i]? = some v → es[i]? = some (n, ns) → EntryAt base l h v n ns

theorem ShelfAt.at {base : Heap} {l : List Env} {h : Heap} {vs : List Value} {es : List (Int × List Int)} (S : ShelfAt base l h vs es) {i : Nat} (hi : i < es.length) : ∃ v, vs.toArray[i]? = some v ∧ EntryAt base l h v (es.getD i (0, [])).1 (es.getD i (0, [])).2 := by
  have hv : i < vs.length := by rw [S.1]; exact hi
  refine ⟨vs[i], by simp [hv], ?_⟩
  have e : es[i]? = some (es.getD i (0, [])) := by rw [List.getD_eq_getElem?_getD, List.getElem?_eq_getElem hi]; rfl
  exact S.2 i vs[i] _ _ (List.getElem?_eq_getElem hv) e
theorem Gnd.fresh {H₀ base B : Heap} {l : List Env} (G : Gnd H₀ base l B) {a : Addr} (h : B.get? a = none) : H₀.get? a = none := by
  cases q : H₀.get? a with
  | none => rfl
  | some o =>
    by_cases hm : a ∈ l.filterMap (·.frame)
    · obtain ⟨_, o', ho, _⟩ := G.fr.mem hm
      rw [h] at ho; cases ho
    · have := G.old a o q hm; rw [h] at this; cases this
def deedNum (es : List (Int × List Int)) (x : Int) : Int :=
  let a := (es.getD ((x.fdiv 6 - 1).fmod es.length).toNat (0, [])).1
  let b := (es.getD (((x.fdiv 6).fdiv es.length - 2).fmod es.length).toNat (0, [])).1
  if x.fmod 6 = 1 then Builtin.bitAnd a (Builtin.bitNot b) else if x.fmod 6 = 2 then Builtin.bitAnd a b else if x.fmod 6 = 3 then Builtin.bitOr a b else if x.fmod 6 = 4 then Builtin.bitXor a b else Builtin.bitNot a
def deedRow (es : List (Int × List Int)) (x : Int) : List Int :=
  let ns := (es.getD ((x.fdiv 6 - 1).fmod es.length).toNat (0, [])).2
  let ms := (es.getD (((x.fdiv 6).fdiv es.length - 2).fmod es.length).toNat (0, [])).2
  if x.fmod 6 = 1 then ns.filter (fun a => !ms.contains a) else if x.fmod 6 = 2 then ns.filter (fun a => !(ns.filter (fun a => !ms.contains a)).contains a) else if x.fmod 6 = 3 then ns ++ ms.filter (fun a => !ns.contains a)
  else if x.fmod 6 = 4 then ns.filter (fun a => !ms.contains a) ++ ms.filter (fun a => !ns.contains a) else ((List.range 16).map fun k => (2 : Int) ^ k).filter (fun a => !ns.contains a)
/-- what the law's deed hands back -/
def DeedOut (H₀ h : Heap) (T : Addr) (es : List (Int × List Int)) (x : Int) : Prop :=
  (x.fmod 6 = 0 ∧ ∃ t, h.get? T = some (tupObj #[.int (x.fdiv 6 * 4681) t, .none] 0)) ∨
  (x.fmod 6 ≠ 0 ∧ ∃ t R ws c, h.get? T = some (tupObj #[.int (deedNum es x) t, .ref R] 0) ∧ H₀.get? R = none ∧ h.get? R = some (lstObj (List.toArray ws) c) ∧ IntsAre ws (deedRow es x))
theorem deed_raw {w : World} {lo : List Str} {mean : ExcName → Option Value} {mg mb : Str → Option Value} {dp un : Nat} {gd : Option (List Code)} {E : Value → Shared → Prop} {s : Shared} {l : List Env} {base : Heap} {S : Addr} {vs : List Value} {c : Nat}
    {es : List (Int × List Int)} {x : Int} {tx : Tok} {Q : Value → Shared → Prop}
    (XB : (hd.heap_1 w.params).In base) (TB : Top hdView lo mean mg mb base)
    (hst : base.StaysIn s.heap) (hbs : base.objs.size ≤ s.heap.objs.size) (hfr : s.heap.FunFrames base l)
    (hS : s.heap.get? S = some (lstObj vs.toArray c)) (hSF : Free base l S) (hSh : ShelfAt base l s.heap vs es) (hlen : es.length ≤ 20) (hne : x.fmod 6 = 0 ∨ 0 < es.length) (hrow : ∀ p ∈ es, p.2.length ≤ 16)
    (hdp : dp + 20 < recursionLimit) (hun : un + 200 < cLine)
    (hQ : ∀ T h' tk', s.heap.get? T = none → DeedOut s.heap h' T es x →
      (∀ b o, s.heap.get? b = some o → b ∉ l.filterMap (·.frame) → h'.get? b = some o) → s.heap.UpToSlots h' → Q (.ref T) { s with heap := h', toks := tk' }) :
    wpAny (model PySem.Challenge.rw_il0163_01.row.prog w) { handled := none, depth := dp, frames := some l, guards := gd, units := un } (call (.ref 135) [.ref S, .int x tx]) Q E s := by
  revert XB
  w_top off
  k_fill
  intro XB
  refine enter_raw (binds := [(Str.ofString "shelf", .ref S), (Str.ofString "x", .int x tx)]) (f := 135) (XB.keeps hst) (TB.keeps hst) (fun b o q => q) (Nat.le_refl _) News.nil rfl rfl (by show dp < _; omega) (BindsTo.of_eq rfl) (locs rfl) (fun h₁ tk F N₁ hk₁ => ?_) rfl rfl rfl (by decide)
  have X₀ := XB.keeps hst
  have T₀ := TB.keeps hst
  have hl : s.heap.IsList S vs.toArray := ⟨_, hS, rfl, _, rfl⟩
  obtain ⟨n, hn⟩ : ∃ n, n = es.length := ⟨_, rfl⟩
  have hvs : vs.toArray.size = n := by rw [List.size_toArray, hn]; exact hSh.1
  have hn20 : n ≤ 20 := by omega
  generalize s.heap.objs.size = L at *
  (try k_unmd)
  k_fold
  walk_at "my_steps"
  · rename x.fmod 6 = 0 => hx0
    rename Fr _ _ _ _ => F1
    rename News _ _ _ _ => N1
    exact hQ _ _ _ (N1 _ (.head _)).2.2 (.inl ⟨hx0, _, (N1 _ (.head _)).1⟩) (fun b o e _ => F1.keep b o e) (.of_keeps F1.keep)
  rename x.fmod 6 ≠ 0 => hx0
  have hnpos : 0 < n := by omega
  have hnz : (n : Int) ≠ 0 := by omega
  have hnz' : 0 < (n : Int) := by omega
  have bnd : ∀ z : Int, 0 ≤ z.fmod n ∧ z.fmod n < 2 ^ 63 ∧ (z.fmod n).toNat < es.length := fun z => by
    have h1 := Int.fmod_nonneg_of_pos z hnz'
    have h2 := Int.fmod_lt_of_pos z hnz'
    omega
  walk_at "my_steps"
  obtain ⟨i1, hi1⟩ : ∃ i, i = (x.fdiv 6 - 1).fmod n := ⟨_, rfl⟩
  have b1 := bnd (x.fdiv 6 - 1)
  rw [← hi1] at b1 ⊢
  obtain ⟨v1, hv1, t1, tk1, r1, ws1, c1, c1', rfl, ht1, hr1, hi1s, ft1, fr1⟩ := hSh.at b1.2.2
  have IT1 : IsTup s.heap t1 #[.int (es.getD i1.toNat (0, [])).1 tk1, .ref r1] := ⟨_, ht1, rfl, _, rfl⟩
  generalize hn1 : (es.getD i1.toNat (0, [])).1 = n1 at *
  generalize hns1 : (es.getD i1.toNat (0, [])).2 = ns1 at *
  refine PyProof.Rows.item_list (by is_list) b1.1 b1.2.1 hv1 ?_
  walk_at "my_steps"
  obtain ⟨i2, hi2⟩ : ∃ i, i = ((x.fdiv 6).fdiv n - 2).fmod n := ⟨_, rfl⟩
  have b2 := bnd ((x.fdiv 6).fdiv n - 2)
  rw [← hi2] at b2 ⊢
  obtain ⟨v2, hv2, t2, tk2, r2, ws2, c2, c2', rfl, ht2, hr2, hi2s, ft2, fr2⟩ := hSh.at b2.2.2
  have IT2 : IsTup s.heap t2 #[.int (es.getD i2.toNat (0, [])).1 tk2, .ref r2] := ⟨_, ht2, rfl, _, rfl⟩
  generalize hn2 : (es.getD i2.toNat (0, [])).1 = n2 at *
  generalize hns2 : (es.getD i2.toNat (0, [])).2 = ns2 at *
  have G₀ : Gnd s.heap base l s.heap := .here hst hfr
  have l1 : ns1.length ≤ 16 := by
    rw [← hns1, List.getD_eq_getElem?_getD, List.getElem?_eq_getElem b1.2.2]; exact hrow _ (List.getElem_mem _)
  have l2 : ns2.length ≤ 16 := by
    rw [← hns2, List.getD_eq_getElem?_getD, List.getElem?_eq_getElem b2.2.2]; exact hrow _ (List.getElem_mem _)
  have z16 : (16 : Nat) ≤ sizeLine := by decide
  rw [hi1, hn] at hn1 hns1
  rw [hi2, hn] at hn2 hns2
  have eN : deedNum es x = if x.fmod 6 = 1 then Builtin.bitAnd n1 (Builtin.bitNot n2) else if x.fmod 6 = 2 then Builtin.bitAnd n1 n2 else if x.fmod 6 = 3 then Builtin.bitOr n1 n2 else if x.fmod 6 = 4 then Builtin.bitXor n1 n2 else Builtin.bitNot n1 := by
    unfold deedNum; simp only [hn1, hn2]
  have eR : deedRow es x = if x.fmod 6 = 1 then ns1.filter (fun a => !ns2.contains a) else if x.fmod 6 = 2 then ns1.filter (fun a => !(ns1.filter (fun a => !ns2.contains a)).contains a) else if x.fmod 6 = 3 then ns1 ++ ns2.filter (fun a => !ns1.contains a)
      else if x.fmod 6 = 4 then ns1.filter (fun a => !ns2.contains a) ++ ns2.filter (fun a => !ns1.contains a) else ((List.range 16).map fun k => (2 : Int) ^ k).filter (fun a => !ns1.contains a) := by
    unfold deedRow; simp only [hns1, hns2]
  have fin : ∀ {B h' : Heap} {T R : Addr} {tk' : Nat} {num : Int} {t : Tok} {ws : List Value} {c : Nat} {m : Str → Option Value} {news : List (Addr × Obj)} {row : List Int}, Gnd s.heap base l B → Fr B L h' m → News B L h' ((T, tupObj #[.int num t, .ref R] 0) :: news) → (R, lstObj ws.toArray c) ∈ news → IntsAre ws row →
      num = deedNum es x → row = deedRow es x → Q (.ref T) { s with heap := h', toks := tk' } := by
    intro B h' T R tk' num t ws c m news row G F N hm hw e1 e2
    subst e1 e2
    refine hQ T h' tk' (G.fresh (N _ (.head _)).2.2) (.inr ⟨hx0, t, R, ws, c, (N _ (.head _)).1, G.fresh (N _ (.tail _ hm)).2.2, (N _ (.tail _ hm)).1, hw⟩) (fun b o e hn => F.keep _ _ (G.old b o e hn)) (G.up.trans (.of_keeps F.keep))
  refine PyProof.Rows.item_list (by is_list) b2.1 b2.2.1 hv2 ?_
  walk_at "my_steps"
  · rename x.fmod 6 = 1 => hx1
    rename Fr _ _ _ _ => F1
    rename News _ _ _ _ => N1
    refine filter_frame XB TB hbs G₀ F1 N1 rfl rfl (.inl ⟨hr1, fr1.1, fr1.2⟩) (.inl ⟨hr2, fr2.1, fr2.2⟩) hi1s hi2s (by omega) (by show dp + 1 + 12 < _; omega) (by show un + 3 + 120 < _; omega) (fun B₁ S1 h' tk' zs cz G₁ F2 N2 off hz => ?_)
    have X₁ := XB.keeps G₁.st
    have T₁ := TB.keeps G₁.st
    clear F1 N1 X₀ T₀
    walk_at "my_steps"
    rename Fr _ _ _ _ => F3
    rename News _ _ _ _ => N3
    exact fin G₁ F3 N3 (.head _) hz (by rw [eN, if_pos hx1]) (by rw [eR, if_pos hx1])
  · rename x.fmod 6 = 2 => hx1
    rename Fr _ _ _ _ => F1
    rename News _ _ _ _ => N1
    refine filter_frame XB TB hbs G₀ F1 N1 rfl rfl (.inl ⟨hr1, fr1.1, fr1.2⟩) (.inl ⟨hr2, fr2.1, fr2.2⟩) hi1s hi2s (by omega) (by show dp + 1 + 12 < _; omega) (by show un + 3 + 120 < _; omega) (fun B1 S1 h' tk' zs1 cz1 G1 F2 N2 off1 hz1 => ?_)
    have X1 := XB.keeps G1.st
    have T1 := TB.keeps G1.st
    clear F1 N1 X₀ T₀
    walk_at "my_steps"
    rename Fr _ _ _ _ => F3
    rename News _ _ _ _ => N3
    refine filter_frame XB TB hbs G1 F3 N3 rfl rfl (.inl ⟨G1.old _ _ hr1 fr1.2, fr1.1, fr1.2⟩) (.inr (.head _)) hi1s hz1 (by omega) (by show dp + 1 + 12 < _; omega) (by show un + 3 + 120 < _; omega) (fun B2 S2 h' tk' zs2 cz2 G2 F2 N2 off2 hz2 => ?_)
    have X2 := XB.keeps G2.st
    have T2 := TB.keeps G2.st
    clear F3 N3 X1 T1
    walk_at "my_steps"
    rename Fr _ _ _ _ => F3
    rename News _ _ _ _ => N3
    exact fin G2 F3 N3 (.head _) hz2 (by rw [eN, if_neg (by omega), if_pos hx1]) (by rw [eR, if_neg (by omega), if_pos hx1])
  · rename x.fmod 6 = 3 => hx1
    rename Fr _ _ _ _ => F1
    rename News _ _ _ _ => N1
    refine filter_frame XB TB hbs G₀ F1 N1 rfl rfl (.inl ⟨hr2, fr2.1, fr2.2⟩) (.inl ⟨hr1, fr1.1, fr1.2⟩) hi2s hi1s (by omega) (by show dp + 1 + 12 < _; omega) (by show un + 3 + 120 < _; omega) (fun B1 S1 h' tk' zs1 cz1 G1 F2 N2 off1 hz1 => ?_)
    have X1 := XB.keeps G1.st
    have T1 := TB.keeps G1.st
    clear F1 N1 X₀ T₀
    walk_at "my_steps"
    rename Fr _ _ _ _ => F3
    rename News _ _ _ _ => N3
    refine add_lists_ints F3 N3 ⟨_, F3.keep _ _ (G1.old _ _ hr1 fr1.2), rfl, _, rfl⟩ ⟨_, (N3 _ (.head _)).1, rfl, _, rfl⟩ hi1s hz1 (fun h' F4 N4 hI => ?_) (Nat.le_trans (Nat.add_le_add l1 (Nat.le_trans (List.length_filter_le _ _) l2)) (by decide))
    clear F3 N3
    walk_at "my_steps"
    rename Fr _ _ _ _ => F3
    rename News _ _ _ _ => N3
    exact fin G1 F3 N3 (.head _) hI (by rw [eN, if_neg (by omega), if_neg (by omega), if_pos hx1]) (by rw [eR, if_neg (by omega), if_neg (by omega), if_pos hx1])
  · rename x.fmod 6 = 4 => hx1
    rename Fr _ _ _ _ => F1
    rename News _ _ _ _ => N1
    refine filter_frame XB TB hbs G₀ F1 N1 rfl rfl (.inl ⟨hr1, fr1.1, fr1.2⟩) (.inl ⟨hr2, fr2.1, fr2.2⟩) hi1s hi2s (by omega) (by show dp + 1 + 12 < _; omega) (by show un + 3 + 120 < _; omega) (fun B1 S1 h' tk' zs1 cz1 G1 F2 N2 off1 hz1 => ?_)
    have X1 := XB.keeps G1.st
    have T1 := TB.keeps G1.st
    clear F1 N1 X₀ T₀
    walk_at "my_steps"
    rename Fr _ _ _ _ => F3
    rename News _ _ _ _ => N3
    refine filter_frame XB TB hbs G1 F3 N3 rfl rfl (.inl ⟨G1.old _ _ hr2 fr2.2, fr2.1, fr2.2⟩) (.inl ⟨G1.old _ _ hr1 fr1.2, fr1.1, fr1.2⟩) hi2s hi1s (by omega) (by show dp + 1 + 12 < _; omega) (by show un + 3 + 120 < _; omega) (fun B2 S2 h' tk' zs2 cz2 G2 F2 N2 off2 hz2 => ?_)
    have X2 := XB.keeps G2.st
    have T2 := TB.keeps G2.st
    clear F3 N3 X1 T1
    walk_at "my_steps"
    rename Fr _ _ _ _ => F3
    rename News _ _ _ _ => N3
    refine add_lists_ints F3 N3 ⟨_, (N3 _ (.tail _ (.head _))).1, rfl, _, rfl⟩ ⟨_, (N3 _ (.head _)).1, rfl, _, rfl⟩ hz1 hz2 (fun h' F4 N4 hI => ?_) (Nat.le_trans (Nat.add_le_add (Nat.le_trans (List.length_filter_le _ _) l1) (Nat.le_trans (List.length_filter_le _ _) l2)) (by decide))
    clear F3 N3
    walk_at "my_steps"
    rename Fr _ _ _ _ => F3
    rename News _ _ _ _ => N3
    exact fin G2 F3 N3 (.head _) hI (by rw [eN, if_neg (by omega), if_neg (by omega), if_neg (by omega), if_pos hx1]) (by rw [eR, if_neg (by omega), if_neg (by omega), if_neg (by omega), if_pos hx1])
  · rename x.fmod 6 ≠ 1 => hx1
    rename x.fmod 6 ≠ 2 => hx2
    rename x.fmod 6 ≠ 3 => hx3
    rename x.fmod 6 ≠ 4 => hx4
    refine comp_U [0, 1, 2, 3, 4, 5, 6, 7, 8, 9, 10, 11, 12, 13, 14, 15] (fun (n : Int) v => ∃ t, v = .int n t) (fun n => 2 ^ n.toNat) (by with_unfolding_all rfl) (by decide) (by rfl) (by decide) (by rfl) (by decide) ?_
    walk_at "my_steps"
    rename Fr _ _ _ _ => F1
    rename News _ _ _ _ => N1
    rename IsRange _ _ _ _ _ _ _ _ => hR
    refine ⟨_, _, _, _, _, feeds_range rfl F1 N1 hR (by decide) rfl, ?_, ?_, ?_⟩
    · rintro i v hi ⟨t, rfl⟩
      have : i = 0 ∨ i = 1 ∨ i = 2 ∨ i = 3 ∨ i = 4 ∨ i = 5 ∨ i = 6 ∨ i = 7 ∨ i = 8 ∨ i = 9 ∨ i = 10 ∨ i = 11 ∨ i = 12 ∨ i = 13 ∨ i = 14 ∨ i = 15 := by
        have : i < 16 := hi
        omega
      rcases this with rfl | rfl | rfl | rfl | rfl | rfl | rfl | rfl | rfl | rfl | rfl | rfl | rfl | rfl | rfl | rfl
      all_goals exact ⟨_, rfl, t, rfl⟩
    · intro g a v ha hv I oI C oC D ys m₂ h tk Q' E' hTH k
      obtain ⟨t, rfl⟩ := hv
      obtain ⟨hC, hx, F', N', off, ne⟩ := hTH
      have ha2 : 0 ≤ a ∧ a < 16 := by
        simp only [List.mem_cons, List.not_mem_nil, or_false] at ha
        omega
      obtain ⟨ha0, ha1⟩ := ha2
      walk_at "my_steps"
      exact k _ _ _ (by assumption) (by assumption)
    intro ys D h tk hys F2 N2 off
    clear F1 N1
    walk_at "my_steps"
    rename Fr _ _ _ _ => F3
    rename News _ _ _ _ => N3
    refine filter_frame XB TB hbs G₀ F3 N3 rfl rfl (.inr (.head _)) (.inl ⟨hr1, fr1.1, fr1.2⟩) hys hi1s (by decide) (by show dp + 1 + 12 < _; omega) (by show un + 3 + 120 < _; omega) (fun B₁ S1 h' tk' zs cz G₁ F2 N2 off hz => ?_)
    have X₁ := XB.keeps G₁.st
    have T₁ := TB.keeps G₁.st
    clear F3 N3 X₀ T₀
    walk_at "my_steps"
    rename Fr _ _ _ _ => F3
    rename News _ _ _ _ => N3
    exact fin G₁ F3 N3 (.head _) hz (by rw [eN, if_neg hx1, if_neg hx2, if_neg hx3, if_neg hx4]) (by rw [eR, if_neg hx1, if_neg hx2, if_neg hx3, if_neg hx4]; rfl)
end Mine
end

section
open PySem PySem.W PyProof.Rows PySem.Spec PySem.Calls PySem.SeqAt
set_option Elab.async false
namespace Mine
/-- a bit of a number -/
def bt (n : Int) (i : Nat) : Bool := n / 2 ^ i % 2 == 1
theorem em2 (x : Int) : x % 2 = 0 ∨ x % 2 = 1 := by omega
theorem bt_zero (n : Int) : bt n 0 = (n % 2 == 1) := by unfold bt; rw [Int.pow_zero, Int.ediv_one]
theorem bt_succ (n : Int) (i : Nat) : bt n (i + 1) = bt (n / 2) i := by
  unfold bt
  rw [Int.pow_succ, Int.mul_comm (2 ^ i) 2, Int.ediv_ediv, if_neg (by omega), Int.sub_zero]
theorem bitNot_div (x : Int) : Builtin.bitNot x / 2 = Builtin.bitNot (x / 2) := by unfold Builtin.bitNot; omega
theorem bitNot_mod (x : Int) : Builtin.bitNot x % 2 = 1 - x % 2 := by unfold Builtin.bitNot; omega
theorem nat_and (a b : Nat) : (a &&& b) = 2 * ((a / 2) &&& (b / 2)) + (if a % 2 = 1 ∧ b % 2 = 1 then 1 else 0) := by
  have h1 : (a &&& b) / 2 = a / 2 &&& b / 2 := Nat.and_div_two
  have h2 : (a &&& b) % 2 = 1 ↔ a % 2 = 1 ∧ b % 2 = 1 := Nat.and_mod_two_eq_one
  split <;> rename_i h
  · have := h2.mpr h; omega
  · have : ¬ (a &&& b) % 2 = 1 := fun q => h (h2.mp q)
    omega
theorem nat_or (a b : Nat) : (a ||| b) = 2 * ((a / 2) ||| (b / 2)) + (if a % 2 = 1 ∨ b % 2 = 1 then 1 else 0) := by
  have h1 : (a ||| b) / 2 = a / 2 ||| b / 2 := Nat.or_div_two
  have h2 : (a ||| b) % 2 = 1 ↔ a % 2 = 1 ∨ b % 2 = 1 := Nat.or_mod_two_eq_one
  split <;> rename_i h
  · have := h2.mpr h; omega
  · have : ¬ (a ||| b) % 2 = 1 := fun q => h (h2.mp q)
    omega
theorem toNat_half {x : Int} (_ : 0 ≤ x) : (x / 2).toNat = x.toNat / 2 := by omega
theorem toNat_not_half {x : Int} (_ : x < 0) : (Builtin.bitNot (x / 2)).toNat = (Builtin.bitNot x).toNat / 2 := by unfold Builtin.bitNot; omega
theorem and_rec (x y : Int) : Builtin.bitAnd x y = 2 * Builtin.bitAnd (x / 2) (y / 2) + (if x % 2 = 1 ∧ y % 2 = 1 then 1 else 0) := by
  unfold Builtin.bitAnd
  have c1 : (0 ≤ x / 2) ↔ 0 ≤ x := by omega
  have c2 : (0 ≤ y / 2) ↔ 0 ≤ y := by omega
  by_cases hx : 0 ≤ x <;> by_cases hy : 0 ≤ y
  · simp only [c1, c2, hx, hy, decide_true]
    rw [toNat_half hx, toNat_half hy, nat_and x.toNat y.toNat]
    generalize x.toNat / 2 &&& y.toNat / 2 = z
    have e1 : x.toNat % 2 = 1 ↔ x % 2 = 1 := by omega
    have e2 : y.toNat % 2 = 1 ↔ y % 2 = 1 := by omega
    simp only [e1, e2]
    split <;> omega
  · simp only [c1, c2, hx, hy, decide_true, decide_false]
    rw [toNat_half hx, toNat_not_half (by omega), nat_and x.toNat (Builtin.bitNot y).toNat]
    generalize x.toNat / 2 &&& (Builtin.bitNot y).toNat / 2 = z
    have e1 : x.toNat % 2 = 1 ↔ x % 2 = 1 := by omega
    have e2 : (Builtin.bitNot y).toNat % 2 = 1 ↔ ¬ y % 2 = 1 := by unfold Builtin.bitNot; omega
    simp only [e1, e2]
    split <;> split <;> omega
  · simp only [c1, c2, hx, hy, decide_true, decide_false]
    rw [toNat_half hy, toNat_not_half (by omega), nat_and y.toNat (Builtin.bitNot x).toNat]
    generalize y.toNat / 2 &&& (Builtin.bitNot x).toNat / 2 = z
    have e1 : y.toNat % 2 = 1 ↔ y % 2 = 1 := by omega
    have e2 : (Builtin.bitNot x).toNat % 2 = 1 ↔ ¬ x % 2 = 1 := by unfold Builtin.bitNot; omega
    simp only [e1, e2]
    split <;> split <;> omega
  · simp only [c1, c2, hx, hy, decide_false]
    rw [toNat_not_half (by omega), toNat_not_half (x := y) (by omega), nat_or (Builtin.bitNot x).toNat (Builtin.bitNot y).toNat]
    generalize (Builtin.bitNot x).toNat / 2 ||| (Builtin.bitNot y).toNat / 2 = z
    have e1 : (Builtin.bitNot x).toNat % 2 = 1 ↔ ¬ x % 2 = 1 := by unfold Builtin.bitNot; omega
    have e2 : (Builtin.bitNot y).toNat % 2 = 1 ↔ ¬ y % 2 = 1 := by unfold Builtin.bitNot; omega
    simp only [e1, e2]
    unfold Builtin.bitNot
    split <;> split <;> omega
theorem bt_not (i : Nat) : ∀ x, bt (Builtin.bitNot x) i = !bt x i := by
  induction i with
  | zero => intro x; rw [bt_zero, bt_zero, bitNot_mod]; rcases em2 x with h | h <;> rw [h] <;> rfl
  | succ i ih => intro x; rw [bt_succ, bt_succ, bitNot_div, ih]
theorem and_div (x y : Int) : Builtin.bitAnd x y / 2 = Builtin.bitAnd (x / 2) (y / 2) := by have := and_rec x y; split at this <;> omega
theorem and_mod (x y : Int) : Builtin.bitAnd x y % 2 = if x % 2 = 1 ∧ y % 2 = 1 then 1 else 0 := by have := and_rec x y; split at this <;> omega
theorem bt_and (i : Nat) : ∀ x y, bt (Builtin.bitAnd x y) i = (bt x i && bt y i) := by
  induction i with
  | zero =>
    intro x y; rw [bt_zero, bt_zero, bt_zero, and_mod]
    rcases em2 x with h | h <;> rcases em2 y with h' | h' <;> rw [h, h'] <;> rfl
  | succ i ih => intro x y; rw [bt_succ, bt_succ, bt_succ, and_div, ih]
theorem bt_or (i : Nat) (x y : Int) : bt (Builtin.bitOr x y) i = (bt x i || bt y i) := by
  unfold Builtin.bitOr
  rw [bt_not, bt_and, bt_not, bt_not]
  cases bt x i <;> cases bt y i <;> rfl
theorem xor_div (x y : Int) : Builtin.bitXor x y / 2 = Builtin.bitXor (x / 2) (y / 2) := by
  rw [bitXor_and, bitXor_and, and_rec x y]
  split <;> omega
theorem bt_xor (i : Nat) : ∀ x y, bt (Builtin.bitXor x y) i = (bt x i != bt y i) := by
  induction i with
  | zero =>
    intro x y; rw [bt_zero, bt_zero, bt_zero, bitXor_and]
    rcases em2 x with h | h <;> rcases em2 y with h' | h'
    all_goals
      rw [h, h']
      first
        | (rw [show (x + y - 2 * Builtin.bitAnd x y) % 2 = 0 by omega]; rfl)
        | (rw [show (x + y - 2 * Builtin.bitAnd x y) % 2 = 1 by omega]; rfl)
  | succ i ih => intro x y; rw [bt_succ, bt_succ, bt_succ, xor_div, ih]
/-- the number of bits in a row -/
def wsum : Nat → (Nat → Bool) → Int
  | 0, _ => 0
  | k + 1, p => (if p 0 then 1 else 0) + 2 * wsum k (fun i => p (i + 1))
theorem and_bits : ∀ (k : Nat) (x y : Int), 0 ≤ y → y < 2 ^ k → Builtin.bitAnd x y = wsum k fun i => bt x i && bt y i
  | 0, x, y, h0, h1 => by
    have : y = 0 := by rw [Int.pow_zero] at h1; omega
    subst this
    unfold Builtin.bitAnd wsum
    by_cases hx : 0 ≤ x
    · simp [hx]
    · simp [hx]
  | k + 1, x, y, h0, h1 => by
    rw [and_rec, and_bits k (x / 2) (y / 2) (by omega) (by rw [Int.pow_succ] at h1; omega)]
    show _ = (if (bt x 0 && bt y 0) = true then 1 else 0) + 2 * wsum k fun i => bt x (i + 1) && bt y (i + 1)
    rw [bt_zero, bt_zero]
    simp only [bt_succ]
    rw [Int.add_comm]
    congr 1
    rcases em2 x with h | h <;> rcases em2 y with h' | h' <;> rw [h, h'] <;> rfl
end Mine
end

section
open PySem PySem.W PyProof.Rows PySem.Spec PySem.Calls PySem.SeqAt
set_option Elab.async false
set_option maxRecDepth 100000
namespace Mine
def pows : List Int := (List.range 16).map fun i => (2 : Int) ^ i
theorem pows_nodup : pows.Nodup := by decide
theorem pow_inj : ∀ i, i < 16 → ∀ j, j < 16 → (2 : Int) ^ i = 2 ^ j → i = j := by decide
/-- the row is the number's last sixteen bits -/
def Good (n : Int) (ns : List Int) : Prop := ns.Nodup ∧ (∀ v ∈ ns, ∃ i, i < 16 ∧ v = (2 : Int) ^ i) ∧ ∀ i, i < 16 → ((2 : Int) ^ i ∈ ns ↔ bt n i = true)
def can (n : Int) : List Int := ((List.range 16).filter fun i => bt n i).map fun i => (2 : Int) ^ i
theorem can_sub (n : Int) : (can n).Sublist pows := List.filter_sublist.map _
theorem can_nodup (n : Int) : (can n).Nodup := (can_sub n).nodup pows_nodup
theorem can_mem (n v : Int) : v ∈ can n ↔ ∃ i, i < 16 ∧ bt n i = true ∧ v = (2 : Int) ^ i := by
  unfold can
  simp only [List.mem_map, List.mem_filter, List.mem_range]
  constructor
  · rintro ⟨i, ⟨h1, h2⟩, rfl⟩; exact ⟨i, h1, h2, rfl⟩
  · rintro ⟨i, h1, h2, rfl⟩; exact ⟨i, ⟨h1, h2⟩, rfl⟩
theorem good_perm {n : Int} {ns : List Int} (g : Good n ns) : ns.Perm (can n) := by
  refine (List.perm_ext_iff_of_nodup g.1 (can_nodup n)).mpr fun v => ?_
  rw [can_mem]
  constructor
  · intro h
    obtain ⟨i, hi, rfl⟩ := g.2.1 v h
    exact ⟨i, hi, (g.2.2 i hi).mp h, rfl⟩
  · rintro ⟨i, hi, hb, rfl⟩
    exact (g.2.2 i hi).mpr hb
theorem good_len {n : Int} {ns : List Int} (g : Good n ns) : ns.length ≤ 16 := by
  rw [(good_perm g).length_eq]
  exact (can_sub n).length_le
theorem good_count {n : Int} {ns : List Int} (g : Good n ns) (k : Int) : ns.count k ≤ 1 := List.nodup_iff_count.mp g.1 k
theorem good_count' {n : Int} {ns : List Int} (g : Good n ns) {i : Nat} (hi : i < 16) : ns.count ((2 : Int) ^ i) = if bt n i then 1 else 0 := by
  have h := good_count g ((2 : Int) ^ i)
  cases hb : bt n i with
  | true =>
    have := List.count_pos_iff.mpr ((g.2.2 i hi).mpr hb)
    simp; omega
  | false =>
    have hn : ¬ (2 : Int) ^ i ∈ ns := fun q => by rw [(g.2.2 i hi).mp q] at hb; cases hb
    simp [List.count_eq_zero.mpr hn]
theorem perm_sum {l l' : List Int} (h : l.Perm l') : l.sum = l'.sum := by
  induction h with
  | nil => rfl
  | cons x _ ih => simp [ih]
  | swap x y l => simp only [List.sum_cons]; omega
  | trans _ _ a b => exact a.trans b
def bi (b : Bool) : Int := if b = true then 1 else 0
theorem bi_true : bi true = 1 := rfl
theorem bi_false : bi false = 0 := rfl
theorem wsum_succ (k : Nat) (p : Nat → Bool) : wsum (k + 1) p = bi (p 0) + 2 * wsum k (fun i => p (i + 1)) := rfl
theorem wsum_zero (p : Nat → Bool) : wsum 0 p = 0 := rfl
/-- a sum over a row by its bits -/
theorem good_sum {n : Int} {ns : List Int} (g : Good n ns) (p : Int → Bool) (f : Int → Int) : ((ns.filter p).map f).sum = ((List.range 16).map fun i => bi (bt n i && p ((2 : Int) ^ i)) * f ((2 : Int) ^ i)).sum := by
  rw [perm_sum (((good_perm g).filter p).map f)]
  unfold can
  generalize List.range 16 = l
  induction l with
  | nil => rfl
  | cons a l ih =>
    rw [List.map_cons, List.sum_cons, ← ih]
    cases h1 : bt n a with
    | true =>
      cases h2 : p ((2 : Int) ^ a) with
      | true => simp [h1, h2, bi]
      | false => simp [h1, h2, bi]
    | false => simp [h1, bi]
theorem range16 : List.range 16 = [0, 1, 2, 3, 4, 5, 6, 7, 8, 9, 10, 11, 12, 13, 14, 15] := by decide
theorem ite_w (b : Bool) (c : Int) : (if b = true then c else 0) = c * (if b = true then 1 else 0) := by cases b <;> simp
theorem good_kind' {n : Int} {ns : List Int} (g : Good n ns) : (ns.map fun n => n.fdiv 4096).sum = bi (bt n 12) + 2 * bi (bt n 13) + 4 * bi (bt n 14) + 8 * bi (bt n 15) := by
  have h := good_sum g (fun _ => true) (fun n => n.fdiv 4096)
  rw [List.filter_eq_self.mpr (fun _ _ => rfl)] at h
  rw [h, range16]
  have z : ∀ i, i < 12 → ((2 : Int) ^ i).fdiv 4096 = 0 := by decide
  simp only [List.map_cons, List.map_nil, List.sum_cons, List.sum_nil, Bool.and_true, Int.mul_zero, z 0 (by decide), z 1 (by decide), z 2 (by decide), z 3 (by decide), z 4 (by decide), z 5 (by decide), z 6 (by decide), z 7 (by decide), z 8 (by decide), z 9 (by decide), z 10 (by decide), z 11 (by decide),
    show ((2 : Int) ^ 12).fdiv 4096 = 1 by decide, show ((2 : Int) ^ 13).fdiv 4096 = 2 by decide, show ((2 : Int) ^ 14).fdiv 4096 = 4 by decide, show ((2 : Int) ^ 15).fdiv 4096 = 8 by decide]
  generalize bt n 12 = b12
  generalize bt n 13 = b13
  generalize bt n 14 = b14
  generalize bt n 15 = b15
  cases b12 <;> cases b13 <;> cases b14 <;> cases b15 <;> rfl
theorem good_kind {n : Int} {ns : List Int} (g : Good n ns) : 0 ≤ (ns.map fun n => n.fdiv 4096).sum ∧ (ns.map fun n => n.fdiv 4096).sum < 16 := by
  rw [good_kind' g]
  cases bt n 12 <;> cases bt n 13 <;> cases bt n 14 <;> cases bt n 15 <;> decide
theorem kind_and (n : Int) : Builtin.bitAnd n 61440 = 4096 * (bi (bt n 12) + 2 * bi (bt n 13) + 4 * bi (bt n 14) + 8 * bi (bt n 15)) := by
  rw [and_bits 16 n 61440 (by decide) (by decide)]
  have z : ∀ i, i < 16 → bt 61440 i = decide (12 ≤ i) := by decide
  simp only [wsum_succ, wsum_zero, Nat.zero_add, Nat.reduceAdd, z 0 (by decide), z 1 (by decide), z 2 (by decide), z 3 (by decide), z 4 (by decide), z 5 (by decide), z 6 (by decide), z 7 (by decide), z 8 (by decide), z 9 (by decide), z 10 (by decide), z 11 (by decide), z 12 (by decide), z 13 (by decide), z 14 (by decide), z 15 (by decide)]
  generalize bt n 12 = b12
  generalize bt n 13 = b13
  generalize bt n 14 = b14
  generalize bt n 15 = b15
  simp only [show decide (12 ≤ 0) = false by decide, show decide (12 ≤ 1) = false by decide, show decide (12 ≤ 2) = false by decide, show decide (12 ≤ 3) = false by decide, show decide (12 ≤ 4) = false by decide, show decide (12 ≤ 5) = false by decide, show decide (12 ≤ 6) = false by decide,
    show decide (12 ≤ 7) = false by decide, show decide (12 ≤ 8) = false by decide, show decide (12 ≤ 9) = false by decide, show decide (12 ≤ 10) = false by decide, show decide (12 ≤ 11) = false by decide, show decide (12 ≤ 12) = true by decide, show decide (12 ≤ 13) = true by decide,
    show decide (12 ≤ 14) = true by decide, show decide (12 ≤ 15) = true by decide, Bool.and_false, Bool.and_true, bi_false]
  cases b12 <;> cases b13 <;> cases b14 <;> cases b15 <;> rfl
theorem good_high {n : Int} {ns : List Int} (g : Good n ns) : ((ns.filter fun w => decide (w > 2048)).map id).sum = Builtin.bitAnd n 61440 := by
  rw [kind_and, good_sum g, range16]
  have z : ∀ i, i < 12 → decide ((2 : Int) ^ i > 2048) = false := by decide
  have z' : ∀ i, i < 16 → 12 ≤ i → decide ((2 : Int) ^ i > 2048) = true := by decide
  simp only [List.map_cons, List.map_nil, List.sum_cons, List.sum_nil, z 0 (by decide), z 1 (by decide), z 2 (by decide), z 3 (by decide), z 4 (by decide), z 5 (by decide), z 6 (by decide), z 7 (by decide), z 8 (by decide), z 9 (by decide), z 10 (by decide), z 11 (by decide),
    z' 12 (by decide) (by decide), z' 13 (by decide) (by decide), z' 14 (by decide) (by decide), z' 15 (by decide) (by decide), Bool.and_false, Bool.and_true, bi_false, Int.zero_mul]
  generalize bt n 12 = b12
  generalize bt n 13 = b13
  generalize bt n 14 = b14
  generalize bt n 15 = b15
  cases b12 <;> cases b13 <;> cases b14 <;> cases b15 <;> rfl
theorem good_low {n : Int} {ns : List Int} (g : Good n ns) : ((ns.filter fun w => decide (w < 4096)).map id).sum = Builtin.bitAnd n 4095 := by
  rw [and_bits 12 n 4095 (by decide) (by decide), good_sum g, range16]
  have z : ∀ i, i < 12 → decide ((2 : Int) ^ i < 4096) = true := by decide
  have z' : ∀ i, i < 16 → 12 ≤ i → decide ((2 : Int) ^ i < 4096) = false := by decide
  have y : ∀ i, i < 12 → bt 4095 i = true := by decide
  simp only [wsum_succ, wsum_zero, Nat.zero_add, Nat.reduceAdd, List.map_cons, List.map_nil, List.sum_cons, List.sum_nil, z 0 (by decide), z 1 (by decide), z 2 (by decide), z 3 (by decide), z 4 (by decide), z 5 (by decide), z 6 (by decide), z 7 (by decide), z 8 (by decide), z 9 (by decide), z 10 (by decide), z 11 (by decide),
    y 0 (by decide), y 1 (by decide), y 2 (by decide), y 3 (by decide), y 4 (by decide), y 5 (by decide), y 6 (by decide), y 7 (by decide), y 8 (by decide), y 9 (by decide), y 10 (by decide), y 11 (by decide), Bool.and_true,
    z' 12 (by decide) (by decide), z' 13 (by decide) (by decide), z' 14 (by decide) (by decide), z' 15 (by decide) (by decide), Bool.and_false, Bool.and_true, bi_false, Int.zero_mul]
  simp only [id]
  generalize bi (bt n 0) = t0
  generalize bi (bt n 1) = t1
  generalize bi (bt n 2) = t2
  generalize bi (bt n 3) = t3
  generalize bi (bt n 4) = t4
  generalize bi (bt n 5) = t5
  generalize bi (bt n 6) = t6
  generalize bi (bt n 7) = t7
  generalize bi (bt n 8) = t8
  generalize bi (bt n 9) = t9
  generalize bi (bt n 10) = t10
  generalize bi (bt n 11) = t11
  omega
end Mine
end

section
open PySem PySem.W PyProof.Rows PySem.Spec PySem.Calls PySem.SeqAt
set_option Elab.async false
set_option maxRecDepth 100000
set_option maxHeartbeats 4000000
namespace Mine
theorem and_256 (n : Int) : Builtin.bitAnd n 256 = 256 * bi (bt n 8) := by
  rw [and_bits 16 n 256 (by decide) (by decide)]
  have z : ∀ i, i < 16 → bt 256 i = decide (2 ^ i &&& 256 ≠ 0) := by decide
  simp only [wsum_succ, wsum_zero, Nat.zero_add, Nat.reduceAdd, z 0 (by decide), z 1 (by decide), z 2 (by decide), z 3 (by decide), z 4 (by decide), z 5 (by decide), z 6 (by decide), z 7 (by decide), z 8 (by decide), z 9 (by decide), z 10 (by decide), z 11 (by decide), z 12 (by decide), z 13 (by decide), z 14 (by decide), z 15 (by decide)]
  simp only [show decide (2 ^ 0 &&& 256 ≠ 0) = false by decide, show decide (2 ^ 1 &&& 256 ≠ 0) = false by decide, show decide (2 ^ 2 &&& 256 ≠ 0) = false by decide, show decide (2 ^ 3 &&& 256 ≠ 0) = false by decide, show decide (2 ^ 4 &&& 256 ≠ 0) = false by decide, show decide (2 ^ 5 &&& 256 ≠ 0) = false by decide, show decide (2 ^ 6 &&& 256 ≠ 0) = false by decide, show decide (2 ^ 7 &&& 256 ≠ 0) = false by decide, show decide (2 ^ 8 &&& 256 ≠ 0) = true by decide, show decide (2 ^ 9 &&& 256 ≠ 0) = false by decide, show decide (2 ^ 10 &&& 256 ≠ 0) = false by decide, show decide (2 ^ 11 &&& 256 ≠ 0) = false by decide, show decide (2 ^ 12 &&& 256 ≠ 0) = false by decide, show decide (2 ^ 13 &&& 256 ≠ 0) = false by decide, show decide (2 ^ 14 &&& 256 ≠ 0) = false by decide, show decide (2 ^ 15 &&& 256 ≠ 0) = false by decide, Bool.and_false, Bool.and_true, bi_false]
  generalize bt n 8 = b8
  cases b8 <;> rfl
theorem hit_256 (n : Int) : (Builtin.bitAnd n 256 == 256) = (bt n 8) := by
  rw [and_256]
  cases bt n 8 <;> rfl
theorem and_128 (n : Int) : Builtin.bitAnd n 128 = 128 * bi (bt n 7) := by
  rw [and_bits 16 n 128 (by decide) (by decide)]
  have z : ∀ i, i < 16 → bt 128 i = decide (2 ^ i &&& 128 ≠ 0) := by decide
  simp only [wsum_succ, wsum_zero, Nat.zero_add, Nat.reduceAdd, z 0 (by decide), z 1 (by decide), z 2 (by decide), z 3 (by decide), z 4 (by decide), z 5 (by decide), z 6 (by decide), z 7 (by decide), z 8 (by decide), z 9 (by decide), z 10 (by decide), z 11 (by decide), z 12 (by decide), z 13 (by decide), z 14 (by decide), z 15 (by decide)]
  simp only [show decide (2 ^ 0 &&& 128 ≠ 0) = false by decide, show decide (2 ^ 1 &&& 128 ≠ 0) = false by decide, show decide (2 ^ 2 &&& 128 ≠ 0) = false by decide, show decide (2 ^ 3 &&& 128 ≠ 0) = false by decide, show decide (2 ^ 4 &&& 128 ≠ 0) = false by decide, show decide (2 ^ 5 &&& 128 ≠ 0) = false by decide, show decide (2 ^ 6 &&& 128 ≠ 0) = false by decide, show decide (2 ^ 7 &&& 128 ≠ 0) = true by decide, show decide (2 ^ 8 &&& 128 ≠ 0) = false by decide, show decide (2 ^ 9 &&& 128 ≠ 0) = false by decide, show decide (2 ^ 10 &&& 128 ≠ 0) = false by decide, show decide (2 ^ 11 &&& 128 ≠ 0) = false by decide, show decide (2 ^ 12 &&& 128 ≠ 0) = false by decide, show decide (2 ^ 13 &&& 128 ≠ 0) = false by decide, show decide (2 ^ 14 &&& 128 ≠ 0) = false by decide, show decide (2 ^ 15 &&& 128 ≠ 0) = false by decide, Bool.and_false, Bool.and_true, bi_false]
  generalize bt n 7 = b7
  cases b7 <;> rfl
theorem hit_128 (n : Int) : (Builtin.bitAnd n 128 == 128) = (bt n 7) := by
  rw [and_128]
  cases bt n 7 <;> rfl
theorem and_2112 (n : Int) : Builtin.bitAnd n 2112 = 64 * bi (bt n 6) + 2048 * bi (bt n 11) := by
  rw [and_bits 16 n 2112 (by decide) (by decide)]
  have z : ∀ i, i < 16 → bt 2112 i = decide (2 ^ i &&& 2112 ≠ 0) := by decide
  simp only [wsum_succ, wsum_zero, Nat.zero_add, Nat.reduceAdd, z 0 (by decide), z 1 (by decide), z 2 (by decide), z 3 (by decide), z 4 (by decide), z 5 (by decide), z 6 (by decide), z 7 (by decide), z 8 (by decide), z 9 (by decide), z 10 (by decide), z 11 (by decide), z 12 (by decide), z 13 (by decide), z 14 (by decide), z 15 (by decide)]
  simp only [show decide (2 ^ 0 &&& 2112 ≠ 0) = false by decide, show decide (2 ^ 1 &&& 2112 ≠ 0) = false by decide, show decide (2 ^ 2 &&& 2112 ≠ 0) = false by decide, show decide (2 ^ 3 &&& 2112 ≠ 0) = false by decide, show decide (2 ^ 4 &&& 2112 ≠ 0) = false by decide, show decide (2 ^ 5 &&& 2112 ≠ 0) = false by decide, show decide (2 ^ 6 &&& 2112 ≠ 0) = true by decide, show decide (2 ^ 7 &&& 2112 ≠ 0) = false by decide, show decide (2 ^ 8 &&& 2112 ≠ 0) = false by decide, show decide (2 ^ 9 &&& 2112 ≠ 0) = false by decide, show decide (2 ^ 10 &&& 2112 ≠ 0) = false by decide, show decide (2 ^ 11 &&& 2112 ≠ 0) = true by decide, show decide (2 ^ 12 &&& 2112 ≠ 0) = false by decide, show decide (2 ^ 13 &&& 2112 ≠ 0) = false by decide, show decide (2 ^ 14 &&& 2112 ≠ 0) = false by decide, show decide (2 ^ 15 &&& 2112 ≠ 0) = false by decide, Bool.and_false, Bool.and_true, bi_false]
  generalize bt n 6 = b6
  generalize bt n 11 = b11
  cases b6 <;> cases b11 <;> rfl
theorem hit_2112 (n : Int) : (Builtin.bitAnd n 2112 == 2112) = (bt n 6 && bt n 11) := by
  rw [and_2112]
  cases bt n 6 <;> cases bt n 11 <;> rfl
theorem and_2048 (n : Int) : Builtin.bitAnd n 2048 = 2048 * bi (bt n 11) := by
  rw [and_bits 16 n 2048 (by decide) (by decide)]
  have z : ∀ i, i < 16 → bt 2048 i = decide (2 ^ i &&& 2048 ≠ 0) := by decide
  simp only [wsum_succ, wsum_zero, Nat.zero_add, Nat.reduceAdd, z 0 (by decide), z 1 (by decide), z 2 (by decide), z 3 (by decide), z 4 (by decide), z 5 (by decide), z 6 (by decide), z 7 (by decide), z 8 (by decide), z 9 (by decide), z 10 (by decide), z 11 (by decide), z 12 (by decide), z 13 (by decide), z 14 (by decide), z 15 (by decide)]
  simp only [show decide (2 ^ 0 &&& 2048 ≠ 0) = false by decide, show decide (2 ^ 1 &&& 2048 ≠ 0) = false by decide, show decide (2 ^ 2 &&& 2048 ≠ 0) = false by decide, show decide (2 ^ 3 &&& 2048 ≠ 0) = false by decide, show decide (2 ^ 4 &&& 2048 ≠ 0) = false by decide, show decide (2 ^ 5 &&& 2048 ≠ 0) = false by decide, show decide (2 ^ 6 &&& 2048 ≠ 0) = false by decide, show decide (2 ^ 7 &&& 2048 ≠ 0) = false by decide, show decide (2 ^ 8 &&& 2048 ≠ 0) = false by decide, show decide (2 ^ 9 &&& 2048 ≠ 0) = false by decide, show decide (2 ^ 10 &&& 2048 ≠ 0) = false by decide, show decide (2 ^ 11 &&& 2048 ≠ 0) = true by decide, show decide (2 ^ 12 &&& 2048 ≠ 0) = false by decide, show decide (2 ^ 13 &&& 2048 ≠ 0) = false by decide, show decide (2 ^ 14 &&& 2048 ≠ 0) = false by decide, show decide (2 ^ 15 &&& 2048 ≠ 0) = false by decide, Bool.and_false, Bool.and_true, bi_false]
  generalize bt n 11 = b11
  cases b11 <;> rfl
theorem hit_2048 (n : Int) : (Builtin.bitAnd n 2048 == 2048) = (bt n 11) := by
  rw [and_2048]
  cases bt n 11 <;> rfl
theorem and_64 (n : Int) : Builtin.bitAnd n 64 = 64 * bi (bt n 6) := by
  rw [and_bits 16 n 64 (by decide) (by decide)]
  have z : ∀ i, i < 16 → bt 64 i = decide (2 ^ i &&& 64 ≠ 0) := by decide
  simp only [wsum_succ, wsum_zero, Nat.zero_add, Nat.reduceAdd, z 0 (by decide), z 1 (by decide), z 2 (by decide), z 3 (by decide), z 4 (by decide), z 5 (by decide), z 6 (by decide), z 7 (by decide), z 8 (by decide), z 9 (by decide), z 10 (by decide), z 11 (by decide), z 12 (by decide), z 13 (by decide), z 14 (by decide), z 15 (by decide)]
  simp only [show decide (2 ^ 0 &&& 64 ≠ 0) = false by decide, show decide (2 ^ 1 &&& 64 ≠ 0) = false by decide, show decide (2 ^ 2 &&& 64 ≠ 0) = false by decide, show decide (2 ^ 3 &&& 64 ≠ 0) = false by decide, show decide (2 ^ 4 &&& 64 ≠ 0) = false by decide, show decide (2 ^ 5 &&& 64 ≠ 0) = false by decide, show decide (2 ^ 6 &&& 64 ≠ 0) = true by decide, show decide (2 ^ 7 &&& 64 ≠ 0) = false by decide, show decide (2 ^ 8 &&& 64 ≠ 0) = false by decide, show decide (2 ^ 9 &&& 64 ≠ 0) = false by decide, show decide (2 ^ 10 &&& 64 ≠ 0) = false by decide, show decide (2 ^ 11 &&& 64 ≠ 0) = false by decide, show decide (2 ^ 12 &&& 64 ≠ 0) = false by decide, show decide (2 ^ 13 &&& 64 ≠ 0) = false by decide, show decide (2 ^ 14 &&& 64 ≠ 0) = false by decide, show decide (2 ^ 15 &&& 64 ≠ 0) = false by decide, Bool.and_false, Bool.and_true, bi_false]
  generalize bt n 6 = b6
  cases b6 <;> rfl
theorem hit_64 (n : Int) : (Builtin.bitAnd n 64 == 64) = (bt n 6) := by
  rw [and_64]
  cases bt n 6 <;> rfl
theorem and_32 (n : Int) : Builtin.bitAnd n 32 = 32 * bi (bt n 5) := by
  rw [and_bits 16 n 32 (by decide) (by decide)]
  have z : ∀ i, i < 16 → bt 32 i = decide (2 ^ i &&& 32 ≠ 0) := by decide
  simp only [wsum_succ, wsum_zero, Nat.zero_add, Nat.reduceAdd, z 0 (by decide), z 1 (by decide), z 2 (by decide), z 3 (by decide), z 4 (by decide), z 5 (by decide), z 6 (by decide), z 7 (by decide), z 8 (by decide), z 9 (by decide), z 10 (by decide), z 11 (by decide), z 12 (by decide), z 13 (by decide), z 14 (by decide), z 15 (by decide)]
  simp only [show decide (2 ^ 0 &&& 32 ≠ 0) = false by decide, show decide (2 ^ 1 &&& 32 ≠ 0) = false by decide, show decide (2 ^ 2 &&& 32 ≠ 0) = false by decide, show decide (2 ^ 3 &&& 32 ≠ 0) = false by decide, show decide (2 ^ 4 &&& 32 ≠ 0) = false by decide, show decide (2 ^ 5 &&& 32 ≠ 0) = true by decide, show decide (2 ^ 6 &&& 32 ≠ 0) = false by decide, show decide (2 ^ 7 &&& 32 ≠ 0) = false by decide, show decide (2 ^ 8 &&& 32 ≠ 0) = false by decide, show decide (2 ^ 9 &&& 32 ≠ 0) = false by decide, show decide (2 ^ 10 &&& 32 ≠ 0) = false by decide, show decide (2 ^ 11 &&& 32 ≠ 0) = false by decide, show decide (2 ^ 12 &&& 32 ≠ 0) = false by decide, show decide (2 ^ 13 &&& 32 ≠ 0) = false by decide, show decide (2 ^ 14 &&& 32 ≠ 0) = false by decide, show decide (2 ^ 15 &&& 32 ≠ 0) = false by decide, Bool.and_false, Bool.and_true, bi_false]
  generalize bt n 5 = b5
  cases b5 <;> rfl
theorem hit_32 (n : Int) : (Builtin.bitAnd n 32 == 32) = (bt n 5) := by
  rw [and_32]
  cases bt n 5 <;> rfl
theorem and_16 (n : Int) : Builtin.bitAnd n 16 = 16 * bi (bt n 4) := by
  rw [and_bits 16 n 16 (by decide) (by decide)]
  have z : ∀ i, i < 16 → bt 16 i = decide (2 ^ i &&& 16 ≠ 0) := by decide
  simp only [wsum_succ, wsum_zero, Nat.zero_add, Nat.reduceAdd, z 0 (by decide), z 1 (by decide), z 2 (by decide), z 3 (by decide), z 4 (by decide), z 5 (by decide), z 6 (by decide), z 7 (by decide), z 8 (by decide), z 9 (by decide), z 10 (by decide), z 11 (by decide), z 12 (by decide), z 13 (by decide), z 14 (by decide), z 15 (by decide)]
  simp only [show decide (2 ^ 0 &&& 16 ≠ 0) = false by decide, show decide (2 ^ 1 &&& 16 ≠ 0) = false by decide, show decide (2 ^ 2 &&& 16 ≠ 0) = false by decide, show decide (2 ^ 3 &&& 16 ≠ 0) = false by decide, show decide (2 ^ 4 &&& 16 ≠ 0) = true by decide, show decide (2 ^ 5 &&& 16 ≠ 0) = false by decide, show decide (2 ^ 6 &&& 16 ≠ 0) = false by decide, show decide (2 ^ 7 &&& 16 ≠ 0) = false by decide, show decide (2 ^ 8 &&& 16 ≠ 0) = false by decide, show decide (2 ^ 9 &&& 16 ≠ 0) = false by decide, show decide (2 ^ 10 &&& 16 ≠ 0) = false by decide, show decide (2 ^ 11 &&& 16 ≠ 0) = false by decide, show decide (2 ^ 12 &&& 16 ≠ 0) = false by decide, show decide (2 ^ 13 &&& 16 ≠ 0) = false by decide, show decide (2 ^ 14 &&& 16 ≠ 0) = false by decide, show decide (2 ^ 15 &&& 16 ≠ 0) = false by decide, Bool.and_false, Bool.and_true, bi_false]
  generalize bt n 4 = b4
  cases b4 <;> rfl
theorem hit_16 (n : Int) : (Builtin.bitAnd n 16 == 16) = (bt n 4) := by
  rw [and_16]
  cases bt n 4 <;> rfl
theorem and_1032 (n : Int) : Builtin.bitAnd n 1032 = 8 * bi (bt n 3) + 1024 * bi (bt n 10) := by
  rw [and_bits 16 n 1032 (by decide) (by decide)]
  have z : ∀ i, i < 16 → bt 1032 i = decide (2 ^ i &&& 1032 ≠ 0) := by decide
  simp only [wsum_succ, wsum_zero, Nat.zero_add, Nat.reduceAdd, z 0 (by decide), z 1 (by decide), z 2 (by decide), z 3 (by decide), z 4 (by decide), z 5 (by decide), z 6 (by decide), z 7 (by decide), z 8 (by decide), z 9 (by decide), z 10 (by decide), z 11 (by decide), z 12 (by decide), z 13 (by decide), z 14 (by decide), z 15 (by decide)]
  simp only [show decide (2 ^ 0 &&& 1032 ≠ 0) = false by decide, show decide (2 ^ 1 &&& 1032 ≠ 0) = false by decide, show decide (2 ^ 2 &&& 1032 ≠ 0) = false by decide, show decide (2 ^ 3 &&& 1032 ≠ 0) = true by decide, show decide (2 ^ 4 &&& 1032 ≠ 0) = false by decide, show decide (2 ^ 5 &&& 1032 ≠ 0) = false by decide, show decide (2 ^ 6 &&& 1032 ≠ 0) = false by decide, show decide (2 ^ 7 &&& 1032 ≠ 0) = false by decide, show decide (2 ^ 8 &&& 1032 ≠ 0) = false by decide, show decide (2 ^ 9 &&& 1032 ≠ 0) = false by decide, show decide (2 ^ 10 &&& 1032 ≠ 0) = true by decide, show decide (2 ^ 11 &&& 1032 ≠ 0) = false by decide, show decide (2 ^ 12 &&& 1032 ≠ 0) = false by decide, show decide (2 ^ 13 &&& 1032 ≠ 0) = false by decide, show decide (2 ^ 14 &&& 1032 ≠ 0) = false by decide, show decide (2 ^ 15 &&& 1032 ≠ 0) = false by decide, Bool.and_false, Bool.and_true, bi_false]
  generalize bt n 3 = b3
  generalize bt n 10 = b10
  cases b3 <;> cases b10 <;> rfl
theorem hit_1032 (n : Int) : (Builtin.bitAnd n 1032 == 1032) = (bt n 3 && bt n 10) := by
  rw [and_1032]
  cases bt n 3 <;> cases bt n 10 <;> rfl
theorem and_1024 (n : Int) : Builtin.bitAnd n 1024 = 1024 * bi (bt n 10) := by
  rw [and_bits 16 n 1024 (by decide) (by decide)]
  have z : ∀ i, i < 16 → bt 1024 i = decide (2 ^ i &&& 1024 ≠ 0) := by decide
  simp only [wsum_succ, wsum_zero, Nat.zero_add, Nat.reduceAdd, z 0 (by decide), z 1 (by decide), z 2 (by decide), z 3 (by decide), z 4 (by decide), z 5 (by decide), z 6 (by decide), z 7 (by decide), z 8 (by decide), z 9 (by decide), z 10 (by decide), z 11 (by decide), z 12 (by decide), z 13 (by decide), z 14 (by decide), z 15 (by decide)]
  simp only [show decide (2 ^ 0 &&& 1024 ≠ 0) = false by decide, show decide (2 ^ 1 &&& 1024 ≠ 0) = false by decide, show decide (2 ^ 2 &&& 1024 ≠ 0) = false by decide, show decide (2 ^ 3 &&& 1024 ≠ 0) = false by decide, show decide (2 ^ 4 &&& 1024 ≠ 0) = false by decide, show decide (2 ^ 5 &&& 1024 ≠ 0) = false by decide, show decide (2 ^ 6 &&& 1024 ≠ 0) = false by decide, show decide (2 ^ 7 &&& 1024 ≠ 0) = false by decide, show decide (2 ^ 8 &&& 1024 ≠ 0) = false by decide, show decide (2 ^ 9 &&& 1024 ≠ 0) = false by decide, show decide (2 ^ 10 &&& 1024 ≠ 0) = true by decide, show decide (2 ^ 11 &&& 1024 ≠ 0) = false by decide, show decide (2 ^ 12 &&& 1024 ≠ 0) = false by decide, show decide (2 ^ 13 &&& 1024 ≠ 0) = false by decide, show decide (2 ^ 14 &&& 1024 ≠ 0) = false by decide, show decide (2 ^ 15 &&& 1024 ≠ 0) = false by decide, Bool.and_false, Bool.and_true, bi_false]
  generalize bt n 10 = b10
  cases b10 <;> rfl
theorem hit_1024 (n : Int) : (Builtin.bitAnd n 1024 == 1024) = (bt n 10) := by
  rw [and_1024]
  cases bt n 10 <;> rfl
theorem and_8 (n : Int) : Builtin.bitAnd n 8 = 8 * bi (bt n 3) := by
  rw [and_bits 16 n 8 (by decide) (by decide)]
  have z : ∀ i, i < 16 → bt 8 i = decide (2 ^ i &&& 8 ≠ 0) := by decide
  simp only [wsum_succ, wsum_zero, Nat.zero_add, Nat.reduceAdd, z 0 (by decide), z 1 (by decide), z 2 (by decide), z 3 (by decide), z 4 (by decide), z 5 (by decide), z 6 (by decide), z 7 (by decide), z 8 (by decide), z 9 (by decide), z 10 (by decide), z 11 (by decide), z 12 (by decide), z 13 (by decide), z 14 (by decide), z 15 (by decide)]
  simp only [show decide (2 ^ 0 &&& 8 ≠ 0) = false by decide, show decide (2 ^ 1 &&& 8 ≠ 0) = false by decide, show decide (2 ^ 2 &&& 8 ≠ 0) = false by decide, show decide (2 ^ 3 &&& 8 ≠ 0) = true by decide, show decide (2 ^ 4 &&& 8 ≠ 0) = false by decide, show decide (2 ^ 5 &&& 8 ≠ 0) = false by decide, show decide (2 ^ 6 &&& 8 ≠ 0) = false by decide, show decide (2 ^ 7 &&& 8 ≠ 0) = false by decide, show decide (2 ^ 8 &&& 8 ≠ 0) = false by decide, show decide (2 ^ 9 &&& 8 ≠ 0) = false by decide, show decide (2 ^ 10 &&& 8 ≠ 0) = false by decide, show decide (2 ^ 11 &&& 8 ≠ 0) = false by decide, show decide (2 ^ 12 &&& 8 ≠ 0) = false by decide, show decide (2 ^ 13 &&& 8 ≠ 0) = false by decide, show decide (2 ^ 14 &&& 8 ≠ 0) = false by decide, show decide (2 ^ 15 &&& 8 ≠ 0) = false by decide, Bool.and_false, Bool.and_true, bi_false]
  generalize bt n 3 = b3
  cases b3 <;> rfl
theorem hit_8 (n : Int) : (Builtin.bitAnd n 8 == 8) = (bt n 3) := by
  rw [and_8]
  cases bt n 3 <;> rfl
theorem and_4 (n : Int) : Builtin.bitAnd n 4 = 4 * bi (bt n 2) := by
  rw [and_bits 16 n 4 (by decide) (by decide)]
  have z : ∀ i, i < 16 → bt 4 i = decide (2 ^ i &&& 4 ≠ 0) := by decide
  simp only [wsum_succ, wsum_zero, Nat.zero_add, Nat.reduceAdd, z 0 (by decide), z 1 (by decide), z 2 (by decide), z 3 (by decide), z 4 (by decide), z 5 (by decide), z 6 (by decide), z 7 (by decide), z 8 (by decide), z 9 (by decide), z 10 (by decide), z 11 (by decide), z 12 (by decide), z 13 (by decide), z 14 (by decide), z 15 (by decide)]
  simp only [show decide (2 ^ 0 &&& 4 ≠ 0) = false by decide, show decide (2 ^ 1 &&& 4 ≠ 0) = false by decide, show decide (2 ^ 2 &&& 4 ≠ 0) = true by decide, show decide (2 ^ 3 &&& 4 ≠ 0) = false by decide, show decide (2 ^ 4 &&& 4 ≠ 0) = false by decide, show decide (2 ^ 5 &&& 4 ≠ 0) = false by decide, show decide (2 ^ 6 &&& 4 ≠ 0) = false by decide, show decide (2 ^ 7 &&& 4 ≠ 0) = false by decide, show decide (2 ^ 8 &&& 4 ≠ 0) = false by decide, show decide (2 ^ 9 &&& 4 ≠ 0) = false by decide, show decide (2 ^ 10 &&& 4 ≠ 0) = false by decide, show decide (2 ^ 11 &&& 4 ≠ 0) = false by decide, show decide (2 ^ 12 &&& 4 ≠ 0) = false by decide, show decide (2 ^ 13 &&& 4 ≠ 0) = false by decide, show decide (2 ^ 14 &&& 4 ≠ 0) = false by decide, show decide (2 ^ 15 &&& 4 ≠ 0) = false by decide, Bool.and_false, Bool.and_true, bi_false]
  generalize bt n 2 = b2
  cases b2 <;> rfl
theorem hit_4 (n : Int) : (Builtin.bitAnd n 4 == 4) = (bt n 2) := by
  rw [and_4]
  cases bt n 2 <;> rfl
theorem and_2 (n : Int) : Builtin.bitAnd n 2 = 2 * bi (bt n 1) := by
  rw [and_bits 16 n 2 (by decide) (by decide)]
  have z : ∀ i, i < 16 → bt 2 i = decide (2 ^ i &&& 2 ≠ 0) := by decide
  simp only [wsum_succ, wsum_zero, Nat.zero_add, Nat.reduceAdd, z 0 (by decide), z 1 (by decide), z 2 (by decide), z 3 (by decide), z 4 (by decide), z 5 (by decide), z 6 (by decide), z 7 (by decide), z 8 (by decide), z 9 (by decide), z 10 (by decide), z 11 (by decide), z 12 (by decide), z 13 (by decide), z 14 (by decide), z 15 (by decide)]
  simp only [show decide (2 ^ 0 &&& 2 ≠ 0) = false by decide, show decide (2 ^ 1 &&& 2 ≠ 0) = true by decide, show decide (2 ^ 2 &&& 2 ≠ 0) = false by decide, show decide (2 ^ 3 &&& 2 ≠ 0) = false by decide, show decide (2 ^ 4 &&& 2 ≠ 0) = false by decide, show decide (2 ^ 5 &&& 2 ≠ 0) = false by decide, show decide (2 ^ 6 &&& 2 ≠ 0) = false by decide, show decide (2 ^ 7 &&& 2 ≠ 0) = false by decide, show decide (2 ^ 8 &&& 2 ≠ 0) = false by decide, show decide (2 ^ 9 &&& 2 ≠ 0) = false by decide, show decide (2 ^ 10 &&& 2 ≠ 0) = false by decide, show decide (2 ^ 11 &&& 2 ≠ 0) = false by decide, show decide (2 ^ 12 &&& 2 ≠ 0) = false by decide, show decide (2 ^ 13 &&& 2 ≠ 0) = false by decide, show decide (2 ^ 14 &&& 2 ≠ 0) = false by decide, show decide (2 ^ 15 &&& 2 ≠ 0) = false by decide, Bool.and_false, Bool.and_true, bi_false]
  generalize bt n 1 = b1
  cases b1 <;> rfl
theorem hit_2 (n : Int) : (Builtin.bitAnd n 2 == 2) = (bt n 1) := by
  rw [and_2]
  cases bt n 1 <;> rfl
theorem and_513 (n : Int) : Builtin.bitAnd n 513 = 1 * bi (bt n 0) + 512 * bi (bt n 9) := by
  rw [and_bits 16 n 513 (by decide) (by decide)]
  have z : ∀ i, i < 16 → bt 513 i = decide (2 ^ i &&& 513 ≠ 0) := by decide
  simp only [wsum_succ, wsum_zero, Nat.zero_add, Nat.reduceAdd, z 0 (by decide), z 1 (by decide), z 2 (by decide), z 3 (by decide), z 4 (by decide), z 5 (by decide), z 6 (by decide), z 7 (by decide), z 8 (by decide), z 9 (by decide), z 10 (by decide), z 11 (by decide), z 12 (by decide), z 13 (by decide), z 14 (by decide), z 15 (by decide)]
  simp only [show decide (2 ^ 0 &&& 513 ≠ 0) = true by decide, show decide (2 ^ 1 &&& 513 ≠ 0) = false by decide, show decide (2 ^ 2 &&& 513 ≠ 0) = false by decide, show decide (2 ^ 3 &&& 513 ≠ 0) = false by decide, show decide (2 ^ 4 &&& 513 ≠ 0) = false by decide, show decide (2 ^ 5 &&& 513 ≠ 0) = false by decide, show decide (2 ^ 6 &&& 513 ≠ 0) = false by decide, show decide (2 ^ 7 &&& 513 ≠ 0) = false by decide, show decide (2 ^ 8 &&& 513 ≠ 0) = false by decide, show decide (2 ^ 9 &&& 513 ≠ 0) = true by decide, show decide (2 ^ 10 &&& 513 ≠ 0) = false by decide, show decide (2 ^ 11 &&& 513 ≠ 0) = false by decide, show decide (2 ^ 12 &&& 513 ≠ 0) = false by decide, show decide (2 ^ 13 &&& 513 ≠ 0) = false by decide, show decide (2 ^ 14 &&& 513 ≠ 0) = false by decide, show decide (2 ^ 15 &&& 513 ≠ 0) = false by decide, Bool.and_false, Bool.and_true, bi_false]
  generalize bt n 0 = b0
  generalize bt n 9 = b9
  cases b0 <;> cases b9 <;> rfl
theorem hit_513 (n : Int) : (Builtin.bitAnd n 513 == 513) = (bt n 0 && bt n 9) := by
  rw [and_513]
  cases bt n 0 <;> cases bt n 9 <;> rfl
theorem and_512 (n : Int) : Builtin.bitAnd n 512 = 512 * bi (bt n 9) := by
  rw [and_bits 16 n 512 (by decide) (by decide)]
  have z : ∀ i, i < 16 → bt 512 i = decide (2 ^ i &&& 512 ≠ 0) := by decide
  simp only [wsum_succ, wsum_zero, Nat.zero_add, Nat.reduceAdd, z 0 (by decide), z 1 (by decide), z 2 (by decide), z 3 (by decide), z 4 (by decide), z 5 (by decide), z 6 (by decide), z 7 (by decide), z 8 (by decide), z 9 (by decide), z 10 (by decide), z 11 (by decide), z 12 (by decide), z 13 (by decide), z 14 (by decide), z 15 (by decide)]
  simp only [show decide (2 ^ 0 &&& 512 ≠ 0) = false by decide, show decide (2 ^ 1 &&& 512 ≠ 0) = false by decide, show decide (2 ^ 2 &&& 512 ≠ 0) = false by decide, show decide (2 ^ 3 &&& 512 ≠ 0) = false by decide, show decide (2 ^ 4 &&& 512 ≠ 0) = false by decide, show decide (2 ^ 5 &&& 512 ≠ 0) = false by decide, show decide (2 ^ 6 &&& 512 ≠ 0) = false by decide, show decide (2 ^ 7 &&& 512 ≠ 0) = false by decide, show decide (2 ^ 8 &&& 512 ≠ 0) = false by decide, show decide (2 ^ 9 &&& 512 ≠ 0) = true by decide, show decide (2 ^ 10 &&& 512 ≠ 0) = false by decide, show decide (2 ^ 11 &&& 512 ≠ 0) = false by decide, show decide (2 ^ 12 &&& 512 ≠ 0) = false by decide, show decide (2 ^ 13 &&& 512 ≠ 0) = false by decide, show decide (2 ^ 14 &&& 512 ≠ 0) = false by decide, show decide (2 ^ 15 &&& 512 ≠ 0) = false by decide, Bool.and_false, Bool.and_true, bi_false]
  generalize bt n 9 = b9
  cases b9 <;> rfl
theorem hit_512 (n : Int) : (Builtin.bitAnd n 512 == 512) = (bt n 9) := by
  rw [and_512]
  cases bt n 9 <;> rfl
theorem and_1 (n : Int) : Builtin.bitAnd n 1 = 1 * bi (bt n 0) := by
  rw [and_bits 16 n 1 (by decide) (by decide)]
  have z : ∀ i, i < 16 → bt 1 i = decide (2 ^ i &&& 1 ≠ 0) := by decide
  simp only [wsum_succ, wsum_zero, Nat.zero_add, Nat.reduceAdd, z 0 (by decide), z 1 (by decide), z 2 (by decide), z 3 (by decide), z 4 (by decide), z 5 (by decide), z 6 (by decide), z 7 (by decide), z 8 (by decide), z 9 (by decide), z 10 (by decide), z 11 (by decide), z 12 (by decide), z 13 (by decide), z 14 (by decide), z 15 (by decide)]
  simp only [show decide (2 ^ 0 &&& 1 ≠ 0) = true by decide, show decide (2 ^ 1 &&& 1 ≠ 0) = false by decide, show decide (2 ^ 2 &&& 1 ≠ 0) = false by decide, show decide (2 ^ 3 &&& 1 ≠ 0) = false by decide, show decide (2 ^ 4 &&& 1 ≠ 0) = false by decide, show decide (2 ^ 5 &&& 1 ≠ 0) = false by decide, show decide (2 ^ 6 &&& 1 ≠ 0) = false by decide, show decide (2 ^ 7 &&& 1 ≠ 0) = false by decide, show decide (2 ^ 8 &&& 1 ≠ 0) = false by decide, show decide (2 ^ 9 &&& 1 ≠ 0) = false by decide, show decide (2 ^ 10 &&& 1 ≠ 0) = false by decide, show decide (2 ^ 11 &&& 1 ≠ 0) = false by decide, show decide (2 ^ 12 &&& 1 ≠ 0) = false by decide, show decide (2 ^ 13 &&& 1 ≠ 0) = false by decide, show decide (2 ^ 14 &&& 1 ≠ 0) = false by decide, show decide (2 ^ 15 &&& 1 ≠ 0) = false by decide, Bool.and_false, Bool.and_true, bi_false]
  generalize bt n 0 = b0
  cases b0 <;> rfl
theorem hit_1 (n : Int) : (Builtin.bitAnd n 1 == 1) = (bt n 0) := by
  rw [and_1]
  cases bt n 0 <;> rfl

def cd (b : Bool) (y n : Nat) : Nat := if b = true then y else n
def x3 (x s : Bool) (both only : Nat) : Nat := if (s && x) = true then both else if s = true then only else if x = true then 120 else 45
def kindCh (b12 b13 b14 b15 : Bool) : Nat := ([63, 112, 99, 63, 100, 63, 98, 63, 45, 63, 108, 63, 115, 63, 63, 63] : List Nat).getD (cd b12 1 0 + 2 * cd b13 1 0 + 4 * cd b14 1 0 + 8 * cd b15 1 0) 0
/-- the ten signs by the bits -/
def signs10 (n : Int) : List Nat := [kindCh (bt n 12) (bt n 13) (bt n 14) (bt n 15), cd (bt n 8) 114 45, cd (bt n 7) 119 45, x3 (bt n 6) (bt n 11) 115 83, cd (bt n 5) 114 45, cd (bt n 4) 119 45, x3 (bt n 3) (bt n 10) 115 83, cd (bt n 2) 114 45, cd (bt n 1) 119 45, x3 (bt n 0) (bt n 9) 116 84]
theorem sg1 (n : Int) (i : Nat) (b : Int) (c : Nat) : signOf n (i + 1) [(b, c)] = cd (Builtin.bitAnd n b == b) c 45 := by
  unfold signOf hits cd
  rw [List.find?_cons, if_neg (Nat.succ_ne_zero i)]
  cases h : (Builtin.bitAnd n b == b) <;> simp
theorem sg3 (n : Int) (i : Nat) (b1 b2 b3 : Int) (c1 c2 c3 : Nat) : signOf n (i + 1) [(b1, c1), (b2, c2), (b3, c3)] = cd (Builtin.bitAnd n b1 == b1) c1 (cd (Builtin.bitAnd n b2 == b2) c2 (cd (Builtin.bitAnd n b3 == b3) c3 45)) := by
  unfold signOf hits cd
  simp only [List.find?_cons, if_neg (Nat.succ_ne_zero i), List.find?_nil]
  cases h1 : (Builtin.bitAnd n b1 == b1) <;> cases h2 : (Builtin.bitAnd n b2 == b2) <;> cases h3 : (Builtin.bitAnd n b3 == b3) <;> simp
theorem sg0 (n : Int) : signOf n 0 [(40960, 108), (49152, 115), (32768, 45), (24576, 98), (16384, 100), (8192, 99), (4096, 112)] = kindCh (bt n 12) (bt n 13) (bt n 14) (bt n 15) := by
  unfold signOf hits
  simp only [if_true]
  rw [kind_and]
  cases bt n 12 <;> cases bt n 13 <;> cases bt n 14 <;> cases bt n 15 <;> rfl
theorem x3_cd (x s : Bool) (both only : Nat) : cd (x && s) both (cd s only (cd x 120 45)) = x3 x s both only := by cases x <;> cases s <;> rfl
theorem mode_text (n : Int) : modeText n = ⟨(signs10 n).toArray⟩ := by
  unfold modeText
  congr 2
  show [signOf n 0 [(40960, 108), (49152, 115), (32768, 45), (24576, 98), (16384, 100), (8192, 99), (4096, 112)], signOf n 1 [(256, 114)], signOf n 2 [(128, 119)], signOf n 3 [(2112, 115), (2048, 83), (64, 120)], signOf n 4 [(32, 114)], signOf n 5 [(16, 119)],
    signOf n 6 [(1032, 115), (1024, 83), (8, 120)], signOf n 7 [(4, 114)], signOf n 8 [(2, 119)], signOf n 9 [(513, 116), (512, 84), (1, 120)]] = _
  rw [sg0, sg1 n 0, sg1 n 1, sg3 n 2, sg1 n 3, sg1 n 4, sg3 n 5, sg1 n 6, sg1 n 7, sg3 n 8, hit_256, hit_128, hit_2112, hit_2048, hit_64, hit_32, hit_16, hit_1032, hit_1024, hit_8, hit_4, hit_2, hit_513, hit_512, hit_1, x3_cd, x3_cd, x3_cd]
  rfl
theorem text_len (n : Int) : (modeText n).cps.size = 10 := by rw [mode_text]; rfl
theorem cd_lt (b : Bool) (y n : Nat) (h1 : y < 128) (h2 : n < 128) : cd b y n < 128 := by cases b <;> assumption
theorem x3_lt (x s : Bool) (y n : Nat) (h1 : y < 128) (h2 : n < 128) : x3 x s y n < 128 := by cases x <;> cases s <;> first | assumption | exact (by decide : 45 < 128) | exact (by decide : 120 < 128)
theorem kindCh_lt (a b c d : Bool) : kindCh a b c d < 128 := by cases a <;> cases b <;> cases c <;> cases d <;> decide
theorem signs_lt (n : Int) : ∀ c ∈ signs10 n, c < 128 := by
  intro c hc
  simp only [signs10, List.mem_cons, List.not_mem_nil, or_false] at hc
  rcases hc with rfl | rfl | rfl | rfl | rfl | rfl | rfl | rfl | rfl | rfl
  all_goals first | exact kindCh_lt _ _ _ _ | exact cd_lt _ _ _ (by decide) (by decide) | exact x3_lt _ _ _ _ (by decide) (by decide)
theorem text_ascii (n : Int) : (modeText n).cps.all (· < 128) = true := by
  rw [mode_text, Array.all_eq_true_iff_forall_mem]
  intro c hc
  exact decide_eq_true (signs_lt n c (by simpa using hc))
theorem text_ints (n : Int) : KBw.bInts (asciiBytes (modeText n)) = (modeText n).cps.toList.map fun (c : Nat) => (c : Int) := by
  have h := signs_lt n
  rw [mode_text]
  show (((signs10 n).map fun c => c.toUInt8).toArray.toList.map fun c => (c.toNat : Int)) = (signs10 n).toArray.toList.map _
  simp only [List.map_map]
  refine List.map_congr_left fun c hc => ?_
  have := h c (by simpa using hc)
  show ((c.toUInt8.toNat : Nat) : Int) = c
  rw [show c.toUInt8.toNat = c from by simp [Nat.toUInt8, UInt8.toNat_ofNat']; omega]
theorem it_r (b : Bool) : Txt.item (Str.ofString "-r") (((if b = true then 1 else 0 : Nat)) : Int) = ⟨#[cd b 114 45]⟩ := by cases b <;> rfl
theorem it_w (b : Bool) : Txt.item (Str.ofString "-w") (((if b = true then 1 else 0 : Nat)) : Int) = ⟨#[cd b 119 45]⟩ := by cases b <;> rfl
theorem it_s (x s : Bool) : Txt.item (Str.ofString "-xSs") ((((if x = true then 1 else 0 : Nat)) : Int) + 2 * (((if s = true then 1 else 0 : Nat)) : Int)) = ⟨#[x3 x s 115 83]⟩ := by cases x <;> cases s <;> rfl
theorem it_t (x s : Bool) : Txt.item (Str.ofString "-xTt") ((((if x = true then 1 else 0 : Nat)) : Int) + 2 * (((if s = true then 1 else 0 : Nat)) : Int)) = ⟨#[x3 x s 116 84]⟩ := by cases x <;> cases s <;> rfl
theorem it_k (a b c d : Bool) : Txt.item (Str.ofString "?pc?d?b?-?l?s???") (bi a + 2 * bi b + 4 * bi c + 8 * bi d) = ⟨#[kindCh a b c d]⟩ := by cases a <;> cases b <;> cases c <;> cases d <;> rfl
theorem good_text {n : Int} {ns : List Int} (g : Good n ns) : rowText ns = modeText n := by
  rw [mode_text]
  have e (i : Nat) (hi : i < 16) := good_count' g hi
  unfold rowText threeText
  rw [good_kind' g, it_k,
    show ((2 : Int) ^ (8 - 3 * (0 + ((0 : Nat) : Int))).toNat) = 2 ^ 8 from by decide, show (((2 : Int) ^ 8).fdiv 2) = 2 ^ 7 from by decide, show (((2 : Int) ^ 8).fdiv 4) = 2 ^ 6 from by decide, show ((2 : Int) ^ (11 - (0 + ((0 : Nat) : Int))).toNat) = 2 ^ 11 from by decide,
    show ((2 : Int) ^ (8 - 3 * (0 + ((0 + 1 : Nat) : Int))).toNat) = 2 ^ 5 from by decide, show (((2 : Int) ^ 5).fdiv 2) = 2 ^ 4 from by decide, show (((2 : Int) ^ 5).fdiv 4) = 2 ^ 3 from by decide, show ((2 : Int) ^ (11 - (0 + ((0 + 1 : Nat) : Int))).toNat) = 2 ^ 10 from by decide,
    show ((2 : Int) ^ (8 - 3 * (0 + ((0 + 1 + 1 : Nat) : Int))).toNat) = 2 ^ 2 from by decide, show (((2 : Int) ^ 2).fdiv 2) = 2 ^ 1 from by decide, show (((2 : Int) ^ 2).fdiv 4) = 2 ^ 0 from by decide, show ((2 : Int) ^ (11 - (0 + ((0 + 1 + 1 : Nat) : Int))).toNat) = 2 ^ 9 from by decide]
  simp only [e 0 (by decide), e 1 (by decide), e 2 (by decide), e 3 (by decide), e 4 (by decide), e 5 (by decide), e 6 (by decide), e 7 (by decide), e 8 (by decide), e 9 (by decide), e 10 (by decide), e 11 (by decide), it_r, it_w, it_s, it_t]
  rfl
end Mine
end

section
open PySem PySem.W PyProof.Rows PySem.Spec PySem.Calls PySem.SeqAt
set_option Elab.async false
set_option maxRecDepth 100000
set_option maxHeartbeats 4000000
namespace Mine
theorem good_sub {a b : Int} {ns ms : List Int} (ga : Good a ns) (gb : Good b ms) : Good (Builtin.bitAnd a (Builtin.bitNot b)) (ns.filter fun v => !ms.contains v) := by
  refine ⟨List.filter_sublist.nodup ga.1, fun v hv => ga.2.1 v ((List.mem_filter.mp hv).1), fun i hi => ?_⟩
  have h1 := ga.2.2 i hi
  have h2 := gb.2.2 i hi
  rw [bt_and, bt_not, List.mem_filter, h1]
  simp [h2]
theorem good_and {a b : Int} {ns ms : List Int} (ga : Good a ns) (gb : Good b ms) : Good (Builtin.bitAnd a b) (ns.filter fun v => !(ns.filter fun v => !ms.contains v).contains v) := by
  refine ⟨List.filter_sublist.nodup ga.1, fun v hv => ga.2.1 v ((List.mem_filter.mp hv).1), fun i hi => ?_⟩
  have h1 := ga.2.2 i hi
  have h2 := gb.2.2 i hi
  rw [bt_and, List.mem_filter, h1]
  simp [h1, h2]
  intro h
  simp [h]
theorem good_or {a b : Int} {ns ms : List Int} (ga : Good a ns) (gb : Good b ms) : Good (Builtin.bitOr a b) (ns ++ ms.filter fun v => !ns.contains v) := by
  refine ⟨List.nodup_append.mpr ⟨ga.1, List.filter_sublist.nodup gb.1, fun v hv w hw e => ?_⟩, fun v hv => ?_, fun i hi => ?_⟩
  · subst e
    have := (List.mem_filter.mp hw).2
    simp [hv] at this
  · rcases List.mem_append.mp hv with hv | hv
    · exact ga.2.1 v hv
    · exact gb.2.1 v ((List.mem_filter.mp hv).1)
  · have h1 := ga.2.2 i hi
    have h2 := gb.2.2 i hi
    rw [bt_or, List.mem_append, List.mem_filter, h1, h2]
    simp [h1]
    cases bt a i <;> cases bt b i <;> simp
theorem good_xor {a b : Int} {ns ms : List Int} (ga : Good a ns) (gb : Good b ms) : Good (Builtin.bitXor a b) ((ns.filter fun v => !ms.contains v) ++ ms.filter fun v => !ns.contains v) := by
  refine ⟨List.nodup_append.mpr ⟨List.filter_sublist.nodup ga.1, List.filter_sublist.nodup gb.1, fun v hv w hw e => ?_⟩, fun v hv => ?_, fun i hi => ?_⟩
  · subst e
    have := (List.mem_filter.mp hw).2
    simp [(List.mem_filter.mp hv).1] at this
  · rcases List.mem_append.mp hv with hv | hv
    · exact ga.2.1 v ((List.mem_filter.mp hv).1)
    · exact gb.2.1 v ((List.mem_filter.mp hv).1)
  · have h1 := ga.2.2 i hi
    have h2 := gb.2.2 i hi
    rw [bt_xor, List.mem_append, List.mem_filter, List.mem_filter, h1, h2]
    simp [h1, h2]
    cases bt a i <;> cases bt b i <;> simp
theorem good_inv {a : Int} {ns : List Int} (ga : Good a ns) : Good (Builtin.bitNot a) (((List.range 16).map fun k => (2 : Int) ^ k).filter fun v => !ns.contains v) := by
  refine ⟨List.filter_sublist.nodup pows_nodup, fun v hv => ?_, fun i hi => ?_⟩
  · obtain ⟨i, hi, rfl⟩ := List.mem_map.mp ((List.mem_filter.mp hv).1)
    exact ⟨i, List.mem_range.mp hi, rfl⟩
  · have h1 := ga.2.2 i hi
    rw [bt_not, List.mem_filter]
    have hm : (2 : Int) ^ i ∈ (List.range 16).map fun k => (2 : Int) ^ k := List.mem_map.mpr ⟨i, List.mem_range.mpr hi, rfl⟩
    simp only [hm, true_and]
    simp [h1]
theorem good_deed {es : List (Int × List Int)} {x : Int} (h : ∀ p ∈ es, Good p.1 p.2) (h0 : 0 < es.length) : Good (deedNum es x) (deedRow es x) := by
  have hn : (0 : Int) < es.length := by omega
  have at' : ∀ z : Int, Good (es.getD (z.fmod es.length).toNat (0, [])).1 (es.getD (z.fmod es.length).toNat (0, [])).2 := fun z => by
    have h1 := Int.fmod_nonneg_of_pos z hn
    have h2 := Int.fmod_lt_of_pos z hn
    have h3 : (z.fmod es.length).toNat < es.length := by omega
    rw [List.getD_eq_getElem?_getD, List.getElem?_eq_getElem h3]
    exact h _ (List.getElem_mem _)
  unfold deedNum deedRow
  dsimp only
  have g1 := at' (x.fdiv 6 - 1)
  have g2 := at' ((x.fdiv 6).fdiv es.length - 2)
  split
  · exact good_sub g1 g2
  split
  · exact good_and g1 g2
  split
  · exact good_or g1 g2
  split
  · exact good_xor g1 g2
  · exact good_inv g1
def opt (b : Bool) (v : Int) : List Int := if b = true then [v] else []
theorem mem_opt (b : Bool) (v w : Int) : w ∈ opt b v ↔ b = true ∧ w = v := by cases b <;> simp [opt]
theorem fm (p : Int → Bool) (f : Int → Int) (a : Int) (l : List Int) : ((a :: l).filter p).map f = opt (p a) (f a) ++ (l.filter p).map f := by
  cases h : p a <;> simp [h, opt]
theorem rd_k (n : Int) : ∀ w ∈ ([32768, 16384, 8192, 4096] : List Int), ((Builtin.bitAnd n 61440).fdiv w).fmod 2 == 1 ↔ bt n (if w = 32768 then 15 else if w = 16384 then 14 else if w = 8192 then 13 else 12) = true := by
  intro w hw
  rw [kind_and]
  simp only [List.mem_cons, List.not_mem_nil, or_false] at hw
  rcases hw with rfl | rfl | rfl | rfl
  all_goals
    simp only [show ((16384 : Int) = 32768) = False by simp, show ((8192 : Int) = 32768) = False by simp, show ((8192 : Int) = 16384) = False by simp, show ((4096 : Int) = 32768) = False by simp, show ((4096 : Int) = 16384) = False by simp, show ((4096 : Int) = 8192) = False by simp, if_true, if_false]
    cases bt n 12 <;> cases bt n 13 <;> cases bt n 14 <;> cases bt n 15 <;> decide
theorem rd_s (x s : Bool) : (#[83, 115, 84, 116] : Array UInt8).contains ((x3 x s 115 83 : Nat) : Int).toNat.toUInt8 = s := by cases x <;> cases s <;> decide +kernel
theorem rd_t (x s : Bool) : (#[83, 115, 84, 116] : Array UInt8).contains ((x3 x s 116 84 : Nat) : Int).toNat.toUInt8 = s := by cases x <;> cases s <;> decide +kernel
theorem rd_r (b : Bool) : (#[114, 119, 120, 115, 116] : Array UInt8).contains ((cd b 114 45 : Nat) : Int).toNat.toUInt8 = b := by cases b <;> decide +kernel
theorem rd_w (b : Bool) : (#[114, 119, 120, 115, 116] : Array UInt8).contains ((cd b 119 45 : Nat) : Int).toNat.toUInt8 = b := by cases b <;> decide +kernel
theorem rd_x (x s : Bool) : (#[114, 119, 120, 115, 116] : Array UInt8).contains ((x3 x s 115 83 : Nat) : Int).toNat.toUInt8 = x := by cases x <;> cases s <;> decide +kernel
theorem rd_y (x s : Bool) : (#[114, 119, 120, 115, 116] : Array UInt8).contains ((x3 x s 116 84 : Nat) : Int).toNat.toUInt8 = x := by cases x <;> cases s <;> decide +kernel
theorem good_read (n : Int) : Good n (readRow (KBw.bInts (asciiBytes (modeText n))) (Builtin.bitAnd n 61440)) := by
  rw [text_ints, mode_text]
  have k15 : (((Builtin.bitAnd n 61440).fdiv 32768).fmod 2 == 1) = bt n 15 := by rw [kind_and]; cases bt n 12 <;> cases bt n 13 <;> cases bt n 14 <;> cases bt n 15 <;> decide
  have k14 : (((Builtin.bitAnd n 61440).fdiv 16384).fmod 2 == 1) = bt n 14 := by rw [kind_and]; cases bt n 12 <;> cases bt n 13 <;> cases bt n 14 <;> cases bt n 15 <;> decide
  have k13 : (((Builtin.bitAnd n 61440).fdiv 8192).fmod 2 == 1) = bt n 13 := by rw [kind_and]; cases bt n 12 <;> cases bt n 13 <;> cases bt n 14 <;> cases bt n 15 <;> decide
  have k12 : (((Builtin.bitAnd n 61440).fdiv 4096).fmod 2 == 1) = bt n 12 := by rw [kind_and]; cases bt n 12 <;> cases bt n 13 <;> cases bt n 14 <;> cases bt n 15 <;> decide
  have e : readRow ((⟨(signs10 n).toArray⟩ : Str).cps.toList.map fun (c : Nat) => (c : Int)) (Builtin.bitAnd n 61440) = (opt (bt n 15) 32768 ++ (opt (bt n 14) 16384 ++ (opt (bt n 13) 8192 ++ (opt (bt n 12) 4096 ++ [])))) ++ (opt (bt n 11) 2048 ++ (opt (bt n 10) 1024 ++ (opt (bt n 9) 512 ++ []))) ++
      (opt (bt n 8) 256 ++ (opt (bt n 7) 128 ++ (opt (bt n 6) 64 ++ (opt (bt n 5) 32 ++ (opt (bt n 4) 16 ++ (opt (bt n 3) 8 ++ (opt (bt n 2) 4 ++ (opt (bt n 1) 2 ++ (opt (bt n 0) 1 ++ []))))))))) := by
    unfold readRow
    simp only [fm, List.filter_nil, List.map_nil]
    rw [k15, k14, k13, k12]
    congr 1
    · congr 1
      show opt (Array.contains _ ((x3 (bt n 6) (bt n 11) 115 83 : Nat) : Int).toNat.toUInt8) 2048 ++ (opt (Array.contains _ ((x3 (bt n 3) (bt n 10) 115 83 : Nat) : Int).toNat.toUInt8) 1024 ++ (opt (Array.contains _ ((x3 (bt n 0) (bt n 9) 116 84 : Nat) : Int).toNat.toUInt8) 512 ++ [])) = _
      rw [rd_s, rd_s, rd_t]
    · show opt (Array.contains _ ((cd (bt n 8) 114 45 : Nat) : Int).toNat.toUInt8) 256 ++ (opt (Array.contains _ ((cd (bt n 7) 119 45 : Nat) : Int).toNat.toUInt8) 128 ++ (opt (Array.contains _ ((x3 (bt n 6) (bt n 11) 115 83 : Nat) : Int).toNat.toUInt8) 64 ++
        (opt (Array.contains _ ((cd (bt n 5) 114 45 : Nat) : Int).toNat.toUInt8) 32 ++ (opt (Array.contains _ ((cd (bt n 4) 119 45 : Nat) : Int).toNat.toUInt8) 16 ++ (opt (Array.contains _ ((x3 (bt n 3) (bt n 10) 115 83 : Nat) : Int).toNat.toUInt8) 8 ++
        (opt (Array.contains _ ((cd (bt n 2) 114 45 : Nat) : Int).toNat.toUInt8) 4 ++ (opt (Array.contains _ ((cd (bt n 1) 119 45 : Nat) : Int).toNat.toUInt8) 2 ++ (opt (Array.contains _ ((x3 (bt n 0) (bt n 9) 116 84 : Nat) : Int).toNat.toUInt8) 1 ++ [])))))))) = _
      rw [rd_r, rd_w, rd_x, rd_r, rd_w, rd_x, rd_r, rd_w, rd_y]
  have hsub : (readRow ((⟨(signs10 n).toArray⟩ : Str).cps.toList.map fun (c : Nat) => (c : Int)) (Builtin.bitAnd n 61440)).Sublist ([32768, 16384, 8192, 4096, 2048, 1024, 512, 256, 128, 64, 32, 16, 8, 4, 2, 1] : List Int) := by
    unfold readRow
    exact ((List.filter_sublist.map id).append (List.filter_sublist.map fun n : Int => (2 : Int) ^ (12 - n.fdiv 3).toNat)).append (List.filter_sublist.map fun n : Int => (2 : Int) ^ (9 - n).toNat)
  refine ⟨hsub.nodup (by decide), fun v hv => ?_, fun i hi => ?_⟩
  · have h := hsub.subset hv
    simp only [List.mem_cons, List.not_mem_nil, or_false] at h
    rcases h with rfl | rfl | rfl | rfl | rfl | rfl | rfl | rfl | rfl | rfl | rfl | rfl | rfl | rfl | rfl | rfl
    all_goals first | exact ⟨0, by decide, by decide⟩ | exact ⟨1, by decide, by decide⟩ | exact ⟨2, by decide, by decide⟩ | exact ⟨3, by decide, by decide⟩ | exact ⟨4, by decide, by decide⟩ | exact ⟨5, by decide, by decide⟩ | exact ⟨6, by decide, by decide⟩ | exact ⟨7, by decide, by decide⟩ | exact ⟨8, by decide, by decide⟩ | exact ⟨9, by decide, by decide⟩ | exact ⟨10, by decide, by decide⟩ | exact ⟨11, by decide, by decide⟩ | exact ⟨12, by decide, by decide⟩ | exact ⟨13, by decide, by decide⟩ | exact ⟨14, by decide, by decide⟩ | exact ⟨15, by decide, by decide⟩
  · rw [e]
    have : i = 0 ∨ i = 1 ∨ i = 2 ∨ i = 3 ∨ i = 4 ∨ i = 5 ∨ i = 6 ∨ i = 7 ∨ i = 8 ∨ i = 9 ∨ i = 10 ∨ i = 11 ∨ i = 12 ∨ i = 13 ∨ i = 14 ∨ i = 15 := by omega
    simp only [List.mem_append, mem_opt, List.not_mem_nil, or_false]
    rcases this with rfl | rfl | rfl | rfl | rfl | rfl | rfl | rfl | rfl | rfl | rfl | rfl | rfl | rfl | rfl | rfl
    all_goals simp
end Mine
end

section
open PySem PySem.W PyProof.Rows PySem.Spec PySem.Calls PySem.SeqAt PyProof.Rows.LCg
set_option Elab.async false
set_option maxRecDepth 100000
set_option maxHeartbeats 8000000
namespace Mine
theorem free_of {H h : Heap} {L : Addr} {env : Env} {news : List (Addr × Obj)} (hf : env.frame = some L) (N : News H L h news) {p : Addr × Obj} (hp : p ∈ news) : Free H [env] p.1 :=
  ⟨(N p hp).2.2, fun hm => by
    rw [List.filterMap_cons, hf] at hm
    simp only [List.filterMap_nil, List.mem_cons, List.not_mem_nil, or_false] at hm
    exact (N p hp).2.1 hm⟩
def ShelfIn (sn : List (Addr × Obj)) (vs : List Value) (es : List (Int × List Int)) : Prop :=
  vs.length = es.length ∧ ∀ (i : Nat) v n ns, vs[i]? = some v → es[i]? = some (n, ns) → ∃ t tk r ws c1 c2, v = .ref t ∧ (t, tupObj #[.int n tk, .ref r] c1) ∈ sn ∧ (r, lstObj (List.toArray ws) c2) ∈ sn ∧ IntsAre ws ns
theorem ShelfIn.at {H h : Heap} {L : Addr} {env : Env} {news sn : List (Addr × Obj)} {vs : List Value} {es : List (Int × List Int)} (S : ShelfIn sn vs es) (hf : env.frame = some L) (N : News H L h news) (hsub : ∀ p ∈ sn, p ∈ news) : ShelfAt H [env] h vs es :=
  ⟨S.1, fun i v n ns h1 h2 => by
    obtain ⟨t, tk, r, ws, c1, c2, e, m1, m2, hi⟩ := S.2 i v n ns h1 h2
    exact ⟨t, tk, r, ws, c1, c2, e, (N _ (hsub _ m1)).1, (N _ (hsub _ m2)).1, hi, free_of hf N (hsub _ m1), free_of hf N (hsub _ m2)⟩⟩
theorem ShelfIn.mono {sn sn' : List (Addr × Obj)} {vs : List Value} {es : List (Int × List Int)} (S : ShelfIn sn vs es) (hsub : ∀ p ∈ sn, p ∈ sn') : ShelfIn sn' vs es :=
  ⟨S.1, fun i v n ns h1 h2 => by
    obtain ⟨t, tk, r, ws, c1, c2, e, m1, m2, hi⟩ := S.2 i v n ns h1 h2
    exact ⟨t, tk, r, ws, c1, c2, e, hsub _ m1, hsub _ m2, hi⟩⟩
theorem ShelfIn.grow {sn sn' : List (Addr × Obj)} {vs : List Value} {es : List (Int × List Int)} (S : ShelfIn sn vs es) (hsub : ∀ p ∈ sn, p ∈ sn') {t r : Addr} {tk : Tok} {ws : List Value} {c1 c2 : Nat} {n : Int} {ns : List Int}
    (m1 : (t, tupObj #[.int n tk, .ref r] c1) ∈ sn') (m2 : (r, lstObj ws.toArray c2) ∈ sn') (hi : IntsAre ws ns) : ShelfIn sn' (vs ++ [.ref t]) (es ++ [(n, ns)]) := by
  refine ⟨by rw [List.length_append, List.length_append, S.1]; rfl, fun i v n' ns' h1 h2 => ?_⟩
  rcases Nat.lt_or_ge i vs.length with hlt | hge
  · rw [List.getElem?_append_left hlt] at h1
    rw [List.getElem?_append_left (by rw [← S.1]; exact hlt)] at h2
    obtain ⟨t, tk, r, ws, c1, c2, e, m1, m2, hi⟩ := S.2 i v n' ns' h1 h2
    exact ⟨t, tk, r, ws, c1, c2, e, hsub _ m1, hsub _ m2, hi⟩
  · rw [List.getElem?_append_right hge] at h1
    rw [List.getElem?_append_right (by rw [← S.1]; exact hge), ← S.1] at h2
    generalize i - vs.length = j at h1 h2
    match j, h1, h2 with
    | 0, h1, h2 =>
      simp only [List.getElem?_cons_zero, Option.some.injEq] at h1 h2
      obtain ⟨rfl, rfl⟩ := Prod.mk.inj h2
      exact ⟨t, tk, r, ws, c1, c2, h1.symm, m1, m2, hi⟩
    | j + 1, h1, h2 => simp at h1
/-- after a deed the frame and what is new stand -/
theorem after_deed {H h h' : Heap} {L : Addr} {m : Str → Option Value} {env : Env} {news : List (Addr × Obj)} (hf : env.frame = some L) (F : Fr H L h m) (N : News H L h news)
    (hold : ∀ b o, h.get? b = some o → b ∉ [env].filterMap (·.frame) → h'.get? b = some o) (hup : h.UpToSlots h') : Fr H L h' m ∧ News H L h' news := by
  have nm : ∀ b, b ≠ L → b ∉ [env].filterMap (·.frame) := fun b hb hm => by
    rw [List.filterMap_cons, hf] at hm
    simp only [List.filterMap_nil, List.mem_cons, List.not_mem_nil, or_false] at hm
    exact hb hm
  have HL : H.get? L = none := Heap.get?_none_of_le F.above
  exact ⟨⟨hup.ns F.ns, fun b o q => hold b o (F.keep b o q) (nm b fun z => by rw [z, HL] at q; cases q), F.above⟩, fun p hp => ⟨hold _ _ (N p hp).1 (nm _ (N p hp).2.1), (N p hp).2⟩⟩
theorem news_add {H h h' : Heap} {L D : Addr} {m : Str → Option Value} {o : Obj} {news : List (Addr × Obj)} (F : Fr H L h m) (N : News H L h' news) (hD : h.get? D = none) (hD' : h'.get? D = some o) : News H L h' ((D, o) :: news) := fun p hp => by
  rcases List.mem_cons.mp hp with rfl | hp
  · refine ⟨hD', fun z => ?_, ?_⟩
    · obtain ⟨oL, _, _, ho, _⟩ := F.ns
      have z' : D = L := z
      rw [z', ho] at hD; cases hD
    · cases q : H.get? D with
      | none => rfl
      | some o' => have := F.keep _ _ q; rw [hD] at this; cases this
  · exact N p hp

/-- a tree's end, told -/
structure Ends {α : Type} (a : α) (R : Shared → Prop) (v : α) (s : Shared) : Prop where
  eq : v = a
  holds : R s
theorem join {α : Type} {M : Model} {A : Around} {t : Sem α} {Q : α → Shared → Prop} {E : Value → Shared → Prop} {s : Shared} (a : α) (R : Shared → Prop) (h1 : wpAny M A t (Ends a R) E s) (h2 : ∀ s', R s' → Q a s') : wpAny M A t Q E s :=
  wpAny_mono h1 (fun _ s' h => h.eq ▸ h2 s' h.holds) fun _ _ e => e
theorem app_list {prog : Program} {w : World} {A : Around} {E : Value → Shared → Prop} {s : Shared} {h₀ : Heap} {L D : Addr} {m : Str → Option Value} {its : Array Value} {n : Nat} {v : Value} {news : List (Addr × Obj)} {Q : Value → Shared → Prop} (F : Fr h₀ L s.heap m) (N : News h₀ L s.heap news)
    (hm : (D, lstObj its n) ∈ news) (hz : its.size ≤ sizeLine) (h : ∀ h' c', Fr h₀ L h' m → Heap.SameBut D s.heap h' → h'.get? D = some (lstObj (its.push v) c') → Q .none { s with heap := h' }) :
    wpAny (model prog w) A (call (.builtin "list.append") [.ref D, v]) Q E s := by
  have z := N _ hm
  refine call_meets PySem.F.slot_list_append ⟨_, z.1, rfl⟩ PySem.F.entry_list_append (PySem.F.args_list_append_2 _ _) (PySem.AutoListH.list_append_list_val_0 D its n v hz) ⟨z.1, ?_⟩
  exact h _ _ (F.change (Heap.SameBut.update ..) z.2.1 z.2.2) (Heap.SameBut.update ..) (PySem.IsL.update z.1 fun x => x.push v)

theorem tup_ne_it {h : Heap} {T it : Addr} {o o' : Obj} (a : h.get? T = some o) (b : h.get? it = some o') (c : o.cls = .type "tuple" ∨ o.cls = .type "list") (c' : o'.cls = .type "list_iterator") : T ≠ it := fun z => by
  rw [z, b] at a
  cases a
  rw [c'] at c
  rcases c with c | c <;> (injection c with c; exact absurd c (by decide))
theorem tup_ne_lst {h : Heap} {T S : Addr} {o o' : Obj} (a : h.get? T = some o) (b : h.get? S = some o') (c : o.cls = .type "tuple") (c' : o'.cls = .type "list") : T ≠ S := fun z => by
  rw [z, b] at a
  cases a
  rw [c'] at c
  injection c with c; exact absurd c (by decide)

abbrev lwNames (S : Addr) (sc : Value) (o1 o2 o3 o4 : Option Value) : Str → Option Value := fun y =>
  if y = Str.ofString "octets" then o4 else if y = Str.ofString "row" then o3 else if y = Str.ofString "number" then o2 else if y = Str.ofString "x" then o1 else if y = Str.ofString "shelf" then some (.ref S) else if y = Str.ofString "script" then some sc else none
/-- the law's loop between the turns -/
structure LwI (H : Heap) (L : Addr) (s : Shared) (S it X : Addr) (xv : List Value) (xs : List Int) (cX : Nat) (n : Nat) (s' : Shared) : Prop where
  ex : ∃ (i : Nat) (h' : Heap) (tk' : Nat) (sc : Value) (o1 o2 o3 o4 : Option Value) (vs : List Value) (c : Nat) (es : List (Int × List Int)) (sn : List (Addr × Obj)) (oI : Obj), n = xs.length + 1 - i ∧ i ≤ xs.length ∧ s' = { s with heap := h', toks := tk' } ∧
    Fr H L h' (lwNames S sc o1 o2 o3 o4) ∧ News H L h' ((it, oI) :: (X, lstObj xv.toArray cX) :: (S, lstObj vs.toArray c) :: sn) ∧ oI.cls = .type "list_iterator" ∧ oI.data = .fields #[.ref X, .int i 0] ∧
    ShelfIn sn vs es ∧ es.length = i ∧ (∀ p ∈ es, Good p.1 p.2) ∧ ∀ p ∈ sn, p.1 ≠ it ∧ p.1 ≠ S
end Mine
end

section
open PySem PySem.W PyProof.Rows PySem.Spec PySem.Calls PySem.SeqAt PyProof.Rows.LCg
set_option Elab.async false
set_option maxRecDepth 100000
set_option maxHeartbeats 20000000
namespace Mine
local macro_rules | `(tactic| walk_at "pad 0") => `(tactic| skip)
local macro_rules | `(tactic| walk_at "my_stop") => `(tactic| with_reducible first | show wpAny _ _ (exec (Stmt.For _ _ _ _ _) _) _ _ _ | show wpAny _ _ (pyIter (Value.ref _)) _ _ _ | show wpAny _ _ (call (Value.ref _) _) _ _ _ | show wpAny _ _ (eval (Expr.ListComp _ _ _ _) _) _ _ _ | refine Exists.intro ?_ ?_ | show wpAny _ _ (call (Value.type "list") [Value.bytes _ _]) _ _ _ | show wpAny _ _ (call (Value.builtin "list.append") _) _ _ _)
local macro_rules | `(tactic| walk_at "my_steps") => `(tactic| repeat' ((try ((with_reducible show wpAny _ _ (execs (_ :: _) _) _ _ _); k_fold; (try dsimp only))); (fail_if_success walk_at "my_stop"); first | (k_unfold; (try dsimp only)) | (k_end; wrow_close) | (dsimp only; walk1) | walk1 | (leave1; walk_say "STEP leave1"; try dsimp only) | fail "no step"))
local macro_rules | `(tactic| walk_at "my_steps3") => `(tactic| repeat' ((try ((with_reducible show wpAny _ _ (execs (_ :: _) _) _ _ _); k_fold; (try dsimp only))); (fail_if_success walk_at "my_stop"); (fail_if_success with_reducible show wpAny _ _ (exec (Stmt.If _ _ _ _) _) _ _ _); first | (k_unfold; (try dsimp only)) | (k_end; wrow_close) | (dsimp only; walk1) | walk1 | (leave1; walk_say "STEP leave1"; try dsimp only) | fail "no step"))
theorem main : PySem.Challenge.rw_il0163_01.Holds := by
  refine hd (by
    w_top off
    k_go0
    walk_at "my_steps"
    refine wpAny_For ?_
    walk_at "my_steps"
    rename Fr _ _ _ _ => F1
    rename News _ _ _ _ => N1
    rename IntsAre _ ([24, -18] ++ _) => hXi
    rename (List.length _ = min 10 _) => hXl
    rename (hd.heap_1 _).In _ => KX
    rename Top _ _ _ _ _ _ => TT
    rename Below callerA _ _ _ => K0
    rename Shared => sb
    rename_i h1 S hA ltA hB lB hC ltC D3 ws3 hD hI3 hL3 lt3 D4 c4 hE lt4 X xv hF lt5
    obtain ⟨xs, hX1, hX0, hX12⟩ : ∃ xs : List Int, IntsAre xv xs ∧ xs[0]? = some 24 ∧ xs.length ≤ 12 := ⟨_, hXi, rfl, by rw [List.length_append, hXl]; simp only [List.length_cons, List.length_nil]; omega⟩
    clear hXi hXl hI3 hL3
    refine wpAny_pyIter_list ⟨_, (N1 _ (.head _)).1, rfl, _, rfl⟩ ?_
    have F2 := fr_grow' F1 (h' := hF.push (iterObj X 0)) fun b o q => Heap.get?_push_of_some _ q
    have N2 := N1.push F1 (iterObj X 0)
    have hitX := ltN (lt_size_of_news N1 (X, _) (.head _))
    have hitS := ltN (lt_size_of_news N1 (S, _) (.tail _ (.tail _ (.tail _ (.tail _ (.head _))))))
    generalize hit : hF.objs.size = it at *
    have hSX : @Ne Nat X S := by omega
    refine codeAny_forLoop_any (LwI sb.heap sb.heap.objs.size sb S it X xv xs 0) (fun n s' hI => ?_) (xs.length + 1) ?_
    · clear F1 N1 F2 N2
      obtain ⟨i, h', tk', sc, o1, o2, o3, o4, vs, c, es, sn, oI, hn, hix, rfl, F1, N1, oc, od, hSh, hel, hgood, hoff⟩ := hI
      have m1 := (N1 _ (.head _)).1
      have hIt : h'.IsListIter it X i := ⟨_, m1, oc, od⟩
      have hXlst : h'.IsList X xv.toArray := ⟨_, (N1 _ (.tail _ (.head _))).1, rfl, _, rfl⟩
      have hxl : xv.length = xs.length := intsAre_len hX1
      rcases Nat.lt_or_ge i xs.length with hlt | hge
      · have hv0 : i < xv.length := by omega
        obtain ⟨x, hxx, tx, hvx⟩ := intsAre_get (i := i) hX1 (by rw [List.getElem?_toArray, List.getElem?_eq_getElem hv0])
        refine wpAny_pyNext_list_item hIt hXlst (x := .int x tx) (by rw [List.getElem?_toArray, List.getElem?_eq_getElem hv0, hvx]) (fun h₉ hit₉ hs₉ => ?_)
        dsimp only
        refine letGo_listiter (s' := ⟨h₉, _, _, _, _⟩) hit₉ ?_
        obtain ⟨oI', ho', oc', od'⟩ := hit₉
        have itL := (N1 _ (.head _)).2
        have N9 : News sb.heap sb.heap.objs.size h₉ ((it, oI') :: (X, lstObj xv.toArray 0) :: (S, lstObj vs.toArray c) :: sn) := fun p hp => by
          rcases List.mem_cons.mp hp with rfl | hp
          · exact ⟨ho', itL⟩
          · refine ⟨(hs₉.2 _ ?_).trans (N1 _ (.tail _ hp)).1, (N1 _ (.tail _ hp)).2⟩
            rcases List.mem_cons.mp hp with rfl | hp
            · exact Nat.ne_of_lt hitX
            rcases List.mem_cons.mp hp with rfl | hp
            · exact Nat.ne_of_lt hitS
            · exact (hoff p hp).1
        have F9 : Fr sb.heap sb.heap.objs.size h₉ (lwNames S sc o1 o2 o3 o4) := ⟨F1.ns.at' fun o q => (hs₉.2 _ (_root_.Ne.symm itL.1)).trans q, fun b o q => (hs₉.2 b (fun z => by rw [z, itL.2] at q; cases q)).trans (F1.keep b o q), F1.above⟩
        clear F1 N1 hs₉ m1 hIt hXlst ho'
        walk_at "my_steps"
        rename Fr _ _ _ _ => F1
        rename News _ _ _ _ => N1
        have hx24 : x.fmod 6 = 0 ∨ 0 < es.length := by
          rcases Nat.eq_zero_or_pos i with h0 | h0
          · subst h0
            rw [hX0] at hxx
            cases hxx
            exact .inl (by decide)
          · exact .inr (by omega)
        refine deed_raw (base := sb.heap) KX TT (fun b o q => F1.keep b o q) (Nat.le_of_lt (fr_lt F1)) (Heap.FunFrames.cons (by show ScopeKind.function ≠ ScopeKind.module; decide) rfl F1.ns (Heap.get?_none_of_le F1.above) trivial)
          (N1 _ (.tail _ (.tail _ (.head _)))).1 (free_of rfl N1 (p := (S, _)) (.tail _ (.tail _ (.head _)))) (hSh.at rfl N1 fun p hp => .tail _ (.tail _ (.tail _ hp))) (by omega) hx24 (fun p hp => good_len (hgood p hp)) (by show callerA.depth + 1 + 20 < _; decide) (by show callerA.units + 3 + 200 < _; decide) (fun T h₂ tk₂ hT0 hout hold hup => ?_)
        obtain ⟨F2, N2⟩ := after_deed rfl F1 N1 hold hup
        obtain ⟨t, rv, num, sn', N3, hoff', hsub, hrv⟩ : ∃ t rv num sn', News sb.heap sb.heap.objs.size h₂ ((T, tupObj #[.int num t, rv] 0) :: (it, oI') :: (X, lstObj xv.toArray 0) :: (S, lstObj vs.toArray c) :: sn') ∧ (∀ p ∈ sn', p.1 ≠ it ∧ p.1 ≠ S) ∧ (∀ p ∈ sn, p ∈ sn') ∧
            ((rv = .none ∧ num = x.fdiv 6 * 4681) ∨ ∃ R ws cR row, rv = .ref R ∧ (R, lstObj (List.toArray ws) cR) ∈ sn' ∧ R ≠ it ∧ R ≠ S ∧ IntsAre ws row ∧ Good num row) := by
          rcases hout with ⟨hx0, t, hT⟩ | ⟨hx0, t, R, ws, cR, hT, hR0, hR, hw⟩
          · exact ⟨t, _, _, sn, news_add F1 N2 hT0 hT, hoff, fun p hp => hp, .inl ⟨rfl, rfl⟩⟩
          · have hRS : R ≠ S := fun z => by rw [z, (N1 (S, _) (.tail _ (.tail _ (.head _)))).1] at hR0; cases hR0
            have hRit : R ≠ it := fun z => by rw [z, (N1 (it, _) (.head _)).1] at hR0; cases hR0
            have N4 := news_add F1 (news_add F1 N2 hR0 hR) hT0 hT
            refine ⟨t, _, _, (R, lstObj ws.toArray cR) :: sn, fun p hp => N4 p ?_, fun p hp => ?_, fun p hp => .tail _ hp, .inr ⟨R, ws, cR, _, rfl, .head _, hRit, hRS, hw, good_deed (x := x) hgood (hx24.resolve_left hx0)⟩⟩
            · simp only [List.mem_cons] at hp ⊢
              rcases hp with h | h | h | h | h | h <;> simp [h]
            · rcases List.mem_cons.mp hp with rfl | hp
              · exact ⟨hRit, hRS⟩
              · exact hoff p hp
        replace hSh := hSh.mono hsub
        clear N2 hold hup hT0 hout N1 F1 hoff hsub
        walk_at "my_steps"
        rename Fr _ _ _ _ => F1
        rename News _ _ _ _ => N1
        refine (sp_filemode num _).use F1 N1 KX TT rfl (by show callerA.depth + 1 + 8 < _; decide) (by show callerA.units + 3 + 40 < _; decide) trivial (fun v h3 tk3 F3 N3 k3 hv => ?_)
        obtain ⟨t3, rfl⟩ := hv
        clear F1 N1 k3
        walk_at "my_steps"
        rename Fr _ _ _ _ => F1
        rename News _ _ _ _ => N1
        refine (sp_bytes (modeText num) _ (text_ascii num) (by rw [show (modeText num).length = 10 from text_len num]; decide)).use F1 N1 KX TT rfl (by show callerA.depth + 1 + 4 < _; decide) (by show callerA.units + 3 + 20 < _; decide) trivial (fun v h3 tk3 F3 N3 k3 hv => ?_)
        obtain ⟨tb8, rfl⟩ := hv
        clear F1 N1 k3
        walk_at "my_steps3"
        rename Fr _ _ _ _ => F1
        rename News _ _ _ _ => N1
        refine join .next (fun s' => ∃ h' tk' R ws cR row, s' = { sb with heap := h', toks := tk' } ∧ Fr sb.heap sb.heap.objs.size h' (lwNames S sc (some (.int x tx)) (some (.int num t)) (some (.ref R)) (some (.bytes (asciiBytes (modeText num)) tb8))) ∧
          News sb.heap sb.heap.objs.size h' ((R, lstObj (List.toArray ws) cR) :: (it, oI') :: (X, lstObj xv.toArray 0) :: (S, lstObj vs.toArray c) :: sn') ∧ R ≠ it ∧ R ≠ S ∧ IntsAre ws row ∧ Good num row) ?_ ?_
        · rcases hrv with ⟨rfl, rfl⟩ | ⟨R, ws, cR, row, rfl, hRm, hRit, hRS, hw, hg⟩
          · have hg := good_read (x.fdiv 6 * 4681)
            generalize x.fdiv 6 * 4681 = num at *
            walk_at "my_steps"
            rename Fr _ _ _ _ => F1
            rename News _ _ _ _ => N1
            refine (sp_ifmt num _).use F1 N1 KX TT rfl (by show callerA.depth + 1 + 4 < _; decide) (by show callerA.units + 3 + 20 < _; decide) trivial (fun v h3 tk3 F3 N3 k3 hv => ?_)
            obtain ⟨t3, rfl⟩ := hv
            clear F1 N1 k3
            walk_at "my_steps"
            rename Fr _ _ _ _ => F1
            rename News _ _ _ _ => N1
            refine (sp_read (asciiBytes (modeText num)) _ (Builtin.bitAnd num 61440) _ _ rfl (by rw [text_ints, List.length_map, Array.length_toList, text_len])).use F1 N1 KX TT rfl (by show callerA.depth + 1 + 8 < _; decide) (by show callerA.units + 3 + 60 < _; decide) trivial (fun v h3 tk3 F3 N3 k3 hv => ?_)
            obtain ⟨R, rfl, hR0, ws, cR, hR, hw⟩ := hv
            have N4 := news_add F1 N3 hR0 hR
            have hRS : R ≠ S := fun z => by rw [z, (N1 (S, lstObj vs.toArray c) (by k_mem)).1] at hR0; cases hR0
            have hRit : R ≠ it := fun z => by rw [z, (N1 (it, oI') (by k_mem)).1] at hR0; cases hR0
            generalize readRow (KBw.bInts (asciiBytes (modeText num))) (Builtin.bitAnd num 61440) = row at *
            clear F1 N1 N3 k3 hR
            walk_at "my_steps"
            rename Fr _ _ _ _ => F1
            rename News _ _ _ _ => N1
            refine ⟨rfl, _, _, R, ws, cR, row, rfl, fr_cong F1 (fun y => ?_), fun p hp => N1 p (by simp only [List.mem_cons] at hp ⊢; rcases hp with h | h | h | h | h <;> simp [h]), hRit, hRS, hw, hg⟩
            by_cases h1 : y = Str.ofString "octets"
            · subst h1; rfl
            by_cases h2 : y = Str.ofString "row"
            · subst h2; rfl
            by_cases h3 : y = Str.ofString "number"
            · subst h3; rfl
            by_cases h4 : y = Str.ofString "x"
            · subst h4; rfl
            simp only [lwNames, if_neg h1, if_neg h2, if_neg h3, if_neg h4]
          · walk_at "my_steps"
            rename Fr _ _ _ _ => F1
            rename News _ _ _ _ => N1
            refine ⟨rfl, _, _, R, ws, cR, row, rfl, fr_cong F1 (fun y => ?_), fun p hp => N1 p (by simp only [List.mem_cons] at hp ⊢; rcases hp with h | h | h | h | h <;> simp [h, hRm]), hRit, hRS, hw, hg⟩
            by_cases h1 : y = Str.ofString "octets"
            · subst h1; rfl
            by_cases h2 : y = Str.ofString "row"
            · subst h2; rfl
            by_cases h3 : y = Str.ofString "number"
            · subst h3; rfl
            by_cases h4 : y = Str.ofString "x"
            · subst h4; rfl
            simp only [lwNames, if_neg h1, if_neg h2, if_neg h3, if_neg h4]
        rintro _ ⟨h7, tk7, R, ws, cR, row, rfl, F7, N7, hRit, hRS, hw, hg⟩
        clear F1 N1 hrv
        walk_at "my_steps"
        rename Fr _ _ _ _ => F1
        rename News _ _ _ _ => N1
        refine call_list_bytes rfl _ _ (fun h3 tk3 acc c3 k3 hn3 hN3 hI3 => ?_) (by rw [← KBw.ints_length, text_ints, List.length_map, Array.length_toList, text_len]; decide)
        have F3 := fr_grow' F1 k3
        have N3 := news_add F1 (fun q hq => ⟨k3 _ _ (N1 q hq).1, (N1 q hq).2⟩) hn3 hN3
        generalize (Heap.objs _).size = L3 at hn3 hN3 N3 ⊢
        obtain ⟨vs3, rfl⟩ : ∃ vs3 : List Value, acc = vs3.toArray := ⟨acc.toList, by simp⟩
        replace hI3 : IntsAre vs3 (KBw.bInts (asciiBytes (modeText num))) := hI3
        clear F1 N1 k3 hn3 hN3
        walk_at "my_steps"
        rename Fr _ _ _ _ => F1
        rename News _ _ _ _ => N1
        have hkd := good_kind hg
        refine (sp_written R ws row hw (Nat.le_trans (good_len hg) (by decide)) hkd.1 hkd.2 (good_count hg)).use F1 N1 KX TT rfl (by show callerA.depth + 1 + 8 < _; decide) (by show callerA.units + 3 + 60 < _; decide) ⟨_, (N1 (R, lstObj ws.toArray cR) (by k_mem)).1⟩ (fun v h3 tk3 F3 N3 k3 hv => ?_)
        obtain ⟨D3, rfl, hD0, ys3, cD3, hD3, hys3⟩ := hv
        have N4 := news_add F1 N3 hD0 hD3
        rw [good_text hg, ← text_ints] at hys3
        generalize KBw.bInts (asciiBytes (modeText num)) = ks at hI3 hys3
        have hHi := good_high hg
        have hLo := good_low hg
        clear F1 N1 N3 k3 hD0 hD3
        walk_at "my_steps"
        refine comp_T row (fun n v => ∃ t, v = .int n t) (fun w => decide (w > 2048)) id (by with_unfolding_all rfl) (by decide) (by rfl) (by decide) (by rfl) (Nat.le_trans (good_len hg) (by decide)) ?_
        walk_at "my_steps"
        rename Fr _ _ _ _ => F1
        rename News _ _ _ _ => N1
        refine ⟨_, _, _, _, _, feeds_lst rfl F1 N1 (show (R, lstObj ws.toArray cR) ∈ _ by k_mem) (by rw [List.size_toArray]; exact intsAre_len hw), (fun i v _ hv => intsAre_get hw hv), ?_, ?_, ?_⟩
        · intro g a v ha hv I oI C oC D ys m₂ h tk Q' E' hTH k
          obtain ⟨t, rfl⟩ := hv
          obtain ⟨hC, hx, F', N', off, ne⟩ := hTH
          walk_at "my_steps"
          exact k _ _ (by assumption) (by assumption)
        · intro g a v ha hv hp I oI C oC D ys m₂ h tk Q' E' hTH k
          obtain ⟨t, rfl⟩ := hv
          obtain ⟨hC, hx, F', N', off, ne⟩ := hTH
          walk_at "my_steps"
          exact k _ _ _ (by assumption) (by assumption)
        intro ys3 D3 h3 tk3 hys3 F3 N3 off3
        clear F1 N1
        walk_at "my_steps"
        rename Fr _ _ _ _ => F1
        rename News _ _ _ _ => N1
        refine (sp_ifmt num _).use F1 N1 KX TT rfl (by show callerA.depth + 1 + 4 < _; decide) (by show callerA.units + 3 + 20 < _; decide) trivial (fun v h3 tk3 F3 N3 k3 hv => ?_)
        obtain ⟨t3, rfl⟩ := hv
        clear F1 N1 k3
        walk_at "my_steps"
        refine comp_T row (fun n v => ∃ t, v = .int n t) (fun w => decide (w < 4096)) id (by with_unfolding_all rfl) (by decide) (by rfl) (by decide) (by rfl) (Nat.le_trans (good_len hg) (by decide)) ?_
        walk_at "my_steps"
        rename Fr _ _ _ _ => F1
        rename News _ _ _ _ => N1
        refine ⟨_, _, _, _, _, feeds_lst rfl F1 N1 (show (R, lstObj ws.toArray cR) ∈ _ by k_mem) (by rw [List.size_toArray]; exact intsAre_len hw), (fun i v _ hv => intsAre_get hw hv), ?_, ?_, ?_⟩
        · intro g a v ha hv I oI C oC D ys m₂ h tk Q' E' hTH k
          obtain ⟨t, rfl⟩ := hv
          obtain ⟨hC, hx, F', N', off, ne⟩ := hTH
          walk_at "my_steps"
          exact k _ _ (by assumption) (by assumption)
        · intro g a v ha hv hp I oI C oC D ys m₂ h tk Q' E' hTH k
          obtain ⟨t, rfl⟩ := hv
          obtain ⟨hC, hx, F', N', off, ne⟩ := hTH
          walk_at "my_steps"
          exact k _ _ _ (by assumption) (by assumption)
        intro ys3 D3 h3 tk3 hys3 F3 N3 off3
        clear F1 N1
        walk_at "my_steps"
        rename Fr _ _ _ _ => F1
        rename News _ _ _ _ => N1
        refine (sp_imode num _).use F1 N1 KX TT rfl (by show callerA.depth + 1 + 4 < _; decide) (by show callerA.units + 3 + 20 < _; decide) trivial (fun v h3 tk3 F3 N3 k3 hv => ?_)
        obtain ⟨t3, rfl⟩ := hv
        clear F1 N1 k3
        walk_at "my_steps"
        rename Fr _ _ _ _ => F1
        rename News _ _ _ _ => N1
        rename Addr => T2
        refine app_list F1 N1 (D := S) (by k_mem) (by rw [List.size_toArray, hSh.1]; exact Nat.le_trans (by omega : es.length ≤ 20) (by decide)) (fun h5 c5 F5 sb5 hS5 => ?_)
        walk_at "my_steps"
        have keep5 := fun p hp (hn : p.1 ≠ S) => (⟨(sb5.2 _ hn).trans (N1 p hp).1, (N1 p hp).2⟩ : h5.get? p.1 = some p.2 ∧ p.1 ≠ sb.heap.objs.size ∧ sb.heap.get? p.1 = none)
        have gIt := N1 (it, oI') (by k_mem)
        have gS := N1 (S, lstObj vs.toArray c) (by k_mem)
        have gR := N1 (R, lstObj ws.toArray cR) (by k_mem)
        have gT := N1 (T2, tupObj #[.int num t, .ref R] 0) (by k_mem)
        have gX := N1 (X, lstObj xv.toArray 0) (by k_mem)
        have hTS := tup_ne_lst gT.1 gS.1 rfl rfl
        have hTit := tup_ne_it gT.1 gIt.1 (.inl rfl) oc'
        have hIS : it ≠ S := fun z => absurd z.symm (Nat.ne_of_lt hitS)
        refine ⟨xs.length + 1 - (i + 1), by omega, ⟨i + 1, h5, _, sc, some (.int x tx), some (.int num t), some (.ref R), some (.bytes (asciiBytes (modeText num)) tb8), vs ++ [.ref T2], c5, es ++ [(num, row)], (T2, tupObj #[.int num t, .ref R] 0) :: (R, lstObj ws.toArray cR) :: sn', oI', rfl, by omega, rfl, fr_cong F5 (fun y => ?_), (fun p hp => ?_), oc', od',
          hSh.grow (fun p hp => .tail _ (.tail _ hp)) (.head _) (.tail _ (.head _)) hw, by rw [List.length_append, hel]; rfl, (fun p hp => ?_), (fun p hp => ?_)⟩⟩
        · rfl
        · rcases List.mem_cons.mp hp with rfl | hp
          · exact keep5 _ (by k_mem) hIS
          rcases List.mem_cons.mp hp with rfl | hp
          · exact keep5 _ (by k_mem) hSX
          rcases List.mem_cons.mp hp with rfl | hp
          · exact ⟨by rw [← List.push_toArray]; exact hS5, gS.2⟩
          rcases List.mem_cons.mp hp with rfl | hp
          · exact keep5 _ (by k_mem) hTS
          rcases List.mem_cons.mp hp with rfl | hp
          · exact keep5 _ (by k_mem) hRS
          · exact keep5 _ (by repeat (first | exact hp | apply List.mem_cons_of_mem)) (hoff' p hp).2
        · rcases List.mem_append.mp hp with hp | hp
          · exact hgood p hp
          · rw [List.mem_singleton.mp hp]; exact hg
        · rcases List.mem_cons.mp hp with rfl | hp
          · exact ⟨hTit, hTS⟩
          rcases List.mem_cons.mp hp with rfl | hp
          · exact ⟨hRit, hRS⟩
          · exact hoff' p hp
      · obtain rfl : i = xs.length := by omega
        refine wpAny_pyNext_list_end rfl hIt hXlst (by rw [List.getElem?_toArray]; exact List.getElem?_eq_none (by omega)) (fun h₉ hs₉ => ?_)
        dsimp only
        have itL := (N1 _ (.head _)).2
        have F9 : Fr sb.heap sb.heap.objs.size h₉ (lwNames S sc o1 o2 o3 o4) := ⟨F1.ns.at' fun o q => hs₉ _ o (_root_.Ne.symm itL.1) q, fun b o q => hs₉ b o (fun z => by rw [z, itL.2] at q; cases q) (F1.keep b o q), F1.above⟩
        have N9 : News sb.heap sb.heap.objs.size h₉ [] := News.nil
        clear F1 N1 hs₉ m1 hIt hXlst
        walk_at "my_steps"
    · refine' ⟨⟨0, _, _, _, none, none, none, none, [], 0, [], [], iterObj X 0, rfl, Nat.zero_le _, rfl, fr_cong F2 fun y => ?_, fun p hp => ?_, rfl, rfl, ⟨rfl, fun i v n ns h1 _ => by simp at h1⟩, rfl, (fun p hp => nomatch hp), (fun p hp => nomatch hp)⟩⟩
      rotate_left
      · unfold lwNames
        by_cases h1 : y = Str.ofString "octets"
        · subst h1; rfl
        by_cases h2 : y = Str.ofString "row"
        · subst h2; rfl
        by_cases h3 : y = Str.ofString "number"
        · subst h3; rfl
        by_cases h4 : y = Str.ofString "x"
        · subst h4; rfl
        rw [if_neg h1, if_neg h2, if_neg h3, if_neg h4]
        by_cases h5 : y = Str.ofString "shelf"
        · rw [if_pos h5, if_pos h5]
        rw [if_neg h5, if_neg h5]
        by_cases h6 : y = Str.ofString "script"
        · subst h6; rfl
        · rw [if_neg h6]
          show List.lookup y [(Str.ofString "script", _)] = none
          rw [List.lookup_cons, beq_false_of_ne h6]; rfl
      · simp only [List.mem_cons, List.not_mem_nil, or_false] at hp
        rcases hp with rfl | rfl | rfl
        · exact N2 _ (.head _)
        · exact N2 _ (.tail _ (.head _))
        · exact N2 _ (.tail _ (.tail _ (.tail _ (.tail _ (.tail _ (.head _)))))))
end Mine
end

theorem PySem.Challenge.cw_il0163_01_holds : PySem.Challenge.rw_il0163_01.Holds :=
  Mine.main

import PyProof.Rows.All
import Wide.All
import OpenK.AllK
import Wide.FinOn
import PyProof.IsiH_list
import PyProof.FactsAll.list
import PyProof.EnumMake
import PyProof.TupleIter
import PyProof.SeqInW
import Wide.BytesFacts
import KE.KxBytes
import PyProof.Walk
import PyProof.WalkLemmas
import PyProof.ListNew
import PyProof.CollectWalk
import PyProof.WalksMore
import PyProof.StrWalks
import KE.KLcTest
import PyProof.ExcNew
import PyProof.RulesRaise
import PyProof.ExcFactsAll.ValueError
import PyProof.ExcStrCall
import PyProof.ExcStrAll.ValueError
import PyProof.Rows.CellsNews
import PyProof.Rows.EqNone
import PyProof.NeKinds
import KE.KSlice
import PyProof.Rows.SeqMore
import KE.KBytesWalk
import KE.BitLaws
import PySem.Challenge.RW_il0163_02
set_option Elab.async false
section
open PySem PySem.W PyProof.Rows PySem.Spec PySem.Calls
set_option Elab.async false
set_option maxRecDepth 100000
set_option maxHeartbeats 4000000
namespace Mine
open PySem.F

theorem lk_list_contains : typeLookup (.type "list") "__contains__" = pure (some (.builtin "list.__contains__")) := F.slot_list_contains.lookup
theorem ty_list_contains : typeOf (.builtin "list.__contains__") = pure (.type "wrapper_descriptor") := by kernel_rfl
theorem wd_get : Slot "wrapper_descriptor" "__get__" "wrapper_descriptor.__get__" :=
  .of (owner := "wrapper_descriptor") (n := "__get__") (by rw [typeLookup_type, builtinLookup_eq_fast]; kernel_rfl) (by decide +kernel) (by decide +kernel) (by decide +kernel)
    (by first | exact .inl (by decide +kernel) | exact .inr (by decide +kernel)) (by rw [isSubtype_type]; kernel_rfl)
theorem wd_set : typeLookup (.type "wrapper_descriptor") "__set__" = pure none := by rw [typeLookup_type, builtinLookup_eq_fast]; kernel_rfl
theorem wd_delete : typeLookup (.type "wrapper_descriptor") "__delete__" = pure none := by rw [typeLookup_type, builtinLookup_eq_fast]; kernel_rfl
theorem entry_wd_get : entryFor table "wrapper_descriptor.__get__" = some Builtin.«wrapper_descriptor.__get__» := entryFor_of_tree (by kernel_rfl)
theorem args_wd_get (a b c : Value) : argsOk "wrapper_descriptor.__get__" ⟨[a, b, c], []⟩ := by unfold argsOk; kernel_rfl
theorem owner_list_contains : (".".intercalate ("list.__contains__".cutAt '.').dropLast) = "list" := by
  have e0 : "list.__contains__".cutAt '.' = ["list", "__contains__"] := by first | rfl | decide +kernel
  rw [e0]; decide +kernel
theorem sub_list_contains_owner : isSubtype (.type "list") (.type (".".intercalate ("list.__contains__".cutAt '.').dropLast)) = pure true := by
  rw [owner_list_contains, isSubtype_type]; kernel_rfl

section
variable {prog : Program} {w : World} {A : Around} {E : Value → Shared → Prop} {h : Heap} {g : Array GenState} {d : Drawn} {t : Nat} {os : OsState} {a : Addr} {o : Obj}
abbrev mwObj (a : Addr) : Obj := { cls := .type "method-wrapper", data := .fields #[.builtin "list.__contains__", .ref a] }

theorem contains_get {R : Result → Shared → Prop} (hx : h.get? a = some o) (hc : o.cls = .type "list") (hq : R (.ok (.ret (.ref h.objs.size))) ⟨h.push (mwObj a), g, d, t, os⟩) :
    codeAny (model prog w) A (.call (.builtin "wrapper_descriptor.__get__") ⟨[.builtin "list.__contains__", .ref a, .type "list"], []⟩) R ⟨h, g, d, t, os⟩ := by
  have hT : (⟨h, g, d, t, os⟩ : Shared).TypeIs (.ref a) "list" := ⟨_, hx, hc⟩
  have hT5 : (⟨h, g, d, t, os⟩ : Shared).TypeIs (.builtin "list.__contains__") "wrapper_descriptor" := ty_list_contains
  have f8 := sub_list_contains_owner
  refine codeAny_call_builtin wd_get.plain entry_wd_get (wd_get.check _ _ _ _ _ _ _ _ hT5 (args_wd_get _ _ _) ?_)
  repeat (any_goals (first | assumption | wp_step))

abbrev lstObj (vs : Array Value) (n : Nat) : Obj := { cls := .type "list", data := .seq vs n }
variable {vs : Array Value} {n : Nat}
theorem contains_entry {tk : Tok} {Q : Fin → Shared → Prop} (hx : h.get? a = some (lstObj vs n)) (hq : Q (.done (.ret (.ref h.objs.size))) ⟨h.push (mwObj a), g, d, t, os⟩) :
    wpAny (model prog w) A (Builtin.«object.__getattribute__» ⟨[.ref a, .str "__contains__" tk], []⟩) Q E ⟨h, g, d, t, os⟩ := by
  have hT : (⟨h, g, d, t, os⟩ : Shared).TypeIs (.ref a) "list" := ⟨_, hx, rfl⟩
  have f4 := lk_list_contains
  have f5 := ty_list_contains
  have f6 := wd_get.lookup
  have f7 := wd_set
  have f8 := wd_delete
  repeat (any_goals (first | assumption | wp_step))
  refine contains_get hx rfl ?_
  repeat (any_goals (first | assumption | wp_step))

theorem contains_call {tk : Tok} {R : Result → Shared → Prop} (hx : h.get? a = some (lstObj vs n)) (hq : R (.ok (.ret (.ref h.objs.size))) ⟨h.push (mwObj a), g, d, t, os⟩) :
    codeAny (model prog w) A (.call (.builtin "list.__getattribute__") ⟨[.ref a, .str "__contains__" tk], []⟩) R ⟨h, g, d, t, os⟩ :=
  codeAny_call_builtin F.slot_list_getattribute.plain F.entry_list_ga (F.slot_list_getattribute.check _ _ _ _ _ _ _ _ (show (⟨h, g, d, t, os⟩ : Shared).TypeIs (.ref a) "list" from ⟨_, hx, rfl⟩) (F.args_list_getattribute_2 _ _) (contains_entry hx hq))

theorem contains_attr {Q : Value → Shared → Prop} (hx : h.get? a = some (lstObj vs n)) (hq : Q (.ref h.objs.size) ⟨h.push (mwObj a), g, d, t + 1, os⟩) : wpAny (model prog w) A (getAttr (.ref a) "__contains__" true) Q E ⟨h, g, d, t, os⟩ := by
  have hT : (⟨h, g, d, t, os⟩ : Shared).TypeIs (.ref a) "list" := ⟨_, hx, rfl⟩
  have f2 := F.slot_list_getattribute.lookup
  have f3 := F.slot_list_getattribute.bind (.ref a)
  unfold getAttr getAttrBy
  repeat (any_goals (first | assumption | wp_step))
  refine contains_call hx ?_
  repeat (any_goals (first | assumption | wp_step))

theorem lt_size_of_news {h₀ h : Heap} {L : Addr} {news : List (Addr × Obj)} (N : News h₀ L h news) : ∀ p ∈ news, p.1 < h.objs.size := fun p hp => Heap.lt_size (N p hp).1
theorem k_contains {s : Shared} {h₀ : Heap} {L : Addr} {m : Str → Option Value} {news : List (Addr × Obj)} {Q : Value → Shared → Prop} {prog : Program} {w : World} (F : Fr h₀ L s.heap m) (N : News h₀ L s.heap news) (hm : (a, lstObj vs n) ∈ news)
    (k : ∀ q h', Fr h₀ L h' m → News h₀ L h' ((q, mwObj a) :: news) → (∀ p ∈ news, p.1 < q) → Q (.ref q) { s with heap := h', toks := s.toks + 1 }) :
    wpAny (model prog w) A (getAttr (.ref a) "__contains__" true) Q E s :=
  contains_attr (N _ hm).1 (k _ _ (F.push _) (N.push F _) (lt_size_of_news N))
end
end Mine
end

section
open PySem PySem.W PyProof.Rows PySem.Spec PySem.Calls PySem.SeqAt
set_option Elab.async false
set_option maxRecDepth 100000
set_option maxHeartbeats 4000000
namespace Mine

section
variable {prog : Program} {w : World} {A : Around} {E : Value → Shared → Prop} {s : Shared} {h₀ : Heap} {L it l : Addr} {m : Str → Option Value} {news : List (Addr × Obj)}

theorem entry_next' : entryFor table "next" = some Builtin.«next» := entryFor_of_tree (by kernel_rfl)
theorem args_next' (a : Value) : argsOk "next" ⟨[a], []⟩ := by unfold argsOk; kernel_rfl
theorem entry_iter' : entryFor table "iter" = some Builtin.«iter» := entryFor_of_tree (by kernel_rfl)
theorem args_iter' (a : Value) : argsOk "iter" ⟨[a], []⟩ := by unfold argsOk; kernel_rfl

abbrev iterObj (l : Addr) (i : Nat) : Obj := { cls := .type "list_iterator", data := .fields #[.ref l, .int i 0] }
theorem call_iter_list {vs : Array Value} {Q : Value → Shared → Prop} (hl : s.heap.IsList l vs)
    (h : Q (.ref s.heap.objs.size) { s with heap := s.heap.push (iterObj l 0) }) : wpAny (model prog w) A (call (.builtin "iter") [.ref l]) Q E s := by
  refine call_function_entry (by decide +kernel) (by decide +kernel) entry_iter' (args_iter' _) ?_
  unfold Builtin.«iter»
  refine wpAny_bind (m := someArgs "iter" 1 2 _) (wpAny_of_eq (a := [Value.ref l]) (by first | rfl | kernel_rfl!) ?_)
  show wpAny _ _ (pyIter (.ref l) >>= _) _ _ _
  exact wpAny_bind (wpAny_pyIter_list hl (wpAny_pure ⟨_, rfl, h⟩))

theorem k_iter_list {vs : Array Value} {n : Nat} {Q : Value → Shared → Prop} (F : Fr h₀ L s.heap m) (N : News h₀ L s.heap news) (hm : (l, lstObj vs n) ∈ news)
    (k : ∀ q h', Fr h₀ L h' m → News h₀ L h' ((q, iterObj l 0) :: news) → (∀ p ∈ news, p.1 < q) → Q (.ref q) { s with heap := h' }) :
    wpAny (model prog w) A (call (.builtin "iter") [.ref l]) Q E s :=
  call_iter_list ⟨_, (N _ hm).1, rfl, _, rfl⟩ (k _ _ (F.push _) (N.push F _) (lt_size_of_news N))

theorem call_next_item {items : Array Value} {i : Nat} {x : Value} {Q : Value → Shared → Prop} (ho : s.heap.get? it = some (iterObj l i)) (hl : s.heap.IsList l items) (hx : items[i]? = some x)
    (hQ : Q x { s with heap := s.heap.update it (Obj.mapFields (·.setIfInBounds 1 (rawInt ((i : Int) + 1)))) }) :
    wpAny (model prog w) A (call (.builtin "next") [.ref it]) Q E s := by
  have hit : s.heap.IsListIter it l i := ⟨_, ho, rfl, rfl⟩
  obtain ⟨ol, hol, _, nl, hdl⟩ := hl
  refine call_function_entry (by decide +kernel) (by decide +kernel) entry_next' (args_next' _) ?_
  unfold Builtin.«next»
  refine wpAny_bind (m := someArgs "next" 1 2 _) (wpAny_of_eq (a := [Value.ref it]) (by first | rfl | kernel_rfl!) ?_)
  dsimp only
  refine wpAny_bind (wpAny_specialOf (name := Str.ofString "__next__") hit.typeIs slot_listiter_next.lookup ?_)
  refine wpAny_ite_split (fun hab => absurd hab (by decide)) (fun _ => ?_)
  refine wpAny_bind (wpAny_callSpecial?_slot (name := Str.ofString "__next__") hit.typeIs slot_listiter_next
    (wpAny_call_entry slot_listiter_next hit.typeIs entry_listiter_next ?_ (args_listiter_next _)))
  show wpAny _ _ (field (.ref it) 0 >>= _) _ _ s
  refine wpAny_bind (wpAny_field ho rfl (x := .ref l) rfl ?_)
  show wpAny _ _ (if (Value.ref l == Value.none) = true then _ else _) _ _ s
  rw [if_neg (show ¬ ((Value.ref l == Value.none) = true) from Bool.false_ne_true)]
  show wpAny _ _ (field (.ref it) 1 >>= _) _ _ s
  refine wpAny_bind (wpAny_field ho rfl (x := .int i 0) rfl ?_)
  show wpAny _ _ (seqItems? (.ref l) >>= _) _ _ s
  refine wpAny_bind (wpAny_seqItems hol hdl ?_)
  simp only [Int.toNat_natCast, hx]
  refine wpAny_bind (wpAny_setField ho rfl (by simp) (wpAny_pure ⟨x, rfl, ?_⟩))
  exact wpAny_pure ⟨_, rfl, hQ⟩

theorem call_next_end {items : Array Value} {i : Nat} {Q : Value → Shared → Prop} (hh : A.handled = none) (ho : s.heap.get? it = some (iterObj l i)) (hl : s.heap.IsList l items) (hx : items[i]? = none)
    (hQ : ∀ h₁ h' e, Heap.SameBut it s.heap h₁ → Heap.MadeExcOf h₁ h' e (.type "StopIteration") [] → E (.ref e) { s with heap := h' }) :
    wpAny (model prog w) A (call (.builtin "next") [.ref it]) Q E s := by
  have hit : s.heap.IsListIter it l i := ⟨_, ho, rfl, rfl⟩
  obtain ⟨ol, hol, _, nl, hdl⟩ := hl
  refine call_function_entry (by decide +kernel) (by decide +kernel) entry_next' (args_next' _) ?_
  unfold Builtin.«next»
  refine wpAny_bind (m := someArgs "next" 1 2 _) (wpAny_of_eq (a := [Value.ref it]) (by first | rfl | kernel_rfl!) ?_)
  dsimp only
  refine wpAny_bind (wpAny_specialOf (name := Str.ofString "__next__") hit.typeIs slot_listiter_next.lookup ?_)
  refine wpAny_ite_split (fun hab => absurd hab (by decide)) (fun _ => ?_)
  refine wpAny_bind (wpAny_callSpecial?_slot (name := Str.ofString "__next__") hit.typeIs slot_listiter_next
    (wpAny_call_entry slot_listiter_next hit.typeIs entry_listiter_next ?_ (args_listiter_next _)))
  show wpAny _ _ (field (.ref it) 0 >>= _) _ _ s
  refine wpAny_bind (wpAny_field ho rfl (x := .ref l) rfl ?_)
  show wpAny _ _ (if (Value.ref l == Value.none) = true then _ else _) _ _ s
  rw [if_neg (show ¬ ((Value.ref l == Value.none) = true) from Bool.false_ne_true)]
  show wpAny _ _ (field (.ref it) 1 >>= _) _ _ s
  refine wpAny_bind (wpAny_field ho rfl (x := .int i 0) rfl ?_)
  show wpAny _ _ (seqItems? (.ref l) >>= _) _ _ s
  refine wpAny_bind (wpAny_seqItems hol hdl ?_)
  simp only [Int.toNat_natCast, hx]
  refine wpAny_bind (wpAny_rule (wpAny_bind (wpAny_setField ho rfl (by simp) ?_)))
  show wpAny _ _ (newExc (.type "StopIteration") [] >>= _) _ _ _
  refine wpAny_bind ?_
  simp only [newExc, newTuple]
  refine wpAny_bind (wpAny_newObj_type ?_ (by size_fits))
  refine wpAny_bind (m := firstArgMember _ _) (wpAny_of_eq (a := Value.none) (by first | rfl | (simp only [firstArgMember]; rfl)) ?_)
  refine wpAny_newObj_type ?_ (by size_fits)
  simp only [raiseNew]
  refine wpAny_bind (wpAny_handled ?_)
  rw [show A.in1.in1.handled = none from hh]
  refine wpAny_bind (wpAny_pure (wpAny_throw ?_))
  refine hQ _ _ _ (Heap.SameBut.update ..) ⟨fun b o e => Heap.get?_push_of_some _ (Heap.get?_push_of_some _ e), ?_, ⟨_, Heap.get?_push_size _ rfl, ?_, Heap.get?_push_of_some _ (Heap.get?_push_size _ rfl)⟩⟩
  · exact Heap.get?_none_of_le (by simp only [Heap.size_push]; exact Nat.le_succ _)
  · exact Heap.get?_none_of_le (Nat.le_refl _)
end

theorem fr_lt {h₀ h : Heap} {L : Addr} {m : Str → Option Value} (F : Fr h₀ L h m) : L < h.objs.size := by
  obtain ⟨o, es, ep, ho, _⟩ := F.ns
  exact Heap.lt_size ho
theorem fr_grow' {h₀ h h' : Heap} {L : Addr} {m : Str → Option Value} (F : Fr h₀ L h m) (k : h.StaysIn h') : Fr h₀ L h' m := ⟨F.ns.keeps k, fun b o e => k b o (F.keep b o e), F.above⟩
theorem fr_cong {h₀ h : Heap} {L : Addr} {m m' : Str → Option Value} (F : Fr h₀ L h m) (e : ∀ y, m y = m' y) : Fr h₀ L h m' := (funext e : m = m') ▸ F
theorem k_next_item {prog : Program} {w : World} {A : Around} {E : Value → Shared → Prop} {s : Shared} {h₀ : Heap} {L it l : Addr} {m : Str → Option Value} {items : Array Value} {i n : Nat} {x : Value} {rest : List (Addr × Obj)} {Q : Value → Shared → Prop}
    (F : Fr h₀ L s.heap m) (N : News h₀ L s.heap ((it, iterObj l i) :: rest)) (hne : ∀ p ∈ rest, p.1 ≠ it) (hm : (l, lstObj items n) ∈ rest) (hx : items[i]? = some x)
    (k : ∀ h', Fr h₀ L h' m → News h₀ L h' ((it, iterObj l (i + 1)) :: rest) → Q x { s with heap := h' }) : wpAny (model prog w) A (call (.builtin "next") [.ref it]) Q E s := by
  refine call_next_item (N _ (.head _)).1 ⟨_, (N _ (.tail _ hm)).1, rfl, _, rfl⟩ hx ?_
  obtain ⟨F', N'⟩ := news_upd (pre := []) (f := Obj.mapFields (·.setIfInBounds 1 (rawInt ((i : Int) + 1)))) (o' := iterObj l (i + 1)) F N (fun _ h => nomatch h) hne rfl rfl
  exact k _ F' N'

/-- two things wanted, for the walk to stop at -/
def Both (a b : Prop) : Prop := a ∧ b
theorem callWith_mw {M : Model} {A : Around} {E : Value → Shared → Prop} {s : Shared} {pos : Pos} {u a : Addr} {env : Env} {e : Expr} {rest : List Expr} {Q : Value → Shared → Prop}
    (h : wpAny M A (spliced (backTo pos (starEach (e :: rest) env))) (fun vs s₁ => Both (s₁.heap.get? u = some (mwObj a)) (wpAny M A (call (.ref u) vs) Q E s₁)) E s)
    (he : starEach (e :: rest) env = (false, eval e env) :: starEach rest env := by rfl) (hplain : (backTo pos (starEach rest env)).any (·.1) = false := by rfl) :
    wpAny M A (callWith pos (.ref u) [] (backTo pos (starEach (e :: rest) env)) []) Q E s := by
  rw [he] at h ⊢
  have hp : (backTo pos ((false, eval e env) :: starEach rest env)).any (·.1) = false := by show (false || (backTo pos (starEach rest env)).any (·.1)) = false; rw [hplain]; rfl
  unfold callWith
  refine wpAny_bind (wpAny_holding (wpAny_mono (evalArgs_plain (Q := fun x s₁ => Both (s₁.heap.get? u = some (mwObj a)) (wpAny M A (call (.ref u) x.pos x.kw) Q E s₁)) h) (fun x s₁ h₁ => wpAny_bind (wpAny_standAt ?_)) fun _ _ x => x))
  obtain ⟨ho, hcall⟩ := h₁
  simp only [hp, List.any_nil, Bool.or_false]
  refine wpAny_bind (m := keeperOf (.ref u)) ?_
  unfold keeperOf
  refine wpAny_bind (wpAny_load ho ?_)
  simp only [show (Value.type "method-wrapper" != Value.type "method") = true by decide, show (Value.type "method-wrapper" == Value.type "builtin_function_or_method" || Value.type "method-wrapper" == Value.type "method-wrapper") = true by decide, if_true]
  refine wpAny_pure ?_
  exact wpAny_bind (wpAny_mono hcall (fun r s₂ hr => wpAny_bind (wpAny_holding (wpAny_point (wpAny_pure hr)))) fun _ _ x => x)

/-- a def of the written part entered, over a ground of our own -/
theorem enter_raw {prog : Program} {w : World} {A : Around} {s : Shared} {B : Heap} {K : Frag} {p : Program} {loose : List Str} {mean : ExcName → Option Value} {mg mb : Str → Option Value} {news : List (Addr × Obj)} {Q E : Value → Shared → Prop}
    {name qual : Str} {params : Arguments} {body : List Stmt} {scope : Scope} {dV kV doc pm cdv ct oc : Value} {an od : Option Addr} {osl : Array (Option Value)} {f : Addr} {args : List Value} {binds : List (Str × Value)}
    (XB : K.In B) (TB : Top p loose mean mg mb B) (hB : B.StaysIn s.heap) (hsz : B.objs.size ≤ s.heap.objs.size) (N : News B s.heap.objs.size s.heap news)
    (ho : K.lookup f = some ⟨oc, od, .func (fnOf name qual params body scope dV kV doc pm an cdv ct), osl⟩) (hcd : codeIn K cdv qual = true) (hroom : A.depth < recursionLimit)
    (hbind : BindsTo s (fnOf name qual params body scope dV kV doc pm an cdv ct) ⟨args, []⟩ binds) (hloc : ∀ y ∈ binds, scope.names.lookup y.1 = some .local)
    (h : ∀ h₁ tk, Fr B s.heap.objs.size h₁ (fun y => binds.reverse.lookup y) → News B s.heap.objs.size h₁ news → (∀ b o, s.heap.get? b = some o → h₁.get? b = some o) →
      wpAny (model prog w) (A.deeper (envOf qual scope s.heap.objs.size f cdv)) (execs body (envOf qual scope s.heap.objs.size f cdv))
        (fun fl s' => Q (match fl with | .ret v => v | _ => .none) s')
        (fun e s' => wpAny (model prog w) (A.deeper (envOf qual scope s.heap.objs.size f cdv)) (leaving (envOf qual scope s.heap.objs.size f cdv) e) (fun _ s'' => E e s'') (fun e' s'' => E e' s'') s')
        { s with heap := h₁, toks := tk })
    (hco : scope.isCoroutine = false) (hgen : scope.isGenerator = false) (hk : scope.kind = .function)
    (hcell : ∀ x ∈ scope.names, x.2 ≠ .cell) : wpAny (model prog w) A (call (.ref f) args) Q E s := by
  refine wpAny_call ?_
  have X := XB.keeps hB
  refine codeAny_call_def (fd := fnOf name qual params body scope dV kV doc pm an cdv ct) (body := body) (binds := binds) hroom (X _ _ ho) rfl (TB.nolimit.keeps hB) (codeRec_of X hcd) rfl hbind hcell hloc (fun h₁ hns hk₁ => ?_) hco hgen hk
  exact h h₁ _ ⟨hns, fun b o e => hk₁ b o (hB b o e), hsz⟩ (fun p hp => ⟨hk₁ _ _ (N p hp).1, (N p hp).2⟩) hk₁

section
variable {M : Model} {A : Around} {E : Value → Shared → Prop} {s : Shared} {base h : Heap} {env : Env} {outer : List Env} {L e : Addr} {cls : Value} {args : List Value}
/-- a first note of a fresh exception in its own frame -/
theorem note_first {Q : Unit → Shared → Prop} (hfr : A.frames = some (env :: outer)) (hf : env.frame = some L) (hkb : base.StaysIn h) (hl : h.FunFrames base (env :: outer)) (hx : Heap.MadeExcOf h s.heap e cls args)
    (hQ : ∀ h' t, Heap.HeldW base (env :: outer) e cls (.ref t) L h' → h'.TupAt t args → base.get? t = none → s.heap.UpToSlots h' → Q () { s with heap := h' }) : wpAny M A (noteFrame (.ref e) env) Q E s := by
  obtain ⟨t, he, htn, ht⟩ := hx.there
  have fresh : ∀ b, h.get? b = none → base.get? b = none := fun b hb => by
    cases hq : base.get? b with
    | none => rfl
    | some o' => have := hkb b o' hq; rw [hb] at this; cases this
  unfold noteFrame
  simp only [hf]
  refine wpAny_bind (wpAny_field he rfl (x := .none) rfl ?_)
  rw [if_neg (by decide)]
  refine wpAny_entryW (a0 := .ref t) hfr (hl.of_keeps fun b o hb _ => ⟨o, hx.keeps b o hb, rfl⟩) hf he (fun b o hb => hx.keeps b o (hkb b o hb)) (fresh e hx.new) rfl (by simp) rfl fun h' hN => ?_
  obtain ⟨k1, k2, k3, k4⟩ := hN
  exact hQ h' t ⟨k1, fresh e hx.new, k2, k3⟩ (Heap.TupAt.of_slots ⟨_, _, ht, rfl, rfl⟩ k4) (fresh t htn) k4

/-- the flight comes back to its own frame -/
theorem came_back (hf : env.frame = some L) {l : List Env} {a0 : Value} (hh : Heap.HeldW base l e cls a0 L s.heap)
    (hE : ∀ h', Heap.HeldW base l e cls a0 L h' → s.heap.UpToSlots h' → E (.ref e) { s with heap := h' }) : cameBackBy M A env E (.ref e) s := by
  obtain ⟨f1, f2, f3, oe, vs, T, oT, ts, he, hcls, hd, h1, hnT, hTe, hT, hdT, h3⟩ := hh
  have hsz3 : 3 < ts.size := (Array.getElem?_eq_some_iff.mp h3).1
  unfold cameBackBy
  refine wpAny_bind (wpAny_field he hd h1 ?_)
  rw [if_neg (by simp)]
  unfold setFlight
  refine wpAny_bind (wpAny_field he hd h1 ?_)
  rw [if_pos (show (Value.ref T != Value.none) = true from by simp)]
  have other : ∀ b, b ≠ T → (s.heap.update T (Obj.mapFields (·.setIfInBounds 3 (env.frame.elim Value.none fun f => rawInt f)))).get? b = s.heap.get? b :=
    fun b hb => Heap.get?_update_other _ _ (Ne.symm hb)
  have apart : ∀ b o, s.heap.get? b = some o → (∀ vs, o.data ≠ .fields vs) → b ≠ T := fun b o hb hnf q => by
    rw [q, hT] at hb; injection hb with hb; subst hb; exact hnf ts hdT
  refine wpAny_setField hT hdT hsz3 (hE _ ⟨fun b o hbo => (other b fun q => by rw [q, hnT] at hbo; cases hbo).trans (f1 b o hbo), f2,
    f3.of_keeps fun b o hb hnf => ⟨o, (other b (apart b o hb hnf)).trans hb, rfl⟩, ?_⟩ fun b o hb hnf => ⟨o.slots, (other b (apart b o hb hnf)).trans hb⟩)
  exact ⟨oe, vs, T, _, _, (other e (Ne.symm hTe)).trans he, hcls, hd, h1, hnT, hTe, Heap.get?_update_self _ hT (Obj.isFreed_of_fields (Obj.data_mapFields hdT _)), Obj.data_mapFields hdT _, by rw [hf]; simp [hsz3, rawInt]⟩

/-- leaving with a held exception, with what stays told -/
theorem leaves_held {Q : Unit → Shared → Prop} {a0 : Value} (hf : env.frame = some L) (hh : Heap.HeldW base (env :: outer) e cls a0 L s.heap)
    (hQ : ∀ h', Heap.FlyingW base outer e cls a0 h' → s.heap.UpToSlots h' → Q () { s with heap := h' }) : wpAny M A (leaving env (.ref e)) Q E s := by
  unfold leaving
  refine wpAny_bind (wpAny_noteFrame_againW hf hh.2.2.2 ?_)
  refine wpAny_landsW hh fun h' hfl hu => ?_
  obtain ⟨k1, k2, ⟨_, _, k3⟩, k4⟩ := hfl
  exact hQ h' ⟨k1, k2, k3, k4⟩ hu

/-- out of a loop of its frame, and out of the frame -/
theorem out_of_loop {R : Value → Shared → Prop} (hfr : A.frames = some (env :: outer)) (hf : env.frame = some L) (hkb : base.StaysIn h) (hl : h.FunFrames base (env :: outer)) (hx : Heap.MadeExcOf h s.heap e cls args)
    (hR : ∀ h' a0, Heap.FlyingW base outer e cls a0 h' → s.heap.UpToSlots h' → R (.ref e) { s with heap := h' }) :
    notedBy M A env (cameBackBy M A env fun x s' => wpAny M A (leaving env x) (fun _ s'' => R x s'') E s') (.ref e) s := by
  unfold notedBy
  refine note_first hfr hf hkb hl hx fun h₁ t hh _ _ u1 => ?_
  refine came_back hf hh fun h₂ hh₂ u2 => ?_
  exact leaves_held hf hh₂ fun h₃ hfl u3 => hR _ _ hfl ((u1.trans u2).trans u3)
end

section
variable {prog : Program} {w : World} {A : Around} {E : Value → Shared → Prop} {s : Shared} {a q : Addr}
theorem check_contains (a : Addr) (x : Value) : checkBoundCall "list.__contains__" ⟨[.ref a, x], []⟩ = pure () := by
  first | kernel_rfl | rfl
theorem plain_contains : plainId "list.__contains__" = true := by decide +kernel
/-- the bound test of a list called upon a value -/
theorem call_contains {x : Value} {items : Array Value} {n : Nat} {Q : Value → Shared → Prop} (e : Value → Bool) (hq : s.heap.get? q = some (mwObj a)) (ha : s.heap.get? a = some (lstObj items n))
    (he : ∀ y, y ∈ items → ∀ A, EqAt A s y x (e y)) (h : Q (.bool (items.any e)) s) :
    wpAny (model prog w) A (call (.ref q) [x]) Q E s := by
  refine wpAny_call (codeAny_of_tree ?_)
  show wpAny _ A.in1 (callAny (.ref q) ⟨[x], []⟩) _ _ s
  simp only [callAny]
  refine wpAny_bind (wpAny_load hq ?_)
  simp only [mwObj, show (Value.type "method-wrapper" == Value.type "method" || Value.type "method-wrapper" == Value.type "builtin_function_or_method" || Value.type "method-wrapper" == Value.type "method-wrapper") = true by decide, if_true]
  refine wpAny_ite_split (fun _ => ?_) (fun hab => absurd (by decide) hab)
  refine wpAny_bind (wpAny_of_eq (a := ()) (check_contains a x) ?_)
  refine wpAny_bind (wpAny_pure (wpAny_pure ?_))
  refine ⟨plainId_quiet plain_contains _, codeAny_builtin F.entry_list_contains ?_⟩
  exact list_containsAt a items n none #[] x e prog w _ _ _ ⟨ha, fun y hy => he y hy _, h⟩
end
end Mine
end

section
open PySem PySem.W PyProof.Rows
set_option Elab.async false
set_option maxRecDepth 100000
set_option maxHeartbeats 8000000
namespace Mine
def notName : Stmt → Bool
  | .Assign [.Name n _] _ _ => !(n == Str.ofString "__name__")
  | _ => true
def hdView : Program := { PySem.Challenge.pw_il0163_02 with main := { PySem.Challenge.pw_il0163_02.main with body := PySem.Challenge.pw_il0163_02.main.body.filter notName } }
local macro_rules | `(tactic| o_law) => `(tactic| refine holds_law (by decide +kernel) fun said => ?_)
local macro_rules | `(tactic| o_head $H) => `(tactic| (refine holds_open (q := Mine.hdView) (loose := [Str.ofString "_filemode_table", Str.ofString "bytes_types", Str.ofString "filterfalse"]) (Xt := fun s => xlAt Mine.hdView [] s && recOk (RowW.records (OpenRow.toRowW (OpenLaw.row PySem.Challenge.rw_il0163_02))) s) (XP := XL Mine.hdView []) (Yf := Hook.obs $H) (Ya := Hook.val $H) (YP := Hook.says $H) (N := 2056) ?hl (Hook.of $H) (Hook.keeps $H) (fun s e => xl_of s (Bool.and_eq_true_iff.mp e).1) XL.keeps (by rfl) (by rfl) (by rfl) (fun s e => recFacts_of (Bool.and_eq_true_iff.mp e).2) (by rfl) (by first | assumption | decide +kernel) (by decide +kernel) ⟨rfl, rfl, rfl, rfl, rfl, by decide +kernel⟩ ?hw ?hc; (case hl => (intro w; kernel_rfl))))
open_top hd for PySem.Challenge.rw_il0163_02
end Mine
end

section
open PySem PySem.W PyProof.Rows PySem.Spec PySem.Calls PySem.SeqAt
set_option Elab.async false
set_option maxRecDepth 100000
set_option maxHeartbeats 8000000
namespace Mine

abbrev ffObj (C dx it q : Addr) : Obj := { cls := .ref C, dict := some dx, data := .plain, slots := #[some (.ref q), some (.ref it)] }

local macro_rules | `(tactic| walk_at "pad 0") => `(tactic| skip)
local macro_rules | `(tactic| walk_at "pad 1") => `(tactic| skip)
local macro_rules | `(tactic| walk_at "pad 2") => `(tactic| skip)
local macro_rules | `(tactic| k_room) => `(tactic| ktr_room)
local macro_rules | `(tactic| k_units) => `(tactic| ktr_units)

local macro_rules | `(tactic| walk_at "my_stop") => `(tactic| with_reducible show wpAny _ _ (exec (Stmt.While _ _ _ _) _) _ _ _)
local macro_rules | `(tactic| walk_at "my_stop") => `(tactic| with_reducible show wpAny _ _ (call (Value.builtin "next") _) _ _ _)
local macro_rules | `(tactic| walk_at "my_stop") => `(tactic| with_reducible show wpAny _ _ (call (Value.ref _) _) _ _ _)
local macro_rules | `(tactic| walk_at "my_steps") => `(tactic| repeat' ((fail_if_success walk_at "my_stop"); first | (k_unfold; (try dsimp only)) | (k_end; wrow_close) | walk1 | (dsimp only; walk1) | (leave1; walk_say "STEP leave1"; try dsimp only) | fail "no step"))

local macro_rules | `(tactic| walk_at "my_stop") => `(tactic| with_reducible refine Exists.intro ?_ ?_)

abbrev ffNews (C x dx q it fl sk : Addr) (items skip : Array Value) (n1 n2 : Nat) (rest : List (Addr × Obj)) (i : Nat) : List (Addr × Obj) := (it, iterObj fl i) :: (x, ffObj C dx it q) :: (dx, dictOf [] 0) :: (q, mwObj sk) :: (fl, lstObj items n1) :: (sk, lstObj skip n2) :: rest
structure NextI (B : Heap) (L : Addr) (s : Shared) (C x dx q it fl sk : Addr) (items skip : Array Value) (n1 n2 : Nat) (rest : List (Addr × Obj)) (i : Nat) (e : Value → Value → Bool) (n : Nat) (s' : Shared) : Prop where
  ex : ∃ (idx : Nat) (vi : Option Value) (h' : Heap) (tk' : Nat), n = items.size - idx ∧ i ≤ idx ∧ idx ≤ items.size ∧ (∀ k v, i ≤ k → k < idx → items[k]? = some v → skip.any (fun y => e y v) = true) ∧
    s' = { s with heap := h', toks := tk' } ∧ Fr B L h' (fun y => if y = Str.ofString "item" then vi else if y = Str.ofString "func" then some (.ref q) else [(Str.ofString "self", Value.ref x)].reverse.lookup y) ∧
    News B L h' (ffNews C x dx q it fl sk items skip n1 n2 rest idx)

/-- what is there when the own iterator has ended -/
structure Ended (B : Heap) (l : List Env) (news : List (Addr × Obj)) (ex : Addr) (h' : Heap) : Prop where
  exc : ∃ o, h'.get? ex = some o ∧ o.cls = .type "StopIteration"
  news : ∀ p ∈ news, h'.get? p.1 = some p.2
  same : ∀ b o, B.get? b = some o → b ∉ l.filterMap (·.frame) → h'.get? b = some o
  frames : B.UpToSlots h'

theorem next_spec {w : World} {lo : List Str} {mean : ExcName → Option Value} {mg mb : Str → Option Value} {A : Around} {l : List Env} {s : Shared} {base B : Heap} {x dx q it fl sk : Addr} {items skip : Array Value} {n1 n2 i : Nat} {rest : List (Addr × Obj)} {Q E : Value → Shared → Prop} (e : Value → Value → Bool)
    (XB : (hd.heap_1 w.params).In B) (TB : Top hdView lo mean mg mb B) (Bw : Below A base l B)
    (hB : B.StaysIn s.heap) (hsz : B.objs.size ≤ s.heap.objs.size)
    (N : News B s.heap.objs.size s.heap (ffNews 55 x dx q it fl sk items skip n1 n2 rest i))
    (nr : ∀ p ∈ rest, p.1 ≠ it) (nd : it ∉ [x, dx, q, fl, sk]) (hi : i ≤ items.size)
    (hh : A.handled = none) (hdp : A.depth + 4 < recursionLimit) (hun : A.units + 40 < cLine)
    (he : ∀ y, y ∈ skip → ∀ z, z ∈ items → ∀ A s, EqAt A s y z (e y z))
    (hQ : ∀ j v h' tk', i ≤ j → items[j]? = some v → skip.any (fun y => e y v) = false → (∀ k v', i ≤ k → k < j → items[k]? = some v' → skip.any (fun y => e y v') = true) →
      B.StaysIn h' → s.heap.objs.size < h'.objs.size → (∀ p ∈ ffNews 55 x dx q it fl sk items skip n1 n2 rest (j + 1), h'.get? p.1 = some p.2) → Q v { s with heap := h', toks := tk' })
    (hE : ∀ ex h' tk', (∀ k v', i ≤ k → items[k]? = some v' → skip.any (fun y => e y v') = true) →
      Ended B l ((x, ffObj 55 dx it q) :: (dx, dictOf [] 0) :: (q, mwObj sk) :: (fl, lstObj items n1) :: (sk, lstObj skip n2) :: rest) ex h' → E (.ref ex) { s with heap := h', toks := tk' }) :
    wpAny (model PySem.Challenge.rw_il0163_02.row.prog w) A (call (.ref 51) [.ref x]) Q E s := by
  revert XB
  w_top off
  k_fill
  intro XB
  refine enter_raw (binds := [(Str.ofString "self", .ref x)]) (f := 51) XB TB hB hsz N rfl rfl (by omega) (BindsTo.of_eq rfl) (locs rfl) (fun h₁ tk F N₁ hk₁ => ?_) rfl rfl rfl (by decide)
  have B₁ := fun scope (hk : scope.kind = .function) => Bw.push (name := Str.ofString "filterfalse.__next__") (scope := scope) (a := 51) (cd := .ref 50) F hk
  clear N
  generalize s.heap.objs.size = L at *
  (try k_unmd)
  k_fold
  walk_at "my_steps"
  refine wpAny_While (codeAny_whileLoop (NextI B L s 55 x dx q it fl sk items skip n1 n2 rest i e) (fun n s' hI => ?_) (items.size - i) ?_)
  · obtain ⟨idx, vi, h', tk', hn, hi1, hi2, hsk, rfl, F', N'⟩ := hI
    k_fold
    walk_at "my_steps"
    have hne : ∀ p ∈ ((x, ffObj 55 dx it q) :: (dx, dictOf [] 0) :: (q, mwObj sk) :: (fl, lstObj items n1) :: (sk, lstObj skip n2) :: rest), p.1 ≠ it := by
      simp only [List.mem_cons, not_or, List.not_mem_nil] at nd
      intro p hp
      simp only [List.mem_cons] at hp
      rcases hp with rfl | rfl | rfl | rfl | rfl | hp
      all_goals first
        | exact nr p hp
        | (simp only [ne_eq]; intro hq; simp_all; done)
    rcases hx : items[idx]? with _ | v
    · have K' := Bw.push (name := Str.ofString "filterfalse.__next__") (scope := { kind := ScopeKind.function, names := [(Str.ofString "self", NameKind.local), (Str.ofString "func", NameKind.local), (Str.ofString "item", NameKind.local), (Str.ofString "next", NameKind.globalImplicit), (Str.ofString "bool", NameKind.globalImplicit)], isGenerator := false, isCoroutine := false }) (a := 51) (cd := .ref 50) F' rfl
      have hit := N' (it, iterObj fl idx) (List.Mem.head _)
      refine call_next_end (items := items) hh hit.1 ⟨_, (N' (fl, lstObj items n1) (by simp)).1, rfl, _, rfl⟩ hx (fun h₂ h₃ ex hs hm => ?_)
      have hfr : ∀ b o, h'.get? b = some o → (∀ vs, o.data ≠ .fields vs) → h₂.get? b = some o := fun b o hb hn => (hs.2 b (fun hq => by subst hq; rw [hit.1] at hb; cases hb; exact hn _ rfl)).trans hb
      refine out_of_loop (R := E) (E := fun e' s'' => E e' s'') (cls := .type "StopIteration") (args := []) (base := hideAll h₂ ((envOf (Str.ofString "filterfalse.__next__") _ L 51 (.ref 50) :: l).filterMap (·.frame))) K'.stack rfl (fun b o q => of_hideAll _ q) (funFrames_hide (K'.frames.of_keeps fun b o hb hn => ⟨o, hfr b o hb hn, rfl⟩) fun env he b hb => List.mem_filterMap.mpr ⟨env, he, hb⟩) hm (fun h₄ a0 hfl hu => ?_)
      have hLB : B.get? L = none := kts_self F'
      have nfr : ∀ b, B.get? b = none → b ≠ L → b ∉ (envOf (Str.ofString "filterfalse.__next__") { kind := ScopeKind.function, names := [(Str.ofString "self", NameKind.local), (Str.ofString "func", NameKind.local), (Str.ofString "item", NameKind.local), (Str.ofString "next", NameKind.globalImplicit), (Str.ofString "bool", NameKind.globalImplicit)], isGenerator := false, isCoroutine := false } L 51 (.ref 50) :: l).filterMap (·.frame) := fun b hb hn hm => by
        rcases kts_mem hm with z | z
        · exact hn z
        · obtain ⟨_, o, ho, _⟩ := Bw.frames.mem z
          rw [hb] at ho; cases ho
      refine hE ex h₄ _ (fun k v' h1 h2 => ?_) ⟨hfl.there, fun p hp => ?_, fun b o hb hn => ?_, ?_⟩
      · refine hsk k v' h1 ?_ h2
        rcases Nat.lt_or_ge k idx with hk | hk
        · exact hk
        · rw [Array.getElem?_eq_none (Nat.le_trans (Array.getElem?_eq_none_iff.mp hx) hk)] at h2; cases h2
      · have hp' := N' p (List.mem_cons_of_mem _ hp)
        exact hfl.1 _ _ (hideAll_get _ ((hs.2 p.1 (hne p hp)).trans hp'.1) (nfr _ hp'.2.2 hp'.2.1))
      · have hbit : b ≠ it := fun hq => by subst hq; rw [hit.2.2] at hb; cases hb
        refine hfl.1 _ _ (hideAll_get _ ((hs.2 b hbit).trans (F'.keep _ _ hb)) fun hm => ?_)
        rcases kts_mem hm with z | z
        · subst z; rw [hLB] at hb; cases hb
        · exact hn z
      · exact ((Heap.UpToSlots.of_keeps F'.keep).trans (fun b o hb hn => ⟨o.slots, hfr b o hb hn⟩)).trans ((Heap.UpToSlots.of_keeps hm.keeps).trans hu)
    · refine k_next_item (n := n1) F' N' hne (by simp) hx (fun h₂ F₂ N₂ => ?_)
      clear F' N'
      walk_at "my_steps"
      refine callWith_mw (a := sk) ?_
      walk_at "my_steps"
      rename News _ _ _ _ => N₃
      rename Fr _ _ _ _ => F₃
      refine ⟨(N₃ (q, mwObj sk) (by simp)).1, ?_⟩
      refine call_contains (fun y => e y v) (N₃ (q, mwObj sk) (by simp)).1 (N₃ (sk, lstObj skip n2) (by simp)).1 (fun y hy A => he y hy v (Array.mem_of_getElem? hx) _ _) ?_
      have hlt : idx < items.size := (Array.getElem?_eq_some_iff.mp hx).1
      rcases hb : skip.any (fun y => e y v) with _ | _
      · walk_at "my_steps"
        rename Fr _ _ _ _ => F₄
        rename News _ _ _ _ => N₄
        exact hQ idx v _ _ hi1 hx hb (fun k v' h1 h2 h3 => hsk k v' h1 h2 h3) F₄.keep (fr_lt F₄) (fun p hp => (N₄ p hp).1)
      · walk_at "my_steps"
        rename Fr _ _ _ _ => F₄
        rename News _ _ _ _ => N₄
        refine ⟨items.size - (idx + 1), by omega, ⟨idx + 1, some v, _, _, rfl, by omega, by omega, fun k v' h1 h2 h3 => ?_, rfl, ?_, N₄⟩⟩
        · rcases Nat.lt_or_ge k idx with hk | hk
          · exact hsk k v' h1 hk h3
          · obtain rfl : k = idx := by omega
            rw [hx] at h3; cases h3; exact hb
        · exact fr_cong F₄ fun y => by split <;> rfl
  · refine ⟨i, none, _, _, rfl, Nat.le_refl _, hi, fun k v h1 h2 => by omega, rfl, ?_, ?_⟩
    · refine fr_cong (by assumption) fun y => ?_
      by_cases hy : y = Str.ofString "item"
      · subst hy; rfl
      · rw [if_neg hy]
    · assumption
end Mine
end

section
open PySem PySem.W PyProof.Rows PySem.Spec PySem.Calls PySem.SeqAt
set_option Elab.async false
set_option maxRecDepth 100000
set_option maxHeartbeats 4000000
namespace Mine

section
variable {prog : Program} {w : World} {A : Around} {E : Value → Shared → Prop} {h : Heap} {g : Array GenState} {d : Drawn} {tk : Nat} {os : OsState}
abbrev tiObj (t : Addr) (i : Nat) : Obj := { cls := .type "tuple_iterator", data := .fields #[.ref t, .int i 0] }
abbrev tupObj (vs : Array Value) (n : Nat) : Obj := { cls := .type "tuple", data := .seq vs n }
abbrev enObj (own : Value) (it : Addr) (i : Nat) (old : Value) : Obj := { cls := .type "enumerate", data := .fields #[own, .bool false, .ref it, rawInt i, .none, old] }

theorem nextOf_tuple {it t : Addr} {i n : Nat} {items : Array Value} {x : Value} {Q : Value → Shared → Prop} (hit : h.get? it = some (tiObj t i)) (ht : h.get? t = some (tupObj items n)) (hx : items[i]? = some x)
    (hQ : Q x ⟨h.update it (Obj.mapFields (·.setIfInBounds 1 (rawInt ((i : Int) + 1)))), g, d, tk, os⟩) : wpAny (model prog w) A (Builtin.SmallTypes.nextOf (.ref it)) Q E ⟨h, g, d, tk, os⟩ := by
  have hT : (⟨h, g, d, tk, os⟩ : Shared).TypeIs (.ref it) "tuple_iterator" := ⟨_, hit, rfl⟩
  have hx' : items[((i : Nat) : Int).toNat]? = some x := hx
  unfold Builtin.SmallTypes.nextOf
  refine wpAny_bind (wpAny_callSpecial?_slot (name := Str.ofString "__next__") hT F.slot_tuple_iterator_next (wpAny_call_entry F.slot_tuple_iterator_next hT F.entry_tuple_iterator_next ?_ (F.args_tuple_iterator_next_1 _)))
  show wpAny _ _ (field (.ref it) 0 >>= _) _ _ _
  refine wpAny_bind (wpAny_field hit rfl (x := .ref t) rfl ?_)
  show wpAny _ _ (if (Value.ref t == Value.none) = true then _ else _) _ _ _
  rw [if_neg (show ¬ ((Value.ref t == Value.none) = true) from Bool.false_ne_true)]
  show wpAny _ _ (field (.ref it) 1 >>= _) _ _ _
  refine wpAny_bind (wpAny_field hit rfl (x := .int i 0) rfl ?_)
  show wpAny _ _ (seqItems? (.ref t) >>= _) _ _ _
  refine wpAny_bind (wpAny_seqItems ht rfl ?_)
  simp only [hx']
  exact wpAny_bind (wpAny_setField hit rfl (by simp) (wpAny_pure ⟨x, rfl, wpAny_pure hQ⟩))

theorem nextOf_tuple_end {it t : Addr} {i n : Nat} {items : Array Value} {Q : Value → Shared → Prop} (hh : A.handled = none) (hit : h.get? it = some (tiObj t i)) (ht : h.get? t = some (tupObj items n)) (hx : items[i]? = none)
    (hE : ∀ h' ex, Heap.ExtBut it h h' → (∃ o, h'.get? ex = some o ∧ o.cls = .type "StopIteration") → E (.ref ex) ⟨h', g, d, tk, os⟩) : wpAny (model prog w) A (Builtin.SmallTypes.nextOf (.ref it)) Q E ⟨h, g, d, tk, os⟩ := by
  have hT : (⟨h, g, d, tk, os⟩ : Shared).TypeIs (.ref it) "tuple_iterator" := ⟨_, hit, rfl⟩
  have hx' : items[((i : Nat) : Int).toNat]? = none := hx
  unfold Builtin.SmallTypes.nextOf
  refine wpAny_bind (wpAny_callSpecial?_slot (name := Str.ofString "__next__") hT F.slot_tuple_iterator_next (wpAny_call_entry F.slot_tuple_iterator_next hT F.entry_tuple_iterator_next ?_ (F.args_tuple_iterator_next_1 _)))
  show wpAny _ _ (field (.ref it) 0 >>= _) _ _ _
  refine wpAny_bind (wpAny_field hit rfl (x := .ref t) rfl ?_)
  show wpAny _ _ (if (Value.ref t == Value.none) = true then _ else _) _ _ _
  rw [if_neg (show ¬ ((Value.ref t == Value.none) = true) from Bool.false_ne_true)]
  show wpAny _ _ (field (.ref it) 1 >>= _) _ _ _
  refine wpAny_bind (wpAny_field hit rfl (x := .int i 0) rfl ?_)
  show wpAny _ _ (seqItems? (.ref t) >>= _) _ _ _
  refine wpAny_bind (wpAny_seqItems ht rfl ?_)
  simp only [hx']
  refine wpAny_bind (wpAny_rule (wpAny_bind (wpAny_setField hit rfl (by simp) ?_)))
  show wpAny _ _ (newExc (.type "StopIteration") [] >>= _) _ _ _
  refine wpAny_bind ?_
  simp only [newExc, newTuple]
  refine wpAny_bind (wpAny_newObj_type ?_ (by size_fits))
  refine wpAny_bind (m := firstArgMember _ _) (wpAny_of_eq (a := Value.none) (by first | rfl | (simp only [firstArgMember]; rfl)) ?_)
  refine wpAny_newObj_type ?_ (by size_fits)
  simp only [raiseNew]
  refine wpAny_bind (wpAny_handled ?_)
  rw [show A.in1.handled = none from hh]
  refine wpAny_bind (wpAny_pure (wpAny_throw ?_))
  exact hE _ _ (((Heap.SameBut.update ..).extBut.push _).push _) ⟨_, Heap.get?_push_size _ rfl, rfl⟩

theorem pyNext_tuple {it t : Addr} {i n : Nat} {items : Array Value} {x : Value} {Q : Option Value → Shared → Prop} (hit : h.get? it = some (tiObj t i)) (ht : h.get? t = some (tupObj items n)) (hx : items[i]? = some x)
    (hQ : ∀ h', h'.get? it = some (tiObj t (i + 1)) → Heap.SameBut it h h' → Q (some x) ⟨h', g, d, tk, os⟩) : wpAny (model prog w) A (pyNext (.ref it)) Q E ⟨h, g, d, tk, os⟩ := by
  have hT : (⟨h, g, d, tk, os⟩ : Shared).TypeIs (.ref it) "tuple_iterator" := ⟨_, hit, rfl⟩
  have hx' : items[((i : Nat) : Int).toNat]? = some x := hx
  unfold pyNext
  refine wpAny_bind (wpAny_attempt (wpAny_callSpecial?_slot (name := Str.ofString "__next__") hT F.slot_tuple_iterator_next (wpAny_call_entry F.slot_tuple_iterator_next hT F.entry_tuple_iterator_next ?_ (F.args_tuple_iterator_next_1 _))))
  show wpAny _ _ (field (.ref it) 0 >>= _) _ _ _
  refine wpAny_bind (wpAny_field hit rfl (x := .ref t) rfl ?_)
  show wpAny _ _ (if (Value.ref t == Value.none) = true then _ else _) _ _ _
  rw [if_neg (show ¬ ((Value.ref t == Value.none) = true) from Bool.false_ne_true)]
  show wpAny _ _ (field (.ref it) 1 >>= _) _ _ _
  refine wpAny_bind (wpAny_field hit rfl (x := .int i 0) rfl ?_)
  show wpAny _ _ (seqItems? (.ref t) >>= _) _ _ _
  refine wpAny_bind (wpAny_seqItems ht rfl ?_)
  simp only [hx']
  exact wpAny_bind (wpAny_setField_rec hit (by simp) fun h' he hs => wpAny_pure ⟨x, rfl, wpAny_pure (hQ h' he hs)⟩)

/-- one turn of an enumerate over a tuple -/
theorem enumT_item {e it t : Addr} {i n : Nat} {items : Array Value} {x old : Value} {Q : Value → Shared → Prop}
    (he : h.get? e = some (enObj .none it i old)) (hit : h.get? it = some (tiObj t i)) (ht : h.get? t = some (tupObj items n)) (hx : items[i]? = some x) (hne : e ≠ it)
    (hQ : ∀ h', h'.get? e = some (enObj (rawInt h.objs.size) it (i + 1) x) → h'.get? it = some (tiObj t (i + 1)) → h'.get? h.objs.size = some (tupObj #[.int i tk, x] 0) → h'.objs.size = h.objs.size + 1 →
      (∀ b o, b ≠ e → b ≠ it → h.get? b = some o → h'.get? b = some o) → Q (.ref h.objs.size) ⟨h', g, d, tk + 1, os⟩) :
    wpAny (model prog w) A (Builtin.«enumerate.__next__» ⟨[.ref e], []⟩) (fun fin s' => ∃ v, fin = .done (.ret v) ∧ Q v s') E ⟨h, g, d, tk, os⟩ := by
  show wpAny _ _ (field (.ref e) 2 >>= _) _ _ _
  refine wpAny_bind (wpAny_field he rfl (x := .ref it) rfl ?_)
  refine wpAny_bind (nextOf_tuple hit ht hx ?_)
  have he₁ : (h.update it (Obj.mapFields (·.setIfInBounds 1 (rawInt ((i : Int) + 1))))).get? e = some (enObj .none it i old) := (Heap.get?_update_other _ _ (Ne.symm hne)).trans he
  have hit₁ : (h.update it (Obj.mapFields (·.setIfInBounds 1 (rawInt ((i : Int) + 1))))).get? it = some (tiObj t (i + 1)) := Heap.get?_update_self _ hit rfl
  have hk₁ : ∀ b o, b ≠ it → h.get? b = some o → (h.update it (Obj.mapFields (·.setIfInBounds 1 (rawInt ((i : Int) + 1))))).get? b = some o := fun b o hb q => (Heap.get?_update_other _ _ (Ne.symm hb)).trans q
  have hz₁ : (h.update it (Obj.mapFields (·.setIfInBounds 1 (rawInt ((i : Int) + 1))))).objs.size = h.objs.size := Heap.size_after_update ..
  generalize (h.update it (Obj.mapFields (·.setIfInBounds 1 (rawInt ((i : Int) + 1))))) = h₁ at *
  clear he hit
  show wpAny _ _ (field (.ref e) 3 >>= _) _ _ _
  refine wpAny_bind (wpAny_field he₁ rfl (x := rawInt i) rfl ?_)
  show wpAny _ _ (field (.ref e) 4 >>= _) _ _ _
  refine wpAny_bind (wpAny_field he₁ rfl (x := .none) rfl ?_)
  show wpAny _ _ (mkInt i >>= _) _ _ _
  refine wpAny_bind (wpAny_mkInt ?_)
  show wpAny _ _ (setField (.ref e) 3 (rawInt ((i : Int) + 1)) >>= _) _ _ _
  refine wpAny_bind (wpAny_setField_rec he₁ (by simp) fun h₂ he₂ hs₂ => ?_)
  replace hs₂ : Heap.SameBut e h₁ h₂ := hs₂
  replace he₂ : h₂.get? e = some (enObj .none it (i + 1) old) := he₂
  show wpAny _ _ (setField (.ref e) 4 .none >>= _) _ _ _
  refine wpAny_bind (wpAny_setField_rec he₂ (by simp) fun h₃ he₃ hs₃ => ?_)
  replace hs₃ : Heap.SameBut e h₁ h₃ := hs₂.trans hs₃
  replace he₃ : h₃.get? e = some (enObj .none it (i + 1) old) := he₃
  show wpAny _ _ (newTuple [.int i tk, x] >>= _) _ _ _
  refine wpAny_bind (wpAny_newTuple ?_)
  dsimp only
  have hz₃ : h₃.objs.size = h.objs.size := hs₃.1.trans hz₁
  rw [hz₃]
  have hk₄ : ∀ b o, b ≠ e → b ≠ it → h.get? b = some o → (h₃.push (tupObj #[.int i tk, x] 0)).get? b = some o := fun b o h1 h2 q => Heap.get?_push_of_some _ ((hs₃.2 b h1).trans (hk₁ b o h2 q))
  have hit₄ : (h₃.push (tupObj #[.int i tk, x] 0)).get? it = some (tiObj t (i + 1)) := Heap.get?_push_of_some _ ((hs₃.2 it (Ne.symm hne)).trans hit₁)
  have ht₄ : (h₃.push (tupObj #[.int i tk, x] 0)).get? h.objs.size = some (tupObj #[.int i tk, x] 0) := hz₃ ▸ Heap.get?_push_size h₃ rfl
  have he₄ : (h₃.push (tupObj #[.int i tk, x] 0)).get? e = some (enObj .none it (i + 1) old) := Heap.get?_push_of_some _ he₃
  have hz₄ : (h₃.push (tupObj #[.int i tk, x] 0)).objs.size = h.objs.size + 1 := by rw [Heap.size_push, hz₃]
  have hne₄ : h.objs.size ≠ e := Nat.ne_of_gt (hz₃ ▸ Heap.lt_size he₃)
  generalize (h₃.push (tupObj #[.int i tk, x] 0)) = h₄ at *
  show wpAny _ _ (Builtin.SmallTypes.ownedTupleIsFree (.ref e) >>= _) _ _ _
  refine wpAny_bind ?_
  unfold Builtin.SmallTypes.ownedTupleIsFree
  refine wpAny_bind (wpAny_field he₄ rfl (x := .none) rfl (wpAny_pure ?_))
  simp only [if_true]
  refine wpAny_bind (wpAny_rule ?_)
  refine wpAny_bind (wpAny_field he₄ rfl (x := old) rfl ?_)
  refine wpAny_bind (wpAny_setField_rec he₄ (by simp) fun h₅ he₅ hs₅ => ?_)
  replace hs₅ : Heap.SameBut e h₄ h₅ := hs₅
  replace he₅ : h₅.get? e = some (enObj .none it (i + 1) x) := he₅
  show wpAny _ _ (Builtin.SmallTypes.ownedTupleHandOut (.ref e) (.ref h.objs.size) >>= _) _ _ _
  refine wpAny_bind ?_
  unfold Builtin.SmallTypes.ownedTupleHandOut
  refine wpAny_bind (wpAny_setField_rec he₅ (by simp) fun h₆ he₆ hs₆ => ?_)
  replace hs₆ : Heap.SameBut e h₄ h₆ := hs₅.trans hs₆
  replace he₆ : h₆.get? e = some (enObj (rawInt h.objs.size) it (i + 1) x) := he₆
  refine wpAny_setField_rec he₆ (by simp) fun h₇ he₇ hs₇ => ?_
  replace hs₇ : Heap.SameBut e h₄ h₇ := hs₆.trans hs₇
  replace he₇ : h₇.get? e = some (enObj (rawInt h.objs.size) it (i + 1) x) := he₇
  refine wpAny_bind (wpAny_letGo (wpAny_pure ⟨_, rfl, hQ h₇ he₇ ?_ ?_ (hs₇.1.trans hz₄) ?_⟩))
  · exact (hs₇.2 it (Ne.symm hne)).trans hit₄
  · exact (hs₇.2 _ hne₄).trans ht₄
  · exact fun b o h1 h2 q => (hs₇.2 b h1).trans (hk₄ b o h1 h2 q)

/-- the end of an enumerate over a tuple, by pyNext -/
theorem enumT_next {e it t : Addr} {i n : Nat} {items : Array Value} {x old : Value} {Q : Option Value → Shared → Prop}
    (he : h.get? e = some (enObj .none it i old)) (hit : h.get? it = some (tiObj t i)) (ht : h.get? t = some (tupObj items n)) (hx : items[i]? = some x) (hne : e ≠ it)
    (hQ : ∀ h', h'.get? e = some (enObj (rawInt h.objs.size) it (i + 1) x) → h'.get? it = some (tiObj t (i + 1)) → h'.get? h.objs.size = some (tupObj #[.int i tk, x] 0) → h'.objs.size = h.objs.size + 1 →
      (∀ b o, b ≠ e → b ≠ it → h.get? b = some o → h'.get? b = some o) → Q (some (.ref h.objs.size)) ⟨h', g, d, tk + 1, os⟩) :
    wpAny (model prog w) A (pyNext (.ref e)) Q E ⟨h, g, d, tk, os⟩ := by
  have hT : (⟨h, g, d, tk, os⟩ : Shared).TypeIs (.ref e) "enumerate" := ⟨_, he, rfl⟩
  unfold pyNext
  exact wpAny_bind (wpAny_attempt (wpAny_callSpecial?_slot (name := Str.ofString "__next__") hT F.slot_enumerate_next
    (wpAny_call_entry F.slot_enumerate_next hT F.entry_enumerate_next
      (enumT_item he hit ht hx hne fun h' a b c d k => wpAny_pure (hQ h' a b c d k)) (F.args_enumerate_next_1 _))))

theorem enumT_end {e it t : Addr} {i n : Nat} {items : Array Value} {old : Value} {Q : Option Value → Shared → Prop} (hh : A.handled = none)
    (he : h.get? e = some (enObj .none it i old)) (hit : h.get? it = some (tiObj t i)) (ht : h.get? t = some (tupObj items n)) (hx : items[i]? = none)
    (hQ : ∀ h', Heap.ExtBut it h h' → Q none ⟨h', g, d, tk, os⟩) : wpAny (model prog w) A (pyNext (.ref e)) Q E ⟨h, g, d, tk, os⟩ := by
  have hT : (⟨h, g, d, tk, os⟩ : Shared).TypeIs (.ref e) "enumerate" := ⟨_, he, rfl⟩
  unfold pyNext
  refine wpAny_bind (wpAny_attempt (wpAny_callSpecial?_slot (name := Str.ofString "__next__") hT F.slot_enumerate_next
    (wpAny_call_entry F.slot_enumerate_next hT F.entry_enumerate_next ?_ (F.args_enumerate_next_1 _))))
  show wpAny _ _ (field (.ref e) 2 >>= _) _ _ _
  refine wpAny_bind (wpAny_field he rfl (x := .ref it) rfl ?_)
  refine wpAny_bind (nextOf_tuple_end hh hit ht hx fun h' ex he' hx' => ?_)
  obtain ⟨o, ho, hc⟩ := hx'
  refine wpAny_bind (wpAny_isInstance (T := "StopIteration") (b := true) ⟨o, ho, hc⟩ isSubtype_stop ?_)
  exact wpAny_pure (hQ _ he')

theorem enumT_new (t : Addr) (items : Array Value) (n : Nat) :
    Meets (Builtin.«enumerate.__new__» ⟨[.type "enumerate", .ref t], []⟩) (fun _ R s => s.heap.get? t = some (tupObj items n) ∧
      R (.ok (.ret (.ref (s.heap.push (tiObj t 0)).objs.size))) { s with heap := (s.heap.push (tiObj t 0)).push (enObj .none s.heap.objs.size 0 .none) }) :=
  .of_wp fun prog w A R s hs => by
    obtain ⟨hp, g, d, tk, os⟩ := s; obtain ⟨ht, hR⟩ := hs
    have hsub := sub_enumerate
    have hL : Heap.IsTuple (Shared.heap ⟨hp, g, d, tk, os⟩) t items := ⟨_, ht, rfl, n, rfl⟩
    wp_walk using AutoSeq1.wpAny_loadPart' ht
    refine wpAny_stack_any fun st => wpAny_pure ?_
    split
    · rename_i c _ _ _ _ _
      cases (c == Value.type "enumerate") <;> (wp_walk using AutoSeq1.wpAny_loadPart' ht, wpAny_pyIter_tuple hL; exact ⟨_, rfl, hR⟩)
    · wp_walk using AutoSeq1.wpAny_loadPart' ht, wpAny_pyIter_tuple hL
      exact ⟨_, rfl, hR⟩

theorem call_enumT {s : Shared} {t : Addr} {items : Array Value} {n : Nat} {Q : Value → Shared → Prop} (ht : s.heap.get? t = some (tupObj items n))
    (k : ∀ h', h'.get? (s.heap.objs.size + 1) = some (enObj .none s.heap.objs.size 0 .none) → h'.get? s.heap.objs.size = some (tiObj t 0) → h'.objs.size = s.heap.objs.size + 2 →
      (∀ b o, s.heap.get? b = some o → h'.get? b = some o) → Q (.ref (s.heap.objs.size + 1)) { s with heap := h' }) :
    wpAny (model prog w) A (call (.type "enumerate") [.ref t]) Q E s := by
  refine callType_new F.called_enumerate (by decide) (F.typeCall_enumerate_1 _) (F.newCall_enumerate_1 _) (fun obj => F.args_object_init_2 obj _) F.entry_enumerate_new (enumT_new t items n) ⟨ht, ?_⟩
  have hz : (s.heap.push (tiObj t 0)).objs.size = s.heap.objs.size + 1 := Heap.size_push ..
  show _ ∧ _
  rw [hz]
  have he : ((s.heap.push (tiObj t 0)).push (enObj .none s.heap.objs.size 0 .none)).get? (s.heap.objs.size + 1) = some (enObj .none s.heap.objs.size 0 .none) := hz ▸ Heap.get?_push_size (s.heap.push (tiObj t 0)) rfl
  exact ⟨⟨_, he, rfl⟩, k _ he (Heap.get?_push_of_some _ (Heap.get?_push_size _ rfl)) (by rw [Heap.size_push, hz]) fun b o x => Heap.get?_push_of_some _ (Heap.get?_push_of_some _ x)⟩
end
end Mine
end

section
open PySem PySem.W PyProof.Rows PySem.Spec PySem.Calls PySem.SeqAt
set_option Elab.async false
set_option maxRecDepth 100000
set_option maxHeartbeats 8000000
namespace Mine
local macro_rules | `(tactic| k_room) => `(tactic| ktr_room)
local macro_rules | `(tactic| k_units) => `(tactic| ktr_units)

/-- a call that changes nothing of what stood: what it asks of the heap, what it gives -/
def Pure (prog : Program) (w : World) (K : Frag) (p : Program) (lo : List Str) (mean : ExcName → Option Value) (mg mb : Str → Option Value) (dd uu : Nat) (f : Addr) (args : List Value) (Pre : Heap → Prop) (Post : Heap → Value → Heap → Prop) : Prop :=
  ∀ (A : Around) (s : Shared) (Q E : Value → Shared → Prop), K.In s.heap → Top p lo mean mg mb s.heap → A.handled = none → A.depth + dd < recursionLimit → A.units + uu < cLine → Pre s.heap →
    (∀ v h' tk', s.heap.StaysIn h' → Post s.heap v h' → Q v { s with heap := h', toks := tk' }) → wpAny (model prog w) A (call (.ref f) args) Q E s

theorem Pure.use {prog : Program} {w : World} {K : Frag} {p : Program} {lo : List Str} {mean : ExcName → Option Value} {mg mb : Str → Option Value} {dd uu : Nat} {f : Addr} {args : List Value} {Pre : Heap → Prop} {Post : Heap → Value → Heap → Prop}
    (S : Pure prog w K p lo mean mg mb dd uu f args Pre Post) {A : Around} {s : Shared} {Q E : Value → Shared → Prop} {h₀ : Heap} {L : Addr} {m : Str → Option Value} {news : List (Addr × Obj)}
    (F : Fr h₀ L s.heap m) (N : News h₀ L s.heap news) (X : K.In h₀) (T : Top p lo mean mg mb h₀) (hh : A.handled = none) (hd : A.depth + dd < recursionLimit) (hu : A.units + uu < cLine) (hp : Pre s.heap)
    (k : ∀ v h' tk', Fr h₀ L h' m → News h₀ L h' news → s.heap.StaysIn h' → Post s.heap v h' → Q v { s with heap := h', toks := tk' }) : wpAny (model prog w) A (call (.ref f) args) Q E s :=
  S A s Q E (X.keeps F.keep) (T.keeps F.keep) hh hd hu hp fun v h' tk' hk hP => k v h' tk' (fr_grow' F hk) (fun q hq => ⟨hk _ _ (N q hq).1, (N q hq).2⟩) hk hP

theorem sp_ifmt {w : World} {lo : List Str} {mean : ExcName → Option Value} {mg mb : Str → Option Value} (x : Int) (tk : Tok) :
    Pure PySem.Challenge.rw_il0163_02.row.prog w (hd.heap_1 w.params) hdView lo mean mg mb 4 20 80 [.int x tk] (fun _ => True) (fun _ v _ => ∃ t, v = .int (Builtin.bitAnd x 61440) t) := by
  w_top off
  k_fill
  intro A s Q E X T hh hd hu _ hQ
  refine enter_raw (binds := [(Str.ofString "mode", .int x tk)]) (f := 80) X T (fun _ _ q => q) (Nat.le_refl _) News.nil rfl rfl (by omega) (BindsTo.of_eq rfl) (locs rfl) (fun h₁ tk F N₁ hk₁ => ?_) rfl rfl rfl (by decide)
  generalize s.heap.objs.size = L at *
  (try k_unmd)
  k_fold
  k_steps
  rename Fr _ _ _ _ => F₁
  exact hQ _ _ _ F₁.keep ⟨_, rfl⟩
theorem sp_imode {w : World} {lo : List Str} {mean : ExcName → Option Value} {mg mb : Str → Option Value} (x : Int) (tk : Tok) :
    Pure PySem.Challenge.rw_il0163_02.row.prog w (hd.heap_1 w.params) hdView lo mean mg mb 4 20 73 [.int x tk] (fun _ => True) (fun _ v _ => ∃ t, v = .int (Builtin.bitAnd x 4095) t) := by
  k_fill
  intro A s Q E X T hh hd hu _ hQ
  refine enter_raw (binds := [(Str.ofString "mode", .int x tk)]) (f := 73) X T (fun _ _ q => q) (Nat.le_refl _) News.nil rfl rfl (by omega) (BindsTo.of_eq rfl) (locs rfl) (fun h₁ tk F N₁ hk₁ => ?_) rfl rfl rfl (by decide)
  generalize s.heap.objs.size = L at *
  (try k_unmd)
  k_fold
  k_steps
  rename Fr _ _ _ _ => F₁
  exact hQ _ _ _ F₁.keep ⟨_, rfl⟩
end Mine
end

section
open PySem PySem.W PyProof.Rows PySem.Spec PySem.Calls PySem.SeqAt
set_option Elab.async false
set_option maxRecDepth 100000
set_option maxHeartbeats 4000000
namespace Mine

def PairsAt (h : Heap) : List Value → List (Int × Nat) → Prop
  | [], [] => True
  | .ref a :: rs, (b, c) :: ps => (∃ t t' n, h.get? a = some (tupObj #[.int b t, .str ⟨#[c]⟩ t'] n)) ∧ PairsAt h rs ps
  | _, _ => False
def TableAt (h : Heap) (t : Addr) (ps : List (Int × Nat)) : Prop := ∃ n rs, h.get? t = some (tupObj rs n) ∧ PairsAt h rs.toList ps
def TablesAt (h : Heap) : List Value → List (List (Int × Nat)) → Prop
  | [], [] => True
  | .ref t :: rs, ps :: r => TableAt h t ps ∧ TablesAt h rs r
  | _, _ => False

theorem PairsAt.keeps {h h' : Heap} (k : h.StaysIn h') : ∀ {rs : List Value} {ps : List (Int × Nat)}, PairsAt h rs ps → PairsAt h' rs ps
  | [], [], _ => trivial
  | .ref _ :: _, (_, _) :: _, ⟨⟨t, t', n, q⟩, r⟩ => ⟨⟨t, t', n, k _ _ q⟩, PairsAt.keeps k r⟩
theorem PairsAt.get {h : Heap} : ∀ {rs : List Value} {ps : List (Int × Nat)} {j : Nat} {v : Value}, PairsAt h rs ps → rs[j]? = some v → ∃ a b c t t' n, v = .ref a ∧ ps[j]? = some (b, c) ∧ h.get? a = some (tupObj #[.int b t, .str ⟨#[c]⟩ t'] n)
  | .ref a :: rs, (b, c) :: ps, 0, v, ⟨⟨t, t', n, q⟩, _⟩, hv => ⟨a, b, c, t, t', n, by simpa using hv.symm, rfl, q⟩
  | .ref _ :: rs, (_, _) :: ps, j + 1, v, ⟨_, r⟩, hv => by
    obtain ⟨a, b, c, t, t', n, h1, h2, h3⟩ := PairsAt.get (j := j) r (by simpa using hv)
    exact ⟨a, b, c, t, t', n, h1, by simpa using h2, h3⟩
theorem PairsAt.length {h : Heap} : ∀ {rs : List Value} {ps : List (Int × Nat)}, PairsAt h rs ps → rs.length = ps.length
  | [], [], _ => rfl
  | .ref _ :: _, (_, _) :: _, ⟨_, r⟩ => by simp [PairsAt.length r]
theorem TablesAt.get {h : Heap} : ∀ {rs : List Value} {r : List (List (Int × Nat))} {i : Nat} {v : Value}, TablesAt h rs r → rs[i]? = some v → ∃ t ps, v = .ref t ∧ r[i]? = some ps ∧ TableAt h t ps
  | .ref t :: rs, ps :: r, 0, v, ⟨q, _⟩, hv => ⟨t, ps, by simpa using hv.symm, rfl, q⟩
  | .ref _ :: rs, _ :: r, i + 1, v, ⟨_, q⟩, hv => by
    obtain ⟨t, ps, h1, h2, h3⟩ := TablesAt.get (i := i) q (by simpa using hv)
    exact ⟨t, ps, h1, by simpa using h2, h3⟩
theorem TablesAt.length {h : Heap} : ∀ {rs : List Value} {r : List (List (Int × Nat))}, TablesAt h rs r → rs.length = r.length
  | [], [], _ => rfl
  | .ref _ :: _, _ :: _, ⟨_, r⟩ => by simp [TablesAt.length r]

def modeTabs : List (List (Int × Nat)) := [[(40960, 108), (49152, 115), (32768, 45), (24576, 98), (16384, 100), (8192, 99), (4096, 112)], [(256, 114)], [(128, 119)], [(2112, 115), (2048, 83), (64, 120)], [(32, 114)], [(16, 119)],
  [(1032, 115), (1024, 83), (8, 120)], [(4, 114)], [(2, 119)], [(513, 116), (512, 84), (1, 120)]]
def hits (x : Int) (i : Nat) (b : Int) : Bool := if i = 0 then Builtin.bitAnd x 61440 == b else Builtin.bitAnd x b == b
def signOf (x : Int) (i : Nat) (ps : List (Int × Nat)) : Nat := match ps.find? (fun p => hits x i p.1) with
  | some p => p.2
  | none => if i = 0 then 63 else 45
def modeSigns (x : Int) : List Nat := modeTabs.zipIdx.map fun p => signOf x p.2 p.1
def modeText (x : Int) : Str := ⟨(modeSigns x).toArray⟩

theorem signOf_hit {x : Int} {i : Nat} {ps : List (Int × Nat)} {j : Nat} {b : Int} {c : Nat} (h : ps[j]? = some (b, c)) (hh : hits x i b = true) (no : ∀ (k : Nat) b' c', k < j → ps[k]? = some (b', c') → hits x i b' = false) : signOf x i ps = c := by
  have : ps.find? (fun p => hits x i p.1) = some (b, c) := by
    rw [List.find?_eq_some_iff_getElem]
    obtain ⟨hlt, he⟩ := List.getElem?_eq_some_iff.mp h
    refine ⟨hh, j, hlt, he, fun k hk => ?_⟩
    have := no k (ps[k]).1 (ps[k]).2 hk (by rw [List.getElem?_eq_getElem])
    simp [this]
  unfold signOf
  rw [this]
theorem signOf_miss {x : Int} {i : Nat} {ps : List (Int × Nat)} (no : ∀ (k : Nat) b' c', ps[k]? = some (b', c') → hits x i b' = false) : signOf x i ps = if i = 0 then 63 else 45 := by
  have : ps.find? (fun p => hits x i p.1) = none := by
    rw [List.find?_eq_none]
    intro p hp
    obtain ⟨k, hk, rfl⟩ := List.mem_iff_getElem.mp hp
    have := no k (ps[k]).1 (ps[k]).2 (by rw [List.getElem?_eq_getElem])
    simp [this]
  unfold signOf
  rw [this]

/-- a list of one-sign texts -/
def SignsAre (vs : List Value) (cs : List Nat) : Prop := StrsAre vs (cs.map fun c => (⟨#[c]⟩ : Str))
theorem strsAre_snoc {y : Str} {t : Tok} : ∀ {vs : List Value} {ys : List Str}, StrsAre vs ys → StrsAre (vs ++ [.str y t]) (ys ++ [y])
  | [], [], .nil => .cons y t .nil
  | _ :: _, _ :: _, .cons z u r => .cons z u (strsAre_snoc r)
theorem SignsAre.snoc {c : Nat} {t : Tok} {vs : List Value} {cs : List Nat} (h : SignsAre vs cs) : SignsAre (vs ++ [.str ⟨#[c]⟩ t]) (cs ++ [c]) := by
  unfold SignsAre at h ⊢
  rw [List.map_append]
  exact strsAre_snoc h
theorem strsAre_len : ∀ {vs : List Value} {ys : List Str}, StrsAre vs ys → vs.length = ys.length
  | [], [], .nil => rfl
  | _ :: _, _ :: _, .cons _ _ r => by simp [strsAre_len r]

/-- the names of filemode's frame -/
abbrev fmNames (x : Int) (tk : Tok) (P : Addr) (o1 o2 o3 o4 : Option Value) : Str → Option Value := fun y =>
  if y = Str.ofString "char" then o1 else if y = Str.ofString "bit" then o2 else if y = Str.ofString "table" then o3 else if y = Str.ofString "index" then o4 else if y = Str.ofString "perm" then some (.ref P) else if y = Str.ofString "mode" then some (.int x tk) else none
def signsUpTo (x : Int) (i : Nat) : List Nat := ((modeTabs.zipIdx).take i).map fun p => signOf x p.2 p.1
theorem signsUpTo_succ {x : Int} {i : Nat} {ps : List (Int × Nat)} (h : modeTabs[i]? = some ps) : signsUpTo x (i + 1) = signsUpTo x i ++ [signOf x i ps] := by
  unfold signsUpTo
  obtain ⟨hlt, he⟩ := List.getElem?_eq_some_iff.mp h
  have hlt' : i < modeTabs.zipIdx.length := by rw [List.length_zipIdx]; exact hlt
  rw [List.take_succ_eq_append_getElem hlt', List.map_append, List.map_cons, List.map_nil, List.getElem_zipIdx, he]
  simp

/-- filemode's outer loop between the turns -/
structure FmI (B : Heap) (L : Addr) (s : Shared) (x : Int) (tk : Tok) (P e it tt : Addr) (n : Nat) (s' : Shared) : Prop where
  ex : ∃ (i : Nat) (h' : Heap) (tk' : Nat) (o1 o2 o3 o4 : Option Value) (old : Value) (vs : List Value) (c : Nat), n = 11 - i ∧ i ≤ 10 ∧ s' = { s with heap := h', toks := tk' } ∧ Fr B L h' (fmNames x tk P o1 o2 o3 o4) ∧
    News B L h' [(e, enObj .none it i old), (it, tiObj tt i), (P, lstObj vs.toArray c)] ∧ SignsAre vs (signsUpTo x i)
/-- its inner loop -/
structure FmJ (B : Heap) (L : Addr) (s : Shared) (x : Int) (tk : Tok) (P e it tt T it2 t2 : Addr) (i : Nat) (tki : Tok) (old : Value) (ps : List (Int × Nat)) (vs : List Value) (c : Nat) (n : Nat) (s' : Shared) : Prop where
  ex : ∃ (j : Nat) (h' : Heap) (tk' : Nat) (o1 o2 : Option Value), n = ps.length + 1 - j ∧ j ≤ ps.length ∧ s' = { s with heap := h', toks := tk' } ∧ Fr B L h' (fmNames x tk P o1 o2 (some (.ref t2)) (some (.int i tki))) ∧
    News B L h' [(it2, tiObj t2 j), (T, tupObj #[.int i tki, .ref t2] 0), (e, enObj .none it (i + 1) old), (it, tiObj tt (i + 1)), (P, lstObj vs.toArray c)] ∧ ∀ (k : Nat) b c', k < j → ps[k]? = some (b, c') → hits x i b = false
end Mine
end

section
open PySem PySem.W PyProof.Rows PySem.Spec PySem.Calls PySem.SeqAt
set_option Elab.async false
set_option maxRecDepth 100000
set_option maxHeartbeats 8000000
namespace Mine
local macro_rules | `(tactic| walk_at "pad 0") => `(tactic| skip)
local macro_rules | `(tactic| walk_at "pad 1") => `(tactic| skip)
local macro_rules | `(tactic| walk_at "pad 2") => `(tactic| skip)
local macro_rules | `(tactic| k_room) => `(tactic| ktr_room)
local macro_rules | `(tactic| k_units) => `(tactic| ktr_units)
local macro_rules | `(tactic| walk_at "my_stop") => `(tactic| with_reducible show wpAny _ _ (exec (Stmt.For _ _ _ _ _) _) _ _ _)
local macro_rules | `(tactic| walk_at "my_stop") => `(tactic| with_reducible show wpAny _ _ (call (Value.type "enumerate") _) _ _ _)
local macro_rules | `(tactic| walk_at "my_stop") => `(tactic| with_reducible show wpAny _ _ (call (Value.ref _) _) _ _ _)
local macro_rules | `(tactic| walk_at "my_stop") => `(tactic| with_reducible show wpAny _ _ (pyIter (Value.ref _)) _ _ _)
local macro_rules | `(tactic| walk_at "my_stop") => `(tactic| with_reducible refine Exists.intro ?_ ?_)
local macro_rules | `(tactic| walk_at "my_steps") => `(tactic| repeat' ((try ((with_reducible show wpAny _ _ (execs (_ :: _) _) _ _ _); k_fold; (try dsimp only))); (fail_if_success walk_at "my_stop"); first | (k_unfold; (try dsimp only)) | (k_end; wrow_close) | (dsimp only; walk1) | walk1 | (leave1; walk_say "STEP leave1"; try dsimp only) | fail "no step"))

theorem sp_filemode {w : World} {lo : List Str} {mean : ExcName → Option Value} {mg mb : Str → Option Value} (x : Int) (tx : Tok) :
    Pure PySem.Challenge.rw_il0163_02.row.prog w (hd.heap_1 w.params) hdView lo mean mg mb 8 40 120 [.int x tx] (fun _ => True) (fun _ v _ => ∃ t, v = .str (modeText x) t) := by
  w_top off
  k_fill
  intro A s Q E X T hh hd hu _ hQ
  obtain ⟨ah, ad, af, ag, au⟩ := A
  obtain rfl : ah = none := hh
  replace hd : ad + 8 < recursionLimit := hd
  replace hu : au + 40 < cLine := hu
  refine enter_raw (binds := [(Str.ofString "mode", .int x tx)]) (f := 120) X T (fun _ _ q => q) (Nat.le_refl _) News.nil rfl rfl (by show ad < _; omega) (BindsTo.of_eq rfl) (locs rfl) (fun h₁ tk₀ F N₁ hk₁ => ?_) rfl rfl rfl (by decide)
  generalize s.heap.objs.size = L at *
  (try k_unmd)
  k_fold
  walk_at "my_steps"
  refine wpAny_For ?_
  walk_at "my_steps"
  have hTabs : ∃ rs n, s.heap.get? 113 = some (tupObj rs n) ∧ TablesAt s.heap rs.toList modeTabs := by
    refine ⟨_, _, X 113 _ rfl, ?_⟩
    unfold modeTabs
    repeat' first
      | exact True.intro
      | exact ⟨_, _, _, X _ _ rfl⟩
      | refine ⟨_, _, X _ _ rfl, ?_⟩
      | refine And.intro ?_ ?_
  obtain ⟨rs, rn, hTab, hTabs⟩ := hTabs
  rename_i P h₁a l1a h₂ F₂ N₂
  have hlen : rs.toList.length = 10 := hTabs.length
  refine call_enumT (s := { s with heap := h₂, toks := tk }) (F₂.keep _ _ hTab) (fun h₃ he hi hz hk₃ => ?_)
  dsimp only at he hi hz hk₃ ⊢
  generalize hit : h₂.objs.size = it at *
  refine wpAny_pyIter_enum he ?_
  have hPlt : @LT.lt Nat _ P it := hit ▸ Heap.lt_size (N₂ (P, lstObj #[] 0) (by simp)).1
  have hLlt : L < it := hit ▸ fr_lt F₂
  have bnone : ∀ a, it ≤ a → s.heap.get? a = none := fun a ha => by
    cases q : s.heap.get? a with
    | none => rfl
    | some o => exact absurd (hit ▸ Heap.lt_size (F₂.keep _ _ q)) (Nat.not_lt.mpr ha)
  refine codeAny_forLoop_any (FmI s.heap L s x tx P (it + 1) it 113) (fun n s' hI => ?_) 11 ?_
  · obtain ⟨i, h', tk', o1, o2, o3, o4, old, vs, c, hn, hi10, rfl, F', N', hS⟩ := hI
    have Hen := N' (it + 1, enObj .none it i old) (by simp)
    have Hti := N' (it, tiObj 113 i) (by simp)
    have HPl := N' (P, lstObj vs.toArray c) (by simp)
    rcases Nat.lt_or_ge i 10 with hlt | hge
    · have hi' : i < rs.toList.length := by omega
      have hv : rs[i]? = some (rs.toList[i]) := by rw [← Array.getElem?_toList, List.getElem?_eq_getElem hi']
      obtain ⟨t2, ps, hv2, hps, hT2⟩ := hTabs.get (List.getElem?_eq_getElem hi')
      rw [hv2] at hv
      refine enumT_next Hen.1 Hti.1 (F'.keep _ _ hTab) hv (Nat.succ_ne_self it) (fun h₄ he₄ hi₄ hT₄ hz₄ hk₄ => ?_)
      dsimp only
      refine wpAny_letOwnedTupleGo_enum he₄ (fun h₅ he₅ hs₅ => ?_)
      dsimp only at hs₅ ⊢
      have hTe : h'.objs.size ≠ it + 1 := Nat.ne_of_gt (Heap.lt_size Hen.1)
      have hTi : h'.objs.size ≠ it := Nat.ne_of_gt (Heap.lt_size Hti.1)
      have kk : ∀ b o, b ≠ it + 1 → b ≠ it → h'.get? b = some o → h₅.get? b = some o := fun b o h1 h2 q => (hs₅.2 b h1).trans (hk₄ b o h1 h2 q)
      have F₅ : Fr s.heap L h₅ (fmNames x tx P o1 o2 o3 o4) := ⟨F'.ns.at' fun o q => kk _ o (by omega) (by omega) q, fun b o q => kk b o (fun z => by rw [z, bnone _ (Nat.le_succ it)] at q; cases q) (fun z => by rw [z, bnone _ (Nat.le_refl it)] at q; cases q) (F'.keep b o q), F'.above⟩
      have N₅ : News s.heap L h₅ [(h'.objs.size, tupObj #[.int i tk', .ref t2] 0), (it + 1, enObj .none it (i + 1) (.ref t2)), (it, tiObj 113 (i + 1)), (P, lstObj vs.toArray c)] := fun p hp => by
        simp only [List.mem_cons, List.not_mem_nil, or_false] at hp
        rcases hp with rfl | rfl | rfl | rfl
        · exact ⟨(hs₅.2 _ hTe).trans hT₄, Nat.ne_of_gt (fr_lt F'), bnone _ (Nat.le_of_lt (Heap.lt_size Hti.1))⟩
        · exact ⟨he₅, Hen.2⟩
        · exact ⟨(hs₅.2 _ (Nat.ne_of_lt (Nat.lt_succ_self it))).trans hi₄, Hti.2⟩
        · exact ⟨kk _ _ (Nat.ne_of_lt (Nat.lt_succ_of_lt hPlt)) (Nat.ne_of_lt hPlt) HPl.1, HPl.2⟩
      have hPTu := ltN (Heap.lt_size HPl.1)
      have hvl : vs.toArray.size ≤ sizeLine := by
        have := strsAre_len hS
        rw [List.size_toArray, this, List.length_map]
        unfold signsUpTo
        rw [List.length_map, List.length_take]
        exact Nat.le_trans (Nat.min_le_left _ _) (Nat.le_trans hi10 (by decide))
      generalize h'.objs.size = Tu at *
      clear hk₄ hs₅ hT₄ he₄ hi₄ hz₄ he₅
      walk_at "my_steps"
      refine wpAny_For ?_
      walk_at "my_steps"
      rename_i F₆ N₆
      obtain ⟨n2, rs2, hT2g, hps2⟩ := hT2
      have hlen2 := hps2.length
      refine wpAny_pyIter_tuple ⟨_, F₆.keep _ _ hT2g, rfl, _, rfl⟩ ?_
      dsimp only
      rename Heap => h₆
      have F₇ := fr_grow' F₆ (h' := h₆.push (tiObj t2 0)) fun b o q => Heap.get?_push_of_some _ q
      have N₇ := N₆.push F₆ (tiObj t2 0)
      have hlt2 := lt_size_of_news N₆
      have b2 : s.heap.get? h₆.objs.size = none := (N₇ _ (.head _)).2.2
      generalize h₆.push (tiObj t2 0) = h₇ at *
      generalize h₆.objs.size = it2 at *
      have hP2 := ltN (hlt2 (P, lstObj vs.toArray c) (by simp))
      have hT2' := ltN (hlt2 (Tu, tupObj #[.int i tk', .ref t2] 0) (by simp))
      have fin : ∀ (h' : Heap) (tk : Nat) (o5 o6 : Option Value) (ch : Nat) (tS : Tok) (c' : Nat), ch = signOf x i ps → Fr s.heap L h' (fmNames x tx P o5 o6 (some (.ref t2)) (some (.int i tk'))) →
          News s.heap L h' [(it + 1, enObj .none it (i + 1) (.ref t2)), (it, tiObj 113 (i + 1)), (P, lstObj (vs.toArray.push (.str ⟨#[ch]⟩ tS)) c')] → ∃ m, m < n ∧ FmI s.heap L s x tx P (it + 1) it 113 m { s with heap := h', toks := tk } := by
        rintro h' tk o5 o6 ch tS c' rfl F' N'
        refine ⟨11 - (i + 1), by omega, ⟨i + 1, h', tk, o5, o6, some (.ref t2), some (.int i tk'), .ref t2, vs ++ [.str ⟨#[signOf x i ps]⟩ tS], c', rfl, by omega, rfl, F', ?_, ?_⟩⟩
        · have e1 : (vs ++ [Value.str ⟨#[signOf x i ps]⟩ tS]).toArray = vs.toArray.push (.str ⟨#[signOf x i ps]⟩ tS) := by simp
          rw [e1]; exact N'
        · rw [signsUpTo_succ hps]; exact hS.snoc
      refine codeAny_forLoop_any (FmJ s.heap L s x tx P (it + 1) it 113 Tu it2 t2 i tk' (.ref t2) ps vs c) (fun n₂ s'' hJ => ?_) (ps.length + 1) ?_
      · obtain ⟨j, h₈, tk₈, o5, o6, hn2, hj, rfl, F₈, N₈, hno⟩ := hJ
        have Nt := N₈ (it2, tiObj t2 j) (by simp)
        have hne2 : ∀ p ∈ [(Tu, tupObj #[Value.int (i : Int) tk', .ref t2] 0), (it + 1, enObj .none it (i + 1) (.ref t2)), (it, tiObj 113 (i + 1)), (P, lstObj vs.toArray c)], p.1 ≠ it2 := fun p hp => Nat.ne_of_lt (hlt2 p hp)
        rcases Nat.lt_or_ge j ps.length with hjl | hjg
        · have hj' : j < rs2.toList.length := by omega
          have hv3 : rs2[j]? = some (rs2.toList[j]) := by rw [← Array.getElem?_toList, List.getElem?_eq_getElem hj']
          obtain ⟨a, b, ch, t, t', n', hva, hpj, hag⟩ := hps2.get (List.getElem?_eq_getElem hj')
          rw [hva] at hv3
          refine pyNext_tuple Nt.1 (F₈.keep _ _ hT2g) hv3 (fun h₉ hit₉ hs₉ => ?_)
          dsimp only
          refine letGo_tupleiter (s' := ⟨h₉, _, _, _, _⟩) ⟨_, hit₉, rfl, rfl⟩ ?_
          have hb9 : ∀ b o, s.heap.get? b = some o → b ≠ it2 := fun b o q z => by rw [z, b2] at q; cases q
          have F₉ : Fr s.heap L h₉ (fmNames x tx P o5 o6 (some (.ref t2)) (some (.int i tk'))) := ⟨F₈.ns.at' fun o q => (hs₉.2 _ (_root_.Ne.symm Nt.2.1)).trans q, fun b o q => (hs₉.2 b (hb9 b o q)).trans (F₈.keep b o q), F₈.above⟩
          have N₉ : News s.heap L h₉ [(it2, tiObj t2 (j + 1)), (Tu, tupObj #[Value.int (i : Int) tk', .ref t2] 0), (it + 1, enObj .none it (i + 1) (.ref t2)), (it, tiObj 113 (i + 1)), (P, lstObj vs.toArray c)] := fun p hp => by
            rcases List.mem_cons.mp hp with rfl | hp
            · exact ⟨hit₉, Nt.2⟩
            · exact ⟨(hs₉.2 _ (hne2 p hp)).trans (N₈ p (List.mem_cons_of_mem _ hp)).1, (N₈ p (List.mem_cons_of_mem _ hp)).2⟩
          have hTa : IsTup h₉ a #[.int b t, .str ⟨#[ch]⟩ t'] := ⟨_, F₉.keep _ _ hag, rfl, _, rfl⟩
          clear hs₉ hit₉ F₈ N₈ F₇ N₇ F₆ N₆
          have nmEq : ∀ (y : Str), (if y = Str.ofString "char" then some (Value.str ⟨#[ch]⟩ t') else if y = Str.ofString "bit" then some (Value.int b t) else fmNames x tx P o5 o6 (some (.ref t2)) (some (.int i tk')) y) = fmNames x tx P (some (.str ⟨#[ch]⟩ t')) (some (.int b t)) (some (.ref t2)) (some (.int i tk')) y := fun y => by
            unfold fmNames
            by_cases h1 : y = Str.ofString "char"
            · rw [if_pos h1, if_pos h1]
            · by_cases h2 : y = Str.ofString "bit"
              · rw [if_neg h1, if_pos h2, if_neg h1, if_pos h2]
              · rw [if_neg h1, if_neg h2, if_neg h1, if_neg h2, if_neg h1, if_neg h2]
          walk_at "my_steps"
          · rename Fr _ _ _ _ => F'
            rename News _ _ _ _ => N'
            rename (i : Int) = 0 => hi0
            refine (sp_ifmt x tx).use F' N' X T rfl (by show ad + 1 + 4 < _; omega) (by show au + 3 + 20 < _; omega) trivial (fun v h' tk' F' N' _ hv => ?_)
            obtain ⟨tv, rfl⟩ := hv
            walk_at "my_steps"
            · rename Fr _ _ _ _ => F'
              rename News _ _ _ _ => N'
              rename Builtin.bitAnd x 61440 = b => hb
              exact fin _ _ _ _ ch t' _ (signOf_hit hpj (by unfold hits; rw [if_pos (by omega)]; simpa using hb) hno).symm (fr_cong F' nmEq) (fun p hp => N' p (List.mem_cons_of_mem _ (List.mem_cons_of_mem _ hp)))
            · rename Fr _ _ _ _ => F'
              rename News _ _ _ _ => N'
              rename Builtin.bitAnd x 61440 ≠ b => hb
              refine ⟨ps.length + 1 - (j + 1), by omega, ⟨j + 1, _, _, _, _, rfl, by omega, rfl, fr_cong F' nmEq, N', fun k b' c'' hk hpk => ?_⟩⟩
              rcases Nat.lt_or_ge k j with hkj | hkj
              · exact hno k b' c'' hkj hpk
              · obtain rfl : k = j := by omega
                rw [hpj] at hpk; cases hpk
                unfold hits
                rw [if_pos (by omega)]
                simpa using hb
          · rename Fr _ _ _ _ => F'
            rename News _ _ _ _ => N'
            rename Builtin.bitAnd x b = b => hb
            rename (i : Int) ≠ 0 => hi0
            exact fin _ _ _ _ ch t' _ (signOf_hit hpj (by unfold hits; rw [if_neg (by omega)]; simpa using hb) hno).symm (fr_cong F' nmEq) (fun p hp => N' p (List.mem_cons_of_mem _ (List.mem_cons_of_mem _ hp)))
          · rename Fr _ _ _ _ => F'
            rename News _ _ _ _ => N'
            rename Builtin.bitAnd x b ≠ b => hb
            rename (i : Int) ≠ 0 => hi0
            refine ⟨ps.length + 1 - (j + 1), by omega, ⟨j + 1, _, _, _, _, rfl, by omega, rfl, fr_cong F' nmEq, N', fun k b' c'' hk hpk => ?_⟩⟩
            rcases Nat.lt_or_ge k j with hkj | hkj
            · exact hno k b' c'' hkj hpk
            · obtain rfl : k = j := by omega
              rw [hpj] at hpk; cases hpk
              unfold hits
              rw [if_neg (by omega)]
              simpa using hb
        · obtain rfl : j = ps.length := Nat.le_antisymm hj hjg
          refine wpAny_pyNext_tuple_end (t := t2) (i := ps.length) (items := rs2) rfl ⟨_, Nt.1, rfl, rfl⟩ ⟨_, F₈.keep _ _ hT2g, rfl, _, rfl⟩ (Array.getElem?_eq_none (by rw [← Array.length_toList]; omega)) (fun h₉ hs₉ => ?_)
          dsimp only
          have hb9 : ∀ b o, s.heap.get? b = some o → b ≠ it2 := fun b o q z => by rw [z, b2] at q; cases q
          have F₉ : Fr s.heap L h₉ (fmNames x tx P o5 o6 (some (.ref t2)) (some (.int i tk'))) := ⟨F₈.ns.at' fun o q => hs₉ _ o (_root_.Ne.symm Nt.2.1) q, fun b o q => hs₉ b o (hb9 b o q) (F₈.keep b o q), F₈.above⟩
          have N₉ : News s.heap L h₉ [(it + 1, enObj .none it (i + 1) (.ref t2)), (it, tiObj 113 (i + 1)), (P, lstObj vs.toArray c)] := fun p hp => ⟨hs₉ _ _ (hne2 p (List.mem_cons_of_mem _ hp)) (N₈ p (List.mem_cons_of_mem _ (List.mem_cons_of_mem _ hp))).1, (N₈ p (List.mem_cons_of_mem _ (List.mem_cons_of_mem _ hp))).2⟩
          have hmiss : signOf x i ps = if i = 0 then 63 else 45 := signOf_miss fun k b' c'' hk => by
            rcases Nat.lt_or_ge k ps.length with hk' | hk'
            · exact hno k b' c'' hk' hk
            · rw [List.getElem?_eq_none hk'] at hk; cases hk
          clear hs₉ F₈ N₈ F₇ N₇ F₆ N₆
          have eq1 : Str.ofString "?" = ⟨#[63]⟩ := by rfl
          have eq2 : Str.ofString "-" = ⟨#[45]⟩ := by rfl
          walk_at "my_steps"
          · rename Fr _ _ _ _ => F'
            rename News _ _ _ _ => N'
            rename (i : Int) = 0 => hi0
            rw [eq1] at N'
            exact fin _ _ o5 o6 63 _ _ (by rw [hmiss, if_pos (by omega)]) F' N'
          · rename Fr _ _ _ _ => F'
            rename News _ _ _ _ => N'
            rename (i : Int) ≠ 0 => hi0
            rw [eq2] at N'
            exact fin _ _ o5 o6 45 _ _ (by rw [hmiss, if_neg (by omega)]) F' N'
      · refine ⟨⟨0, h₇, _, o1, o2, rfl, Nat.zero_le _, rfl, fr_cong F₇ fun y => ?_, N₇, fun k b c' hk => by omega⟩⟩
        unfold fmNames
        by_cases h1 : y = Str.ofString "char"
        · subst h1; rfl
        · by_cases h2 : y = Str.ofString "bit"
          · subst h2; rfl
          · rw [if_neg h1, if_neg h2, if_neg h1, if_neg h2]
            by_cases h3 : y = Str.ofString "table"
            · rw [if_pos h3, if_pos h3]
            · by_cases h4 : y = Str.ofString "index"
              · rw [if_neg h3, if_pos h4, if_neg h3, if_pos h4]
              · rw [if_neg h3, if_neg h4, if_neg h3, if_neg h4, if_neg h3, if_neg h4]
    · obtain rfl : i = 10 := Nat.le_antisymm hi10 hge
      refine enumT_end rfl Hen.1 Hti.1 (F'.keep _ _ hTab) (Array.getElem?_eq_none (by rw [← Array.length_toList]; omega)) (fun h₉ hs₉ => ?_)
      dsimp only
      have F₉ : Fr s.heap L h₉ (fmNames x tx P o1 o2 o3 o4) := ⟨F'.ns.at' fun o q => hs₉ _ o (Nat.ne_of_lt hLlt) q, fun b o q => hs₉ b o (fun z => by rw [z, bnone _ (Nat.le_refl it)] at q; cases q) (F'.keep b o q), F'.above⟩
      have N₉ : News s.heap L h₉ [(P, lstObj vs.toArray c)] := fun p hp => by
        rw [List.mem_singleton.mp hp]
        exact ⟨hs₉ _ _ (Nat.ne_of_lt hPlt) HPl.1, HPl.2⟩
      clear hs₉
      have hS' : StrsAre vs.toArray.toList ((signsUpTo x 10).map fun c => (⟨#[c]⟩ : Str)) := hS
      have hw : (((signsUpTo x 10).map fun c => (⟨#[c]⟩ : Str)).map (·.length)).sum + ((signsUpTo x 10).map fun c => (⟨#[c]⟩ : Str)).length ≤ 1048576 := by
        rw [List.map_map, List.length_map]
        show ((signsUpTo x 10).map fun _ => 1).sum + _ ≤ _
        have hl : (signsUpTo x 10).length = 10 := rfl
        rw [List.map_const', List.sum_replicate_nat, hl]
        decide
      walk_at "my_steps"
      refine join_listW ⟨_, (N₉ _ (.head _)).1, rfl, _, rfl⟩ hS' (by decide) hw (fun t' k => ?_)
      have hJ : Txt.join (Str.ofString "") ((signsUpTo x 10).map fun c => (⟨#[c]⟩ : Str)) = modeText x := by rfl
      rw [hJ]
      exact hQ _ _ _ F₉.keep ⟨_, rfl⟩
  · refine ⟨⟨0, h₃, _, none, none, none, none, .none, [], 0, rfl, Nat.zero_le _, rfl, fr_cong (fr_grow' F₂ hk₃) fun y => ?_, fun p hp => ?_, .nil⟩⟩
    · unfold fmNames
      by_cases h1 : y = Str.ofString "char"
      · subst h1; rfl
      by_cases h2 : y = Str.ofString "bit"
      · subst h2; rfl
      by_cases h3 : y = Str.ofString "table"
      · subst h3; rfl
      by_cases h4 : y = Str.ofString "index"
      · subst h4; rfl
      rw [if_neg h1, if_neg h2, if_neg h3, if_neg h4]
      by_cases h5 : y = Str.ofString "perm"
      · rw [if_pos h5, if_pos h5]
      rw [if_neg h5, if_neg h5]
      by_cases h6 : y = Str.ofString "mode"
      · subst h6; rfl
      · rw [if_neg h6]
        show List.lookup y [(Str.ofString "mode", Value.int x tx)] = none
        rw [List.lookup_cons, beq_false_of_ne h6]; rfl
    · simp only [List.mem_cons, List.not_mem_nil, or_false] at hp
      rcases hp with rfl | rfl | rfl
      · exact ⟨he, Nat.ne_of_gt (Nat.lt_succ_of_lt hLlt), bnone _ (Nat.le_succ it)⟩
      · exact ⟨hi, Nat.ne_of_gt hLlt, bnone _ (Nat.le_refl it)⟩
      · have := N₂ (P, lstObj #[] 0) (by simp)
        exact ⟨hk₃ _ _ this.1, this.2⟩
end Mine
end

section
open PySem PySem.W PyProof.Rows PySem.Spec PySem.Calls PySem.SeqAt
set_option Elab.async false
set_option maxRecDepth 100000
set_option maxHeartbeats 4000000
namespace Mine
end Mine
namespace Mine
section
variable {prog : Program} {w : World} {A : Around} {E : Value → Shared → Prop} {s : Shared} {h₀ : Heap} {L : Addr} {m : Str → Option Value} {news : List (Addr × Obj)}
end
end Mine
end

section
open PySem PySem.W PyProof.Rows PySem.Spec PySem.Calls PySem.SeqAt
set_option Elab.async false
set_option maxRecDepth 100000
set_option maxHeartbeats 8000000
namespace Mine
local macro_rules | `(tactic| walk_at "pad 0") => `(tactic| skip)
local macro_rules | `(tactic| k_room) => `(tactic| ktr_room)
local macro_rules | `(tactic| k_units) => `(tactic| ktr_units)
local macro_rules | `(tactic| walk_at "my_stop") => `(tactic| with_reducible show wpAny _ _ (call (Value.ref _) _) _ _ _)
local macro_rules | `(tactic| walk_at "my_steps") => `(tactic| repeat' ((fail_if_success walk_at "my_stop"); first | (k_unfold; (try dsimp only)) | (k_end; wrow_close) | walk1 | (dsimp only; walk1) | (leave1; walk_say "STEP leave1"; try dsimp only) | fail "no step"))

abbrev threeSigns (f a : Int) (e : Str) : Str := Txt.item (Str.ofString "-r") (f.fdiv 4) ++ Txt.item (Str.ofString "-w") ((f.fdiv 2).fmod 2) ++ Txt.item e (f.fmod 2 + 2 * a)
local macro_rules | `(tactic| kxi_fact) => `(tactic| first | omega | (simp only [Int.fdiv_eq_ediv_of_nonneg _ (by decide : (0 : Int) ≤ 4), Int.fdiv_eq_ediv_of_nonneg _ (by decide : (0 : Int) ≤ 2), Int.fmod_eq_emod_of_nonneg _ (by decide : (0 : Int) ≤ 2)]; omega))
theorem sp_three {w : World} {lo : List Str} {mean : ExcName → Option Value} {mg mb : Str → Option Value} (f a : Int) (e : Str) (t1 t2 t3 : Tok) (hf : 0 ≤ f ∧ f < 8) (ha : 0 ≤ a ∧ a < 2) (he : e = Str.ofString "-xSs" ∨ e = Str.ofString "-xTt") :
    Pure PySem.Challenge.rw_il0163_02.row.prog w (hd.heap_1 w.params) hdView lo mean mg mb 4 20 148 [.int f t1, .int a t2, .str e t3] (fun _ => True) (fun _ v _ => ∃ t, v = .str (threeSigns f a e) t) := by
  w_top off
  k_fill
  intro A s Q E X T hh hd hu _ hQ
  obtain ⟨ah, ad, af, ag, au⟩ := A
  obtain rfl : ah = none := hh
  replace hd : ad + 4 < recursionLimit := hd
  replace hu : au + 20 < cLine := hu
  obtain ⟨hf0, hf1⟩ := hf
  obtain ⟨ha0, ha1⟩ := ha
  rcases he with rfl | rfl
  all_goals
    refine enter_raw (binds := [(Str.ofString "figure", .int f t1), (Str.ofString "above", .int a t2), (Str.ofString "ends", .str _ t3)]) (f := 148) X T (fun _ _ q => q) (Nat.le_refl _) News.nil rfl rfl (by show ad < _; omega) (BindsTo.of_eq rfl) (locs rfl) (fun h₁ tk F N₁ hk₁ => ?_) rfl rfl rfl (by decide)
    generalize s.heap.objs.size = L at *
    (try k_unmd)
    k_fold
    walk_at "my_steps"
    rename Fr _ _ _ _ => F₁
    exact hQ _ _ _ F₁.keep ⟨_, rfl⟩

abbrev nineSigns (n : Int) : Str := threeSigns ((n.fdiv 64).fmod 8) (n.fdiv 2048) (Str.ofString "-xSs") ++ threeSigns ((n.fdiv 8).fmod 8) ((n.fdiv 1024).fmod 2) (Str.ofString "-xSs") ++ threeSigns (n.fmod 8) ((n.fdiv 512).fmod 2) (Str.ofString "-xTt")
theorem sp_nine {w : World} {lo : List Str} {mean : ExcName → Option Value} {mg mb : Str → Option Value} (n : Int) (tn : Tok) (h0 : 0 ≤ n) (h1 : n < 4096) :
    Pure PySem.Challenge.rw_il0163_02.row.prog w (hd.heap_1 w.params) hdView lo mean mg mb 8 40 155 [.int n tn] (fun _ => True) (fun _ v _ => ∃ t, v = .str (nineSigns n) t) := by
  k_fill
  intro A s Q E X T hh hd hu _ hQ
  obtain ⟨ah, ad, af, ag, au⟩ := A
  obtain rfl : ah = none := hh
  replace hd : ad + 8 < recursionLimit := hd
  replace hu : au + 40 < cLine := hu
  refine enter_raw (binds := [(Str.ofString "number", .int n tn)]) (f := 155) X T (fun _ _ q => q) (Nat.le_refl _) News.nil rfl rfl (by show ad < _; omega) (BindsTo.of_eq rfl) (locs rfl) (fun h₁ tk F N₁ hk₁ => ?_) rfl rfl rfl (by decide)
  generalize s.heap.objs.size = L at *
  (try k_unmd)
  k_fold
  have m8 : ∀ z : Int, 0 ≤ z.fmod 8 ∧ z.fmod 8 < 8 := fun z => ⟨Int.fmod_nonneg_of_pos z (by decide), Int.fmod_lt_of_pos z (by decide)⟩
  have m2 : ∀ z : Int, 0 ≤ z.fmod 2 ∧ z.fmod 2 < 2 := fun z => ⟨Int.fmod_nonneg_of_pos z (by decide), Int.fmod_lt_of_pos z (by decide)⟩
  have m1 : 0 ≤ n.fdiv 2048 ∧ n.fdiv 2048 < 2 := by rw [Int.fdiv_eq_ediv_of_nonneg _ (by decide)]; omega
  walk_at "my_steps"
  rename Fr _ _ _ _ => F1
  rename News _ _ _ _ => N1
  refine (sp_three _ _ _ _ _ _ (m8 _) m1 (.inl rfl)).use F1 N1 X T rfl (by show ad + 1 + 4 < _; omega) (by show au + 3 + 20 < _; omega) trivial (fun v h3 tk3 F3 N3 k3 hv => ?_)
  obtain ⟨t3, rfl⟩ := hv
  clear F1 N1 k3
  walk_at "my_steps"
  rename Fr _ _ _ _ => F1
  rename News _ _ _ _ => N1
  refine (sp_three _ _ _ _ _ _ (m8 _) (m2 _) (.inl rfl)).use F1 N1 X T rfl (by show ad + 1 + 4 < _; omega) (by show au + 3 + 20 < _; omega) trivial (fun v h3 tk3 F3 N3 k3 hv => ?_)
  obtain ⟨t3, rfl⟩ := hv
  clear F1 N1 k3
  walk_at "my_steps"
  rename Fr _ _ _ _ => F1
  rename News _ _ _ _ => N1
  refine (sp_three _ _ _ _ _ _ (m8 _) (m2 _) (.inr rfl)).use F1 N1 X T rfl (by show ad + 1 + 4 < _; omega) (by show au + 3 + 20 < _; omega) trivial (fun v h3 tk3 F3 N3 k3 hv => ?_)
  obtain ⟨t3, rfl⟩ := hv
  clear F1 N1 k3
  walk_at "my_steps"
  rename Fr _ _ _ _ => F1
  exact hQ _ _ _ F1.keep ⟨_, rfl⟩
end Mine
end

section
open PySem PySem.W PyProof.Rows PySem.Spec PySem.Calls PySem.SeqAt
set_option Elab.async false
set_option maxRecDepth 100000
set_option maxHeartbeats 8000000
namespace Mine
local macro_rules | `(tactic| k_room) => `(tactic| ktr_room)
local macro_rules | `(tactic| k_units) => `(tactic| ktr_units)
local macro_rules | `(tactic| walk_at "my_steps") => `(tactic| repeat' (first | (k_unfold; (try dsimp only)) | (k_end; wrow_close) | walk1 | (dsimp only; walk1) | (leave1; walk_say "STEP leave1"; try dsimp only) | fail "no step"))
local macro_rules | `(tactic| kxi_len) => `(tactic| assumption)
abbrev hasIn (e y : Str) : Bool := !(Builtin.Str.occurrences e y 0 e.length 1).isEmpty
/-- what the law calls high, of a listing -/
def highOf (x : Str) : Bool := Txt.item x 1 == Str.ofString "r" || (Txt.item x 2 == Str.ofString "w" || (hasIn (Str.ofString "sS") (Txt.item x 3) || (hasIn (Str.ofString "sS") (Txt.item x 6) || hasIn (Str.ofString "tT") (Txt.item x 9))))
theorem sp_high {w : World} {lo : List Str} {mean : ExcName → Option Value} {mg mb : Str → Option Value} (x : Str) (tx : Tok) (hx : x.length = 10) :
    Pure PySem.Challenge.rw_il0163_02.row.prog w (hd.heap_1 w.params) hdView lo mean mg mb 4 20 141 [.str x tx] (fun _ => True) (fun _ v _ => v = .bool (highOf x)) := by
  w_top off
  k_fill
  intro A s Q E X T hh hd hu _ hQ
  obtain ⟨ah, ad, af, ag, au⟩ := A
  obtain rfl : ah = none := hh
  replace hd : ad + 4 < recursionLimit := hd
  replace hu : au + 20 < cLine := hu
  refine enter_raw (binds := [(Str.ofString "row", .str x tx)]) (f := 141) X T (fun _ _ q => q) (Nat.le_refl _) News.nil rfl rfl (by show ad < _; omega) (BindsTo.of_eq rfl) (locs rfl) (fun h₁ tk F N₁ hk₁ => ?_) rfl rfl rfl (by decide)
  generalize s.heap.objs.size = L at *
  (try k_unmd)
  k_fold
  walk_at "my_steps"
  all_goals
    rename Fr _ _ _ _ => F1
    refine hQ _ _ _ F1.keep ?_
    refine congrArg Value.bool ?_
    unfold highOf hasIn
    clear hQ X T hk₁ F1
    generalize (Builtin.Str.occurrences (Str.ofString "sS") (Txt.item x 3) 0 (Str.ofString "sS").length 1).isEmpty = b3 at *
    generalize (Builtin.Str.occurrences (Str.ofString "sS") (Txt.item x 6) 0 (Str.ofString "sS").length 1).isEmpty = b6 at *
    generalize (Builtin.Str.occurrences (Str.ofString "tT") (Txt.item x 9) 0 (Str.ofString "tT").length 1).isEmpty = b9 at *
    generalize (Txt.item x 1 == Str.ofString "r") = c1 at *
    generalize (Txt.item x 2 == Str.ofString "w") = c2 at *
    simp_all
end Mine
end

section
open PySem PySem.W PyProof.Rows PySem.Spec PySem.Calls PySem.SeqAt
set_option Elab.async false
set_option maxRecDepth 100000
set_option maxHeartbeats 4000000
namespace Mine
open PySem.Builtin PySem.Builtin._codecs

def asciiBytes (s : Str) : Array UInt8 := (s.cps.toList.map fun c => c.toUInt8).toArray
theorem foldl_bytes : ∀ (l : List Nat) (acc : Array UInt8), l.foldl (fun acc y => acc ++ (asciiCodec.bytesOf y).toArray) acc = acc ++ (l.map fun c => c.toUInt8).toArray
  | [], acc => by simp
  | c :: r, acc => by
    rw [List.foldl_cons, foldl_bytes r]
    show acc ++ #[c.toUInt8] ++ _ = _
    rw [List.map_cons, Array.append_assoc]
    congr 1
    apply Array.ext'
    simp
theorem bad_none {a : Array Nat} (h : a.all (· < 128) = true) : a.findIdx? asciiCodec.bad = none := by
  rw [Array.findIdx?_eq_none_iff]
  intro x hx
  have := Array.all_eq_true_iff_forall_mem.mp h x hx
  show decide (x ≥ 128) = false
  simp at this ⊢
  omega
section
variable {M : Model} {A : Around} {E : Value → Shared → Prop} {sh : Shared}
theorem enc_ok {id : String} {self : Value} {s : Str} {Q : Array UInt8 → Shared → Prop} (h : s.cps.all (· < 128) = true) (hs : s.length ≤ sizeLine) (hQ : Q (asciiBytes s) sh) :
    wpAny M A (encodeNarrow id asciiCodec none self s) Q E sh := by
  have hsz : (asciiBytes s).size = s.length := by simp [asciiBytes, PySem.Str.length]
  unfold encodeNarrow
  simp only [Std.Legacy.Range.forIn_eq_forIn_range']
  refine wpAny_bind (wpAny_forIn_list _ (fun rest st s' => s' = sh ∧ ((st = (0, #[], {}) ∧ rest.length = s.length) ∨ st = (s.length, asciiBytes s, {}))) _ ?_ ?_ _ _ ?_)
  · rintro x rest ⟨i, out, st⟩ s' ⟨rfl, hI⟩
    rcases hI with ⟨hst, hl⟩ | hst
    · obtain ⟨rfl, rfl, rfl⟩ : i = 0 ∧ out = #[] ∧ st = {} := by simpa using hst
      have hn : 0 < s.cps.size := by rw [← show s.length = s.cps.size from rfl, ← hl]; simp
      have hx : s.cps[0]? = some s.cps[0] := Array.getElem?_eq_getElem hn
      have hgood : (!asciiCodec.bad s.cps[0]) = true := by
        have := Array.all_eq_true_iff_forall_mem.mp h s.cps[0] (Array.getElem_mem hn)
        show (!decide (s.cps[0] ≥ 128)) = true
        simp at this ⊢
        omega
      have he : s.cps.extract 0 = s.cps := by simp
      dsimp only
      rw [if_neg (show ¬ ((#[] : Array UInt8).size > sizeLine) by decide), hx]
      dsimp only
      rw [if_pos hgood, he, bad_none h]
      refine wpAny_pure ?_
      refine ⟨rfl, .inr ?_⟩
      simp only [Option.getD_none, Array.extract_size, Nat.zero_add]
      rw [← Array.foldl_toList, foldl_bytes]
      simp [asciiBytes, PySem.Str.length]
    · obtain ⟨rfl, rfl, rfl⟩ : i = s.length ∧ out = asciiBytes s ∧ st = {} := by simpa using hst
      have hx : s.cps[s.length]? = none := Array.getElem?_eq_none (Nat.le_refl _)
      dsimp only
      rw [hx, if_neg (show ¬ ((asciiBytes s).size > sizeLine) by rw [hsz]; omega)]
      exact wpAny_pure (wpAny_pure hQ)
  · rintro ⟨i, out, st⟩ s' ⟨rfl, hI⟩
    rcases hI with ⟨hst, hl⟩ | hst
    · obtain ⟨rfl, rfl, rfl⟩ : i = 0 ∧ out = #[] ∧ st = {} := by simpa using hst
      have e0 : asciiBytes s = #[] := Array.eq_empty_of_size_eq_zero (by rw [hsz, ← hl]; rfl)
      rw [e0] at hQ
      exact wpAny_pure hQ
    · obtain ⟨rfl, rfl, rfl⟩ : i = s.length ∧ out = asciiBytes s ∧ st = {} := by simpa using hst
      exact wpAny_pure hQ
  · exact ⟨rfl, .inl ⟨rfl, by simp⟩⟩
end

section
variable {prog : Program} {w : World} {A : Around} {E : Value → Shared → Prop} {sh : Shared}
theorem gm_encode {x : Str} {t : Tok} {pl : Sem Bool} {Q : Value × List Value → Shared → Prop} (h : Q (.builtin "str.encode", [.str x t]) sh) : wpAny (model prog w) A (getMethod (.str x t) "encode" pl) Q E sh := by
  with_reducible exact PySem.GM.of (.str x t) (typeIs_str _ _ _) F.slot_str_encode F.type_str_encode PySem.GM.noRef h
theorem enc_road (id : String) (self : Value) (x : Str) : encodeRoad id self x (Str.ofString "ascii") none = (do mkBytes (← encodeNarrow id asciiCodec none self x)) := by
  first | rfl | (unfold encodeRoad; rfl) | (unfold encodeRoad; simp only []; rfl)
theorem encode_tree2 (x : Str) (t u : Tok) : Builtin.«str.encode» ⟨[.str x t, .str (Str.ofString "ascii") u], []⟩ = (do ret (← encodeRoad "str.encode" (.str x t) x (Str.ofString "ascii") none)) := by first | rfl | kernel_rfl
theorem call_encode {s : Str} {t u : Tok} {Q : Value → Shared → Prop} (h : s.cps.all (· < 128) = true) (hs : s.length ≤ sizeLine) (hQ : ∀ tk, Q (.bytes (asciiBytes s) tk) { sh with toks := sh.toks + 1 }) :
    wpAny (model prog w) A (call (.builtin "str.encode") [.str s t, .str (Str.ofString "ascii") u]) Q E sh := by
  refine wpAny_call_entry F.slot_str_encode (typeIs_str _ _ _) F.entry_str_encode ?_ (F.args_str_encode_2 _ _)
  rw [encode_tree2, enc_road]
  refine wpAny_bind (wpAny_bind (enc_ok h hs ?_))
  have hsz : (asciiBytes s).size ≤ sizeLine := by simpa [asciiBytes, PySem.Str.length] using hs
  unfold mkBytes
  rw [if_neg (by omega)]
  exact wpAny_bind (wpAny_fresh (wpAny_pure (wpAny_pure ⟨_, rfl, hQ _⟩)))
end
end Mine
end

section
open PySem PySem.W PyProof.Rows PySem.Spec PySem.Calls PySem.SeqAt
set_option Elab.async false
set_option maxRecDepth 100000
set_option maxHeartbeats 8000000
namespace Mine
local macro_rules | `(tactic| walk_at "pad 0") => `(tactic| skip)
local macro_rules | `(tactic| walk_at "pad 1") => `(tactic| skip)
local macro_rules | `(tactic| k_room) => `(tactic| ktr_room)
local macro_rules | `(tactic| k_units) => `(tactic| ktr_units)
local macro_rules | `(tactic| walk_at "my_stop") => `(tactic| with_reducible show wpAny _ _ (call (Value.builtin "str.encode") _) _ _ _)
local macro_rules | `(tactic| walk_at "my_steps") => `(tactic| repeat' ((fail_if_success walk_at "my_stop"); first | (k_unfold; (try dsimp only)) | (k_end; wrow_close) | walk1 | (dsimp only; walk1) | (leave1; walk_say "STEP leave1"; try dsimp only) | fail "no step"))

theorem sp_bytes {w : World} {lo : List Str} {mean : ExcName → Option Value} {mg mb : Str → Option Value} (x : Str) (tx : Tok) (ha : x.cps.all (· < 128) = true) (hs : x.length ≤ sizeLine) :
    Pure PySem.Challenge.rw_il0163_02.row.prog w (hd.heap_1 w.params) hdView lo mean mg mb 4 20 22 [.str x tx] (fun _ => True) (fun _ v _ => ∃ t, v = .bytes (asciiBytes x) t) := by
  w_top off
  k_fill
  intro A s Q E X T hh hd hu _ hQ
  obtain ⟨ah, ad, af, ag, au⟩ := A
  obtain rfl : ah = none := hh
  replace hd : ad + 4 < recursionLimit := hd
  replace hu : au + 20 < cLine := hu
  refine enter_raw (binds := [(Str.ofString "s", .str x tx)]) (f := 22) X T (fun _ _ q => q) (Nat.le_refl _) News.nil rfl rfl (by show ad < _; omega) (BindsTo.of_eq rfl) (locs rfl) (fun h₁ tk F N₁ hk₁ => ?_) rfl rfl rfl (by decide)
  generalize s.heap.objs.size = L at *
  (try k_unmd)
  k_fold
  walk_at "my_steps"
  refine gm_encode ?_
  walk_at "my_steps"
  refine call_encode ha hs (fun t => ?_)
  walk_at "my_steps"
  exact hQ _ _ _ F.keep ⟨_, rfl⟩
end Mine
end

section
open PySem PySem.W PyProof.Rows PySem.Spec PySem.Calls PySem.SeqAt
set_option Elab.async false
set_option maxRecDepth 100000
set_option maxHeartbeats 8000000
namespace Mine
local macro_rules | `(tactic| k_room) => `(tactic| ktr_room)
local macro_rules | `(tactic| k_units) => `(tactic| ktr_units)

/-- what the sieve leaves -/
def sieve (e : Value → Value → Bool) (skip : Array Value) (vs : List Value) : List Value := vs.filter fun v => !(skip.any fun y => e y v)

theorem sieve_end {e : Value → Value → Bool} {skip items : Array Value} {i : Nat} (h : ∀ k v', i ≤ k → items[k]? = some v' → skip.any (fun y => e y v') = true) : sieve e skip (items.toList.drop i) = [] := by
  unfold sieve
  rw [List.filter_eq_nil_iff]
  intro v hv
  obtain ⟨k, hk, rfl⟩ := List.mem_iff_getElem.mp hv
  have hk' : i + k < items.size := by simp only [List.length_drop, Array.length_toList] at hk; omega
  have := h (i + k) items[i + k] (by omega) (Array.getElem?_eq_getElem hk')
  simp only [List.getElem_drop, Array.getElem_toList, this, Bool.not_true, Bool.false_eq_true, not_false_eq_true]

theorem sieve_found {e : Value → Value → Bool} {skip items : Array Value} {v : Value} : ∀ {d i j : Nat}, j - i = d → i ≤ j → items[j]? = some v → skip.any (fun y => e y v) = false →
    (∀ k v', i ≤ k → k < j → items[k]? = some v' → skip.any (fun y => e y v') = true) → sieve e skip (items.toList.drop i) = v :: sieve e skip (items.toList.drop (j + 1))
  | 0, i, j, hd, hij, hv, hn, _ => by
    obtain rfl : i = j := by omega
    obtain ⟨hlt, rfl⟩ := Array.getElem?_eq_some_iff.mp hv
    rw [List.drop_eq_getElem_cons (by simpa using hlt)]
    unfold sieve
    rw [List.filter_cons, Array.getElem_toList, if_pos (by rw [hn]; rfl)]
  | d + 1, i, j, hd, hij, hv, hn, hs => by
    have hij' : i < j := by omega
    obtain ⟨hlt, rfl⟩ := Array.getElem?_eq_some_iff.mp hv
    have hi : i < items.size := by omega
    rw [← sieve_found (d := d) (i := i + 1) (by omega) (by omega) hv hn (fun k v' h1 h2 h3 => hs k v' (by omega) h2 h3)]
    rw [List.drop_eq_getElem_cons (by simpa using hi)]
    unfold sieve
    rw [List.filter_cons, Array.getElem_toList, if_neg (by rw [hs i items[i] (Nat.le_refl _) hij' (Array.getElem?_eq_getElem hi)]; decide)]

theorem iter_spec {w : World} {lo : List Str} {mean : ExcName → Option Value} {mg mb : Str → Option Value} {A : Around} {s : Shared} {B : Heap} {x : Addr} {ox : Obj} {Q E : Value → Shared → Prop}
    (XB : (hd.heap_1 w.params).In B) (TB : Top hdView lo mean mg mb B)
    (hB : B.StaysIn s.heap) (hsz : B.objs.size ≤ s.heap.objs.size) (N : News B s.heap.objs.size s.heap [(x, ox)]) (hdp : A.depth + 4 < recursionLimit)
    (hQ : ∀ h' tk', (∀ b o, s.heap.get? b = some o → h'.get? b = some o) → s.heap.objs.size < h'.objs.size → Q (.ref x) { s with heap := h', toks := tk' }) :
    wpAny (model PySem.Challenge.rw_il0163_02.row.prog w) A (call (.ref 44) [.ref x]) Q E s := by
  revert XB
  w_top off
  k_fill
  intro XB
  refine enter_raw (binds := [(Str.ofString "self", .ref x)]) (f := 44) XB TB hB hsz N rfl rfl (by omega) (BindsTo.of_eq rfl) (locs rfl) (fun h₁ tk F N₁ hk₁ => ?_) rfl rfl rfl (by decide)
  clear N
  generalize s.heap.objs.size = L at *
  (try k_unmd)
  k_fold
  k_steps
  exact hQ _ _ hk₁ (fr_lt F)

theorem below_in1 {A : Around} {base B : Heap} {l : List Env} (K : Below A base l B) : Below A.in1 base l B := ⟨K.stack, K.stays, K.frames⟩
theorem fr_grow {h₀ h h' : Heap} {L : Addr} {m : Str → Option Value} (F : Fr h₀ L h m) (k : h.StaysIn h') : Fr h₀ L h' m := ⟨F.ns.keeps k, fun b o e => k b o (F.keep b o e), F.above⟩

/-- what is there when the list of what the own iterator gives is made -/
structure ListMade (B : Heap) (l : List Env) (S : Addr) (vs : List Value) (news : List (Addr × Obj)) (h' : Heap) : Prop where
  list : ∃ c, h'.get? S = some (lstObj vs.toArray c)
  news : ∀ p ∈ news, h'.get? p.1 = some p.2
  same : ∀ b o, B.get? b = some o → b ∉ l.filterMap (·.frame) → h'.get? b = some o
  frames : B.UpToSlots h'

theorem ext_loop {w : World} {lo : List Str} {mean : ExcName → Option Value} {mg mb : Str → Option Value} {A : Around} {l : List Env} {base B : Heap} {x dx q it fl sk S Lf : Addr} {mf : Str → Option Value} {items skip : Array Value} {n1 n2 : Nat} {rest : List (Addr × Obj)} {R : Result → Shared → Prop} (e : Value → Value → Bool)
    (XB : (hd.heap_1 w.params).In base) (TB : Top hdView lo mean mg mb base) (Bw : Below A base l B) (Fb : Fr base Lf B mf)
    (nr : ∀ p ∈ rest, p.1 ≠ it) (nS : ∀ p ∈ rest, p.1 ≠ S) (nd : it ∉ [x, dx, q, fl, sk]) (nSd : S ∉ [it, x, dx, q, fl, sk])
    (hh : A.handled = none) (hdp : A.depth + 4 < recursionLimit) (hun : A.units + 50 < cLine) (hsz' : items.size ≤ sizeLine)
    (he : ∀ y, y ∈ skip → ∀ z, z ∈ items → ∀ A s, EqAt A s y z (e y z)) :
    ∀ (k i : Nat) (s : Shared) (acc : Array Value) (c : Nat), items.size - i = k → i ≤ items.size → acc.size ≤ i → B.StaysIn s.heap → B.objs.size ≤ s.heap.objs.size →
      News B s.heap.objs.size s.heap (ffNews 55 x dx q it fl sk items skip n1 n2 ((S, lstObj acc c) :: rest) i) →
      (∀ h' tk', ListMade B l S (acc.toList ++ sieve e skip (items.toList.drop i)) ((x, ffObj 55 dx it q) :: (dx, dictOf [] 0) :: (q, mwObj sk) :: (fl, lstObj items n1) :: (sk, lstObj skip n2) :: rest) h' → R (.ok (.ret .none)) { s with heap := h', toks := tk' }) →
      codeAny (model PySem.Challenge.rw_il0163_02.row.prog w) A (.builtin "list.extend.loop" ⟨[.ref S, .ref x, .none], []⟩) R s := by
  intro k
  induction k using Nat.strongRecOn with
  | ind k ih =>
  intro i s acc c hk hi hac hB hsz N hR
  have XB' := XB.keeps Bw.stays
  have TB' := TB.keeps Bw.stays
  refine codeAny_builtin F.entry_extend_loop ?_
  rw [Around.under_plainId F.plain_extend_loop _]
  show wpAny _ A.in1 (pyNext (.ref x) >>= _) _ _ s
  have I : InstAt s.heap x (ffObj 55 dx it q) 55 (some (dictOf [] 0)) := ⟨(N (x, ffObj 55 dx it q) (.tail _ (.head _))).1, rfl, rfl, (N (dx, dictOf [] 0) (.tail _ (.tail _ (.head _)))).1⟩
  refine wpAny_bind (owit_next (f := 51) (fr_grow Fb hB) XB I rfl rfl ?_)
  refine next_spec (rest := (S, lstObj acc c) :: rest) e XB' TB' (below_in1 Bw) hB hsz N (fun p hp => ?_) nd hi hh hdp (by show A.units + 1 + 40 < cLine; omega) he (fun j v h' tk' hij hv hn hs hB' hlt hnews => ?_) (fun ex h' tk' hs hend => ?_)
  · rcases List.mem_cons.mp hp with rfl | hp
    · intro hq; exact nSd (hq ▸ List.Mem.head _)
    · exact nr p hp
  · have hS : h'.get? S = some (lstObj acc c) := hnews (S, lstObj acc c) (by simp)
    show wpAny _ A.in1 (updateSeq S (·.push v) >>= _) _ _ _
    have hjlt : j < items.size := (Array.getElem?_eq_some_iff.mp hv).1
    refine wpAny_bind (wpAny_updateSeq hS rfl (wpAny_pure ⟨plainId_quiet F.plain_extend_loop _, ?_⟩) (by omega) (by show (acc.push v).size ≤ sizeLine + 1; rw [Array.size_push]; omega))
    refine ih (items.size - (j + 1)) (by omega) (j + 1) _ (acc.push v) (c + 1) rfl (by omega) (by rw [Array.size_push]; omega) ?_ ?_ ?_ ?_
    · intro b o hb
      have hbS : S ≠ b := fun hq => by subst hq; rw [(N (S, lstObj acc c) (by simp)).2.2] at hb; cases hb
      exact (Heap.get?_update_other _ _ hbS).trans (hB' b o hb)
    · show B.objs.size ≤ (h'.update S _).objs.size
      rw [Heap.size_after_update]; omega
    · intro p hp
      have hpS : p = (S, lstObj (acc.push v) (c + 1)) ∨ (p ∈ ffNews 55 x dx q it fl sk items skip n1 n2 rest (j + 1) ∧ p.1 ≠ S) := by
        simp only [ffNews, List.mem_cons, List.not_mem_nil] at hp nSd ⊢
        rcases hp with rfl | rfl | rfl | rfl | rfl | rfl | rfl | hp
        all_goals first
          | exact .inl rfl
          | exact .inr ⟨by simp, fun hq => nSd (by simp only at hq; subst hq; simp)⟩
          | exact .inr ⟨by simp [hp], nS p hp⟩
      rcases hpS with rfl | ⟨hp', hpS⟩
      · have h0 := N (S, lstObj acc c) (by simp)
        have hu : (h'.update S (Obj.mapSeq (·.push v))).get? S = some (lstObj (acc.push v) (c + 1)) := (Heap.get?_update_self _ hS rfl).trans (by simp [Obj.mapSeq])
        exact ⟨hu, Nat.ne_of_lt (Heap.lt_size hu), h0.2.2⟩
      · have hin : p ∈ ffNews 55 x dx q it fl sk items skip n1 n2 ((S, lstObj acc c) :: rest) (j + 1) := by
          simp only [ffNews, List.mem_cons] at hp' ⊢
          rcases hp' with h | h | h | h | h | h | h <;> simp [h]
        have hu := (Heap.get?_update_other h' (Obj.mapSeq (·.push v)) (Ne.symm hpS)).trans (hnews p hin)
        refine ⟨hu, Nat.ne_of_lt (Heap.lt_size hu), ?_⟩
        have : ∃ o, (p.1, o) ∈ ffNews 55 x dx q it fl sk items skip n1 n2 ((S, lstObj acc c) :: rest) i := by
          simp only [ffNews, List.mem_cons] at hp' ⊢
          rcases hp' with h | h | h | h | h | h | h
          · exact ⟨iterObj fl i, .inl (by rw [h])⟩
          all_goals exact ⟨p.2, by simp [h]⟩
        obtain ⟨o, ho⟩ := this
        exact (N (p.1, o) ho).2.2
    · intro h'' tk'' hm
      refine hR h'' tk'' ⟨?_, hm.news, hm.same, hm.frames⟩
      rw [sieve_found rfl hij hv hn hs]
      simpa using hm.list
  · obtain ⟨o, ho, hc⟩ := hend.exc
    unfold OwitStop
    refine wpAny_isInstance (T := "StopIteration") (b := true) ⟨o, ho, hc⟩ isSubtype_stop ?_
    rw [if_pos rfl]
    refine wpAny_pure (hR h' tk' ⟨?_, ?_, hend.same, hend.frames⟩)
    · rw [sieve_end hs, List.append_nil]
      exact ⟨c, hend.news (S, lstObj acc c) (by simp)⟩
    · intro p hp
      refine hend.news p ?_
      simp only [List.mem_cons] at hp ⊢
      rcases hp with h | h | h | h | h | h <;> simp [h]

theorem list_own {w : World} {lo : List Str} {mean : ExcName → Option Value} {mg mb : Str → Option Value} {A : Around} {E : Value → Shared → Prop} {s : Shared} {l : List Env} {base B : Heap} {x dx q it fl sk Lf : Addr} {mf : Str → Option Value} {items skip : Array Value} {n1 n2 : Nat} {Q : Value → Shared → Prop} (e : Value → Value → Bool)
    (XB : (hd.heap_1 w.params).In base) (TB : Top hdView lo mean mg mb base) (Bw : Below A base l B) (Fb : Fr base Lf B mf)
    (nd : it ∉ [x, dx, q, fl, sk]) (hB : B.StaysIn s.heap) (hsz : B.objs.size ≤ s.heap.objs.size) (N : News B s.heap.objs.size s.heap (ffNews 55 x dx q it fl sk items skip n1 n2 [] 0))
    (hh : A.handled = none) (hdp : A.depth + 4 < recursionLimit) (hun : A.units + 60 < cLine) (hsz' : items.size ≤ sizeLine)
    (he : ∀ y, y ∈ skip → ∀ z, z ∈ items → ∀ A s, EqAt A s y z (e y z))
    (hQ : ∀ S h' tk', s.heap.get? S = none → ListMade B l S (sieve e skip items.toList) ((x, ffObj 55 dx it q) :: (dx, dictOf [] 0) :: (q, mwObj sk) :: (fl, lstObj items n1) :: (sk, lstObj skip n2) :: []) h' → Q (.ref S) { s with heap := h', toks := tk' }) :
    wpAny (model PySem.Challenge.rw_il0163_02.row.prog w) A (call (.type "list") [.ref x]) Q E s := by
  have XB' := XB.keeps Bw.stays
  have TB' := TB.keeps Bw.stays
  refine callType_codes (Q₁ := fun obj s₁ => obj = .ref s.heap.objs.size ∧ s₁ = { s with heap := s.heap.push { cls := .type "list", data := .seq #[] } }) F.called_list (F.typeCall_list_1 _) F.entry_list_init
    (code_list_new _ ⟨rfl, rfl⟩) fun obj s₁ h₁ => ?_
  obtain ⟨rfl, rfl⟩ := h₁
  have hS : (s.heap.push { cls := .type "list", data := .seq #[] }).get? s.heap.objs.size = some { cls := .type "list", data := .seq #[] } := Heap.get?_push_size _ rfl
  refine ⟨⟨_, hS, rfl⟩, F.args_list_init_2 _ _, ?_⟩
  generalize hSe : s.heap.objs.size = S at *
  have hSn : s.heap.get? S = none := Heap.get?_none_of_le (Nat.le_of_eq hSe)
  show wpAny _ _ (do let old ← Builtin.List.listItems (.ref S); Builtin.List.listUpdate (.ref S) (fun _ => #[]); letGo old.toList.reverse; Builtin.List.listExtendWith (.ref S) (.ref x) .none) _ _ _
  refine wpAny_bind ?_
  unfold Builtin.List.listItems
  refine wpAny_bind (wpAny_seqItems hS rfl (wpAny_pure ?_))
  show wpAny _ _ (updateSeq S (fun _ => #[]) >>= fun _ => letGo (#[] : Array Value).toList.reverse >>= fun _ => Builtin.List.listExtendWith (.ref S) (.ref x) .none) _ _ _
  refine wpAny_bind (wpAny_updateSeq hS rfl ?_)
  refine wpAny_bind (wpAny_letGo ?_)
  dsimp only
  have hk₁ : s.heap.StaysIn ((s.heap.push { cls := .type "list", data := .seq #[] }).update S (Obj.mapSeq fun _ => #[])) := fun b o hb =>
    (Heap.get?_update_other _ _ (fun hq : S = b => by subst hq; rw [hSn] at hb; cases hb)).trans (Heap.get?_push_of_some _ hb)
  have hS₁ : ((s.heap.push { cls := .type "list", data := .seq #[] }).update S (Obj.mapSeq fun _ => #[])).get? S = some (lstObj #[] 0) := Heap.get?_update_self _ hS rfl
  generalize ((s.heap.push { cls := .type "list", data := .seq #[] }).update S (Obj.mapSeq fun _ => #[])) = h₁ at hk₁ hS₁ ⊢
  have hB₁ : B.StaysIn h₁ := fun b o hb => hk₁ b o (hB b o hb)
  have F₁ : Fr base Lf h₁ mf := fr_grow Fb hB₁
  have I : InstAt h₁ x (ffObj 55 dx it q) 55 (some (dictOf [] 0)) := ⟨hk₁ _ _ (N (x, ffObj 55 dx it q) (.tail _ (.head _))).1, rfl, rfl, hk₁ _ _ (N (dx, dictOf [] 0) (.tail _ (.tail _ (.head _)))).1⟩
  have hSx : S ≠ x := fun hq => (N (x, ffObj 55 dx it q) (.tail _ (.head _))).2.1 hq.symm
  unfold Builtin.List.listExtendWith
  refine wpAny_bind (I.type.here ?_)
  have c1 : Builtin.List.listSameRef (.ref S) (.ref x) = false := by simp [Builtin.List.listSameRef, hSx]
  have c2 : (Value.ref 55 == Value.type "list") = false := by decide
  have c3 : (Value.ref 55 == Value.type "tuple") = false := by decide
  simp only [c1, c2, c3, Bool.or_false, Bool.false_eq_true, if_false]
  have hlt₁ : S < h₁.objs.size := Heap.lt_size hS₁
  refine wpAny_bind (owit_iter (f := 44) F₁ XB I rfl rfl ?_)
  have hszB : B.objs.size ≤ h₁.objs.size := Nat.le_trans hsz (Nat.le_of_lt hlt₁)
  refine iter_spec (B := B) XB' TB' hB₁ hszB (fun p hp => ?_) (by show A.depth + 4 < recursionLimit; omega) (fun h₂ tk₂ hk₂ hlt₂ => ?_) (ox := ffObj 55 dx it q)
  · rw [List.mem_singleton.mp hp]
    have := N (x, ffObj 55 dx it q) (.tail _ (.head _))
    exact ⟨I.at_, Nat.ne_of_lt (Heap.lt_size I.at_), this.2.2⟩
  have hB₂ : B.StaysIn h₂ := fun b o hb => hk₂ b o (hB₁ b o hb)
  have F₂ : Fr base Lf h₂ mf := fr_grow Fb hB₂
  have I₂ : InstAt h₂ x (ffObj 55 dx it q) 55 (some (dictOf [] 0)) := ⟨hk₂ _ _ I.at_, rfl, rfl, hk₂ _ _ I.dict⟩
  have X₂ := XB.keeps F₂.keep
  refine owit_it F₂ XB I₂ (g := .ref 51) rfl ?_
  refine wpAny_bind (wpAny_holding ?_)
  unfold Builtin.List.listLengthHint
  refine wpAny_bind (wpAny_bind (I₂.type.here ((looks_findIn X₂ (r := none) rfl).here ?_)))
  show wpAny _ _ (specialOf (Value.ref x) (Str.ofString "__length_hint__") >>= _) _ _ _
  refine wpAny_bind (wpAny_bind (I₂.type.here ((looks_findIn X₂ (r := none) rfl).here ?_)))
  refine wpAny_pure ?_
  show wpAny _ _ (rule "list.extend.makes-room" >>= fun _ => Builtin.List.listTouch (.ref S) >>= fun _ =>
    again (.builtin "list.extend.loop" ⟨[.ref S, .ref x, .none], []⟩)) _ _ _
  refine wpAny_bind (wpAny_rule ?_)
  refine wpAny_bind ?_
  have hS₂ : h₂.get? S = some (lstObj #[] 0) := hk₂ _ _ hS₁
  show wpAny _ _ (updateSeq S (·.push .none) >>= fun _ => updateSeq S (·.pop)) _ _ _
  refine wpAny_bind (wpAny_updateSeq hS₂ rfl ?_)
  have hS₃ := Heap.get?_update_self (Obj.mapSeq (·.push Value.none)) hS₂ rfl
  refine wpAny_updateSeq (hz := by seq_fits) hS₃ rfl ?_
  have hS₄ : ((h₂.update S (Obj.mapSeq (·.push Value.none))).update S (Obj.mapSeq (·.pop))).get? S = some (lstObj #[] 2) := (Heap.get?_update_self (Obj.mapSeq (·.pop)) hS₃ rfl).trans (by simp [Obj.mapSeq])
  have hk₄ : ∀ b o, b ≠ S → h₂.get? b = some o → ((h₂.update S (Obj.mapSeq (·.push Value.none))).update S (Obj.mapSeq (·.pop))).get? b = some o :=
    fun b o hb q => (Heap.get?_update_other _ _ (Ne.symm hb)).trans ((Heap.get?_update_other _ _ (Ne.symm hb)).trans q)
  have hz₄ : ((h₂.update S (Obj.mapSeq (·.push Value.none))).update S (Obj.mapSeq (·.pop))).objs.size = h₂.objs.size := by rw [Heap.size_after_update, Heap.size_after_update]
  generalize ((h₂.update S (Obj.mapSeq (·.push Value.none))).update S (Obj.mapSeq (·.pop))) = h₄ at hS₄ hk₄ hz₄ ⊢
  have nB : ∀ b o, s.heap.get? b = some o → b ≠ S := fun b o q hq => by subst hq; rw [hSn] at q; cases q
  have nS : B.get? S = none := by
    cases q : B.get? S with
    | none => rfl
    | some o => have := hB _ _ q; rw [hSn] at this; cases this
  have hk : ∀ b o, s.heap.get? b = some o → h₄.get? b = some o := fun b o q => hk₄ b o (nB b o q) (hk₂ _ _ (hk₁ _ _ q))
  refine wpAny_pure ⟨plainId_quiet F.plain_extend_loop _, ext_loop (rest := []) (S := S) (n1 := n1) (n2 := n2) (fl := fl) (sk := sk) (dx := dx) (it := it) (q := q) e XB TB (below_in1 Bw) Fb (fun _ h => nomatch h) (fun _ h => nomatch h) nd ?_ hh hdp (by show A.units + 1 + 50 < cLine; omega) hsz' he items.size 0 _ #[] 2 rfl (Nat.zero_le _) (Nat.le_refl _) (fun b o hb => hk _ _ (hB b o hb)) ?_ ?_ fun h' tk' hm => ?_⟩
  · intro hm
    simp only [List.mem_cons, List.not_mem_nil, or_false] at hm
    rcases hm with hm | hm | hm | hm | hm | hm
    · exact (N (it, iterObj fl 0) (by simp)).2.1 hm.symm
    · exact (N (x, ffObj 55 dx it q) (by simp)).2.1 hm.symm
    · exact (N (dx, dictOf [] 0) (by simp)).2.1 hm.symm
    · exact (N (q, mwObj sk) (by simp)).2.1 hm.symm
    · exact (N (fl, lstObj items n1) (by simp)).2.1 hm.symm
    · exact (N (sk, lstObj skip n2) (by simp)).2.1 hm.symm
  · show B.objs.size ≤ h₄.objs.size
    have hlt₃ : h₁.objs.size < h₂.objs.size := hlt₂
    omega
  · intro p hp
    have hin : p = (S, lstObj #[] 2) ∨ p ∈ ffNews 55 x dx q it fl sk items skip n1 n2 [] 0 := by
      simp only [ffNews, List.mem_cons, List.not_mem_nil, or_false] at hp ⊢
      rcases hp with h | h | h | h | h | h | h <;> simp [h]
    rcases hin with rfl | hin
    · exact ⟨hS₄, Nat.ne_of_lt (Heap.lt_size hS₄), nS⟩
    · have hp' := hk _ _ (N p hin).1
      exact ⟨hp', Nat.ne_of_lt (Heap.lt_size hp'), (N p hin).2.2⟩
  · exact ⟨rfl, hQ S h' _ hSn (by simpa using hm)⟩
end Mine
end

section
open PySem PySem.W PyProof.Rows PySem.Spec PySem.Calls PySem.SeqAt
set_option Elab.async false
set_option maxRecDepth 100000
set_option maxHeartbeats 8000000
namespace Mine
local macro_rules | `(tactic| walk_at "pad 0") => `(tactic| skip)
local macro_rules | `(tactic| k_room) => `(tactic| ktr_room)
local macro_rules | `(tactic| k_units) => `(tactic| ktr_units)
local macro_rules | `(tactic| walk_at "my_stop") => `(tactic| with_reducible show wpAny _ _ (call (Value.type "list") _) _ _ _)
local macro_rules | `(tactic| walk_at "my_steps") => `(tactic| repeat' ((fail_if_success walk_at "my_stop"); first | (k_unfold; (try dsimp only)) | (k_end; wrow_close) | walk1 | (dsimp only; walk1) | (leave1; walk_say "STEP leave1"; try dsimp only) | fail "no step"))
local macro_rules | `(tactic| walk_at "getAttr ref") => `(tactic| (k_here; (with_reducible show wpAny _ _ (getAttr (Value.ref _) (PySem.Str.ofString "__contains__") _) _ _ _); k_dflt (refine' k_contains ?F ?N ?m ?_; (case F => k_asm); (case N => k_asm); (case m => k_mem); k_whole); intro q' h' F' N' l1; (try k_lt l1); (try k_sweep)))
local macro_rules | `(tactic| walk_at "call builtin:iter") => `(tactic| (k_here; (with_reducible show wpAny _ _ (call (Value.builtin "iter") [Value.ref _]) _ _ _); k_dflt (refine' k_iter_list ?F ?N ?m ?_; (case F => k_asm); (case N => k_asm); (case m => k_mem); k_whole); intro q' h' F' N' l1; (try k_lt l1); (try k_sweep)))

theorem filter_end {w : World} {lo : List Str} {mean : ExcName → Option Value} {mg mb : Str → Option Value} {A : Around} {E : Value → Shared → Prop} {s : Shared} {l : List Env} {base B₀ : Heap} {name : Str} {scope : Scope} {cd : Value} {f L x dx q it fl sk : Addr} {m : Str → Option Value} {items skip : Array Value} {n1 n2 : Nat} {Q : Value → Shared → Prop} (e : Value → Value → Bool)
    (XB : (hd.heap_1 w.params).In base) (TB : Top hdView lo mean mg mb base)
    (Bw : Below A base l B₀) (hbs : base.objs.size ≤ B₀.objs.size) (hk : scope.kind = .function) (kF : Fr B₀ L s.heap m) (kN : News B₀ L s.heap (ffNews 55 x dx q it fl sk items skip n1 n2 [] 0)) (nd : it ∉ [x, dx, q, fl, sk])
    (hh : A.handled = none) (hdp : A.depth + 6 < recursionLimit) (hun : A.units + 80 < cLine) (hsz' : items.size ≤ sizeLine)
    (he : ∀ y, y ∈ skip → ∀ z, z ∈ items → ∀ A s, EqAt A s y z (e y z))
    (hQ : ∀ S h' tk' c, s.heap.get? S = none → h'.get? S = some (lstObj (sieve e skip items.toList).toArray c) → h'.get? fl = some (lstObj items n1) → h'.get? sk = some (lstObj skip n2) →
      (∀ b o, B₀.get? b = some o → b ∉ l.filterMap (·.frame) → h'.get? b = some o) → B₀.UpToSlots h' → Q (.ref S) { s with heap := h', toks := tk' }) :
    wpAny (model PySem.Challenge.rw_il0163_02.row.prog w) (A.deeper (envOf name scope L f cd)) (call (.type "list") [.ref x]) Q E s := by
  have B₁ := Bw.push (name := name) (scope := scope) (a := f) (cd := cd) kF hk
  have none_of : ∀ a ∈ [it, x, dx, q, fl, sk], B₀.get? a = none ∧ a ≠ L := fun a ha => by
    have : ∃ o, (a, o) ∈ ffNews 55 x dx q it fl sk items skip n1 n2 [] 0 := by
      simp only [List.mem_cons, List.not_mem_nil, or_false] at ha
      rcases ha with h | h | h | h | h | h
      · exact ⟨iterObj fl 0, by simp [h]⟩
      · exact ⟨ffObj 55 dx it q, by simp [h]⟩
      · exact ⟨dictOf [] 0, by simp [h]⟩
      · exact ⟨mwObj sk, by simp [h]⟩
      · exact ⟨lstObj items n1, by simp [h]⟩
      · exact ⟨lstObj skip n2, by simp [h]⟩
    obtain ⟨o, ho⟩ := this
    exact ⟨(kN _ ho).2.2, (kN _ ho).2.1⟩
  have ofH : ∀ b o, B₀.get? b = some o → (hideAll s.heap [it, x, dx, q, fl, sk]).get? b = some o := fun b o hb => hideAll_get _ (kF.keep b o hb) fun hm => by rw [(none_of b hm).1] at hb; cases hb
  have hL : ∀ o, s.heap.get? L = some o → (hideAll s.heap [it, x, dx, q, fl, sk]).get? L = some o := fun o ho => hideAll_get _ ho fun hm => (none_of L hm).2 rfl
  refine list_own (B := hideAll s.heap [it, x, dx, q, fl, sk]) (Lf := L) (mf := m) (l := envOf name scope L f cd :: l) (base := base) (n1 := n1) (n2 := n2) (it := it) (dx := dx) (q := q) (fl := fl) (sk := sk) e XB TB ⟨B₁.stack, fun b o hb => ofH b o (Bw.stays b o hb), ?_⟩ ?_ nd (fun b o hb => of_hideAll _ hb) (Nat.le_of_eq (hideAll_size _ _)) (fun p hp => ?_) hh (by show A.depth + 1 + 4 < recursionLimit; omega) (by show A.units + 3 + 60 < cLine; omega) hsz' he (fun S h' tk' hS hm => ?_)
  · exact funFrames_hideAll B₁.frames fun env he a ha hf => by
      rcases List.mem_cons.mp he with rfl | he
      · exact (none_of a ha).2 (Option.some.inj hf).symm
      · obtain ⟨_, o, ho, _⟩ := Bw.frames.mem (List.mem_filterMap.mpr ⟨env, he, hf⟩)
        rw [(none_of a ha).1] at ho; cases ho
  · obtain ⟨oL, es, ep, h1, h2, h3, h4⟩ := kF.ns
    exact ⟨⟨oL, es, ep, hL _ h1, h2, h3, h4⟩, fun b o hb => ofH b o (Bw.stays b o hb), Nat.le_trans hbs kF.above⟩
  · have hp' := kN p hp
    refine ⟨hp'.1, Nat.ne_of_lt (Heap.lt_size hp'.1), hideAll_none _ ?_⟩
    simp only [ffNews, List.mem_cons, List.not_mem_nil, or_false] at hp ⊢
    rcases hp with h | h | h | h | h | h <;> simp [h]
  · obtain ⟨c, hc⟩ := hm.list
    have hLB : B₀.get? L = none := kts_self kF
    refine hQ S h' tk' c hS hc (hm.news (fl, lstObj items n1) (by simp)) (hm.news (sk, lstObj skip n2) (by simp)) (fun b o hb hn => hm.same b o (ofH b o hb) fun hmm => ?_) fun b o hb hn => hm.frames b o (ofH b o hb) hn
    rcases kts_mem hmm with z | z
    · subst z; rw [hLB] at hb; cases hb
    · exact hn z

theorem filter_raw {w : World} {lo : List Str} {mean : ExcName → Option Value} {mg mb : Str → Option Value} {dp un : Nat} {gd : Option (List Code)} {E : Value → Shared → Prop} {s : Shared} {l : List Env} {base : Heap} {fl sk : Addr} {items skip : Array Value} {n1 n2 : Nat} {Q : Value → Shared → Prop} (e : Value → Value → Bool)
    (XB : (hd.heap_1 w.params).In base) (TB : Top hdView lo mean mg mb base)
    (hst : base.StaysIn s.heap) (hbs : base.objs.size ≤ s.heap.objs.size) (hfr : s.heap.FunFrames base l) (hfl : s.heap.get? fl = some (lstObj items n1)) (hsk : s.heap.get? sk = some (lstObj skip n2)) (bfl : base.get? fl = none) (bsk : base.get? sk = none)
    (ffl : fl ∉ l.filterMap (·.frame)) (fsk : sk ∉ l.filterMap (·.frame))
    (hdp : dp + 12 < recursionLimit) (hun : un + 120 < cLine) (hsz' : items.size ≤ sizeLine)
    (he : ∀ y, y ∈ skip → ∀ z, z ∈ items → ∀ A s, EqAt A s y z (e y z))
    (hQ : ∀ S h' tk' c, s.heap.get? S = none → h'.get? S = some (lstObj (sieve e skip items.toList).toArray c) → (∀ b o, s.heap.get? b = some o → b ∉ l.filterMap (·.frame) → h'.get? b = some o) → s.heap.UpToSlots h' → Q (.ref S) { s with heap := h', toks := tk' }) :
    wpAny (model PySem.Challenge.rw_il0163_02.row.prog w) { handled := none, depth := dp, frames := some l, guards := gd, units := un } (call (.ref 66) [.ref fl, .ref sk]) Q E s := by
  revert XB
  w_top off
  k_fill
  intro XB
  have hst₀ : base.StaysIn (hideAll s.heap [fl, sk]) := fun b o q => hideAll_get _ (hst b o q) fun hm => by
    simp only [List.mem_cons, List.not_mem_nil, or_false] at hm
    rcases hm with rfl | rfl
    · rw [bfl] at q; cases q
    · rw [bsk] at q; cases q
  have Bw : Below { handled := none, depth := dp, frames := some l, guards := gd, units := un } base l (hideAll s.heap [fl, sk]) := ⟨rfl, hst₀, funFrames_hideAll hfr fun env he a ha hf => by
    have hm : a ∈ l.filterMap (·.frame) := List.mem_filterMap.mpr ⟨env, he, hf⟩
    simp only [List.mem_cons, List.not_mem_nil, or_false] at ha
    rcases ha with rfl | rfl
    · exact ffl hm
    · exact fsk hm⟩
  have N : News (hideAll s.heap [fl, sk]) s.heap.objs.size s.heap [(fl, lstObj items n1), (sk, lstObj skip n2)] := fun p hp => by
    simp only [List.mem_cons, List.not_mem_nil, or_false] at hp
    rcases hp with rfl | rfl
    · exact ⟨hfl, Nat.ne_of_lt (Heap.lt_size hfl), hideAll_none _ (by simp)⟩
    · exact ⟨hsk, Nat.ne_of_lt (Heap.lt_size hsk), hideAll_none _ (by simp)⟩
  refine enter_raw (binds := [(Str.ofString "flist", .ref fl), (Str.ofString "skip", .ref sk)]) (f := 66) (XB.keeps hst₀) (TB.keeps hst₀) (fun b o q => of_hideAll _ q) (Nat.le_of_eq (hideAll_size _ _)) N rfl rfl (by show dp < _; omega) (BindsTo.of_eq rfl) (locs rfl) (fun h₁ tk F N₁ hk₁ => ?_) rfl rfl rfl (by decide)
  have XB₀ := XB.keeps hst₀
  have TB₀ := TB.keeps hst₀
  have ofB : ∀ b o, (hideAll s.heap [fl, sk]).get? b = some o → s.heap.get? b = some o := fun b o q => of_hideAll _ q
  have toB : ∀ b o, s.heap.get? b = some o → b ∉ [fl, sk] → (hideAll s.heap [fl, sk]).get? b = some o := fun b o q h => hideAll_get _ q h
  have hbs₀ : base.objs.size ≤ (hideAll s.heap [fl, sk]).objs.size := by rw [hideAll_size]; exact hbs
  clear N hbs
  generalize (hideAll s.heap [fl, sk]) = B₀ at *
  generalize s.heap.objs.size = L at *
  have hdp' := hdp
  have hun' := hun
  (try k_unmd)
  k_fold
  walk_at "my_steps"
  refine filter_end e XB TB Bw hbs₀ rfl (by assumption) (by assumption) ?_ rfl (by show dp + 6 < _; omega) (by show un + 80 < _; omega) hsz' he (fun S h' tk' c h1 h2 h3 h4 h5 h6 => ?_)
  · simp only [List.mem_cons, List.not_mem_nil, or_false, not_or]
    exact ⟨neN (by omega), neN (by omega), neN (by omega), neN (by omega), neN (by omega)⟩
  · rename Fr B₀ L _ _ => kF
    rename News B₀ L _ _ => kN
    have back : ∀ b o, s.heap.get? b = some o → b ∉ l.filterMap (·.frame) → h'.get? b = some o := fun b o hb hn => by
      by_cases hm : b ∈ [fl, sk]
      · simp only [List.mem_cons, List.not_mem_nil, or_false] at hm
        rcases hm with rfl | rfl
        · rw [hfl] at hb; cases hb; exact h3
        · rw [hsk] at hb; cases hb; exact h4
      · exact h5 b o (toB b o hb hm) hn
    refine hQ S h' _ c ?_ h2 back fun b o hb hn => ?_
    · cases q : s.heap.get? S with
      | none => rfl
      | some o =>
        exfalso
        by_cases hm : S ∈ [fl, sk]
        · simp only [List.mem_cons, List.not_mem_nil, or_false] at hm
          rcases hm with rfl | rfl
          · have := (kN (S, lstObj items n1) (by simp)).1; rw [h1] at this; cases this
          · have := (kN (S, lstObj skip n2) (by simp)).1; rw [h1] at this; cases this
        · have := kF.keep _ _ (toB S o q hm); rw [h1] at this; cases this
    · by_cases hm : b ∈ [fl, sk]
      · simp only [List.mem_cons, List.not_mem_nil, or_false] at hm
        rcases hm with rfl | rfl
        · rw [hfl] at hb; cases hb; exact ⟨_, h3⟩
        · rw [hsk] at hb; cases hb; exact ⟨_, h4⟩
      · exact h6 b o (toB b o hb hm) hn
end Mine
end

section
open PySem PySem.W PyProof.Rows PySem.Spec PySem.Calls PySem.SeqAt PyProof.Rows.LCg PyProof.Rows.LCt
set_option Elab.async false
set_option maxRecDepth 100000
set_option maxHeartbeats 4000000
namespace Mine

/-- a value whose walk leaves what stands and what is new alone -/
def Feeds (prog : Program) (w : World) (A : Around) (h₀ : Heap) (L : Addr) (m : Str → Option Value) (news : List (Addr × Obj)) (xv : Value) (s₁ : Shared) (n : Nat) (P : Nat → Value → Prop) : Prop :=
  ∀ (Q : Value → Shared → Prop) (E : Value → Shared → Prop), (∀ (I : Addr) (h₂ : Heap) (fp : List Addr) (St : Nat → Heap → Prop) (S : List (Addr × Obj) → Prop), Walks prog w A I fp [I] n P St → (∀ i h, St i h → ∃ o, h.get? I = some o) →
    (∀ i h h' o nw, St i h → h.get? I = some o → h'.get? I = some o → (∀ b o, h₀.get? b = some o → h'.get? b = some o) → News h₀ L h' nw → S nw → St i h') → St 0 h₂ → (∀ b ∈ fp, b < h₂.objs.size) → Fr h₀ L h₂ m → News h₀ L h₂ news →
    L ≠ I → h₀.get? I = none → (∀ p ∈ news, p.1 ≠ I) → S news → Q (.ref I) { s₁ with heap := h₂ }) → wpAny (model prog w) A (pyIter xv) Q E s₁

section
variable {prog : Program} {w : World} {A : Around} {E : Value → Shared → Prop} {s : Shared} {h₀ : Heap} {L : Addr} {m : Str → Option Value} {news : List (Addr × Obj)}

theorem feeds_list {ax : Addr} {its : Array Value} (hh : A.handled = none) (F : Fr h₀ L s.heap m) (N : News h₀ L s.heap news) (S : SrcAt h₀ ax its news) : Feeds prog w A h₀ L m news (.ref ax) s its.size (fun i v => its[i]? = some v) := by
  intro Q E k
  have hl := S.list F.keep N
  have hlt : ax < s.heap.objs.size := by obtain ⟨_, e, _⟩ := hl; exact Heap.lt_size e
  refine wpAny_pyIter_list hl ?_
  have up : ∀ b o, s.heap.get? b = some o → (s.heap.push { cls := .type "list_iterator", data := .fields #[.ref ax, .int 0 0] }).get? b = some o := fun b o e => Heap.get?_push_of_some _ e
  refine k _ _ _ _ (SrcAt h₀ ax its) (Walks.list hh s.heap.objs.size ax (Nat.ne_of_lt hlt) its) (fun i h st => by obtain ⟨o, e, _⟩ := st.1; exact ⟨o, e⟩) list_st ⟨⟨_, Heap.get?_push_size _ rfl, rfl, rfl⟩, hl.push _⟩ (fun b hb => ?_)
    (F.keeps up) (N.grown up) (Nat.ne_of_lt F.ns.lt) (next_is_new F) (fun p hp => Nat.ne_of_lt (Heap.lt_size (N p hp).1)) S
  rw [Heap.size_push]
  rcases List.mem_cons.mp hb with rfl | hb
  · exact Nat.lt_succ_self _
  · rw [List.mem_singleton.mp hb]; exact Nat.lt_succ_of_lt hlt

def SrcTu (h₀ : Heap) (ax : Addr) (its : Array Value) (news : List (Addr × Obj)) : Prop := h₀.IsTuple ax its ∨ ∃ o, (ax, o) ∈ news ∧ o.cls = .type "tuple" ∧ ∃ n, o.data = .seq its n
theorem feeds_lst {ax : Addr} {its : Array Value} {n k : Nat} (hh : A.handled = none) (F : Fr h₀ L s.heap m) (N : News h₀ L s.heap news) (hm : (ax, ({ cls := .type "list", data := .seq its n } : Obj)) ∈ news) (hk : its.size = k) : Feeds prog w A h₀ L m news (.ref ax) s k (fun i v => its[i]? = some v) :=
  hk ▸ feeds_list hh F N (.inr ⟨_, hm, rfl, _, rfl⟩)
theorem feeds_range {r : Addr} {a b : Int} {t u v : Tok} {n : Nat} (hh : A.handled = none) (F : Fr h₀ L s.heap m) (N : News h₀ L s.heap news) (hr : IsRange s.heap r a b 1 t u v) (hsm : Builtin.Range.small a b 1 = true) (hn : Builtin.Range.rangeSize a b 1 = ((n : Nat) : Int)) :
    Feeds prog w A h₀ L m news (.ref r) s n (fun i v => ∃ t, v = .int (a + (i : Int)) t) := by
  intro Q E k
  refine wpAny_pyIter_range hr hsm ?_
  refine k _ _ _ _ (fun _ => True) (range_walks hh a n) (fun i h st => ⟨_, st⟩) range_st (by show IsRangeIter _ _ _ _ _; rw [hn]; simpa using Heap.get?_push_size _ rfl) (fun b hb => ?_)
    (F.keeps fun _ _ e => Heap.get?_push_of_some _ e) (N.grown fun _ _ e => Heap.get?_push_of_some _ e) (Nat.ne_of_lt F.ns.lt) (next_is_new F) (fun p hp => Nat.ne_of_lt (Heap.lt_size (N p hp).1)) trivial
  rw [List.mem_singleton.mp hb, Heap.size_push]; exact Nat.lt_succ_self _

end

theorem intsAre_len : ∀ {vs : List Value} {ns : List Int}, IntsAre vs ns → vs.length = ns.length
  | [], [], .nil => rfl
  | _ :: _, _ :: _, .cons _ _ r => by simp [intsAre_len r]
theorem intsAre_get : ∀ {vs : List Value} {ns : List Int} {i : Nat} {v : Value}, IntsAre vs ns → vs.toArray[i]? = some v → ∃ a, ns[i]? = some a ∧ ∃ t, v = .int a t
  | _ :: _, _ :: _, 0, v, .cons x t r, h => ⟨x, rfl, t, by simpa using h.symm⟩
  | _ :: _, _ :: _, i + 1, v, .cons _ _ r, h => by
    obtain ⟨a, h1, h2⟩ := intsAre_get (i := i) r (by simpa using h)
    exact ⟨a, by simpa using h1, h2⟩
section
variable {prog : Program} {w : World} {A : Around} {E : Value → Shared → Prop} {s : Shared} {h₀ : Heap} {L : Addr} {m : Str → Option Value} {env : Env}

abbrev TurnHeap (h₀ : Heap) (L : Addr) (m : Str → Option Value) (news : List (Addr × Obj)) (x : Str) (v : Value) (I : Addr) (oI : Obj) (C : Addr) (oC : Obj) (D : Addr) (ys : List Value) (m₂ : Str → Option Value) (h : Heap) : Prop :=
  NsObj oC m₂ ∧ m₂ x = some v ∧ Fr h₀ L h m ∧ News h₀ L h ((I, oI) :: (C, oC) :: (D, lst ys) :: news) ∧ Off3 I C D news ∧ ((@Ne Nat I C) ∧ (@Ne Nat I D) ∧ (@Ne Nat C D))

/-- what a test or an element of a comprehension does at a value -/
def TestTurn (prog : Program) (w : World) (A : Around) (h₀ : Heap) (L : Addr) (m : Str → Option Value) (env : Env) (ct : Expr) (x : Str) (scope : Scope) (cl : List (Str × Addr)) (news : List (Addr × Obj)) (s : Shared) (v : Value) (b : Bool) : Prop :=
  ∀ (I : Addr) (oI : Obj) (C : Addr) (oC : Obj) (D : Addr) (ys : List Value) (m₂ : Str → Option Value) (h : Heap) (tk : Nat) (Q : Bool → Shared → Prop) (E : Value → Shared → Prop), TurnHeap h₀ L m news x v I oI C oC D ys m₂ h →
    (∀ h' tk', Fr h₀ L h' m → News h₀ L h' ((I, oI) :: (C, oC) :: (D, lst ys) :: news) → Q b { s with heap := h', toks := tk' }) →
    wpAny (model prog w) A (isTrue ct (compEnvC scope cl C env) (eval ct (compEnvC scope cl C env))) Q E { s with heap := h, toks := tk }
end
end Mine
end

section
open PySem PySem.W PyProof.Rows PySem.Spec PySem.Calls PySem.SeqAt
set_option Elab.async false
set_option maxRecDepth 100000
set_option maxHeartbeats 8000000
namespace Mine

/-- the first n places of a heap -/
def cut (h : Heap) (n : Nat) : Heap := ⟨h.objs.extract 0 n, h.life⟩
theorem cut_get {h : Heap} {n : Nat} {b : Addr} (hb : @LT.lt Nat _ b n) : (cut h n).get? b = h.get? b := by
  unfold cut Heap.get?
  have : (h.objs.extract 0 n)[b]? = h.objs[b]? := by
    rw [Array.getElem?_extract]
    simp only [Nat.sub_zero, Nat.zero_add]
    split
    · rfl
    · rename_i hn
      rw [Array.getElem?_eq_none]
      have : ¬ @LT.lt Nat _ b (min n h.objs.size) := hn
      have hb' : @LT.lt Nat _ b n := hb
      omega
  simp only [this]
theorem cut_size (h : Heap) (n : Nat) : (cut h n).objs.size ≤ n := by
  show (h.objs.extract 0 n).size ≤ n
  rw [Array.size_extract]; omega
theorem cut_of {h : Heap} {n : Nat} {b : Addr} {o : Obj} (e : (cut h n).get? b = some o) : h.get? b = some o := by
  have hb : @LT.lt Nat _ b n := Nat.lt_of_lt_of_le (Heap.lt_size e) (cut_size h n)
  rwa [cut_get hb] at e

/-- a ground for a frame above outer frames: the heap at its start, up to the frames' slots -/
structure Gnd (H₀ base : Heap) (l : List Env) (B : Heap) : Prop where
  st : base.StaysIn B
  fr : B.FunFrames base l
  old : ∀ b o, H₀.get? b = some o → b ∉ l.filterMap (·.frame) → B.get? b = some o
  up : H₀.UpToSlots B
theorem Gnd.here {H₀ base : Heap} {l : List Env} (st : base.StaysIn H₀) (fr : H₀.FunFrames base l) : Gnd H₀ base l H₀ := ⟨st, fr, fun _ _ e _ => e, .refl _⟩

def intE (y z : Value) : Bool := match y, z with
  | .int a _, .int b _ => a == b
  | _, _ => false
end Mine
end

section
open PySem PySem.W PyProof.Rows PySem.Spec PySem.Calls PySem.SeqAt
set_option Elab.async false
set_option maxRecDepth 100000
set_option maxHeartbeats 4000000
namespace Mine
theorem uee_new : ExcNewFacts "UnicodeEncodeError" "UnicodeEncodeError.__new__" where
  ends := by decide +kernel
  owner := by decide +kernel
  entry := entryFor_alias (id' := "BaseException.__new__") (by rw [fastTable_eq_tree]; kernel_rfl) (by first | rfl | decide +kernel) (by decide +kernel) (by rw [fastTable_eq_tree]; kernel_rfl)
  sub := by rw [isSubtype_type]; kernel_rfl
  notAttr := by rw [isSubtype_type]; kernel_rfl
  notName := by rw [isSubtype_type]; kernel_rfl
  made := by kernel_rfl
theorem uee_notType : (Value.type "UnicodeEncodeError" == Value.type "type") = false := by decide +kernel
theorem uee_canMake : ((Manifest.find? "UnicodeEncodeError").bind fun x => List.findSome? (fun t => (Manifest.find? t).bind fun b =>
    if b.noNew = true then some true else if (b.attrs.any fun x => x.fst == "__new__") = true then some false else none) x.mro).getD false = false := by kernel_rfl
theorem uee_noVector (args : Args) : checkTypeCall "UnicodeEncodeError" args = pure () := by kernel_rfl
theorem uee_mro : ∃ m, mroOf (.type "UnicodeEncodeError") = pure m ∧ m.isEmpty = false := ⟨[.type "UnicodeEncodeError", .type "UnicodeError", .type "ValueError", .type "Exception", .type "BaseException", .type "object"], by rw [mroOf_type]; kernel_rfl, rfl⟩
theorem uee_madeBy : Bind.madeBy (.type "UnicodeEncodeError") = pure (some "UnicodeEncodeError.__new__") := by kernel_rfl
theorem uee_quiet : "UnicodeEncodeError.__new__".startsWith "lifetime." = false := by decide +kernel
theorem uee_newOk (rest : List Value) : checkBuiltinCall "UnicodeEncodeError.__new__" ⟨.type "UnicodeEncodeError" :: rest, []⟩ = pure () := by kernel_rfl
theorem uee_init : Slot "UnicodeEncodeError" "__init__" "UnicodeEncodeError.__init__" :=
  .of (owner := "UnicodeEncodeError") (n := "__init__") (by rw [typeLookup_type, builtinLookup_eq_fast]; kernel_rfl) (by decide +kernel) (by decide +kernel) (by decide +kernel)
    (by first | exact .inl (by decide +kernel) | exact .inr (by decide +kernel)) (by rw [isSubtype_type]; kernel_rfl)
theorem uee_initEntry : entryFor table "UnicodeEncodeError.__init__" = some Builtin.«UnicodeEncodeError.__init__» := entryFor_of_tree (by kernel_rfl)
theorem uee_args (a b c d e f : Value) : argsOk "UnicodeEncodeError.__init__" ⟨[a, b, c, d, e, f], []⟩ := by unfold argsOk; kernel_rfl
theorem uee_called : TypeCalled "UnicodeEncodeError" "UnicodeEncodeError.__new__" "UnicodeEncodeError.__init__" :=
  ⟨by decide +kernel, by decide +kernel, ⟨.type "UnicodeEncodeError", [.type "UnicodeError", .type "ValueError", .type "Exception", .type "BaseException", .type "object"], by rw [mroOf_type]; kernel_rfl⟩, uee_madeBy, by decide +kernel, by rw [isSubtype_type]; kernel_rfl, uee_init⟩
theorem uee_typeCall (a : Args) : checkTypeCall "UnicodeEncodeError" a = pure () := by kernel_rfl
section
variable {prog : Program} {w : World} {A : Around} {E : Value → Shared → Prop} {s : Shared}
theorem code_uee_new (rest : List Value) {Q₁ : Value → Shared → Prop} (hr : rest.length ≤ sizeLine)
    (h : Q₁ (.ref (s.heap.objs.size + 1)) { s with heap := (s.heap.push { cls := .type "tuple", data := .seq rest.toArray }).push { cls := .type "UnicodeEncodeError", data := .fields #[.ref s.heap.objs.size, .none, .none, .none, .bool false, .none] } }) :
    codeAny (model prog w) A (.call (.builtin "UnicodeEncodeError.__new__") ⟨.type "UnicodeEncodeError" :: rest, []⟩) (wants Q₁ E) s := by
  obtain ⟨hp, g, d, tk, os⟩ := s
  refine codeAny_call_builtin_code (Code.quiet_builtin _ uee_quiet) (wpAny_of_eq (uee_newOk rest) ?_)
  exact codeAny_exc_new uee_new h hr
open Builtin.UnicodeEncodeError in
theorem set_members {e : Addr} {o : Obj} {vs : Array Value} {m : Members} {Q : Unit → Shared → Prop} {M : Model} (ho : s.heap.get? e = some o) (hd : o.data = .fields vs) (hz : vs.size ≤ 20)
    (k : ∀ h', Heap.SameBut e s.heap h' → h'.get? e = some { o with data := .fields (vs.extract 0 6 ++ #[m.encoding, m.object, rawInt m.start, rawInt m.stop, m.reason]) } → Q () { s with heap := h' }) : wpAny M A (setMembers (.ref e) m) Q E s := by
  show wpAny _ _ (updateFields e fun vs => vs.extract 0 6 ++ #[m.encoding, m.object, rawInt m.start, rawInt m.stop, m.reason]) _ _ _
  refine wpAny_updateFields ho hd (k _ (Heap.SameBut.update ..) ?_) ?_
  · rw [Heap.get?_update_self _ ho (Obj.isFreed_of_fields (Obj.data_mapFields hd _))]
    obtain ⟨c, d, dt, sl⟩ := o
    simp only at hd; subst hd; rfl
  · rw [Array.size_append, Array.size_extract, sizeLine_eq]
    simp only [List.size_toArray, List.length_cons, List.length_nil]
    omega
open Builtin.UnicodeEncodeError in
theorem get_members {e : Addr} {o : Obj} {vs : Array Value} {m : Members} {Q : Members → Shared → Prop} {M : Model} (ho : s.heap.get? e = some o) (hd : o.data = .fields vs)
    (hm : (vs.extract 6).toList = [] ∧ m = {} ∨ ∃ t1 t2, (vs.extract 6).toList = [m.encoding, m.object, .int m.start t1, .int m.stop t2, m.reason]) (k : Q m s) : wpAny M A (members (.ref e)) Q E s := by
  unfold members fieldsOf
  refine wpAny_bind (wpAny_bind (wpAny_load ho ?_))
  rw [hd]
  refine wpAny_pure ?_
  rcases hm with ⟨h, rfl⟩ | ⟨t1, t2, h⟩
  · rw [h]; exact wpAny_pure k
  · rw [h]; exact wpAny_pure k

open Builtin.UnicodeEncodeError in
theorem uee_init_ok {cd x rs : Str} {i j : Int} {t1 t2 t3 t4 t5 : Tok} {e t : Addr} {M : Model} {A' : Around} {Q : Fin → Shared → Prop} {E' : Value → Shared → Prop} (hi : 0 ≤ i ∧ i < 2 ^ 63) (hj : 0 ≤ j ∧ j < 2 ^ 63)
    (he : s.heap.get? e = some { cls := .type "UnicodeEncodeError", data := .fields #[.ref t, .none, .none, .none, .bool false, .none] })
    (hQ : ∀ h' t' vs, (∀ b o, b ≠ e → s.heap.get? b = some o → h'.get? b = some o) → h'.get? e = some { cls := .type "UnicodeEncodeError", data := .fields (#[.ref t', .none, .none, .none, .bool false, .none] ++ vs) } → s.heap.get? t' = none → Q (.done (.ret .none)) { s with heap := h' }) :
    wpAny M A' (Builtin.«UnicodeEncodeError.__init__» ⟨[.ref e, .str cd t1, .str x t2, .int i t3, .int j t4, .str rs t5], []⟩) Q E' s := by
  unfold Builtin.«UnicodeEncodeError.__init__» beginInit
  dsimp only
  refine wpAny_bind ?_
  show wpAny _ _ (field (.ref e) 0 >>= _) _ _ _
  refine wpAny_bind (wpAny_field he rfl (x := .ref t) rfl ?_)
  refine wpAny_bind ?_
  show wpAny _ _ (newTuple _) _ _ _
  unfold newTuple
  refine wpAny_newObj_type ?_ (by size_fits)
  have he' := Heap.get?_push_of_some { cls := .type "tuple", data := .seq [Value.str cd t1, .str x t2, .int i t3, .int j t4, .str rs t5].toArray } he
  have hne : s.heap.objs.size ≠ e := fun z => by have := Heap.lt_size he; rw [← z] at this; exact absurd this (Nat.lt_irrefl _)
  have hTn : s.heap.get? s.heap.objs.size = none := Heap.get?_none_of_le (Nat.le_refl _)
  refine wpAny_bind (wpAny_setField he' rfl (by simp) ?_)
  have g1 := Heap.get?_update_self (Obj.mapFields (·.setIfInBounds 0 (.ref s.heap.objs.size))) he' rfl
  have k1 : ∀ b o, b ≠ e → s.heap.get? b = some o → ((s.heap.push { cls := .type "tuple", data := .seq [Value.str cd t1, .str x t2, .int i t3, .int j t4, .str rs t5].toArray }).update e (Obj.mapFields (·.setIfInBounds 0 (.ref s.heap.objs.size)))).get? b = some o := fun b o hb q => (Heap.get?_update_other _ _ (Ne.symm hb)).trans (Heap.get?_push_of_some _ q)
  generalize ((s.heap.push { cls := .type "tuple", data := .seq [Value.str cd t1, .str x t2, .int i t3, .int j t4, .str rs t5].toArray }).update e (Obj.mapFields (·.setIfInBounds 0 (.ref s.heap.objs.size)))) = h1 at g1 k1 ⊢
  generalize s.heap.objs.size = T at *
  replace g1 : h1.get? e = some { cls := .type "UnicodeEncodeError", data := .fields #[.ref T, .none, .none, .none, .bool false, .none] } := g1
  refine wpAny_bind (wpAny_letGo ?_)
  rw [if_pos (by rfl)]
  refine wpAny_bind (get_members (m := {}) g1 rfl (.inl ⟨rfl, rfl⟩) ?_)
  refine wpAny_bind (set_members g1 rfl (by simp) (fun h2 s2 g2 => ?_))
  replace g2 : h2.get? e = some { cls := .type "UnicodeEncodeError", data := .fields #[.ref T, .none, .none, .none, .bool false, .none, unset, unset, rawInt 0, rawInt 0, unset] } := g2
  refine wpAny_bind (wpAny_letGo ?_)
  refine wpAny_bind (get_members (m := {}) g2 rfl (.inr ⟨0, 0, rfl⟩) ?_)
  refine wpAny_bind (set_members g2 rfl (by simp) (fun h3 s3 g3 => ?_))
  replace g3 : h3.get? e = some { cls := .type "UnicodeEncodeError", data := .fields #[.ref T, .none, .none, .none, .bool false, .none, unset, unset, rawInt 0, rawInt 0, unset] } := g3
  refine wpAny_bind (wpAny_letGo ?_)
  refine wpAny_bind (get_members (m := {}) g3 rfl (.inr ⟨0, 0, rfl⟩) ?_)
  refine wpAny_bind (set_members g3 rfl (by simp) (fun h4 s4 g4 => ?_))
  replace g4 : h4.get? e = some { cls := .type "UnicodeEncodeError", data := .fields #[.ref T, .none, .none, .none, .bool false, .none, unset, unset, rawInt 0, rawInt 0, unset] } := g4
  refine wpAny_bind (wpAny_letGo ?_)
  rw [if_neg (by simp)]
  refine wpAny_pure ?_
  dsimp only
  refine wpAny_bind (wpAny_of_eq (a := ()) (by first | rfl | kernel_rfl!) ?_)
  refine wpAny_bind (wpAny_of_eq (a := ()) (by first | rfl | kernel_rfl!) ?_)
  refine wpAny_bind ?_
  unfold initRange sizeArgument
  refine wpAny_bind (wpAny_bind (wpAny_of_eq (a := i) (by first | rfl | kernel_rfl!) ?_))
  rw [if_neg (by simp; omega)]
  refine wpAny_pure ?_
  refine wpAny_bind (get_members (m := {}) g4 rfl (.inr ⟨0, 0, rfl⟩) ?_)
  refine wpAny_bind (set_members g4 rfl (by simp) (fun h5 s5 g5 => ?_))
  replace g5 : h5.get? e = some { cls := .type "UnicodeEncodeError", data := .fields #[.ref T, .none, .none, .none, .bool false, .none, unset, unset, rawInt i, rawInt 0, unset] } := g5
  refine wpAny_bind (wpAny_bind (wpAny_of_eq (a := j) (by first | rfl | kernel_rfl!) ?_))
  rw [if_neg (by simp; omega)]
  refine wpAny_pure ?_
  refine wpAny_bind (get_members (m := { start := i }) g5 rfl (.inr ⟨0, 0, rfl⟩) ?_)
  refine set_members g5 rfl (by simp) (fun h6 s6 g6 => ?_)
  replace g6 : h6.get? e = some { cls := .type "UnicodeEncodeError", data := .fields #[.ref T, .none, .none, .none, .bool false, .none, unset, unset, rawInt i, rawInt j, unset] } := g6
  refine wpAny_bind (wpAny_of_eq (a := ()) (by first | rfl | kernel_rfl!) ?_)
  refine wpAny_bind (get_members (m := { start := i, stop := j }) g6 rfl (.inr ⟨0, 0, rfl⟩) ?_)
  refine wpAny_bind (set_members g6 rfl (by simp) (fun h7 s7 g7 => ?_))
  replace g7 : h7.get? e = some { cls := .type "UnicodeEncodeError", data := .fields #[.ref T, .none, .none, .none, .bool false, .none, .str cd t1, .str x t2, rawInt i, rawInt j, .str rs t5] } := g7
  refine wpAny_pure (hQ h7 T #[.str cd t1, .str x t2, rawInt i, rawInt j, .str rs t5] (fun b o hb q => ?_) g7 hTn)
  exact (s7.2 b hb).trans ((s6.2 b hb).trans ((s5.2 b hb).trans ((s4.2 b hb).trans ((s3.2 b hb).trans ((s2.2 b hb).trans (k1 b o hb q))))))

theorem call_uee {cd x rs : Str} {i j : Int} {t1 t2 t3 t4 t5 : Tok} {Q : Value → Shared → Prop} (hi : 0 ≤ i ∧ i < 2 ^ 63) (hj : 0 ≤ j ∧ j < 2 ^ 63)
    (hQ : ∀ h' e t vs, s.heap.StaysIn h' → s.heap.get? e = none → h'.get? e = some { cls := .type "UnicodeEncodeError", data := .fields (#[.ref t, .none, .none, .none, .bool false, .none] ++ vs) } → Q (.ref e) { s with heap := h' }) :
    wpAny (model prog w) A (call (.type "UnicodeEncodeError") [.str cd t1, .str x t2, .int i t3, .int j t4, .str rs t5]) Q E s := by
  refine callType_codes (Q₁ := fun obj s₁ => obj = .ref (s.heap.objs.size + 1) ∧ s₁ = { s with heap := (s.heap.push { cls := .type "tuple", data := .seq [Value.str cd t1, .str x t2, .int i t3, .int j t4, .str rs t5].toArray }).push { cls := .type "UnicodeEncodeError", data := .fields #[.ref s.heap.objs.size, .none, .none, .none, .bool false, .none] } })
    uee_called (uee_typeCall _) uee_initEntry (code_uee_new _ (by show 5 ≤ sizeLine; decide) ⟨rfl, rfl⟩) fun obj s₁ h₁ => ?_
  obtain ⟨rfl, rfl⟩ := h₁
  have hS : ((s.heap.push { cls := .type "tuple", data := .seq [Value.str cd t1, .str x t2, .int i t3, .int j t4, .str rs t5].toArray }).push { cls := .type "UnicodeEncodeError", data := .fields #[.ref s.heap.objs.size, .none, .none, .none, .bool false, .none] }).get? (s.heap.objs.size + 1) = some { cls := .type "UnicodeEncodeError", data := .fields #[.ref s.heap.objs.size, .none, .none, .none, .bool false, .none] } := by heap_get
  refine ⟨⟨_, hS, rfl⟩, uee_args _ _ _ _ _ _, uee_init_ok hi hj hS (fun h' t' vs hk he _ => ?_)⟩
  refine ⟨rfl, hQ h' _ t' vs (fun b o q => hk b o (Nat.ne_of_lt (Nat.lt_succ_of_lt (Heap.lt_size q))) (Heap.get?_push_of_some _ (Heap.get?_push_of_some _ q))) (Heap.get?_none_of_le (Nat.le_succ _)) he⟩
end
end Mine
end

section
open PySem PySem.W PyProof.Rows PySem.Spec PySem.Calls PySem.SeqAt
set_option Elab.async false
set_option maxRecDepth 100000
set_option maxHeartbeats 4000000
namespace Mine
open PySem.Builtin PySem.Builtin._codecs
section
variable {prog : Program} {w : World} {A : Around} {E : Value → Shared → Prop} {s : Shared}
/-- a fresh UnicodeEncodeError in flight -/
def MadeUee (h h' : Heap) (e : Addr) : Prop := h.StaysIn h' ∧ h.get? e = none ∧ ∃ t vs, h'.get? e = some { cls := .type "UnicodeEncodeError", data := .fields (#[.ref t, .none, .none, .none, .bool false, .none] ++ vs) }
theorem raise_uee {α : Type} {x : Str} {t : Tok} {i j : Nat} {cd rs : String} {Q : α → Shared → Prop} (hh : A.handled = none) (hi : i < 2 ^ 63) (hj : j < 2 ^ 63) (hcd : (Str.ofString cd).length ≤ sizeLine) (hrs : (Str.ofString rs).length ≤ sizeLine)
    (hE : ∀ h' tk e, MadeUee s.heap h' e → E (.ref e) { s with heap := h', toks := tk }) : wpAny (model prog w) A (raiseEncodeFault {} cd (.str x t) i j rs : Sem α) Q E s := by
  show wpAny _ _ ((do call (.type "UnicodeEncodeError") [← mkStr cd, ← (pure (.str x t)), ← mkInt i, ← mkInt j, ← mkStr rs]) >>= fun e => raiseNew e) _ _ _
  refine wpAny_bind ?_
  refine wpAny_bind (wpAny_mkStr ?_ hcd)
  refine wpAny_bind (wpAny_pure ?_)
  refine wpAny_bind (wpAny_mkInt ?_)
  refine wpAny_bind (wpAny_mkInt ?_)
  refine wpAny_bind (wpAny_mkStr ?_ hrs)
  refine call_uee ⟨by omega, by omega⟩ ⟨by omega, by omega⟩ (fun h' e t' vs k1 k2 k3 => ?_)
  simp only [raiseNew]
  refine wpAny_bind (wpAny_handled ?_)
  rw [hh]
  refine wpAny_bind (wpAny_pure (wpAny_throw ?_))
  exact hE _ _ _ ⟨k1, k2, _, _, k3⟩

theorem stop_fits {a : Array Nat} {p : Nat → Bool} {i : Nat} (hi : i ≤ a.size) (h : a.size ≤ 16777216) : i + (Array.findIdx? p (a.extract i)).getD (a.size - i) < 2 ^ 63 := by
  cases hf : Array.findIdx? p (a.extract i) with
  | none => simp only [Option.getD_none]; omega
  | some j =>
    obtain ⟨hj, _⟩ := Array.findIdx?_eq_some_iff_getElem.mp hf
    rw [Array.size_extract] at hj
    simp only [Option.getD_some]
    omega
theorem enc_bad {id : String} {x : Str} {t : Tok} {Q : Array UInt8 → Shared → Prop} (hh : A.handled = none) (h : x.cps.all (· < 128) = false) (hs : x.length ≤ sizeLine)
    (hE : ∀ h' tk e, MadeUee s.heap h' e → E (.ref e) { s with heap := h', toks := tk }) : wpAny (model prog w) A (encodeNarrow id asciiCodec none (.str x t) x) Q E s := by
  obtain ⟨k, hk⟩ : ∃ k, x.cps.findIdx? asciiCodec.bad = some k := by
    cases hf : x.cps.findIdx? asciiCodec.bad with
    | some k => exact ⟨k, rfl⟩
    | none =>
      exfalso
      rw [Array.findIdx?_eq_none_iff] at hf
      have : x.cps.all (· < 128) = true := Array.all_eq_true_iff_forall_mem.mpr fun c hc => by
        have := hf c hc
        have h2 : decide (c ≥ 128) = false := this
        simp at h2 ⊢
        omega
      rw [this] at h; cases h
  obtain ⟨hkl, hbad, hfirst⟩ := Array.findIdx?_eq_some_iff_getElem.mp hk
  have hb : asciiCodec.bad x.cps[k] = true := hbad
  unfold encodeNarrow
  simp only [Std.Legacy.Range.forIn_eq_forIn_range']
  have z : x.cps.size ≤ sizeLine := hs
  rw [sizeLine_eq] at z
  refine wpAny_bind (wpAny_forIn_list _ (fun rest st s' => s' = s ∧ ((st = (0, #[], {}) ∧ rest.length = x.length) ∨ ∃ out, st = (k, out, {}) ∧ out.size ≤ sizeLine ∧ 0 < rest.length)) _ ?_ ?_ _ _ ?_)
  · rintro v rest ⟨i, out, st⟩ s' ⟨rfl, hI⟩
    rcases hI with ⟨hst, hl⟩ | ⟨out', hst, ho, _⟩
    · obtain ⟨rfl, rfl, rfl⟩ : i = 0 ∧ out = #[] ∧ st = {} := by simpa using hst
      dsimp only
      rw [if_neg (by decide), Array.getElem?_eq_getElem (show 0 < x.cps.size by omega)]
      dsimp only
      cases hb0 : asciiCodec.bad x.cps[0] with
      | true =>
        rw [if_neg (by simp)]
        refine wpAny_bind (wpAny_rule ?_)
        have hn : ((none : Option Str).getD (Str.ofString "strict")).toString = "strict" := by first | rfl | decide +kernel
        simp only [hn]
        split
        · rename_i heq
          simp at heq
        · rw [if_pos (by decide)]
          refine wpAny_bind (raise_uee hh (by omega) (stop_fits (by omega) (by omega)) (by decide) (by decide) hE)
      | false =>
        rw [if_pos (by rfl)]
        have hk0 : 0 < k := by
          rcases Nat.eq_zero_or_pos k with z | z
          · subst z; rw [hb0] at hb; cases hb
          · exact z
        have e0 : x.cps.extract 0 = x.cps := by simp
        rw [e0, hk]
        refine wpAny_pure ⟨rfl, .inr ⟨Array.foldl (fun acc y => acc ++ (asciiCodec.bytesOf y).toArray) #[] (x.cps.extract 0 k), by simp only [Option.getD_some, Nat.zero_add], ?_, ?_⟩⟩
        · rw [← Array.foldl_toList, foldl_bytes]
          simp [sizeLine_eq]
          omega
        · have : rest.length + 1 = x.cps.size := hl
          omega
    · obtain ⟨rfl, rfl, rfl⟩ : i = k ∧ out = out' ∧ st = {} := by simpa using hst
      dsimp only
      rw [if_neg (by omega), Array.getElem?_eq_getElem hkl]
      dsimp only
      rw [if_neg (by rw [hb]; simp)]
      refine wpAny_bind (wpAny_rule ?_)
      have hn : ((none : Option Str).getD (Str.ofString "strict")).toString = "strict" := by first | rfl | decide +kernel
      simp only [hn]
      split
      · rename_i heq
        simp at heq
      · rw [if_pos (by decide)]
        refine wpAny_bind (raise_uee hh (by omega) (stop_fits (by omega) (by omega)) (by decide) (by decide) hE)
  · rintro ⟨i, out, st⟩ s' ⟨rfl, hI⟩
    rcases hI with ⟨hst, hl⟩ | ⟨out', hst, ho, h0⟩
    · exfalso
      have : (0 : Nat) = x.cps.size := hl
      omega
    · exact absurd h0 (by simp)
  · exact ⟨rfl, .inl ⟨rfl, by simp⟩⟩

theorem call_encode_bad {x : Str} {t u : Tok} {Q : Value → Shared → Prop} (hh : A.handled = none) (h : x.cps.all (· < 128) = false) (hs : x.length ≤ sizeLine)
    (hE : ∀ h' tk e, MadeUee s.heap h' e → E (.ref e) { s with heap := h', toks := tk }) :
    wpAny (model prog w) A (call (.builtin "str.encode") [.str x t, .str (Str.ofString "ascii") u]) Q E s := by
  refine wpAny_call_entry F.slot_str_encode (typeIs_str _ _ _) F.entry_str_encode ?_ (F.args_str_encode_2 _ _)
  rw [encode_tree2, enc_road]
  exact wpAny_bind (wpAny_bind (enc_bad hh h hs hE))
end
end Mine
end

section
open PySem PySem.W PyProof.Rows PySem.Spec PySem.Calls PySem.SeqAt
set_option Elab.async false
set_option maxRecDepth 100000
set_option maxHeartbeats 4000000
namespace Mine
/-- an exception with a traceback: its first three fields told, and what the traceback's flight is -/
def Told3 (base : Heap) (l : List Env) (e : Addr) (cls a0 c2 fl : Value) (h : Heap) : Prop :=
  base.StaysIn h ∧ base.get? e = none ∧ h.FunFrames base l ∧ ∃ oe vs T oT ts, h.get? e = some oe ∧ oe.cls = cls ∧ oe.data = .fields vs ∧ vs[0]? = some a0 ∧ vs[1]? = some (.ref T) ∧ vs[2]? = some c2 ∧
    base.get? T = none ∧ T ≠ e ∧ h.get? T = some oT ∧ oT.data = .fields ts ∧ ts[3]? = some fl
theorem Told3.held {base h : Heap} {l : List Env} {e L : Addr} {cls a0 c2 : Value} (x : Told3 base l e cls a0 c2 (rawInt L) h) : Heap.HeldW base l e cls a0 L h := by
  obtain ⟨x1, x2, x3, oe, vs, T, oT, ts, y1, y2, y3, y4, y5, _, y7⟩ := x
  exact ⟨x1, x2, x3, oe, vs, T, oT, ts, y1, ⟨y2, y4⟩, y3, y5, y7⟩
theorem Told3.flying {base h : Heap} {l : List Env} {e : Addr} {cls a0 c2 : Value} (x : Told3 base l e cls a0 c2 .none h) : Heap.FlyingW base l e cls a0 h := by
  obtain ⟨x1, x2, x3, oe, vs, T, oT, ts, y1, y2, y3, y4, y5, _, y7⟩ := x
  exact ⟨x1, x2, x3, oe, vs, T, oT, ts, y1, ⟨y2, y4⟩, y3, y5, y7⟩
section
variable {M : Model} {A : Around} {E : Value → Shared → Prop} {s : Shared} {base h : Heap} {env : Env} {outer : List Env} {L e : Addr}
/-- a first note of an exception in its own frame -/
theorem note3 {Q : Unit → Shared → Prop} {oe : Obj} {vs : Array Value} {a0 c2 : Value} (hfr : A.frames = some (env :: outer)) (hf : env.frame = some L) (hkb : base.StaysIn s.heap) (hl : s.heap.FunFrames base (env :: outer))
    (he : s.heap.get? e = some oe) (hen : base.get? e = none) (hd : oe.data = .fields vs) (h0 : vs[0]? = some a0) (h1 : vs[1]? = some .none) (h2 : vs[2]? = some c2)
    (hQ : ∀ h', Told3 base (env :: outer) e oe.cls a0 c2 (rawInt L) h' → s.heap.UpToSlots h' → Q () { s with heap := h' }) : wpAny M A (noteFrame (.ref e) env) Q E s := by
  have hsz : 1 < vs.size := (Array.getElem?_eq_some_iff.mp h1).1
  have hene : e ∉ (env :: outer).filterMap (·.frame) := fun hm => by
    obtain ⟨_, o, ho, hnf⟩ := hl.mem hm
    rw [he] at ho; cases ho; exact hnf vs hd
  unfold noteFrame
  simp only [hf]
  refine wpAny_bind (wpAny_field he hd (x := .none) h1 ?_)
  rw [if_neg (by decide)]
  refine wpAny_bind (wpAny_frameOf_fun hfr hl hf fun g1 sg => ?_)
  refine wpAny_bind (wpAny_entryPlaceOf fun pl hpl => ?_)
  unfold EntryCells.newEntry newFields
  refine wpAny_bind (wpAny_newObj_type ?_ (hpl.sizeOk5 _ _ _ _ _))
  have he1 : g1.get? e = some oe := (sg.2.1 e hene).trans he
  have kb1 : base.StaysIn g1 := fun b o q => (sg.2.1 b fun hm => by rw [(hl.mem hm).1] at q; cases q).trans (hkb b o q)
  generalize hTo : ({ cls := .type "traceback", dict := none, data := .fields ([Value.none, .ref L, .none, rawInt L, .none] ++ (if pl.isEmpty then List.replicate 6 Value.none else pl)).toArray } : Obj) = To
  have he2 := Heap.get?_push_of_some (h := g1) To he1
  have hTe : g1.objs.size ≠ e := Nat.ne_of_gt (Heap.lt_size he1)
  have hd3 := Obj.data_mapFields hd (·.setIfInBounds 1 (Value.ref g1.objs.size))
  have he3 := Heap.get?_update_self (Obj.mapFields (·.setIfInBounds 1 (Value.ref g1.objs.size))) he2 (Obj.isFreed_of_fields hd3)
  have hTnf : To.isFreed = false := by subst hTo; rfl
  have hT3 := (Heap.get?_update_other (g1.push To) (Obj.mapFields (·.setIfInBounds 1 (Value.ref g1.objs.size))) (Ne.symm hTe)).trans (Heap.get?_push_size g1 hTnf)
  have keep : ∀ b o, b ≠ e → g1.get? b = some o → ((g1.push To).update e (Obj.mapFields (·.setIfInBounds 1 (Value.ref g1.objs.size)))).get? b = some o := fun b o hb q => by
    rw [Heap.get?_update_other _ _ (Ne.symm hb)]; exact Heap.get?_push_of_some _ q
  have notE : ∀ b o, s.heap.get? b = some o → (∀ vs, o.data ≠ .fields vs) → b ≠ e := fun b o q hn z => by
    rw [z, he] at q; cases q; exact hn vs hd
  refine wpAny_setField he2 hd hsz (hQ _ ⟨fun b o q => keep b o (fun z => by rw [z, hen] at q; cases q) (kb1 b o q), hen, hl.of_keeps fun b o q hn => ?_, ?_⟩ fun b o q hn => ?_)
  · obtain ⟨sl, z⟩ := sg.2.2 b o q
    exact ⟨_, keep b _ (notE b o q hn) z, rfl⟩
  · refine ⟨_, _, g1.objs.size, _, _, he3, Obj.cls_mapFields _ _, hd3, ?_, by simp [hsz], ?_, kb1.fresh, hTe, hT3, by subst hTo; rfl, ?_⟩
    · rw [Array.getElem?_setIfInBounds_ne (by decide)]; exact h0
    · rw [Array.getElem?_setIfInBounds_ne (by decide)]; exact h2
    · first | (simp; done) | (rcases hpl with rfl | ⟨_, _, _, _, _, _, _, rfl⟩ <;> simp)
  · obtain ⟨sl, z⟩ := sg.2.2 b o q
    exact ⟨sl, keep b _ (notE b o q hn) z⟩
/-- its flight ends here -/
theorem land3 {Q : Unit → Shared → Prop} {l : List Env} {cls a0 c2 fl : Value} (x : Told3 base l e cls a0 c2 fl s.heap) (hQ : ∀ h', Told3 base l e cls a0 c2 .none h' → s.heap.UpToSlots h' → Q () { s with heap := h' }) :
    wpAny M A (setFlight (.ref e) none) Q E s := by
  obtain ⟨x1, x2, x3, oe, vs, T, oT, ts, he, hc, hd, y0, y1, y2, hnT, hTe, hT, hdT, y3⟩ := x
  have hsz3 : 3 < ts.size := (Array.getElem?_eq_some_iff.mp y3).1
  unfold setFlight
  refine wpAny_bind (wpAny_field he hd y1 ?_)
  rw [if_pos (show (Value.ref T != Value.none) = true from by simp)]
  have other : ∀ b, b ≠ T → (s.heap.update T (Obj.mapFields (·.setIfInBounds 3 ((none : Option Addr).elim Value.none fun f => rawInt f)))).get? b = s.heap.get? b := fun b hb => Heap.get?_update_other _ _ (Ne.symm hb)
  have notT : ∀ b o, s.heap.get? b = some o → (∀ vs, o.data ≠ .fields vs) → b ≠ T := fun b o q hn z => by
    rw [z, hT] at q; cases q; exact hn ts hdT
  refine wpAny_setField hT hdT hsz3 (hQ _ ⟨fun b o q => (other b fun z => by rw [z, hnT] at q; cases q).trans (x1 b o q), x2, x3.of_keeps fun b o q hn => ⟨o, (other b (notT b o q hn)).trans q, rfl⟩, ?_⟩ fun b o q hn => ⟨o.slots, (other b (notT b o q hn)).trans q⟩)
  exact ⟨oe, vs, T, _, _, (other e (Ne.symm hTe)).trans he, hc, hd, y0, y1, y2, hnT, hTe, Heap.get?_update_self _ hT (Obj.isFreed_of_fields (Obj.data_mapFields hdT _)), Obj.data_mapFields hdT _, by simp [hsz3]⟩
end
end Mine
end

section
open PySem PySem.W PyProof.Rows PySem.Spec PySem.Calls PySem.SeqAt
set_option Elab.async false
set_option maxRecDepth 100000
set_option maxHeartbeats 4000000
namespace Mine
section
variable {prog : Program} {w : World} {A : Around} {E : Value → Shared → Prop} {s : Shared} {env : Env}
theorem unchain_none {e x : Addr} {oe : Obj} {vs : Array Value} {b : Bool} {Q : Value → Shared → Prop} (he : s.heap.get? e = some oe) (hd : oe.data = .fields vs) (h2 : vs[2]? = some .none) (h : Q .none s) :
    wpAny (model prog w) A (runValue (.builtin "proto.unchain" ⟨[.ref x, .ref e, .ref e, .bool b], []⟩)) Q E s := by
  refine wpAny_runValue ?_
  refine codeAny_builtin (b := Builtin.«proto.unchain») (entryFor_of_tree (by kernel_rfl)) ?_
  unfold Builtin.«proto.unchain»
  dsimp only
  refine wpAny_bind (wpAny_field he hd h2 ?_)
  rw [if_pos (by decide)]
  refine wpAny_bind (wpAny_pure (wpAny_pure ?_))
  exact h

/-- an exception raised while another is handled -/
theorem raise_handled {cls : String} (F : ExcRaiseFacts cls) {x : Expr} {e : Addr} {pos : Pos} {Q : Flow → Shared → Prop} (hh : A.handled = some (.ref e))
    (h : wpAny (model prog w) A (eval x env) (fun v s₁ => ∃ a t oe vs, v = .ref a ∧ e ≠ a ∧ s₁.heap.get? a = some { cls := .type cls, data := .fields #[.ref t, .none, .none, .none, .bool false, .none] } ∧ s₁.heap.get? e = some oe ∧ oe.data = .fields vs ∧ vs[2]? = some .none ∧
      ∀ h', Heap.SameBut a s₁.heap h' → h'.get? a = some { cls := .type cls, data := .fields #[.ref t, .none, .ref e, .none, .bool false, .none] } → E (.ref a) { s₁ with heap := h' }) E s) :
    wpAny (model prog w) A (exec (.Raise (some x) none pos) env) Q E s := by
  rw [arm_exec_Raise]
  refine wpAny_bind (wpAny_standAt ?_)
  simp only [evalOpt, Option.map]
  unfold raiseStmt
  refine wpAny_bind (wpAny_bind (wpAny_mono h (fun v s₁ h₁ => wpAny_bind (wpAny_standAt (wpAny_pure ?_))) fun _ _ x => x))
  obtain ⟨a, t, oe, vs, rfl, hne, ha, he, hd, h2, hE⟩ := h₁
  obtain ⟨hp, g, d, tk, os⟩ := s₁
  have hsub := F.isExc
  have hmeta := F.plainMeta
  repeat (first | refine wpAny_loadPart ha ?_ | wp_step)
  unfold raiseNew
  refine wpAny_bind (wpAny_handled ?_)
  rw [hh]
  dsimp only
  rw [if_pos (by simpa using hne)]
  refine wpAny_bind (wpAny_holding (unchain_none he hd h2 ?_))
  refine wpAny_bind (wpAny_mono (wpAny_setField (i := 2) (x := .ref e) ha rfl (by simp) (Q := fun _ s' => E (.ref a) s') ?_) (fun _ _ x => wpAny_throw x) fun _ _ x => x)
  exact hE _ (Heap.SameBut.update ..) (Heap.get?_update_self _ ha rfl)

theorem callWith_exc {T : String} {x : Expr} {rest : List Expr} {pos : Pos} {Q : Value → Shared → Prop}
    (h : wpAny (model prog w) A (spliced (backTo pos (starEach (x :: rest) env))) (fun vs s₁ => wpAny (model prog w) A (call (.type T) vs) Q E s₁) E s)
    (he : starEach (x :: rest) env = (false, eval x env) :: starEach rest env := by rfl) (hplain : (backTo pos (starEach rest env)).any (·.1) = false := by rfl) :
    wpAny (model prog w) A (callWith pos (.type T) [] (backTo pos (starEach (x :: rest) env)) []) Q E s := by
  rw [he] at h ⊢
  refine callWith_excType (by show (false || (backTo pos (starEach rest env)).any (·.1)) = false; rw [hplain]; rfl) ?_
  exact evalArgs_plain (Q := fun a s₁ => wpAny (model prog w) A (call (.type T) ([] ++ a.pos) a.kw) Q E s₁) h
end
end Mine
end

section
open PySem PySem.W PyProof.Rows PySem.Spec PySem.Calls PySem.SeqAt
set_option Elab.async false
set_option maxRecDepth 100000
set_option maxHeartbeats 8000000
namespace Mine
local macro_rules | `(tactic| walk_at "pad 0") => `(tactic| skip)
local macro_rules | `(tactic| walk_at "pad 1") => `(tactic| skip)
local macro_rules | `(tactic| walk_at "pad 2") => `(tactic| skip)
local macro_rules | `(tactic| walk_at "pad 3") => `(tactic| skip)
local macro_rules | `(tactic| k_room) => `(tactic| ktr_room)
local macro_rules | `(tactic| k_units) => `(tactic| ktr_units)
local macro_rules | `(tactic| walk_at "my_stop") => `(tactic| with_reducible show wpAny _ _ (call (Value.builtin "str.encode") _) _ _ _)
local macro_rules | `(tactic| walk_at "my_stop") => `(tactic| with_reducible show wpAny _ _ (exec (Stmt.Raise _ _ _) _) _ _ _)
local macro_rules | `(tactic| walk_at "my_stop") => `(tactic| with_reducible refine Exists.intro ?_ ?_)
local macro_rules | `(tactic| walk_at "my_stop") => `(tactic| with_reducible show wpAny _ _ (callWith _ (Value.type _) _ _ _) _ _ _)
local macro_rules | `(tactic| walk_at "my_stop") => `(tactic| with_reducible show wpAny _ _ (call (Value.type _) _) _ _ _)
local macro_rules | `(tactic| walk_at "my_steps") => `(tactic| repeat' ((fail_if_success walk_at "my_stop"); first | (k_unfold; (try dsimp only)) | (k_end; wrow_close) | walk1 | (dsimp only; walk1) | (leave1; walk_say "STEP leave1"; try dsimp only) | fail "no step"))
abbrev doorWords : Str := Str.ofString "string argument should contain only ASCII characters"

theorem funFrames_rehide {base base' h : Heap} : ∀ {l : List Env}, h.FunFrames base l → (∀ a ∈ l.filterMap (·.frame), base'.get? a = none) → h.FunFrames base' l
  | [], _, _ => trivial
  | env :: l, ⟨hk, ⟨L, o, hf, _, ho, hd⟩, hr⟩, hin => ⟨hk, ⟨L, o, hf, hin L (by rw [List.filterMap_cons, hf]; exact .head _), ho, hd⟩, funFrames_rehide hr fun a ha => hin a (by rw [List.filterMap_cons, hf]; exact .tail _ ha)⟩
theorem door_bad {w : World} {lo : List Str} {mean : ExcName → Option Value} {mg mb : Str → Option Value} {dp un : Nat} {gd : Option (List Code)} {E : Value → Shared → Prop} {s : Shared} {l : List Env} {base : Heap} {Q : Value → Shared → Prop} (x : Str) (tx : Tok) (ha : x.cps.all (· < 128) = false) (hs : x.length ≤ sizeLine)
    (XB : (hd.heap_1 w.params).In base) (TB : Top hdView lo mean mg mb base)
    (hst : base.StaysIn s.heap) (hbs : base.objs.size ≤ s.heap.objs.size) (hfr : s.heap.FunFrames base l)
    (hdp : dp + 20 < recursionLimit) (hun : un + 100 < cLine)
    (hE : ∀ h' tk' e t u, Heap.FlyingW (hideAll s.heap (l.filterMap (·.frame))) l e (.type "ValueError") (.ref t) h' → h'.TupAt t [.str doorWords u] → s.heap.get? e = none → s.heap.get? t = none → s.heap.UpToSlots h' → E (.ref e) { s with heap := h', toks := tk' }) :
    wpAny (model PySem.Challenge.rw_il0163_02.row.prog w) { handled := none, depth := dp, frames := some l, guards := gd, units := un } (call (.ref 22) [.str x tx]) Q E s := by
  revert XB
  w_top off
  k_fill
  intro XB
  refine enter_raw (binds := [(Str.ofString "s", .str x tx)]) (f := 22) (XB.keeps hst) (TB.keeps hst) (fun _ _ q => q) (Nat.le_refl _) News.nil rfl rfl (by show dp < _; omega) (BindsTo.of_eq rfl) (locs rfl) (fun h₁ tk F N₁ hk₁ => ?_) rfl rfl rfl (by decide)
  have X₀ := XB.keeps hst
  have T₀ := TB.keeps hst
  generalize hLs : s.heap.objs.size = L at *
  (try k_unmd)
  k_fold
  walk_at "my_steps"
  refine gm_encode ?_
  walk_at "my_steps"
  refine call_encode_bad rfl ha hs (fun h2 tk2 e he => ?_)
  obtain ⟨k2, he0, t2, vs2, he2⟩ := he
  have hL : s.heap.get? L = none := by rw [← hLs]; exact Heap.get?_none_of_le (Nat.le_refl _)
  have ofB : ∀ b o, (hideAll s.heap (l.filterMap (·.frame))).get? b = some o → s.heap.get? b = some o := fun b o q => of_hideAll _ q
  have stB0 : base.StaysIn (hideAll s.heap (l.filterMap (·.frame))) := fun b o q => hideAll_get _ (hst b o q) fun hm => by rw [(hfr.mem hm).1] at q; cases q
  have szB : (hideAll s.heap (l.filterMap (·.frame))).objs.size ≤ L := by rw [hideAll_size, hLs]; exact Nat.le_refl _
  have frB : ∀ h : Heap, h.FunFrames base l → h.FunFrames (hideAll s.heap (l.filterMap (·.frame))) l := fun h q => funFrames_rehide q fun a ha => hideAll_none _ ha
  have toB : ∀ b o, s.heap.get? b = some o → b ∉ l.filterMap (·.frame) → (hideAll s.heap (l.filterMap (·.frame))).get? b = some o := fun b o q hn => hideAll_get _ q hn
  generalize hideAll s.heap (l.filterMap (·.frame)) = B at *
  have none_of : ∀ b, s.heap.get? b = none → B.get? b = none := fun b hb => by
    cases q : B.get? b with
    | none => rfl
    | some o => have := ofB _ _ q; rw [hb] at this; cases this
  have hLB := none_of L hL
  have stB : B.StaysIn h2 := fun b o q => k2 _ _ (F.keep _ _ (ofB _ _ q))
  have e0 : (#[Value.ref t2, Value.none, Value.none, Value.none, Value.bool false, Value.none] ++ vs2)[0]? = some (Value.ref t2) := by rw [Array.getElem?_append_left (by show 0 < 6; decide)]; rfl
  have e1 : (#[Value.ref t2, Value.none, Value.none, Value.none, Value.bool false, Value.none] ++ vs2)[1]? = some Value.none := by rw [Array.getElem?_append_left (by show 1 < 6; decide)]; rfl
  have e2 : (#[Value.ref t2, Value.none, Value.none, Value.none, Value.bool false, Value.none] ++ vs2)[2]? = some Value.none := by rw [Array.getElem?_append_left (by show 2 < 6; decide)]; rfl
  have fr2 : h2.FunFrames B l := frB h2 (hfr.of_keeps fun b o hb _ => ⟨o, k2 _ _ (F.keep b o hb), rfl⟩)
  have he0' : s.heap.get? e = none := by
    cases q : s.heap.get? e with
    | none => rfl
    | some o => have := F.keep _ _ q; rw [he0] at this; cases this
  have F2 := fr_grow' F k2
  have U0 : s.heap.UpToSlots h2 := .of_keeps fun b o q => k2 _ _ (F.keep b o q)
  refine note3 (base := B) (outer := l) (L := L) rfl rfl stB (Heap.FunFrames.cons (by show ScopeKind.function ≠ ScopeKind.module; decide) rfl F2.ns hLB fr2) he2 (none_of e he0') rfl e0 e1 e2 (fun h3 H3 U3 => ?_)
  refine land3 H3 (fun h4 H4 U4 => ?_)
  have F4 : Fr B L h4 _ := ⟨(U3.trans U4).ns F2.ns, H4.1, szB⟩
  replace U4 : s.heap.UpToSlots h4 := (U0.trans U3).trans U4
  have XB' := XB.keeps stB0
  have TB' := TB.keeps stB0
  have N4 : News B L h4 [] := News.nil
  clear F F2 N₁ X₀ T₀ H3 U3 U0 he2 k2 hk₁ he0 fr2 stB
  refine wpAny_handleBy_builtin (X := "UnicodeEncodeError") (T := "UnicodeEncodeError") (b := true) (by rw [isSubtype_type]; kernel_rfl) (by first | rfl | (rw [isSubtype_type]; kernel_rfl)) (by rw [isSubtype_type]; kernel_rfl) ?_
  (try dsimp only)
  walk_at "my_steps"
  · obtain ⟨ob, h1, h2⟩ := H4.flying.there
    exact ⟨ob, h1, h2⟩
  refine land3 H4 (fun h5 H5 U5 => ?_)
  rename Fr B L h4 _ => F4
  rename News B L h4 _ => N4
  have F5 : Fr B L h5 _ := ⟨U5.ns F4.ns, H5.1, szB⟩
  replace U5 : s.heap.UpToSlots h5 := U4.trans U5
  have N5 : News B L h5 [] := News.nil
  clear F4 N4 H4
  (try dsimp only)
  walk_at "my_steps"
  refine raise_handled (e := e) PySem.F.excRaise_ValueError (by rfl) ?_
  refine wpAny_Call_ofName ?_
  walk_at "my_steps"
  refine callWith_exc ?_
  walk_at "my_steps"
  refine wpAny_call_exc PySem.F.excCall_ValueError (fun h6 v hv => ?_) (by show 1 ≤ sizeLine; decide)
  obtain ⟨kv, nv, tv, hv1, hv2, hv3⟩ := hv
  have fresh : ∀ b, h5.get? b = none → s.heap.get? b = none := fun b hb => by
    cases q : s.heap.get? b with
    | none => rfl
    | some o =>
      exfalso
      by_cases hm : b ∈ l.filterMap (·.frame)
      · obtain ⟨_, o', ho', hn⟩ := hfr.mem hm
        obtain ⟨sl, z⟩ := U5 b o' ho' hn
        rw [hb] at z; cases z
      · have := H5.1 _ _ (toB b o q hm); rw [hb] at this; cases this
  obtain ⟨y1, y2, y3, oe, vs, T, oT, ts, he, hc, hd, z0, z1, z2, hnT, hTe, hT, hdT, z3⟩ := H5
  have hne : e ≠ v := fun z => by rw [z, nv] at he; cases he
  refine ⟨v, tv, oe, vs, rfl, hne, hv1, kv _ _ he, hd, z2, fun h7 sb7 hv7 => ?_⟩
  have htv : tv ≠ v := fun z => by
    rw [z, hv1] at hv3
    have c : Value.type "ValueError" = Value.type "tuple" := congrArg Obj.cls (Option.some.inj hv3)
    injection c with c; exact absurd c (by decide)
  have tup7 : h7.TupAt tv [.str doorWords tk2] := ⟨_, _, (sb7.2 tv htv).trans hv3, rfl, rfl⟩
  have k7 : ∀ b o, h5.get? b = some o → h7.get? b = some o := fun b o q => (sb7.2 b (fun z => by rw [z, nv] at q; cases q)).trans (kv _ _ q)
  have F7 := fr_grow' F5 k7
  have nvB : B.get? v = none := none_of v (fresh v nv)
  unfold notedBy
  refine note3 (base := B) (outer := l) (L := L) rfl rfl (fun b o q => k7 _ _ (y1 b o q)) (y3.of_keeps fun b o hb _ => ⟨o, k7 _ _ hb, rfl⟩) hv7 nvB rfl rfl rfl rfl (fun h8 H8 U8 => ?_)
  refine came_back rfl H8.held (fun h9 H9 U9 => ?_)
  refine leaves_held (A := Around.deeper { handled := none, depth := dp, frames := some l, guards := gd, units := un } (envOf _ _ L 22 _)) rfl H9 (fun h10 H10 U10 => ?_)
  exact hE _ _ _ _ _ H10 (((tup7.of_slots U8).of_slots U9).of_slots U10) (fresh v nv) (fresh tv hv2) (((U5.trans (.of_keeps k7)).trans U8).trans (U9.trans U10))
end Mine
end

section
open PySem PySem.W PyProof.Rows PySem.Spec PySem.Calls PySem.SeqAt
set_option Elab.async false
set_option maxRecDepth 100000
set_option maxHeartbeats 8000000
namespace Mine
local macro_rules | `(tactic| walk_at "pad 0") => `(tactic| skip)
local macro_rules | `(tactic| walk_at "pad 1") => `(tactic| skip)
local macro_rules | `(tactic| k_room) => `(tactic| ktr_room)
local macro_rules | `(tactic| k_units) => `(tactic| ktr_units)
local macro_rules | `(tactic| walk_at "my_stop") => `(tactic| with_reducible show wpAny _ _ (call (Value.ref _) _) _ _ _)
local macro_rules | `(tactic| walk_at "my_stop") => `(tactic| with_reducible show wpAny _ _ (call (Value.type "str") _) _ _ _)
local macro_rules | `(tactic| walk_at "my_stop") => `(tactic| with_reducible show wpAny _ _ (setFlight _ _) _ _ _)
local macro_rules | `(tactic| walk_at "my_steps") => `(tactic| repeat' ((fail_if_success walk_at "my_stop"); first | (k_unfold; (try dsimp only)) | (k_end; wrow_close) | walk1 | (dsimp only; walk1) | (leave1; walk_say "STEP leave1"; try dsimp only) | fail "no step"))
/-- what the law's door hands back -/
def DoorOut (h h' : Heap) (x : Str) (v : Value) : Prop :=
  (x.cps.all (· < 128) = true ∧ ∃ t, v = .bytes (asciiBytes x) t) ∨ (x.cps.all (· < 128) = false ∧ ∃ D u c, v = .ref D ∧ h.get? D = none ∧ h'.get? D = some (lstObj #[.str doorWords u] c))

theorem ground_of {H h₁ : Heap} {L : Addr} {m : Str → Option Value} {env : Env} {l : List Env} (hf : env.frame = some L) (F : Fr H L h₁ m) :
    ∀ b o, (hideAll H (l.filterMap (·.frame))).get? b = some o → (hideAll h₁ ((env :: l).filterMap (·.frame))).get? b = some o := fun b o q => by
  refine hideAll_get _ (F.keep b o (of_hideAll _ q)) fun hm => ?_
  rw [List.filterMap_cons, hf] at hm
  rcases List.mem_cons.mp hm with z | hm
  · have := of_hideAll _ q
    rw [z, Heap.get?_none_of_le F.above] at this; cases this
  · rw [hideAll_none _ hm] at q; cases q

theorem flying_ground {H h₁ h2 : Heap} {L e : Addr} {m : Str → Option Value} {env : Env} {l : List Env} {cls a0 : Value} (hf : env.frame = some L) (F : Fr H L h₁ m) (hfl : Heap.FlyingW (hideAll h₁ ((env :: l).filterMap (·.frame))) (env :: l) e cls a0 h2) :
    ∃ B1, Heap.FlyingW B1 (env :: l) e cls a0 h2 ∧ ∀ b o, (hideAll H (l.filterMap (·.frame))).get? b = some o → B1.get? b = some o := ⟨_, hfl, ground_of hf F⟩

theorem ldoor_raw {w : World} {lo : List Str} {mean : ExcName → Option Value} {mg mb : Str → Option Value} {dp un : Nat} {gd : Option (List Code)} {E : Value → Shared → Prop} {s : Shared} {l : List Env} {base : Heap} {Q : Value → Shared → Prop} (x : Str) (tx : Tok) (hs : x.length ≤ sizeLine)
    (XB : (hd.heap_1 w.params).In base) (TB : Top hdView lo mean mg mb base)
    (hst : base.StaysIn s.heap) (hbs : base.objs.size ≤ s.heap.objs.size) (hfr : s.heap.FunFrames base l)
    (hdp : dp + 30 < recursionLimit) (hun : un + 150 < cLine)
    (hQ : ∀ v h' tk', DoorOut s.heap h' x v → (∀ b o, s.heap.get? b = some o → b ∉ l.filterMap (·.frame) → h'.get? b = some o) → s.heap.UpToSlots h' → Q v { s with heap := h', toks := tk' }) :
    wpAny (model PySem.Challenge.rw_il0163_02.row.prog w) { handled := none, depth := dp, frames := some l, guards := gd, units := un } (call (.ref 134) [.str x tx]) Q E s := by
  revert XB
  w_top off
  k_fill
  intro XB
  refine enter_raw (binds := [(Str.ofString "text", .str x tx)]) (f := 134) (XB.keeps hst) (TB.keeps hst) (fun _ _ q => q) (Nat.le_refl _) News.nil rfl rfl (by show dp < _; omega) (BindsTo.of_eq rfl) (locs rfl) (fun h₁ tk F N₁ hk₁ => ?_) rfl rfl rfl (by decide)
  have X₀ := XB.keeps hst
  have T₀ := TB.keeps hst
  generalize hLs : s.heap.objs.size = L at *
  (try k_unmd)
  k_fold
  walk_at "my_steps"
  rename Fr _ _ _ _ => F1
  rename News _ _ _ _ => N1
  cases ha : x.cps.all (· < 128) with
  | true =>
    refine (sp_bytes x _ ha hs).use F1 N1 X₀ T₀ rfl (by show dp + 1 + 4 < _; omega) (by show un + 3 + 20 < _; omega) trivial (fun v h3 tk3 F3 N3 k3 hv => ?_)
    obtain ⟨t3, rfl⟩ := hv
    clear F1 N1 k3
    walk_at "my_steps"
    rename Fr _ _ _ _ => F1
    exact hQ _ _ _ (.inl ⟨ha, _, rfl⟩) (fun b o q _ => F1.keep b o q) (.of_keeps F1.keep)
  | false =>
    have hL : base.get? L = none := by
      cases q : base.get? L with
      | none => rfl
      | some o => exact absurd (Nat.lt_of_lt_of_le (Heap.lt_size q) hbs) (Nat.lt_irrefl _)
    refine door_bad x _ ha hs XB TB (fun b o q => F1.keep _ _ (hst b o q)) (Nat.le_trans hbs (Nat.le_of_lt (fr_lt F1))) (Heap.FunFrames.cons (by show ScopeKind.function ≠ ScopeKind.module; decide) rfl F1.ns hL (hfr.of_keeps fun b o hb _ => ⟨o, F1.keep b o hb, rfl⟩)) (by show dp + 1 + 20 < _; omega) (by show un + 3 + 100 < _; omega) (fun h2 tk2 e t u hfl htup he0 ht0 U2 => ?_)
    have hLs' : s.heap.get? L = none := by rw [← hLs]; exact Heap.get?_none_of_le (Nat.le_refl _)
    obtain ⟨B1, hfl, gr⟩ := flying_ground rfl F1 hfl
    have ofB : ∀ b o, (hideAll s.heap (l.filterMap (·.frame))).get? b = some o → s.heap.get? b = some o := fun b o q => of_hideAll _ q
    have stB0 : base.StaysIn (hideAll s.heap (l.filterMap (·.frame))) := fun b o q => hideAll_get _ (hst b o q) fun hm => by rw [(hfr.mem hm).1] at q; cases q
    have szB : (hideAll s.heap (l.filterMap (·.frame))).objs.size ≤ L := by rw [hideAll_size, hLs]; exact Nat.le_refl _
    have toB : ∀ b o, s.heap.get? b = some o → b ∉ l.filterMap (·.frame) → (hideAll s.heap (l.filterMap (·.frame))).get? b = some o := fun b o q hn => hideAll_get _ q hn
    have noneS : ∀ b, h₁.get? b = none → s.heap.get? b = none := fun b hb => by
      cases q : s.heap.get? b with
      | none => rfl
      | some o => have := F1.keep _ _ q; rw [hb] at this; cases this
    generalize hideAll s.heap (l.filterMap (·.frame)) = B at *
    have none_of : ∀ b, s.heap.get? b = none → B.get? b = none := fun b hb => by
      cases q : B.get? b with
      | none => rfl
      | some o => have := ofB _ _ q; rw [hb] at this; cases this
    refine wpAny_looks_onW rfl rfl hfl (fun h3 H3 U3 => ?_)
    refine wpAny_landsW H3 (fun h4 H4 U4 => ?_)
    have U4' : s.heap.UpToSlots h4 := (((Heap.UpToSlots.of_keeps F1.keep).trans U2).trans U3).trans U4
    have tup4 := (htup.of_slots U3).of_slots U4
    have F4 : Fr B L h4 _ := ⟨((U2.trans U3).trans U4).ns F1.ns, fun b o q => H4.1 _ _ (gr b o q), szB⟩
    have N4 : News B L h4 [] := News.nil
    have XB' := XB.keeps stB0
    have TB' := TB.keeps stB0
    clear F1 N1 X₀ T₀ hfl H3 U2 U3 U4 htup hk₁
    refine wpAny_handleBy_builtin_as (X := "ValueError") (T := "ValueError") (b := true) (by rw [isSubtype_type]; kernel_rfl) (by first | rfl | (rw [isSubtype_type]; kernel_rfl)) (by rw [isSubtype_type]; kernel_rfl) ?_
    (try dsimp only)
    walk_at "my_steps"
    · obtain ⟨ob, h1, h2⟩ := H4.there
      exact ⟨ob, h1, h2⟩
    refine lands_againW H4 (fun h5 H5 U5 => ?_)
    rename Fr B L h4 _ => F4
    rename News B L h4 _ => N4
    obtain ⟨oe, vs, he, hc, hd, h0⟩ := H5.first
    obtain ⟨ot, nt, hot, htc, htd⟩ := tup4.of_slots U5
    have U5' := U4'.trans U5
    have g5 : ∀ b o, s.heap.get? b = some o → ∀ o', h5.get? b = some o' → (hideAll (cut h5 L) [e, t]).get? b = some o' := fun b o q o' q' => by
      refine hideAll_get _ ?_ fun hm => ?_
      · rw [cut_get (by rw [← hLs]; exact Heap.lt_size q)]; exact q'
      · simp only [List.mem_cons, List.not_mem_nil, or_false] at hm
        rcases hm with z | z
        · rw [z, noneS _ he0] at q; cases q
        · rw [z, noneS _ ht0] at q; cases q
    have g6 : ∀ b o, s.heap.get? b = some o → b ∉ l.filterMap (·.frame) → (hideAll (cut h5 L) [e, t]).get? b = some o := fun b o q hn => g5 b o q o (H5.1 _ _ (gr _ _ (toB b o q hn)))
    have g7 : s.heap.UpToSlots (hideAll (cut h5 L) [e, t]) := fun b o q hn => by
      obtain ⟨sl, z⟩ := U5' b o q hn
      exact ⟨sl, g5 b o q _ z⟩
    have g8 : base.StaysIn (hideAll (cut h5 L) [e, t]) := fun b o q => g6 b o (hst b o q) fun hm => by rw [(hfr.mem hm).1] at q; cases q
    have F5 : Fr (hideAll (cut h5 L) [e, t]) L h5 _ := ⟨U5.ns F4.ns, fun b o q => cut_of (of_hideAll _ q), by rw [hideAll_size]; exact cut_size _ _⟩
    have n5 : (hideAll (cut h5 L) [e, t]).get? e = none := hideAll_none _ (.head _)
    have n6 : (hideAll (cut h5 L) [e, t]).get? t = none := hideAll_none _ (.tail _ (.head _))
    have heL : e ≠ L := fun z => by
      obtain ⟨o, es, ep, ho, hdd, _⟩ := F5.ns
      rw [z, ho] at he; cases he; rw [hdd] at hd; cases hd
    have htL : t ≠ L := fun z => by
      obtain ⟨o, es, ep, ho, hdd, _⟩ := F5.ns
      rw [z, ho] at hot; cases hot; rw [hdd] at htd; cases htd
    generalize hideAll (cut h5 L) [e, t] = B5 at *
    have N5 : News B5 L h5 [(e, oe), (t, ot)] := fun p hp => by
      simp only [List.mem_cons, List.not_mem_nil, or_false] at hp
      rcases hp with rfl | rfl
      · exact ⟨he, heL, n5⟩
      · exact ⟨hot, htL, n6⟩
    have X5 := XB.keeps g8
    have T5 := TB.keeps g8
    clear F4 N4 H4 U4' U5 tup4 he hot XB' TB'
    (try dsimp only)
    walk_at "my_steps"
    rename Fr _ _ _ _ => F6
    rename News _ _ _ _ => N6
    refine PySem.P.str_of_exc_one PySem.F.excStr_ValueError (by show un + 3 + 2 < _; omega) (t0 := t) (m := doorWords) (tk := u) ⟨oe, vs, (N6 (e, oe) (by k_mem)).1, hc, hd, h0⟩ ⟨ot, nt, (N6 (t, ot) (by k_mem)).1, htc, htd⟩ ?_
    walk_at "my_steps"
    rename Fr _ _ _ _ => F6
    rename News _ _ _ _ => N6
    have noneB : ∀ b, B5.get? b = none → s.heap.get? b = none := fun b hb => by
      cases q : s.heap.get? b with
      | none => rfl
      | some o =>
        exfalso
        by_cases hm : b ∈ l.filterMap (·.frame)
        · obtain ⟨_, o', ho', hn⟩ := hfr.mem hm
          obtain ⟨sl, z⟩ := g7 b o' ho' hn
          rw [hb] at z; cases z
        · have := g6 b o q hm; rw [hb] at this; cases this
    exact hQ _ _ _ (.inr ⟨ha, _, u, 0, rfl, noneB _ (N6 _ (.head _)).2.2, (N6 _ (.head _)).1⟩) (fun b o q hn => F6.keep _ _ (g6 b o q hn)) (g7.trans (.of_keeps F6.keep))
end Mine
end

section
open PySem PySem.W PyProof.Rows PySem.Spec PySem.Calls PySem.SeqAt
set_option Elab.async false
set_option maxRecDepth 100000
set_option maxHeartbeats 8000000
namespace Mine
local macro_rules | `(tactic| walk_at "pad 0") => `(tactic| skip)
local macro_rules | `(tactic| k_room) => `(tactic| ktr_room)
local macro_rules | `(tactic| k_units) => `(tactic| ktr_units)
local macro_rules | `(tactic| walk_at "my_steps") => `(tactic| repeat' (first | (k_unfold; (try dsimp only)) | (k_end; wrow_close) | walk1 | (dsimp only; walk1) | (leave1; walk_say "STEP leave1"; try dsimp only) | fail "no step"))
theorem sp_modes {w : World} {lo : List Str} {mean : ExcName → Option Value} {mg mb : Str → Option Value} (r : Addr) (vs : List Value) (ns : List Int) (hi : IntsAre vs ns) (hz : ns.length ≤ 63) :
    Pure PySem.Challenge.rw_il0163_02.row.prog w (hd.heap_1 w.params) hdView lo mean mg mb 8 60 127 [.ref r] (fun h => h.IsList r vs.toArray)
      (fun h v h' => ∃ D, v = .ref D ∧ h.get? D = none ∧ ∃ ys n ms, h'.get? D = some (lstObj (List.toArray ys) n) ∧ IntsAre ys ms ∧ ms.length ≤ 16) := by
  w_top off
  k_fill
  intro A s Q E X T hh hd hu hl hQ
  replace hl : s.heap.IsList r vs.toArray := hl
  obtain ⟨ah, ad, af, ag, au⟩ := A
  obtain rfl : ah = none := hh
  replace hd : ad + 8 < recursionLimit := hd
  replace hu : au + 60 < cLine := hu
  refine enter_raw (binds := [(Str.ofString "script", .ref r)]) (f := 127) X T (fun _ _ q => q) (Nat.le_refl _) News.nil rfl rfl (by show ad < _; omega) (BindsTo.of_eq rfl) (locs rfl) (fun h₁ tk F N₁ hk₁ => ?_) rfl rfl rfl (by decide)
  generalize s.heap.objs.size = L at *
  (try k_unmd)
  k_fold
  (k_with "pyIter ref" => k_state (fun pre modes => modes.length = pre.length) "modes")
  walk_at "my_steps"
  rename Fr _ _ _ _ => F1
  rename News _ _ _ _ => N1
  rename IntsAre _ (_ ++ [32873, 17133]) => hI
  rename (List.length _ = (List.take 14 ns).length) => hl1
  refine hQ _ _ _ F1.keep ⟨_, rfl, (N1 _ (.head _)).2.2, _, _, _, (N1 _ (.head _)).1, hI, ?_⟩
  rw [List.length_append]
  have := List.length_take (l := ns) (i := 14)
  have e2 : ([32873, 17133] : List Int).length = 2 := rfl
  omega
end Mine
end

section
open PySem PySem.W PyProof.Rows PySem.Spec PySem.Calls PySem.SeqAt PyProof.Rows.LCg PyProof.Rows.LCt
set_option Elab.async false
set_option maxRecDepth 100000
set_option maxHeartbeats 4000000
namespace Mine
/-- values that stand for the items of a list, one by one -/
inductive Are {β : Type} (W : β → Value → Prop) : List Value → List β → Prop
  | nil : Are W [] []
  | cons {v : Value} {b : β} {vs : List Value} {bs : List β} : W b v → Are W vs bs → Are W (v :: vs) (b :: bs)
theorem Are.len {β : Type} {W : β → Value → Prop} : ∀ {vs : List Value} {bs : List β}, Are W vs bs → vs.length = bs.length
  | [], [], .nil => rfl
  | _ :: _, _ :: _, .cons _ r => by simp [r.len]
theorem Are.get {β : Type} {W : β → Value → Prop} : ∀ {vs : List Value} {bs : List β} {i : Nat} {v : Value}, Are W vs bs → vs.toArray[i]? = some v → ∃ b, bs[i]? = some b ∧ W b v
  | _ :: _, _ :: _, 0, v, .cons x _, h => ⟨_, rfl, by simp at h; exact h ▸ x⟩
  | _ :: _, _ :: _, i + 1, v, .cons _ r, h => by
    obtain ⟨a, h1, h2⟩ := r.get (i := i) (v := v) (by simpa using h)
    exact ⟨a, by simpa using h1, h2⟩
theorem Are.append {β : Type} {W : β → Value → Prop} : ∀ {vs ws : List Value} {bs cs : List β}, Are W vs bs → Are W ws cs → Are W (vs ++ ws) (bs ++ cs)
  | [], _, [], _, .nil, h => h
  | _ :: _, _, _ :: _, _, .cons x r, h => .cons x (r.append h)
theorem Are.take {β : Type} {W : β → Value → Prop} : ∀ {vs : List Value} {bs : List β} (n : Nat), Are W vs bs → Are W (vs.take n) (bs.take n)
  | _, _, 0, _ => by simpa using Are.nil
  | [], [], _ + 1, .nil => .nil
  | _ :: _, _ :: _, n + 1, .cons x r => .cons x (r.take n)
abbrev intW (n : Int) (v : Value) : Prop := ∃ t, v = .int n t
abbrev strW (x : Str) (v : Value) : Prop := ∃ t, v = .str x t
section
variable {prog : Program} {w : World} {A : Around} {E : Value → Shared → Prop} {s : Shared} {h₀ : Heap} {L : Addr} {m : Str → Option Value} {env : Env}
def EltW {β : Type} (W : β → Value → Prop) (prog : Program) (w : World) (A : Around) (h₀ : Heap) (L : Addr) (m : Str → Option Value) (env : Env) (elt : Expr) (x : Str) (scope : Scope) (cl : List (Str × Addr)) (news : List (Addr × Obj)) (s : Shared) (v : Value) (y : β) : Prop :=
  ∀ (I : Addr) (oI : Obj) (C : Addr) (oC : Obj) (D : Addr) (ys : List Value) (m₂ : Str → Option Value) (h : Heap) (tk : Nat) (Q : Value → Shared → Prop) (E : Value → Shared → Prop), TurnHeap h₀ L m news x v I oI C oC D ys m₂ h →
    (∀ r h' tk', W y r → Fr h₀ L h' m → News h₀ L h' ((I, oI) :: (C, oC) :: (D, lst ys) :: news) → Q r { s with heap := h', toks := tk' }) →
    wpAny (model prog w) A (eval elt (compEnvC scope cl C env)) Q E { s with heap := h, toks := tk }
theorem rest_TW {α β : Type} {W : β → Value → Prop} {xs : List α} {V : α → Value → Prop} {p : α → Bool} {f : α → β} {ct elt : Expr} {x : Str} {scope : Scope} {cl : List (Str × Addr)} {S : List (Addr × Obj) → Prop} {P : Nat → Value → Prop} {Fin : List Value → List (Addr × Obj) → Prop} {news : List (Addr × Obj)}
    (hP : ∀ i v, i < xs.length → P i v → ∃ a, xs[i]? = some a ∧ V a v) (hS : S news)
    (ht : ∀ a v, a ∈ xs → V a v → TestTurn prog w A h₀ L m env ct x scope cl news s v (p a)) (he : ∀ a v, a ∈ xs → V a v → p a = true → EltW W prog w A h₀ L m env elt x scope cl news s v (f a))
    (hF : ∀ ys, Are W ys ((xs.filter p).map f) → Fin ys news) : ∀ (k i : Nat) (ys : List Value), i + k = xs.length → Are W ys (((xs.take i).filter p).map f) → CompRestT prog w A h₀ L m env ct elt x scope cl s S P Fin k i ys news
  | 0, i, ys, hi, hy => CompRestT.zero (hF ys (by rw [List.take_of_length_le (by omega)] at hy; exact hy))
  | k + 1, i, ys, hi, hy => by
    refine CompRestT.succ fun v I oI C oC D m₂ h tk E' hv hC hx F N off ne => ?_
    obtain ⟨a, ha, hVa⟩ := hP i v (by omega) hv
    have hm : a ∈ xs := List.mem_of_getElem? ha
    have hlt : i < xs.length := (List.getElem?_eq_some_iff.mp ha).1
    have hget : xs[i] = a := (List.getElem?_eq_some_iff.mp ha).2
    refine ht a v hm hVa I oI C oC D ys m₂ h tk _ E' ⟨hC, hx, F, N, off, ne⟩ fun h' tk' F' N' => ?_
    cases hp : p a with
    | true =>
      simp only [if_true]
      refine he a v hm hVa hp I oI C oC D ys m₂ h' tk' _ E' ⟨hC, hx, F', N', off, ne⟩ fun r h'' tk'' hW F'' N'' => ?_
      refine ⟨h'', tk'', news, rfl, F'', N'', off, hS, rest_TW hP hS ht he hF k (i + 1) _ (by omega) ?_⟩
      rw [List.take_succ_eq_append_getElem hlt, List.filter_append, List.map_append, hget, List.filter_cons, hp]
      exact hy.append (.cons hW .nil)
    | false =>
      simp only [Bool.false_eq_true, if_false]
      refine ⟨h', tk', news, rfl, F', N', off, hS, rest_TW hP hS ht he hF k (i + 1) _ (by omega) ?_⟩
      rw [List.take_succ_eq_append_getElem hlt, List.filter_append, hget, List.filter_cons, hp]
      simpa using hy
theorem rest_UW {α β : Type} {W : β → Value → Prop} {xs : List α} {V : α → Value → Prop} {f : α → β} {elt : Expr} {x : Str} {scope : Scope} {cl : List (Str × Addr)} {S : List (Addr × Obj) → Prop} {P : Nat → Value → Prop} {Fin : List Value → List (Addr × Obj) → Prop} {news : List (Addr × Obj)}
    (hP : ∀ i v, i < xs.length → P i v → ∃ a, xs[i]? = some a ∧ V a v) (hS : S news)
    (he : ∀ a v, a ∈ xs → V a v → EltW W prog w A h₀ L m env elt x scope cl news s v (f a))
    (hF : ∀ ys, Are W ys (xs.map f) → Fin ys news) : ∀ (k i : Nat) (ys : List Value), i + k = xs.length → Are W ys ((xs.take i).map f) → CompRest prog w A h₀ L m env elt x scope cl s S P Fin k i ys news
  | 0, i, ys, hi, hy => CompRest.zero (hF ys (by rw [List.take_of_length_le (by omega)] at hy; exact hy))
  | k + 1, i, ys, hi, hy => by
    refine CompRest.succ fun v I oI C oC D m₂ h tk E' hv hC hx F N off ne => ?_
    obtain ⟨a, ha, hVa⟩ := hP i v (by omega) hv
    have hm : a ∈ xs := List.mem_of_getElem? ha
    have hlt : i < xs.length := (List.getElem?_eq_some_iff.mp ha).1
    have hget : xs[i] = a := (List.getElem?_eq_some_iff.mp ha).2
    refine he a v hm hVa I oI C oC D ys m₂ h tk _ E' ⟨hC, hx, F, N, off, ne⟩ fun r h'' tk'' hW F'' N'' => ?_
    refine ⟨h'', tk'', news, rfl, F'', N'', off, hS, rest_UW hP hS he hF k (i + 1) _ (by omega) ?_⟩
    rw [List.take_succ_eq_append_getElem hlt, List.map_append, hget]
    exact hy.append (.cons hW .nil)

/-- what is asked of a comprehension with a test -/
def TestsW {α β : Type} (W : β → Value → Prop) (xs : List α) (V : α → Value → Prop) (p : α → Bool) (f : α → β) (prog : Program) (w : World) (A : Around) (env : Env) (ct elt : Expr) (x : Str) (scope : Scope) (cl : List (Str × Addr)) (h₀ : Heap) (L : Addr) (m : Str → Option Value) (news : List (Addr × Obj)) (xv : Value) (s₁ : Shared) : Prop :=
  ∃ P, Feeds prog w A h₀ L m news xv s₁ xs.length P ∧ (∀ i v, i < xs.length → P i v → ∃ a, xs[i]? = some a ∧ V a v) ∧
      (∀ g a v, a ∈ xs → V a v → TestTurn prog w A h₀ L m env ct x scope cl news { s₁ with heap := g } v (p a)) ∧ (∀ g a v, a ∈ xs → V a v → p a = true → EltW W prog w A h₀ L m env elt x scope cl news { s₁ with heap := g } v (f a))
def EltsW {α β : Type} (W : β → Value → Prop) (xs : List α) (V : α → Value → Prop) (f : α → β) (prog : Program) (w : World) (A : Around) (env : Env) (elt : Expr) (x : Str) (scope : Scope) (cl : List (Str × Addr)) (h₀ : Heap) (L : Addr) (m : Str → Option Value) (news : List (Addr × Obj)) (xv : Value) (s₁ : Shared) : Prop :=
  ∃ P, Feeds prog w A h₀ L m news xv s₁ xs.length P ∧ (∀ i v, i < xs.length → P i v → ∃ a, xs[i]? = some a ∧ V a v) ∧ (∀ g a v, a ∈ xs → V a v → EltW W prog w A h₀ L m env elt x scope cl news { s₁ with heap := g } v (f a))

theorem comp_TW {α β : Type} (W : β → Value → Prop) (xs : List α) (V : α → Value → Prop) (p : α → Bool) (f : α → β) {ct elt iter : Expr} {x : Str} {px : Pos} {scope : Scope} {cl : List (Str × Addr)} {pos : Pos} {Q : Value → Shared → Prop}
    (hclos : closureFor scope env = pure cl) (hcell : ∀ y ∈ scope.names, y.2 ≠ .cell) (hkind : scope.kind = .function)
    (hnames : ∀ y ∈ scope.names, y.2 = .local → scope.names.lookup y.1 = some .local) (hx : scope.names.lookup x = some .local) (hsz : xs.length ≤ sizeLine)
    (h : wpAny (model prog w) A (eval iter env) (fun xv s₁ => ∃ h₀ L m news, TestsW W xs V p f prog w A env ct elt x scope cl h₀ L m news xv s₁ ∧
      ∀ ys D h tk, Are W ys ((xs.filter p).map f) → Fr h₀ L h m → News h₀ L h ((D, lst ys) :: news) → Off1 D news → Q (.ref D) { s₁ with heap := h, toks := tk }) E s)
    (hs : ∀ x, foldedSetIterable iter env x = pure x := by intro _; rfl) :
    wpAny (model prog w) A (eval (.ListComp elt [⟨.Name x px, iter, [ct], 0⟩] scope pos) env) Q E s := by
  rw [eval_ListComp]
  refine wpAny_comprehension_free (use := none) rfl hs hclos hkind hnames (wpAny_mono h (fun xv s₁ h₁ => ?_) fun _ _ e => e)
  obtain ⟨h₀, L, m, news, ⟨P, hfeed, hP, ht, he⟩, hQ⟩ := h₁
  refine hfeed _ _ fun I h₂ fp St S W hIo hSt hst hfp F N hIL hI₀ off hS => ?_
  refine block_T W hsz hIo hSt hcell hkind hx hst hfp F N hIL hI₀ off hS (rest_TW (Fin := FinE h₀ L m { s₁ with heap := h₂ } Q) hP hS (ht _) (he _) (fun ys hy D h tk F' N' o1 => hQ ys D h tk hy F' N' o1) xs.length 0 [] (by omega) .nil) ?_
  intro D C h tk m' ys news' F' N' o1 hn hC₀ hD₀ hCL hDL hCD offC fin
  refine ⟨m', hn, fun h'' hs'' => fin D h'' tk (F'.change hs'' hCL hC₀) (fun p hp => ?_) o1⟩
  refine ⟨hs''.extBut _ _ ?_ (N' p hp).1, (N' p hp).2⟩
  rcases List.mem_cons.mp hp with rfl | hp
  · exact Ne.symm hCD
  · exact offC p hp
theorem comp_UW {α β : Type} (W : β → Value → Prop) (xs : List α) (V : α → Value → Prop) (f : α → β) {elt iter : Expr} {x : Str} {px : Pos} {scope : Scope} {cl : List (Str × Addr)} {pos : Pos} {Q : Value → Shared → Prop}
    (hclos : closureFor scope env = pure cl) (hcell : ∀ y ∈ scope.names, y.2 ≠ .cell) (hkind : scope.kind = .function)
    (hnames : ∀ y ∈ scope.names, y.2 = .local → scope.names.lookup y.1 = some .local) (hx : scope.names.lookup x = some .local) (hsz : xs.length ≤ sizeLine)
    (h : wpAny (model prog w) A (eval iter env) (fun xv s₁ => ∃ h₀ L m news, EltsW W xs V f prog w A env elt x scope cl h₀ L m news xv s₁ ∧
      ∀ ys D h tk, Are W ys (xs.map f) → Fr h₀ L h m → News h₀ L h ((D, lst ys) :: news) → Off1 D news → Q (.ref D) { s₁ with heap := h, toks := tk }) E s)
    (hs : ∀ x, foldedSetIterable iter env x = pure x := by intro _; rfl) :
    wpAny (model prog w) A (eval (.ListComp elt [⟨.Name x px, iter, [], 0⟩] scope pos) env) Q E s := by
  rw [eval_ListComp]
  refine wpAny_comprehension_free (use := none) rfl hs hclos hkind hnames (wpAny_mono h (fun xv s₁ h₁ => ?_) fun _ _ e => e)
  obtain ⟨h₀, L, m, news, ⟨P, hfeed, hP, he⟩, hQ⟩ := h₁
  refine hfeed _ _ fun I h₂ fp St S W hIo hSt hst hfp F N hIL hI₀ off hS => ?_
  refine block_U W hsz hIo hSt hcell hkind hx hst hfp F N hIL hI₀ off hS (rest_UW (Fin := FinE h₀ L m { s₁ with heap := h₂ } Q) hP hS (he _) (fun ys hy D h tk F' N' o1 => hQ ys D h tk hy F' N' o1) xs.length 0 [] (by omega) .nil) ?_
  intro D C h tk m' ys news' F' N' o1 hn hC₀ hD₀ hCL hDL hCD offC fin
  refine ⟨m', hn, fun h'' hs'' => fin D h'' tk (F'.change hs'' hCL hC₀) (fun p hp => ?_) o1⟩
  refine ⟨hs''.extBut _ _ ?_ (N' p hp).1, (N' p hp).2⟩
  rcases List.mem_cons.mp hp with rfl | hp
  · exact Ne.symm hCD
  · exact offC p hp

/-- a local name bound to a comprehension with a test -/
theorem assign_TW {α β : Type} (W : β → Value → Prop) (xs : List α) (V : α → Value → Prop) (p : α → Bool) (f : α → β) {ct elt iter : Expr} {x y : Str} {px py : Pos} {scope : Scope} {cl : List (Str × Addr)} {pos spos : Pos} {Q : Flow → Shared → Prop}
    (hsw : swapsWith (.ListComp elt [⟨.Name x px, iter, [ct], 0⟩] scope pos) (some (.Name y py)) spos.line env = pure true)
    (hclos : closureFor scope env = pure cl) (hcell : ∀ y ∈ scope.names, y.2 ≠ .cell) (hkind : scope.kind = .function)
    (hnames : ∀ y ∈ scope.names, y.2 = .local → scope.names.lookup y.1 = some .local) (hx : scope.names.lookup x = some .local)
    (hy : env.kindOf y = some .local) (hp : (env.scope.kind == .class || (env.scope.kind == .module && env.locals != env.globals)) = false) (hsz : xs.length ≤ sizeLine)
    (h : wpAny (model prog w) A (eval iter env) (fun xv s₁ => ∃ h₀ m news, TestsW W xs V p f prog w A env ct elt x scope cl h₀ env.locals m news xv s₁ ∧
      ∀ ys D h tk, Are W ys ((xs.filter p).map f) → Fr h₀ env.locals h (fun z => if z = y then some (.ref D) else m z) → News h₀ env.locals h ((D, lst ys) :: news) → Off1 D news → Q .next { s₁ with heap := h, toks := tk }) E s)
    (hs : ∀ x, foldedSetIterable iter env x = pure x := by intro _; rfl) :
    wpAny (model prog w) A (exec (.Assign [.Name y py] (.ListComp elt [⟨.Name x px, iter, [ct], 0⟩] scope pos) spos) env) Q E s := by
  rw [exec_Assign_Name_used _ _ _ _ hsw]
  refine wpAny_bind (wpAny_standAt (wpAny_bind ?_))
  show wpAny _ A (do let _ ← comprehension (.ListComp elt [⟨.Name x px, iter, [ct], 0⟩] scope pos) scope env _ (newList []) false (eval iter env) (some (assign (.Name y py) env))) _ _ s
  refine wpAny_bind (wpAny_mono (wpAny_comprehension_free (use := some (assign (.Name y py) env)) (Q := fun _ s' => Q .next s') rfl hs hclos hkind hnames
    (wpAny_mono h (fun xv s₁ h₁ => ?_) fun _ _ e => e)) (fun _ s' hq => wpAny_pure (wpAny_pure hq)) fun _ _ e => e)
  obtain ⟨h₀, m, news, ⟨P, hfeed, hP, ht, he⟩, hQ⟩ := h₁
  refine hfeed _ _ fun I h₂ fp St S W hIo hSt hst hfp F N hIL hI₀ off hS => ?_
  refine block_T W hsz hIo hSt hcell hkind hx hst hfp F N hIL hI₀ off hS (rest_TW (Fin := FinA h₀ env.locals m { s₁ with heap := h₂ } y Q) hP hS (ht _) (he _) (fun ys hy D h tk F' N' o1 => hQ ys D h tk hy F' N' o1) xs.length 0 [] (by omega) .nil) ?_
  intro D C h tk m' ys news' F' N' o1 hn hC₀ hD₀ hCL hDL hCD offC fin
  show wpAny _ A (assign (.Name y py) env (.ref D)) _ _ _
  refine wpAny_assign_Name (wpAny_storeName_local hy F'.ns (fun h₂ hn₂ hs₂ => ?_) hp)
  have hL₀ : h₀.get? env.locals = none := Heap.get?_none_of_le F'.above
  have F₂ : Fr h₀ env.locals h₂ (fun z => if z = y then some (.ref D) else m z) := ⟨hn₂, fun b o e => hs₂.extBut b o (fun q => by rw [q, hL₀] at e; cases e) (F'.keep b o e), F'.above⟩
  refine ⟨m', hn.sameBut hs₂ hCL, fun h'' hs'' => fin D h'' _ (F₂.change hs'' hCL hC₀) (fun p hp => ?_) o1⟩
  have z : h₂.get? p.1 = some p.2 := hs₂.extBut _ _ (N' p hp).2.1 (N' p hp).1
  refine ⟨hs''.extBut _ _ ?_ z, (N' p hp).2⟩
  rcases List.mem_cons.mp hp with rfl | hp
  · exact Ne.symm hCD
  · exact offC p hp

end
end Mine
end

section
open PySem PySem.W PyProof.Rows PySem.Spec PySem.Calls PySem.SeqAt
set_option Elab.async false
set_option maxRecDepth 100000
set_option maxHeartbeats 4000000
namespace Mine
theorem sub_list_bytes : isSubtype (.type "list") (.type "bytes") = pure false := by rw [isSubtype_type]; kernel_rfl
theorem sub_bytes_list : isSubtype (.type "bytes") (.type "list") = pure false := by rw [isSubtype_type]; kernel_rfl
section
variable {prog : Program} {w : World} {A : Around} {E : Value → Shared → Prop} {s : Shared} {l : Addr} {items : Array Value} {n : Nat} {b : Array UInt8} {t : Tok}
theorem bytes_eq_list {Q : Fin → Shared → Prop} (hl : s.heap.get? l = some (lstObj items n)) (h : Q (.done (.ret .notImplemented)) s) : wpAny (model prog w) A (Builtin.«bytes.__eq__» ⟨[.bytes b t, .ref l], []⟩) Q E s := by
  obtain ⟨hp, g, d, tk, os⟩ := s
  have hT : (⟨hp, g, d, tk, os⟩ : Shared).TypeIs (.ref l) "list" := ⟨_, hl, rfl⟩
  have f1 := sub_list_bytes
  unfold Builtin.«bytes.__eq__»
  repeat (any_goals (first | assumption | wp_step))
theorem list_eq_bytes {Q : Fin → Shared → Prop} (h : Q (.done (.ret .notImplemented)) s) : wpAny (model prog w) A (Builtin.«list.__eq__» ⟨[.ref l, .bytes b t], []⟩) Q E s := by
  obtain ⟨hp, g, d, tk, os⟩ := s
  have f1 := sub_bytes_list
  unfold Builtin.«list.__eq__»
  repeat (any_goals (first | assumption | wp_step))
/-- bytes and a list are never equal -/
theorem eq_bytes_list {Q : Value → Shared → Prop} (hl : s.heap.get? l = some (lstObj items n)) (hu : A.units < cLine) (h : Q (.bool false) s) : wpAny (model prog w) A (compareOp .Eq (.bytes b t) (.ref l)) Q E s := by
  have hT : s.TypeIs (.ref l) "list" := ⟨_, hl, rfl⟩
  have hB := typeIs_bytes s b t
  show wpAny _ A (richCompare .Eq _ _) Q E s
  unfold richCompare
  refine wpAny_holding (wpAny_bind (wpAny_cRoomFor hu ?_))
  rcases hi : cmpInfo CmpOp.Eq with ⟨sym, f, r⟩
  simp only [hB.oneThing_none]
  refine wpAny_bind (wpAny_typeOf hB (wpAny_bind (wpAny_typeOf hT ?_)))
  rw [if_pos (by decide)]
  refine wpAny_bind (wpAny_of_eq sub_list_bytes ?_)
  simp only [Bool.false_eq_true, if_false, Bool.not_false, if_true]
  have h1 := FB.slot_bytes_eq
  have h2 := PySem.F.slot_list_eq_refl
  rw [hi] at h1 h2
  refine wpAny_bind (m := tryCompare _ _ _) (wpAny_tryCompare_declines hB h1 (wpAny_call_entry h1 hB FB.entry_bytes_eq (bytes_eq_list hl ⟨_, rfl, rfl, ?_⟩) (FB.args_bytes_eq_2 _ _)))
  refine wpAny_bind (m := tryCompare _ _ _) (wpAny_tryCompare_declines hT h2 (wpAny_call_entry h2 hT PySem.F.entry_list_eq (list_eq_bytes ⟨_, rfl, rfl, ?_⟩) (PySem.F.args_list_eq_2 _ _)))
  exact wpAny_bind (wpAny_rule (wpAny_bind (wpAny_of_eq (a := false) (by first | rfl | kernel_rfl!) (wpAny_pure h))))
end
end Mine
end

section
open PySem PySem.W PyProof.Rows PySem.Spec PySem.Calls PySem.SeqAt
set_option Elab.async false
set_option maxRecDepth 100000
set_option maxHeartbeats 4000000
namespace Mine
theorem Are.get' {β : Type} {W : β → Value → Prop} {vs : List Value} {bs : List β} (h : Are W vs bs) {j : Nat} (hj : j < vs.toArray.size) : ∃ b, bs[j]? = some b ∧ W b vs.toArray[j] := h.get (by rw [Array.getElem?_eq_getElem hj])
theorem all_eq {xs ys : List Str} (hl : xs.length = ys.length) : ((List.range xs.length).all fun j => decide (xs[j]? = ys[j]?)) = decide (xs = ys) := by
  rw [Bool.eq_iff_iff, List.all_eq_true, decide_eq_true_iff]
  constructor
  · intro h
    refine List.ext_getElem? fun j => ?_
    rcases Nat.lt_or_ge j xs.length with hj | hj
    · exact of_decide_eq_true (h j (List.mem_range.mpr hj))
    · rw [List.getElem?_eq_none hj, List.getElem?_eq_none (by omega)]
  · rintro rfl j _
    simp
section
variable {prog : Program} {w : World} {A : Around} {E : Value → Shared → Prop} {s : Shared} {l b : Addr} {vs ws : List Value} {n m : Nat} {xs ys : List Str} {Q : Value → Shared → Prop}
theorem texts_at (hx : Are strW vs xs) (hy : Are strW ws ys) : ∀ j (h1 : j < vs.toArray.size) (h2 : j < ws.toArray.size), EqAt A s vs.toArray[j] ws.toArray[j] (decide (xs[j]? = ys[j]?)) := fun j h1 h2 => by
  obtain ⟨x, e1, t1, z1⟩ := hx.get' h1
  obtain ⟨y, e2, t2, z2⟩ := hy.get' h2
  rw [z1, z2, e1, e2]
  have e : (x == y) = decide (some x = some y) := by rw [Bool.eq_iff_iff, beq_iff_eq, decide_eq_true_iff]; exact ⟨congrArg some, Option.some.inj⟩
  rw [← e]
  exact EqAt.str_str x t1 y t2
theorem size_are {β : Type} {W : β → Value → Prop} {vs : List Value} {bs : List β} (h : Are W vs bs) : vs.toArray.size = bs.length := by rw [List.size_toArray]; exact h.len
theorem ne_texts (hl : s.heap.get? l = some (lstObj vs.toArray n)) (hb : s.heap.get? b = some (lstObj ws.toArray m)) (hx : Are strW vs xs) (hy : Are strW ws ys) (hu : A.units < cLine) (h : Q (.bool (!decide (xs = ys))) s) :
    wpAny (model prog w) A (compareOp .NotEq (.ref l) (.ref b)) Q E s := by
  show wpAny _ A (richCompare .NotEq _ _) Q E s
  have hl' : s.heap.IsList l vs.toArray := ⟨_, hl, rfl, _, rfl⟩
  have hb' : s.heap.IsList b ws.toArray := ⟨_, hb, rfl, _, rfl⟩
  by_cases hz : xs.length = ys.length
  · have := RcNeAt.lists hl' hb' (by rw [size_are hx, size_are hy, hz]) hu (texts_at hx hy)
    rw [size_are hx, all_eq hz] at this
    exact this prog w E Q h
  · have hne : xs ≠ ys := fun q => hz (by rw [q])
    rw [decide_eq_false hne] at h
    exact RcNeAt.lists_lengths hl' hb' (by rw [size_are hx, size_are hy]; simpa using hz) hu prog w E Q h
theorem eq_texts (hl : s.heap.get? l = some (lstObj vs.toArray n)) (hb : s.heap.get? b = some (lstObj ws.toArray m)) (hx : Are strW vs xs) (hy : Are strW ws ys) (hu : A.units < cLine) (h : Q (.bool (decide (xs = ys))) s) :
    wpAny (model prog w) A (compareOp .Eq (.ref l) (.ref b)) Q E s := by
  show wpAny _ A (richCompare .Eq _ _) Q E s
  have hl' : s.heap.IsList l vs.toArray := ⟨_, hl, rfl, _, rfl⟩
  have hb' : s.heap.IsList b ws.toArray := ⟨_, hb, rfl, _, rfl⟩
  by_cases hz : xs.length = ys.length
  · have := RcAt.lists hl' hb' (by rw [size_are hx, size_are hy, hz]) hu (texts_at hx hy)
    rw [size_are hx, all_eq hz] at this
    exact this prog w E Q h
  · have hne : xs ≠ ys := fun q => hz (by rw [q])
    rw [decide_eq_false hne] at h
    exact RcAt.lists_lengths hl' hb' (by rw [size_are hx, size_are hy]; simpa using hz) hu prog w E Q h
end
end Mine
end

section
open PySem PySem.W PyProof.Rows PySem.Spec PySem.Calls PySem.SeqAt PyProof.Rows.LCg
set_option Elab.async false
set_option maxRecDepth 100000
set_option maxHeartbeats 4000000
namespace Mine
/-- after a deed the frame and what is new stand -/
theorem after_deed {H h h' : Heap} {L : Addr} {m : Str → Option Value} {env : Env} {news : List (Addr × Obj)} (hf : env.frame = some L) (F : Fr H L h m) (N : News H L h news)
    (hold : ∀ b o, h.get? b = some o → b ∉ [env].filterMap (·.frame) → h'.get? b = some o) (hup : h.UpToSlots h') : Fr H L h' m ∧ News H L h' news := by
  have nm : ∀ b, b ≠ L → b ∉ [env].filterMap (·.frame) := fun b hb hm => by
    rw [List.filterMap_cons, hf] at hm
    simp only [List.filterMap_nil, List.mem_cons, List.not_mem_nil, or_false] at hm
    exact hb hm
  have HL : H.get? L = none := Heap.get?_none_of_le F.above
  exact ⟨⟨hup.ns F.ns, fun b o q => hold b o (F.keep b o q) (nm b fun z => by rw [z, HL] at q; cases q), F.above⟩, fun p hp => ⟨hold _ _ (N p hp).1 (nm _ (N p hp).2.1), (N p hp).2⟩⟩
theorem news_add {H h h' : Heap} {L D : Addr} {m : Str → Option Value} {o : Obj} {news : List (Addr × Obj)} (F : Fr H L h m) (N : News H L h' news) (hD : h.get? D = none) (hD' : h'.get? D = some o) : News H L h' ((D, o) :: news) := fun p hp => by
  rcases List.mem_cons.mp hp with rfl | hp
  · refine ⟨hD', fun z => ?_, ?_⟩
    · obtain ⟨oL, _, _, ho, _⟩ := F.ns
      have z' : D = L := z
      rw [z', ho] at hD; cases hD
    · cases q : H.get? D with
      | none => rfl
      | some o' => have := F.keep _ _ q; rw [hD] at this; cases this
  · exact N p hp

/-- a tree's end, told -/
structure Ends {α : Type} (a : α) (R : Shared → Prop) (v : α) (s : Shared) : Prop where
  eq : v = a
  holds : R s
end Mine
end

section
open PySem PySem.W PyProof.Rows PySem.Spec PySem.Calls PySem.SeqAt
set_option Elab.async false
set_option maxRecDepth 100000
set_option maxHeartbeats 8000000
namespace Mine
def strE (y z : Value) : Bool := match y, z with
  | .str a _, .str b _ => a == b
  | _, _ => false
theorem strE_any (b : Str) (t : Tok) : ∀ {vs : List Value} {ms : List Str}, Are strW vs ms → vs.any (fun y => strE y (.str b t)) = ms.contains b
  | [], [], .nil => rfl
  | _ :: _, a :: ms, .cons ⟨u, h⟩ r => by
    subst h
    rw [List.any_cons, strE_any b t r, List.contains_cons]
    show (a == b || _) = _
    rw [show (a == b) = (b == a) from by rw [Bool.eq_iff_iff, beq_iff_eq, beq_iff_eq]; exact ⟨Eq.symm, Eq.symm⟩]
theorem Are.of_mem {β : Type} {W : β → Value → Prop} : ∀ {vs : List Value} {ms : List β}, Are W vs ms → ∀ y ∈ vs, ∃ a, W a y
  | _ :: _, _ :: _, .cons (b := b) h r, y, hy => by
    rcases List.mem_cons.mp hy with rfl | hy
    · exact ⟨b, h⟩
    · exact r.of_mem y hy
theorem sieve_texts {skip : Array Value} {ms : List Str} (hs : Are strW skip.toList ms) : ∀ {vs : List Value} {ns : List Str}, Are strW vs ns → Are strW (sieve strE skip vs) (ns.filter fun a => !ms.contains a)
  | [], [], .nil => .nil
  | _ :: vs, a :: ns, .cons ⟨t, h⟩ r => by
    subst h
    have e : (skip.any fun y => strE y (.str a t)) = ms.contains a := by rw [← Array.any_toList]; exact strE_any a t hs
    have ih := sieve_texts hs r
    unfold sieve at ih ⊢
    rw [List.filter_cons, List.filter_cons]
    simp only [e]
    cases ms.contains a with
    | true => simpa using ih
    | false => simpa using Are.cons ⟨t, rfl⟩ ih
section
variable {w : World} {lo : List Str} {mean : ExcName → Option Value} {mg mb : Str → Option Value} {dp un : Nat} {gd : Option (List Code)} {E : Value → Shared → Prop} {s : Shared} {H : Heap} {L : Addr} {env : Env} {m : Str → Option Value} {news : List (Addr × Obj)} {Q : Value → Shared → Prop}
theorem frames_one (hk : env.scope.kind = .function) (hf : env.frame = some L) (F : Fr H L s.heap m) : s.heap.FunFrames H [env] :=
  Heap.FunFrames.cons (by rw [hk]; decide) hf F.ns (Heap.get?_none_of_le F.above) trivial
theorem off_frame (hf : env.frame = some L) (N : News H L s.heap news) {p : Addr × Obj} (hp : p ∈ news) : p.1 ∉ [env].filterMap (·.frame) := fun hm => by
  rw [List.filterMap_cons, hf] at hm
  simp only [List.filterMap_nil, List.mem_cons, List.not_mem_nil, or_false] at hm
  exact (N p hp).2.1 hm
/-- filecmp's sieve, called from the law's own frame -/
theorem filter_law {fl sk : Addr} {ws vs : List Value} {xs ys : List Str} {c1 c2 : Nat} (KX : (hd.heap_1 w.params).In H) (TT : Top hdView lo mean mg mb H) (hk : env.scope.kind = .function) (hf : env.frame = some L) (F : Fr H L s.heap m) (N : News H L s.heap news)
    (hfl : (fl, lstObj ws.toArray c1) ∈ news) (hsk : (sk, lstObj vs.toArray c2) ∈ news) (hx : Are strW ws xs) (hy : Are strW vs ys) (hz : xs.length ≤ sizeLine) (hdp : dp + 12 < recursionLimit) (hun : un + 120 < cLine)
    (k : ∀ S h' tk' zs c, Fr H L h' m → News H L h' ((S, lstObj (List.toArray zs) c) :: news) → (∀ p ∈ news, p.1 ≠ S) → Are strW zs (xs.filter fun a => !ys.contains a) → Q (.ref S) { s with heap := h', toks := tk' }) :
    wpAny (model PySem.Challenge.rw_il0163_02.row.prog w) { handled := none, depth := dp, frames := some [env], guards := gd, units := un } (call (.ref 66) [.ref fl, .ref sk]) Q E s := by
  refine filter_raw strE KX TT (fun b o q => F.keep b o q) (Nat.le_trans F.above (Nat.le_of_lt (fr_lt F))) (frames_one hk hf F) (N _ hfl).1 (N _ hsk).1 (N _ hfl).2.2 (N _ hsk).2.2 (off_frame hf N hfl) (off_frame hf N hsk) hdp hun (by rw [size_are hx]; exact hz) (fun y hy' z hz' A s => ?_) (fun S h' tk' c hS hS' hold hup => ?_)
  · obtain ⟨a, t, rfl⟩ := hy.of_mem y (by simpa using hy')
    obtain ⟨b, u, rfl⟩ := hx.of_mem z (by simpa using hz')
    exact EqAt.str_str _ _ _ _
  · obtain ⟨F2, N2⟩ := after_deed hf F N hold hup
    exact k S h' tk' _ c F2 (news_add F N2 hS hS') (fun p hp z => by have := (N p hp).1; rw [z, hS] at this; cases this) (sieve_texts hy hx)
/-- the law's door, called from the law's own frame -/
theorem door_law (x : Str) (tx : Tok) (KX : (hd.heap_1 w.params).In H) (TT : Top hdView lo mean mg mb H) (hk : env.scope.kind = .function) (hf : env.frame = some L) (F : Fr H L s.heap m) (N : News H L s.heap news) (hs : x.length ≤ sizeLine)
    (hdp : dp + 30 < recursionLimit) (hun : un + 150 < cLine)
    (k1 : ∀ t h' tk', x.cps.all (· < 128) = true → Fr H L h' m → News H L h' news → Q (.bytes (asciiBytes x) t) { s with heap := h', toks := tk' })
    (k2 : ∀ D u c h' tk', x.cps.all (· < 128) = false → Fr H L h' m → News H L h' ((D, lstObj [Value.str doorWords u].toArray c) :: news) → Q (.ref D) { s with heap := h', toks := tk' }) :
    wpAny (model PySem.Challenge.rw_il0163_02.row.prog w) { handled := none, depth := dp, frames := some [env], guards := gd, units := un } (call (.ref 134) [.str x tx]) Q E s := by
  refine ldoor_raw x tx hs KX TT (fun b o q => F.keep b o q) (Nat.le_trans F.above (Nat.le_of_lt (fr_lt F))) (frames_one hk hf F) hdp hun (fun v h3 tk3 hout hold hup => ?_)
  obtain ⟨F2, N2⟩ := after_deed hf F N hold hup
  rcases hout with ⟨ha, t, rfl⟩ | ⟨ha, D, u, c, rfl, hD0, hD⟩
  · exact k1 t h3 tk3 ha F2 N2
  · exact k2 D u c h3 tk3 ha F2 (news_add F N2 hD0 hD)
end
end Mine
end

section
open PySem PySem.W PyProof.Rows PySem.Spec PySem.Calls PySem.SeqAt
set_option Elab.async false
set_option maxRecDepth 100000
set_option maxHeartbeats 4000000
namespace Mine
theorem Are.strs : ∀ {vs : List Value} {xs : List Str}, Are strW vs xs → StrsAre vs xs
  | [], [], .nil => .nil
  | _ :: _, x :: _, .cons ⟨t, h⟩ r => by subst h; exact .cons x t r.strs
section
variable {prog : Program} {w : World} {A : Around} {E : Value → Shared → Prop} {s : Shared} {h₀ : Heap} {L : Addr} {m : Str → Option Value} {news : List (Addr × Obj)}
/-- a list's first items -/
theorem slice_upto {value slice : PySem.Expr} {G : Addr} {vs : List Value} {n i : Nat} {t : Tok} {Q : Value → Shared → Prop} (F : Fr h₀ L s.heap m) (N : News h₀ L s.heap news) (hm : (G, lstObj vs.toArray n) ∈ news) (hi : i ≤ vs.length) (hz : vs.length ≤ sizeLine)
    (h : ∀ D h', Fr h₀ L h' m → News h₀ L h' ((D, lstObj (vs.take i).toArray 0) :: news) → (∀ p ∈ news, p.1 < D) → Q (.ref D) { s with heap := h' })
    (hs : subscripted slice false (.ref G) (.ref s.heap.objs.size) = operate [.ref s.heap.objs.size, .ref G] (getItem (.ref G) (.ref s.heap.objs.size)) := by with_unfolding_all rfl)
    (ht : ∀ r, letTemporaryGo value (.ref G) r = pure () := by intro _; with_unfolding_all rfl) :
    wpAny (model prog w) A (subscriptTail value slice (.ref G) (.ref s.heap.objs.size)) Q E { s with heap := s.heap.push { cls := .type "slice", data := .fields #[.none, .int (i : Int) t, .none] } } := by
  exact kmk_slice_lit F N (its := vs.toArray) (zs := vs.take i) ⟨_, (N _ hm).1, rfl, _, rfl⟩ .none (.int _ _) (by rw [slicePick_upto _ _ (by rw [List.size_toArray]; exact hi)]) (fun D h' F' N' l1 => h D h' F' N' l1) hs ht (by rw [List.size_toArray]; exact hz)
end
end Mine
end

section
open PySem PySem.W PyProof.Rows PySem.Spec PySem.Calls PySem.SeqAt
set_option Elab.async false
set_option maxRecDepth 100000
set_option maxHeartbeats 4000000
namespace Mine
section
variable {prog : Program} {w : World} {A : Around} {E : Value → Shared → Prop} {s : Shared} {h₀ : Heap} {L : Addr} {m : Str → Option Value} {news : List (Addr × Obj)}
/-- two lists, one behind the other -/
theorem add_two {G K : Addr} {vs ws : List Value} {n k : Nat} {Q : Value → Shared → Prop} (F : Fr h₀ L s.heap m) (N : News h₀ L s.heap news) (hm : (G, lstObj vs.toArray n) ∈ news) (hk : (K, lstObj ws.toArray k) ∈ news) (hz : vs.length + ws.length ≤ sizeLine)
    (h : ∀ D h', Fr h₀ L h' m → News h₀ L h' ((D, lstObj (vs ++ ws).toArray 0) :: news) → (∀ p ∈ news, p.1 ≠ D) → Q (.ref D) { s with heap := h' }) :
    wpAny (model prog w) A (binaryOp .Add (.ref G) (.ref K)) Q E s :=
  add_lists (hsz := hz) F N ⟨_, (N _ hm).1, rfl, _, rfl⟩ ⟨_, (N _ hk).1, rfl, _, rfl⟩ fun h' F' N' => h _ h' F' N' fun p hp => Nat.ne_of_lt (Heap.lt_size (N p hp).1)
end
end Mine
end

section
open PySem PySem.W PyProof.Rows PySem.Spec PySem.Calls PySem.SeqAt PyProof.Rows.LCg PyProof.Rows.LCt
set_option Elab.async false
set_option maxRecDepth 100000
set_option maxHeartbeats 4000000
namespace Mine
/-- the end of a turn: the frame's names as told, what is new still there -/
def TurnEnd (h₀ : Heap) (L : Addr) (J : (Str → Option Value) → Prop) (need : List (Addr × Obj)) (s : Shared) (Q : Flow → Shared → Prop) (f : Flow) (s₂ : Shared) : Prop :=
  (f = .next ∧ ∃ h' tk m', s₂ = { s with heap := h', toks := tk } ∧ Fr h₀ L h' m' ∧ News h₀ L h' need ∧ J m') ∨ ∃ v, f = .ret v ∧ Q (.ret v) s₂
/-- a for over a range, by what holds of the frame's names -/
theorem loop_range {prog : Program} {w : World} {A : Around} {E : Value → Shared → Prop} {s : Shared} {env : Env} {h₀ : Heap} {x : Str} {body : List Stmt} {Q : Flow → Shared → Prop} {m : Str → Option Value} {news : List (Addr × Obj)}
    {r : Addr} {b : Int} {t u v : Tok} {n : Nat} (J : Nat → (Str → Option Value) → Prop) (hh : A.handled = none) (F : Fr h₀ env.locals s.heap m) (N : News h₀ env.locals s.heap news) (hr : IsRange s.heap r 0 b 1 t u v)
    (hsm : Builtin.Range.small 0 b 1 = true) (hn : Builtin.Range.rangeSize 0 b 1 = ((n : Nat) : Int)) (hj : J 0 m)
    (turn : ∀ i t m₁ h tk own, i < n → J i m₁ → Fr h₀ env.locals h (fun y => if y = x then some (.int (i : Int) t) else m₁ y) → News h₀ env.locals h (own ++ news) →
      wpAny (model prog w) A (execs body env) (TurnEnd h₀ env.locals (J (i + 1)) (own ++ news) s Q) E { s with heap := h, toks := tk })
    (done : ∀ m₁ h tk, J n m₁ → Fr h₀ env.locals h m₁ → News h₀ env.locals h news → Q .next { s with heap := h, toks := tk }) :
    wpAny (model prog w) A (pyIter (.ref r)) (fun it s₂ => LoopAtV prog w A h₀ env x body Q E it s₂) E s := by
  refine wpAny_pyIter_range hr hsm ?_
  have hL : env.locals ≠ s.heap.objs.size := Nat.ne_of_lt F.ns.lt
  refine ⟨_, _, _, n, _, _, m, news, fun i m₁ news₁ => news₁ = news ∧ J i m₁, rfl, range_walks hh 0 n, fun hm => hL (List.mem_singleton.mp hm), fun b hb => by rw [List.mem_singleton.mp hb]; exact next_is_new F, fun p hp hm => ?_,
    by show IsRangeIter _ _ _ _ _; rw [hn]; simpa using Heap.get?_push_size _ rfl, F.keeps fun _ _ e => Heap.get?_push_of_some _ e, N.grown fun _ _ e => Heap.get?_push_of_some _ e, ⟨rfl, hj⟩, ?_, ?_⟩
  · exact absurd (Heap.lt_size (N p hp).1) ((List.mem_singleton.mp hm) ▸ Nat.lt_irrefl _)
  · rintro i v m₁ news₁ s₁ own ⟨h, tk, rfl⟩ hin ⟨t, rfl⟩ ⟨rfl, hJ⟩ hoff _ _ _ _ F₁ N₁
    have e0 : (0 : Int) + (i : Int) = (i : Int) := Int.zero_add _
    rw [e0] at F₁
    refine wpAny_mono (turn i t m₁ h tk own hin hJ F₁ N₁) (fun f s₂ p => ?_) fun _ _ e => e
    rcases p with ⟨rfl, h', tk', m', rfl, F', N', hm⟩ | ⟨v, rfl, hv⟩
    · exact .next ⟨rfl, h', tk', m', news₁, rfl, F', N', hoff, rfl, hm⟩
    · exact .ret hv
  · rintro h' tk m' news' F' N' _ ⟨rfl, hJ⟩
    exact done m' h' tk hJ F' N'
end Mine
end

section
open PySem PySem.W PyProof.Rows PySem.Spec PySem.Calls PySem.SeqAt PyProof.Rows.LCg PyProof.Rows.LCt
set_option Elab.async false
set_option maxRecDepth 100000
set_option maxHeartbeats 4000000
namespace Mine
/-- loop_range, what the loop owns at the end of the ledger -/
theorem loop_range2 {prog : Program} {w : World} {A : Around} {E : Value → Shared → Prop} {s : Shared} {env : Env} {h₀ : Heap} {x : Str} {body : List Stmt} {Q : Flow → Shared → Prop} {m : Str → Option Value} {news : List (Addr × Obj)}
    {r : Addr} {b : Int} {t u v : Tok} {n : Nat} (J : Nat → (Str → Option Value) → Prop) (hh : A.handled = none) (F : Fr h₀ env.locals s.heap m) (N : News h₀ env.locals s.heap news) (hr : IsRange s.heap r 0 b 1 t u v)
    (hsm : Builtin.Range.small 0 b 1 = true) (hn : Builtin.Range.rangeSize 0 b 1 = ((n : Nat) : Int)) (hj : J 0 m)
    (turn : ∀ i t m₁ h tk own, i < n → J i m₁ → Fr h₀ env.locals h (fun y => if y = x then some (.int (i : Int) t) else m₁ y) → News h₀ env.locals h (news ++ own) →
      wpAny (model prog w) A (execs body env) (TurnEnd h₀ env.locals (J (i + 1)) (news ++ own) s Q) E { s with heap := h, toks := tk })
    (done : ∀ m₁ h tk, J n m₁ → Fr h₀ env.locals h m₁ → News h₀ env.locals h news → Q .next { s with heap := h, toks := tk }) :
    wpAny (model prog w) A (pyIter (.ref r)) (fun it s₂ => LoopAtV prog w A h₀ env x body Q E it s₂) E s := by
  refine loop_range J hh F N hr hsm hn hj (fun i t m₁ h tk own hi hJ F' N' => ?_) done
  refine wpAny_mono (turn i t m₁ h tk own hi hJ F' fun p hp => N' p (List.mem_append.mpr (List.mem_append.mp hp).symm)) (fun f s₂ p => ?_) fun _ _ e => e
  rcases p with ⟨h1, h', tk', m', h2, F2, N2, hm⟩ | h
  · exact .inl ⟨h1, h', tk', m', h2, F2, fun p hp => N2 p (List.mem_append.mpr (List.mem_append.mp hp).symm), hm⟩
  · exact .inr h
end Mine
end

section
open PySem PySem.W PyProof.Rows PySem.Spec PySem.Calls PySem.SeqAt PyProof.Rows.LCg PyProof.Rows.LCt
set_option Elab.async false
set_option maxRecDepth 100000
set_option maxHeartbeats 4000000
namespace Mine
section
variable {prog : Program} {w : World} {A : Around} {E : Value → Shared → Prop} {s : Shared} {h₀ : Heap} {L : Addr} {m : Str → Option Value} {news : List (Addr × Obj)}
theorem feeds_bytes {b : Array UInt8} {t : Tok} {n : Nat} (hn : b.size = n) (hh : A.handled = none) (F : Fr h₀ L s.heap m) (N : News h₀ L s.heap news) : Feeds prog w A h₀ L m news (.bytes b t) s n (fun i v => ∃ (c : UInt8) (u : Tok), b[i]? = some c ∧ v = .int (c.toNat : Int) u) := by
  subst hn
  intro Q E k
  refine KBw.pyIter_bytes ?_
  refine k _ _ _ _ (fun _ => True) (KBw.walks (prog := prog) (w := w) hh s.heap.objs.size b t) (fun i h st => let ⟨o, ho, _⟩ := st; ⟨o, ho⟩) (fun i h h' o nw st e e' _ _ _ => by obtain ⟨o', q, r⟩ := st; rw [e] at q; cases q; exact ⟨o, e', r⟩) ⟨_, Heap.get?_push_size _ rfl, rfl, rfl⟩ (fun b hb => ?_)
    (F.keeps fun _ _ e => Heap.get?_push_of_some _ e) (N.grown fun _ _ e => Heap.get?_push_of_some _ e) (Nat.ne_of_lt F.ns.lt) (next_is_new F) (fun p hp => Nat.ne_of_lt (Heap.lt_size (N p hp).1)) trivial
  rw [List.mem_singleton.mp hb, Heap.size_push]; exact Nat.lt_succ_self _
theorem bytes_ints {b : Array UInt8} {ks : List Int} (hb : KBw.bInts b = ks) {i : Nat} {v : Value} (h : ∃ (c : UInt8) (u : Tok), b[i]? = some c ∧ v = .int (c.toNat : Int) u) : ∃ k u, ks[i]? = some k ∧ v = .int k u := by
  obtain ⟨c, u, hc, rfl⟩ := h
  exact ⟨_, u, hb ▸ KBw.ints_get hc, rfl⟩
end
end Mine
end

section
open PySem PySem.W PyProof.Rows PySem.Spec PySem.Calls PySem.SeqAt
set_option Elab.async false
namespace Mine
/-- a bit of a number -/
def bt (n : Int) (i : Nat) : Bool := n / 2 ^ i % 2 == 1
theorem em2 (x : Int) : x % 2 = 0 ∨ x % 2 = 1 := by omega
theorem bt_zero (n : Int) : bt n 0 = (n % 2 == 1) := by unfold bt; rw [Int.pow_zero, Int.ediv_one]
theorem bt_succ (n : Int) (i : Nat) : bt n (i + 1) = bt (n / 2) i := by
  unfold bt
  rw [Int.pow_succ, Int.mul_comm (2 ^ i) 2, Int.ediv_ediv, if_neg (by omega), Int.sub_zero]
theorem bitNot_div (x : Int) : Builtin.bitNot x / 2 = Builtin.bitNot (x / 2) := by unfold Builtin.bitNot; omega
theorem bitNot_mod (x : Int) : Builtin.bitNot x % 2 = 1 - x % 2 := by unfold Builtin.bitNot; omega
theorem nat_and (a b : Nat) : (a &&& b) = 2 * ((a / 2) &&& (b / 2)) + (if a % 2 = 1 ∧ b % 2 = 1 then 1 else 0) := by
  have h1 : (a &&& b) / 2 = a / 2 &&& b / 2 := Nat.and_div_two
  have h2 : (a &&& b) % 2 = 1 ↔ a % 2 = 1 ∧ b % 2 = 1 := Nat.and_mod_two_eq_one
  split <;> rename_i h
  · have := h2.mpr h; omega
  · have : ¬ (a &&& b) % 2 = 1 := fun q => h (h2.mp q)
    omega
theorem nat_or (a b : Nat) : (a ||| b) = 2 * ((a / 2) ||| (b / 2)) + (if a % 2 = 1 ∨ b % 2 = 1 then 1 else 0) := by
  have h1 : (a ||| b) / 2 = a / 2 ||| b / 2 := Nat.or_div_two
  have h2 : (a ||| b) % 2 = 1 ↔ a % 2 = 1 ∨ b % 2 = 1 := Nat.or_mod_two_eq_one
  split <;> rename_i h
  · have := h2.mpr h; omega
  · have : ¬ (a ||| b) % 2 = 1 := fun q => h (h2.mp q)
    omega
theorem toNat_half {x : Int} (_ : 0 ≤ x) : (x / 2).toNat = x.toNat / 2 := by omega
theorem toNat_not_half {x : Int} (_ : x < 0) : (Builtin.bitNot (x / 2)).toNat = (Builtin.bitNot x).toNat / 2 := by unfold Builtin.bitNot; omega
theorem and_rec (x y : Int) : Builtin.bitAnd x y = 2 * Builtin.bitAnd (x / 2) (y / 2) + (if x % 2 = 1 ∧ y % 2 = 1 then 1 else 0) := by
  unfold Builtin.bitAnd
  have c1 : (0 ≤ x / 2) ↔ 0 ≤ x := by omega
  have c2 : (0 ≤ y / 2) ↔ 0 ≤ y := by omega
  by_cases hx : 0 ≤ x <;> by_cases hy : 0 ≤ y
  · simp only [c1, c2, hx, hy, decide_true]
    rw [toNat_half hx, toNat_half hy, nat_and x.toNat y.toNat]
    generalize x.toNat / 2 &&& y.toNat / 2 = z
    have e1 : x.toNat % 2 = 1 ↔ x % 2 = 1 := by omega
    have e2 : y.toNat % 2 = 1 ↔ y % 2 = 1 := by omega
    simp only [e1, e2]
    split <;> omega
  · simp only [c1, c2, hx, hy, decide_true, decide_false]
    rw [toNat_half hx, toNat_not_half (by omega), nat_and x.toNat (Builtin.bitNot y).toNat]
    generalize x.toNat / 2 &&& (Builtin.bitNot y).toNat / 2 = z
    have e1 : x.toNat % 2 = 1 ↔ x % 2 = 1 := by omega
    have e2 : (Builtin.bitNot y).toNat % 2 = 1 ↔ ¬ y % 2 = 1 := by unfold Builtin.bitNot; omega
    simp only [e1, e2]
    split <;> split <;> omega
  · simp only [c1, c2, hx, hy, decide_true, decide_false]
    rw [toNat_half hy, toNat_not_half (by omega), nat_and y.toNat (Builtin.bitNot x).toNat]
    generalize y.toNat / 2 &&& (Builtin.bitNot x).toNat / 2 = z
    have e1 : y.toNat % 2 = 1 ↔ y % 2 = 1 := by omega
    have e2 : (Builtin.bitNot x).toNat % 2 = 1 ↔ ¬ x % 2 = 1 := by unfold Builtin.bitNot; omega
    simp only [e1, e2]
    split <;> split <;> omega
  · simp only [c1, c2, hx, hy, decide_false]
    rw [toNat_not_half (by omega), toNat_not_half (x := y) (by omega), nat_or (Builtin.bitNot x).toNat (Builtin.bitNot y).toNat]
    generalize (Builtin.bitNot x).toNat / 2 ||| (Builtin.bitNot y).toNat / 2 = z
    have e1 : (Builtin.bitNot x).toNat % 2 = 1 ↔ ¬ x % 2 = 1 := by unfold Builtin.bitNot; omega
    have e2 : (Builtin.bitNot y).toNat % 2 = 1 ↔ ¬ y % 2 = 1 := by unfold Builtin.bitNot; omega
    simp only [e1, e2]
    unfold Builtin.bitNot
    split <;> split <;> omega
/-- the number of bits in a row -/
def wsum : Nat → (Nat → Bool) → Int
  | 0, _ => 0
  | k + 1, p => (if p 0 then 1 else 0) + 2 * wsum k (fun i => p (i + 1))
theorem and_bits : ∀ (k : Nat) (x y : Int), 0 ≤ y → y < 2 ^ k → Builtin.bitAnd x y = wsum k fun i => bt x i && bt y i
  | 0, x, y, h0, h1 => by
    have : y = 0 := by rw [Int.pow_zero] at h1; omega
    subst this
    unfold Builtin.bitAnd wsum
    by_cases hx : 0 ≤ x
    · simp [hx]
    · simp [hx]
  | k + 1, x, y, h0, h1 => by
    rw [and_rec, and_bits k (x / 2) (y / 2) (by omega) (by rw [Int.pow_succ] at h1; omega)]
    show _ = (if (bt x 0 && bt y 0) = true then 1 else 0) + 2 * wsum k fun i => bt x (i + 1) && bt y (i + 1)
    rw [bt_zero, bt_zero]
    simp only [bt_succ]
    rw [Int.add_comm]
    congr 1
    rcases em2 x with h | h <;> rcases em2 y with h' | h' <;> rw [h, h'] <;> rfl
end Mine
end

section
open PySem PySem.W PyProof.Rows PySem.Spec PySem.Calls PySem.SeqAt
set_option Elab.async false
set_option maxRecDepth 100000
namespace Mine
def pows : List Int := (List.range 16).map fun i => (2 : Int) ^ i
/-- the row is the number's last sixteen bits -/
def Good (n : Int) (ns : List Int) : Prop := ns.Nodup ∧ (∀ v ∈ ns, ∃ i, i < 16 ∧ v = (2 : Int) ^ i) ∧ ∀ i, i < 16 → ((2 : Int) ^ i ∈ ns ↔ bt n i = true)
def can (n : Int) : List Int := ((List.range 16).filter fun i => bt n i).map fun i => (2 : Int) ^ i
def bi (b : Bool) : Int := if b = true then 1 else 0
theorem bi_true : bi true = 1 := rfl
theorem bi_false : bi false = 0 := rfl
theorem wsum_succ (k : Nat) (p : Nat → Bool) : wsum (k + 1) p = bi (p 0) + 2 * wsum k (fun i => p (i + 1)) := rfl
theorem wsum_zero (p : Nat → Bool) : wsum 0 p = 0 := rfl
theorem kind_and (n : Int) : Builtin.bitAnd n 61440 = 4096 * (bi (bt n 12) + 2 * bi (bt n 13) + 4 * bi (bt n 14) + 8 * bi (bt n 15)) := by
  rw [and_bits 16 n 61440 (by decide) (by decide)]
  have z : ∀ i, i < 16 → bt 61440 i = decide (12 ≤ i) := by decide
  simp only [wsum_succ, wsum_zero, Nat.zero_add, Nat.reduceAdd, z 0 (by decide), z 1 (by decide), z 2 (by decide), z 3 (by decide), z 4 (by decide), z 5 (by decide), z 6 (by decide), z 7 (by decide), z 8 (by decide), z 9 (by decide), z 10 (by decide), z 11 (by decide), z 12 (by decide), z 13 (by decide), z 14 (by decide), z 15 (by decide)]
  generalize bt n 12 = b12
  generalize bt n 13 = b13
  generalize bt n 14 = b14
  generalize bt n 15 = b15
  simp only [show decide (12 ≤ 0) = false by decide, show decide (12 ≤ 1) = false by decide, show decide (12 ≤ 2) = false by decide, show decide (12 ≤ 3) = false by decide, show decide (12 ≤ 4) = false by decide, show decide (12 ≤ 5) = false by decide, show decide (12 ≤ 6) = false by decide,
    show decide (12 ≤ 7) = false by decide, show decide (12 ≤ 8) = false by decide, show decide (12 ≤ 9) = false by decide, show decide (12 ≤ 10) = false by decide, show decide (12 ≤ 11) = false by decide, show decide (12 ≤ 12) = true by decide, show decide (12 ≤ 13) = true by decide,
    show decide (12 ≤ 14) = true by decide, show decide (12 ≤ 15) = true by decide, Bool.and_false, Bool.and_true, bi_false]
  cases b12 <;> cases b13 <;> cases b14 <;> cases b15 <;> rfl
end Mine
end

section
open PySem PySem.W PyProof.Rows PySem.Spec PySem.Calls PySem.SeqAt
set_option Elab.async false
set_option maxRecDepth 100000
set_option maxHeartbeats 4000000
namespace Mine
theorem and_256 (n : Int) : Builtin.bitAnd n 256 = 256 * bi (bt n 8) := by
  rw [and_bits 16 n 256 (by decide) (by decide)]
  have z : ∀ i, i < 16 → bt 256 i = decide (2 ^ i &&& 256 ≠ 0) := by decide
  simp only [wsum_succ, wsum_zero, Nat.zero_add, Nat.reduceAdd, z 0 (by decide), z 1 (by decide), z 2 (by decide), z 3 (by decide), z 4 (by decide), z 5 (by decide), z 6 (by decide), z 7 (by decide), z 8 (by decide), z 9 (by decide), z 10 (by decide), z 11 (by decide), z 12 (by decide), z 13 (by decide), z 14 (by decide), z 15 (by decide)]
  simp only [show decide (2 ^ 0 &&& 256 ≠ 0) = false by decide, show decide (2 ^ 1 &&& 256 ≠ 0) = false by decide, show decide (2 ^ 2 &&& 256 ≠ 0) = false by decide, show decide (2 ^ 3 &&& 256 ≠ 0) = false by decide, show decide (2 ^ 4 &&& 256 ≠ 0) = false by decide, show decide (2 ^ 5 &&& 256 ≠ 0) = false by decide, show decide (2 ^ 6 &&& 256 ≠ 0) = false by decide, show decide (2 ^ 7 &&& 256 ≠ 0) = false by decide, show decide (2 ^ 8 &&& 256 ≠ 0) = true by decide, show decide (2 ^ 9 &&& 256 ≠ 0) = false by decide, show decide (2 ^ 10 &&& 256 ≠ 0) = false by decide, show decide (2 ^ 11 &&& 256 ≠ 0) = false by decide, show decide (2 ^ 12 &&& 256 ≠ 0) = false by decide, show decide (2 ^ 13 &&& 256 ≠ 0) = false by decide, show decide (2 ^ 14 &&& 256 ≠ 0) = false by decide, show decide (2 ^ 15 &&& 256 ≠ 0) = false by decide, Bool.and_false, Bool.and_true, bi_false]
  generalize bt n 8 = b8
  cases b8 <;> rfl
theorem hit_256 (n : Int) : (Builtin.bitAnd n 256 == 256) = (bt n 8) := by
  rw [and_256]
  cases bt n 8 <;> rfl
theorem and_128 (n : Int) : Builtin.bitAnd n 128 = 128 * bi (bt n 7) := by
  rw [and_bits 16 n 128 (by decide) (by decide)]
  have z : ∀ i, i < 16 → bt 128 i = decide (2 ^ i &&& 128 ≠ 0) := by decide
  simp only [wsum_succ, wsum_zero, Nat.zero_add, Nat.reduceAdd, z 0 (by decide), z 1 (by decide), z 2 (by decide), z 3 (by decide), z 4 (by decide), z 5 (by decide), z 6 (by decide), z 7 (by decide), z 8 (by decide), z 9 (by decide), z 10 (by decide), z 11 (by decide), z 12 (by decide), z 13 (by decide), z 14 (by decide), z 15 (by decide)]
  simp only [show decide (2 ^ 0 &&& 128 ≠ 0) = false by decide, show decide (2 ^ 1 &&& 128 ≠ 0) = false by decide, show decide (2 ^ 2 &&& 128 ≠ 0) = false by decide, show decide (2 ^ 3 &&& 128 ≠ 0) = false by decide, show decide (2 ^ 4 &&& 128 ≠ 0) = false by decide, show decide (2 ^ 5 &&& 128 ≠ 0) = false by decide, show decide (2 ^ 6 &&& 128 ≠ 0) = false by decide, show decide (2 ^ 7 &&& 128 ≠ 0) = true by decide, show decide (2 ^ 8 &&& 128 ≠ 0) = false by decide, show decide (2 ^ 9 &&& 128 ≠ 0) = false by decide, show decide (2 ^ 10 &&& 128 ≠ 0) = false by decide, show decide (2 ^ 11 &&& 128 ≠ 0) = false by decide, show decide (2 ^ 12 &&& 128 ≠ 0) = false by decide, show decide (2 ^ 13 &&& 128 ≠ 0) = false by decide, show decide (2 ^ 14 &&& 128 ≠ 0) = false by decide, show decide (2 ^ 15 &&& 128 ≠ 0) = false by decide, Bool.and_false, Bool.and_true, bi_false]
  generalize bt n 7 = b7
  cases b7 <;> rfl
theorem hit_128 (n : Int) : (Builtin.bitAnd n 128 == 128) = (bt n 7) := by
  rw [and_128]
  cases bt n 7 <;> rfl
theorem and_2112 (n : Int) : Builtin.bitAnd n 2112 = 64 * bi (bt n 6) + 2048 * bi (bt n 11) := by
  rw [and_bits 16 n 2112 (by decide) (by decide)]
  have z : ∀ i, i < 16 → bt 2112 i = decide (2 ^ i &&& 2112 ≠ 0) := by decide
  simp only [wsum_succ, wsum_zero, Nat.zero_add, Nat.reduceAdd, z 0 (by decide), z 1 (by decide), z 2 (by decide), z 3 (by decide), z 4 (by decide), z 5 (by decide), z 6 (by decide), z 7 (by decide), z 8 (by decide), z 9 (by decide), z 10 (by decide), z 11 (by decide), z 12 (by decide), z 13 (by decide), z 14 (by decide), z 15 (by decide)]
  simp only [show decide (2 ^ 0 &&& 2112 ≠ 0) = false by decide, show decide (2 ^ 1 &&& 2112 ≠ 0) = false by decide, show decide (2 ^ 2 &&& 2112 ≠ 0) = false by decide, show decide (2 ^ 3 &&& 2112 ≠ 0) = false by decide, show decide (2 ^ 4 &&& 2112 ≠ 0) = false by decide, show decide (2 ^ 5 &&& 2112 ≠ 0) = false by decide, show decide (2 ^ 6 &&& 2112 ≠ 0) = true by decide, show decide (2 ^ 7 &&& 2112 ≠ 0) = false by decide, show decide (2 ^ 8 &&& 2112 ≠ 0) = false by decide, show decide (2 ^ 9 &&& 2112 ≠ 0) = false by decide, show decide (2 ^ 10 &&& 2112 ≠ 0) = false by decide, show decide (2 ^ 11 &&& 2112 ≠ 0) = true by decide, show decide (2 ^ 12 &&& 2112 ≠ 0) = false by decide, show decide (2 ^ 13 &&& 2112 ≠ 0) = false by decide, show decide (2 ^ 14 &&& 2112 ≠ 0) = false by decide, show decide (2 ^ 15 &&& 2112 ≠ 0) = false by decide, Bool.and_false, Bool.and_true, bi_false]
  generalize bt n 6 = b6
  generalize bt n 11 = b11
  cases b6 <;> cases b11 <;> rfl
theorem hit_2112 (n : Int) : (Builtin.bitAnd n 2112 == 2112) = (bt n 6 && bt n 11) := by
  rw [and_2112]
  cases bt n 6 <;> cases bt n 11 <;> rfl
theorem and_2048 (n : Int) : Builtin.bitAnd n 2048 = 2048 * bi (bt n 11) := by
  rw [and_bits 16 n 2048 (by decide) (by decide)]
  have z : ∀ i, i < 16 → bt 2048 i = decide (2 ^ i &&& 2048 ≠ 0) := by decide
  simp only [wsum_succ, wsum_zero, Nat.zero_add, Nat.reduceAdd, z 0 (by decide), z 1 (by decide), z 2 (by decide), z 3 (by decide), z 4 (by decide), z 5 (by decide), z 6 (by decide), z 7 (by decide), z 8 (by decide), z 9 (by decide), z 10 (by decide), z 11 (by decide), z 12 (by decide), z 13 (by decide), z 14 (by decide), z 15 (by decide)]
  simp only [show decide (2 ^ 0 &&& 2048 ≠ 0) = false by decide, show decide (2 ^ 1 &&& 2048 ≠ 0) = false by decide, show decide (2 ^ 2 &&& 2048 ≠ 0) = false by decide, show decide (2 ^ 3 &&& 2048 ≠ 0) = false by decide, show decide (2 ^ 4 &&& 2048 ≠ 0) = false by decide, show decide (2 ^ 5 &&& 2048 ≠ 0) = false by decide, show decide (2 ^ 6 &&& 2048 ≠ 0) = false by decide, show decide (2 ^ 7 &&& 2048 ≠ 0) = false by decide, show decide (2 ^ 8 &&& 2048 ≠ 0) = false by decide, show decide (2 ^ 9 &&& 2048 ≠ 0) = false by decide, show decide (2 ^ 10 &&& 2048 ≠ 0) = false by decide, show decide (2 ^ 11 &&& 2048 ≠ 0) = true by decide, show decide (2 ^ 12 &&& 2048 ≠ 0) = false by decide, show decide (2 ^ 13 &&& 2048 ≠ 0) = false by decide, show decide (2 ^ 14 &&& 2048 ≠ 0) = false by decide, show decide (2 ^ 15 &&& 2048 ≠ 0) = false by decide, Bool.and_false, Bool.and_true, bi_false]
  generalize bt n 11 = b11
  cases b11 <;> rfl
theorem hit_2048 (n : Int) : (Builtin.bitAnd n 2048 == 2048) = (bt n 11) := by
  rw [and_2048]
  cases bt n 11 <;> rfl
theorem and_64 (n : Int) : Builtin.bitAnd n 64 = 64 * bi (bt n 6) := by
  rw [and_bits 16 n 64 (by decide) (by decide)]
  have z : ∀ i, i < 16 → bt 64 i = decide (2 ^ i &&& 64 ≠ 0) := by decide
  simp only [wsum_succ, wsum_zero, Nat.zero_add, Nat.reduceAdd, z 0 (by decide), z 1 (by decide), z 2 (by decide), z 3 (by decide), z 4 (by decide), z 5 (by decide), z 6 (by decide), z 7 (by decide), z 8 (by decide), z 9 (by decide), z 10 (by decide), z 11 (by decide), z 12 (by decide), z 13 (by decide), z 14 (by decide), z 15 (by decide)]
  simp only [show decide (2 ^ 0 &&& 64 ≠ 0) = false by decide, show decide (2 ^ 1 &&& 64 ≠ 0) = false by decide, show decide (2 ^ 2 &&& 64 ≠ 0) = false by decide, show decide (2 ^ 3 &&& 64 ≠ 0) = false by decide, show decide (2 ^ 4 &&& 64 ≠ 0) = false by decide, show decide (2 ^ 5 &&& 64 ≠ 0) = false by decide, show decide (2 ^ 6 &&& 64 ≠ 0) = true by decide, show decide (2 ^ 7 &&& 64 ≠ 0) = false by decide, show decide (2 ^ 8 &&& 64 ≠ 0) = false by decide, show decide (2 ^ 9 &&& 64 ≠ 0) = false by decide, show decide (2 ^ 10 &&& 64 ≠ 0) = false by decide, show decide (2 ^ 11 &&& 64 ≠ 0) = false by decide, show decide (2 ^ 12 &&& 64 ≠ 0) = false by decide, show decide (2 ^ 13 &&& 64 ≠ 0) = false by decide, show decide (2 ^ 14 &&& 64 ≠ 0) = false by decide, show decide (2 ^ 15 &&& 64 ≠ 0) = false by decide, Bool.and_false, Bool.and_true, bi_false]
  generalize bt n 6 = b6
  cases b6 <;> rfl
theorem hit_64 (n : Int) : (Builtin.bitAnd n 64 == 64) = (bt n 6) := by
  rw [and_64]
  cases bt n 6 <;> rfl
theorem and_32 (n : Int) : Builtin.bitAnd n 32 = 32 * bi (bt n 5) := by
  rw [and_bits 16 n 32 (by decide) (by decide)]
  have z : ∀ i, i < 16 → bt 32 i = decide (2 ^ i &&& 32 ≠ 0) := by decide
  simp only [wsum_succ, wsum_zero, Nat.zero_add, Nat.reduceAdd, z 0 (by decide), z 1 (by decide), z 2 (by decide), z 3 (by decide), z 4 (by decide), z 5 (by decide), z 6 (by decide), z 7 (by decide), z 8 (by decide), z 9 (by decide), z 10 (by decide), z 11 (by decide), z 12 (by decide), z 13 (by decide), z 14 (by decide), z 15 (by decide)]
  simp only [show decide (2 ^ 0 &&& 32 ≠ 0) = false by decide, show decide (2 ^ 1 &&& 32 ≠ 0) = false by decide, show decide (2 ^ 2 &&& 32 ≠ 0) = false by decide, show decide (2 ^ 3 &&& 32 ≠ 0) = false by decide, show decide (2 ^ 4 &&& 32 ≠ 0) = false by decide, show decide (2 ^ 5 &&& 32 ≠ 0) = true by decide, show decide (2 ^ 6 &&& 32 ≠ 0) = false by decide, show decide (2 ^ 7 &&& 32 ≠ 0) = false by decide, show decide (2 ^ 8 &&& 32 ≠ 0) = false by decide, show decide (2 ^ 9 &&& 32 ≠ 0) = false by decide, show decide (2 ^ 10 &&& 32 ≠ 0) = false by decide, show decide (2 ^ 11 &&& 32 ≠ 0) = false by decide, show decide (2 ^ 12 &&& 32 ≠ 0) = false by decide, show decide (2 ^ 13 &&& 32 ≠ 0) = false by decide, show decide (2 ^ 14 &&& 32 ≠ 0) = false by decide, show decide (2 ^ 15 &&& 32 ≠ 0) = false by decide, Bool.and_false, Bool.and_true, bi_false]
  generalize bt n 5 = b5
  cases b5 <;> rfl
theorem hit_32 (n : Int) : (Builtin.bitAnd n 32 == 32) = (bt n 5) := by
  rw [and_32]
  cases bt n 5 <;> rfl
theorem and_16 (n : Int) : Builtin.bitAnd n 16 = 16 * bi (bt n 4) := by
  rw [and_bits 16 n 16 (by decide) (by decide)]
  have z : ∀ i, i < 16 → bt 16 i = decide (2 ^ i &&& 16 ≠ 0) := by decide
  simp only [wsum_succ, wsum_zero, Nat.zero_add, Nat.reduceAdd, z 0 (by decide), z 1 (by decide), z 2 (by decide), z 3 (by decide), z 4 (by decide), z 5 (by decide), z 6 (by decide), z 7 (by decide), z 8 (by decide), z 9 (by decide), z 10 (by decide), z 11 (by decide), z 12 (by decide), z 13 (by decide), z 14 (by decide), z 15 (by decide)]
  simp only [show decide (2 ^ 0 &&& 16 ≠ 0) = false by decide, show decide (2 ^ 1 &&& 16 ≠ 0) = false by decide, show decide (2 ^ 2 &&& 16 ≠ 0) = false by decide, show decide (2 ^ 3 &&& 16 ≠ 0) = false by decide, show decide (2 ^ 4 &&& 16 ≠ 0) = true by decide, show decide (2 ^ 5 &&& 16 ≠ 0) = false by decide, show decide (2 ^ 6 &&& 16 ≠ 0) = false by decide, show decide (2 ^ 7 &&& 16 ≠ 0) = false by decide, show decide (2 ^ 8 &&& 16 ≠ 0) = false by decide, show decide (2 ^ 9 &&& 16 ≠ 0) = false by decide, show decide (2 ^ 10 &&& 16 ≠ 0) = false by decide, show decide (2 ^ 11 &&& 16 ≠ 0) = false by decide, show decide (2 ^ 12 &&& 16 ≠ 0) = false by decide, show decide (2 ^ 13 &&& 16 ≠ 0) = false by decide, show decide (2 ^ 14 &&& 16 ≠ 0) = false by decide, show decide (2 ^ 15 &&& 16 ≠ 0) = false by decide, Bool.and_false, Bool.and_true, bi_false]
  generalize bt n 4 = b4
  cases b4 <;> rfl
theorem hit_16 (n : Int) : (Builtin.bitAnd n 16 == 16) = (bt n 4) := by
  rw [and_16]
  cases bt n 4 <;> rfl
theorem and_1032 (n : Int) : Builtin.bitAnd n 1032 = 8 * bi (bt n 3) + 1024 * bi (bt n 10) := by
  rw [and_bits 16 n 1032 (by decide) (by decide)]
  have z : ∀ i, i < 16 → bt 1032 i = decide (2 ^ i &&& 1032 ≠ 0) := by decide
  simp only [wsum_succ, wsum_zero, Nat.zero_add, Nat.reduceAdd, z 0 (by decide), z 1 (by decide), z 2 (by decide), z 3 (by decide), z 4 (by decide), z 5 (by decide), z 6 (by decide), z 7 (by decide), z 8 (by decide), z 9 (by decide), z 10 (by decide), z 11 (by decide), z 12 (by decide), z 13 (by decide), z 14 (by decide), z 15 (by decide)]
  simp only [show decide (2 ^ 0 &&& 1032 ≠ 0) = false by decide, show decide (2 ^ 1 &&& 1032 ≠ 0) = false by decide, show decide (2 ^ 2 &&& 1032 ≠ 0) = false by decide, show decide (2 ^ 3 &&& 1032 ≠ 0) = true by decide, show decide (2 ^ 4 &&& 1032 ≠ 0) = false by decide, show decide (2 ^ 5 &&& 1032 ≠ 0) = false by decide, show decide (2 ^ 6 &&& 1032 ≠ 0) = false by decide, show decide (2 ^ 7 &&& 1032 ≠ 0) = false by decide, show decide (2 ^ 8 &&& 1032 ≠ 0) = false by decide, show decide (2 ^ 9 &&& 1032 ≠ 0) = false by decide, show decide (2 ^ 10 &&& 1032 ≠ 0) = true by decide, show decide (2 ^ 11 &&& 1032 ≠ 0) = false by decide, show decide (2 ^ 12 &&& 1032 ≠ 0) = false by decide, show decide (2 ^ 13 &&& 1032 ≠ 0) = false by decide, show decide (2 ^ 14 &&& 1032 ≠ 0) = false by decide, show decide (2 ^ 15 &&& 1032 ≠ 0) = false by decide, Bool.and_false, Bool.and_true, bi_false]
  generalize bt n 3 = b3
  generalize bt n 10 = b10
  cases b3 <;> cases b10 <;> rfl
theorem hit_1032 (n : Int) : (Builtin.bitAnd n 1032 == 1032) = (bt n 3 && bt n 10) := by
  rw [and_1032]
  cases bt n 3 <;> cases bt n 10 <;> rfl
theorem and_1024 (n : Int) : Builtin.bitAnd n 1024 = 1024 * bi (bt n 10) := by
  rw [and_bits 16 n 1024 (by decide) (by decide)]
  have z : ∀ i, i < 16 → bt 1024 i = decide (2 ^ i &&& 1024 ≠ 0) := by decide
  simp only [wsum_succ, wsum_zero, Nat.zero_add, Nat.reduceAdd, z 0 (by decide), z 1 (by decide), z 2 (by decide), z 3 (by decide), z 4 (by decide), z 5 (by decide), z 6 (by decide), z 7 (by decide), z 8 (by decide), z 9 (by decide), z 10 (by decide), z 11 (by decide), z 12 (by decide), z 13 (by decide), z 14 (by decide), z 15 (by decide)]
  simp only [show decide (2 ^ 0 &&& 1024 ≠ 0) = false by decide, show decide (2 ^ 1 &&& 1024 ≠ 0) = false by decide, show decide (2 ^ 2 &&& 1024 ≠ 0) = false by decide, show decide (2 ^ 3 &&& 1024 ≠ 0) = false by decide, show decide (2 ^ 4 &&& 1024 ≠ 0) = false by decide, show decide (2 ^ 5 &&& 1024 ≠ 0) = false by decide, show decide (2 ^ 6 &&& 1024 ≠ 0) = false by decide, show decide (2 ^ 7 &&& 1024 ≠ 0) = false by decide, show decide (2 ^ 8 &&& 1024 ≠ 0) = false by decide, show decide (2 ^ 9 &&& 1024 ≠ 0) = false by decide, show decide (2 ^ 10 &&& 1024 ≠ 0) = true by decide, show decide (2 ^ 11 &&& 1024 ≠ 0) = false by decide, show decide (2 ^ 12 &&& 1024 ≠ 0) = false by decide, show decide (2 ^ 13 &&& 1024 ≠ 0) = false by decide, show decide (2 ^ 14 &&& 1024 ≠ 0) = false by decide, show decide (2 ^ 15 &&& 1024 ≠ 0) = false by decide, Bool.and_false, Bool.and_true, bi_false]
  generalize bt n 10 = b10
  cases b10 <;> rfl
theorem hit_1024 (n : Int) : (Builtin.bitAnd n 1024 == 1024) = (bt n 10) := by
  rw [and_1024]
  cases bt n 10 <;> rfl
theorem and_8 (n : Int) : Builtin.bitAnd n 8 = 8 * bi (bt n 3) := by
  rw [and_bits 16 n 8 (by decide) (by decide)]
  have z : ∀ i, i < 16 → bt 8 i = decide (2 ^ i &&& 8 ≠ 0) := by decide
  simp only [wsum_succ, wsum_zero, Nat.zero_add, Nat.reduceAdd, z 0 (by decide), z 1 (by decide), z 2 (by decide), z 3 (by decide), z 4 (by decide), z 5 (by decide), z 6 (by decide), z 7 (by decide), z 8 (by decide), z 9 (by decide), z 10 (by decide), z 11 (by decide), z 12 (by decide), z 13 (by decide), z 14 (by decide), z 15 (by decide)]
  simp only [show decide (2 ^ 0 &&& 8 ≠ 0) = false by decide, show decide (2 ^ 1 &&& 8 ≠ 0) = false by decide, show decide (2 ^ 2 &&& 8 ≠ 0) = false by decide, show decide (2 ^ 3 &&& 8 ≠ 0) = true by decide, show decide (2 ^ 4 &&& 8 ≠ 0) = false by decide, show decide (2 ^ 5 &&& 8 ≠ 0) = false by decide, show decide (2 ^ 6 &&& 8 ≠ 0) = false by decide, show decide (2 ^ 7 &&& 8 ≠ 0) = false by decide, show decide (2 ^ 8 &&& 8 ≠ 0) = false by decide, show decide (2 ^ 9 &&& 8 ≠ 0) = false by decide, show decide (2 ^ 10 &&& 8 ≠ 0) = false by decide, show decide (2 ^ 11 &&& 8 ≠ 0) = false by decide, show decide (2 ^ 12 &&& 8 ≠ 0) = false by decide, show decide (2 ^ 13 &&& 8 ≠ 0) = false by decide, show decide (2 ^ 14 &&& 8 ≠ 0) = false by decide, show decide (2 ^ 15 &&& 8 ≠ 0) = false by decide, Bool.and_false, Bool.and_true, bi_false]
  generalize bt n 3 = b3
  cases b3 <;> rfl
theorem hit_8 (n : Int) : (Builtin.bitAnd n 8 == 8) = (bt n 3) := by
  rw [and_8]
  cases bt n 3 <;> rfl
theorem and_4 (n : Int) : Builtin.bitAnd n 4 = 4 * bi (bt n 2) := by
  rw [and_bits 16 n 4 (by decide) (by decide)]
  have z : ∀ i, i < 16 → bt 4 i = decide (2 ^ i &&& 4 ≠ 0) := by decide
  simp only [wsum_succ, wsum_zero, Nat.zero_add, Nat.reduceAdd, z 0 (by decide), z 1 (by decide), z 2 (by decide), z 3 (by decide), z 4 (by decide), z 5 (by decide), z 6 (by decide), z 7 (by decide), z 8 (by decide), z 9 (by decide), z 10 (by decide), z 11 (by decide), z 12 (by decide), z 13 (by decide), z 14 (by decide), z 15 (by decide)]
  simp only [show decide (2 ^ 0 &&& 4 ≠ 0) = false by decide, show decide (2 ^ 1 &&& 4 ≠ 0) = false by decide, show decide (2 ^ 2 &&& 4 ≠ 0) = true by decide, show decide (2 ^ 3 &&& 4 ≠ 0) = false by decide, show decide (2 ^ 4 &&& 4 ≠ 0) = false by decide, show decide (2 ^ 5 &&& 4 ≠ 0) = false by decide, show decide (2 ^ 6 &&& 4 ≠ 0) = false by decide, show decide (2 ^ 7 &&& 4 ≠ 0) = false by decide, show decide (2 ^ 8 &&& 4 ≠ 0) = false by decide, show decide (2 ^ 9 &&& 4 ≠ 0) = false by decide, show decide (2 ^ 10 &&& 4 ≠ 0) = false by decide, show decide (2 ^ 11 &&& 4 ≠ 0) = false by decide, show decide (2 ^ 12 &&& 4 ≠ 0) = false by decide, show decide (2 ^ 13 &&& 4 ≠ 0) = false by decide, show decide (2 ^ 14 &&& 4 ≠ 0) = false by decide, show decide (2 ^ 15 &&& 4 ≠ 0) = false by decide, Bool.and_false, Bool.and_true, bi_false]
  generalize bt n 2 = b2
  cases b2 <;> rfl
theorem hit_4 (n : Int) : (Builtin.bitAnd n 4 == 4) = (bt n 2) := by
  rw [and_4]
  cases bt n 2 <;> rfl
theorem and_2 (n : Int) : Builtin.bitAnd n 2 = 2 * bi (bt n 1) := by
  rw [and_bits 16 n 2 (by decide) (by decide)]
  have z : ∀ i, i < 16 → bt 2 i = decide (2 ^ i &&& 2 ≠ 0) := by decide
  simp only [wsum_succ, wsum_zero, Nat.zero_add, Nat.reduceAdd, z 0 (by decide), z 1 (by decide), z 2 (by decide), z 3 (by decide), z 4 (by decide), z 5 (by decide), z 6 (by decide), z 7 (by decide), z 8 (by decide), z 9 (by decide), z 10 (by decide), z 11 (by decide), z 12 (by decide), z 13 (by decide), z 14 (by decide), z 15 (by decide)]
  simp only [show decide (2 ^ 0 &&& 2 ≠ 0) = false by decide, show decide (2 ^ 1 &&& 2 ≠ 0) = true by decide, show decide (2 ^ 2 &&& 2 ≠ 0) = false by decide, show decide (2 ^ 3 &&& 2 ≠ 0) = false by decide, show decide (2 ^ 4 &&& 2 ≠ 0) = false by decide, show decide (2 ^ 5 &&& 2 ≠ 0) = false by decide, show decide (2 ^ 6 &&& 2 ≠ 0) = false by decide, show decide (2 ^ 7 &&& 2 ≠ 0) = false by decide, show decide (2 ^ 8 &&& 2 ≠ 0) = false by decide, show decide (2 ^ 9 &&& 2 ≠ 0) = false by decide, show decide (2 ^ 10 &&& 2 ≠ 0) = false by decide, show decide (2 ^ 11 &&& 2 ≠ 0) = false by decide, show decide (2 ^ 12 &&& 2 ≠ 0) = false by decide, show decide (2 ^ 13 &&& 2 ≠ 0) = false by decide, show decide (2 ^ 14 &&& 2 ≠ 0) = false by decide, show decide (2 ^ 15 &&& 2 ≠ 0) = false by decide, Bool.and_false, Bool.and_true, bi_false]
  generalize bt n 1 = b1
  cases b1 <;> rfl
theorem hit_2 (n : Int) : (Builtin.bitAnd n 2 == 2) = (bt n 1) := by
  rw [and_2]
  cases bt n 1 <;> rfl
theorem and_513 (n : Int) : Builtin.bitAnd n 513 = 1 * bi (bt n 0) + 512 * bi (bt n 9) := by
  rw [and_bits 16 n 513 (by decide) (by decide)]
  have z : ∀ i, i < 16 → bt 513 i = decide (2 ^ i &&& 513 ≠ 0) := by decide
  simp only [wsum_succ, wsum_zero, Nat.zero_add, Nat.reduceAdd, z 0 (by decide), z 1 (by decide), z 2 (by decide), z 3 (by decide), z 4 (by decide), z 5 (by decide), z 6 (by decide), z 7 (by decide), z 8 (by decide), z 9 (by decide), z 10 (by decide), z 11 (by decide), z 12 (by decide), z 13 (by decide), z 14 (by decide), z 15 (by decide)]
  simp only [show decide (2 ^ 0 &&& 513 ≠ 0) = true by decide, show decide (2 ^ 1 &&& 513 ≠ 0) = false by decide, show decide (2 ^ 2 &&& 513 ≠ 0) = false by decide, show decide (2 ^ 3 &&& 513 ≠ 0) = false by decide, show decide (2 ^ 4 &&& 513 ≠ 0) = false by decide, show decide (2 ^ 5 &&& 513 ≠ 0) = false by decide, show decide (2 ^ 6 &&& 513 ≠ 0) = false by decide, show decide (2 ^ 7 &&& 513 ≠ 0) = false by decide, show decide (2 ^ 8 &&& 513 ≠ 0) = false by decide, show decide (2 ^ 9 &&& 513 ≠ 0) = true by decide, show decide (2 ^ 10 &&& 513 ≠ 0) = false by decide, show decide (2 ^ 11 &&& 513 ≠ 0) = false by decide, show decide (2 ^ 12 &&& 513 ≠ 0) = false by decide, show decide (2 ^ 13 &&& 513 ≠ 0) = false by decide, show decide (2 ^ 14 &&& 513 ≠ 0) = false by decide, show decide (2 ^ 15 &&& 513 ≠ 0) = false by decide, Bool.and_false, Bool.and_true, bi_false]
  generalize bt n 0 = b0
  generalize bt n 9 = b9
  cases b0 <;> cases b9 <;> rfl
theorem hit_513 (n : Int) : (Builtin.bitAnd n 513 == 513) = (bt n 0 && bt n 9) := by
  rw [and_513]
  cases bt n 0 <;> cases bt n 9 <;> rfl
theorem and_512 (n : Int) : Builtin.bitAnd n 512 = 512 * bi (bt n 9) := by
  rw [and_bits 16 n 512 (by decide) (by decide)]
  have z : ∀ i, i < 16 → bt 512 i = decide (2 ^ i &&& 512 ≠ 0) := by decide
  simp only [wsum_succ, wsum_zero, Nat.zero_add, Nat.reduceAdd, z 0 (by decide), z 1 (by decide), z 2 (by decide), z 3 (by decide), z 4 (by decide), z 5 (by decide), z 6 (by decide), z 7 (by decide), z 8 (by decide), z 9 (by decide), z 10 (by decide), z 11 (by decide), z 12 (by decide), z 13 (by decide), z 14 (by decide), z 15 (by decide)]
  simp only [show decide (2 ^ 0 &&& 512 ≠ 0) = false by decide, show decide (2 ^ 1 &&& 512 ≠ 0) = false by decide, show decide (2 ^ 2 &&& 512 ≠ 0) = false by decide, show decide (2 ^ 3 &&& 512 ≠ 0) = false by decide, show decide (2 ^ 4 &&& 512 ≠ 0) = false by decide, show decide (2 ^ 5 &&& 512 ≠ 0) = false by decide, show decide (2 ^ 6 &&& 512 ≠ 0) = false by decide, show decide (2 ^ 7 &&& 512 ≠ 0) = false by decide, show decide (2 ^ 8 &&& 512 ≠ 0) = false by decide, show decide (2 ^ 9 &&& 512 ≠ 0) = true by decide, show decide (2 ^ 10 &&& 512 ≠ 0) = false by decide, show decide (2 ^ 11 &&& 512 ≠ 0) = false by decide, show decide (2 ^ 12 &&& 512 ≠ 0) = false by decide, show decide (2 ^ 13 &&& 512 ≠ 0) = false by decide, show decide (2 ^ 14 &&& 512 ≠ 0) = false by decide, show decide (2 ^ 15 &&& 512 ≠ 0) = false by decide, Bool.and_false, Bool.and_true, bi_false]
  generalize bt n 9 = b9
  cases b9 <;> rfl
theorem hit_512 (n : Int) : (Builtin.bitAnd n 512 == 512) = (bt n 9) := by
  rw [and_512]
  cases bt n 9 <;> rfl
theorem and_1 (n : Int) : Builtin.bitAnd n 1 = 1 * bi (bt n 0) := by
  rw [and_bits 16 n 1 (by decide) (by decide)]
  have z : ∀ i, i < 16 → bt 1 i = decide (2 ^ i &&& 1 ≠ 0) := by decide
  simp only [wsum_succ, wsum_zero, Nat.zero_add, Nat.reduceAdd, z 0 (by decide), z 1 (by decide), z 2 (by decide), z 3 (by decide), z 4 (by decide), z 5 (by decide), z 6 (by decide), z 7 (by decide), z 8 (by decide), z 9 (by decide), z 10 (by decide), z 11 (by decide), z 12 (by decide), z 13 (by decide), z 14 (by decide), z 15 (by decide)]
  simp only [show decide (2 ^ 0 &&& 1 ≠ 0) = true by decide, show decide (2 ^ 1 &&& 1 ≠ 0) = false by decide, show decide (2 ^ 2 &&& 1 ≠ 0) = false by decide, show decide (2 ^ 3 &&& 1 ≠ 0) = false by decide, show decide (2 ^ 4 &&& 1 ≠ 0) = false by decide, show decide (2 ^ 5 &&& 1 ≠ 0) = false by decide, show decide (2 ^ 6 &&& 1 ≠ 0) = false by decide, show decide (2 ^ 7 &&& 1 ≠ 0) = false by decide, show decide (2 ^ 8 &&& 1 ≠ 0) = false by decide, show decide (2 ^ 9 &&& 1 ≠ 0) = false by decide, show decide (2 ^ 10 &&& 1 ≠ 0) = false by decide, show decide (2 ^ 11 &&& 1 ≠ 0) = false by decide, show decide (2 ^ 12 &&& 1 ≠ 0) = false by decide, show decide (2 ^ 13 &&& 1 ≠ 0) = false by decide, show decide (2 ^ 14 &&& 1 ≠ 0) = false by decide, show decide (2 ^ 15 &&& 1 ≠ 0) = false by decide, Bool.and_false, Bool.and_true, bi_false]
  generalize bt n 0 = b0
  cases b0 <;> rfl
theorem hit_1 (n : Int) : (Builtin.bitAnd n 1 == 1) = (bt n 0) := by
  rw [and_1]
  cases bt n 0 <;> rfl

def cd (b : Bool) (y n : Nat) : Nat := if b = true then y else n
def x3 (x s : Bool) (both only : Nat) : Nat := if (s && x) = true then both else if s = true then only else if x = true then 120 else 45
def kindCh (b12 b13 b14 b15 : Bool) : Nat := ([63, 112, 99, 63, 100, 63, 98, 63, 45, 63, 108, 63, 115, 63, 63, 63] : List Nat).getD (cd b12 1 0 + 2 * cd b13 1 0 + 4 * cd b14 1 0 + 8 * cd b15 1 0) 0
/-- the ten signs by the bits -/
def signs10 (n : Int) : List Nat := [kindCh (bt n 12) (bt n 13) (bt n 14) (bt n 15), cd (bt n 8) 114 45, cd (bt n 7) 119 45, x3 (bt n 6) (bt n 11) 115 83, cd (bt n 5) 114 45, cd (bt n 4) 119 45, x3 (bt n 3) (bt n 10) 115 83, cd (bt n 2) 114 45, cd (bt n 1) 119 45, x3 (bt n 0) (bt n 9) 116 84]
theorem sg1 (n : Int) (i : Nat) (b : Int) (c : Nat) : signOf n (i + 1) [(b, c)] = cd (Builtin.bitAnd n b == b) c 45 := by
  unfold signOf hits cd
  rw [List.find?_cons, if_neg (Nat.succ_ne_zero i)]
  cases h : (Builtin.bitAnd n b == b) <;> simp
theorem sg3 (n : Int) (i : Nat) (b1 b2 b3 : Int) (c1 c2 c3 : Nat) : signOf n (i + 1) [(b1, c1), (b2, c2), (b3, c3)] = cd (Builtin.bitAnd n b1 == b1) c1 (cd (Builtin.bitAnd n b2 == b2) c2 (cd (Builtin.bitAnd n b3 == b3) c3 45)) := by
  unfold signOf hits cd
  simp only [List.find?_cons, if_neg (Nat.succ_ne_zero i), List.find?_nil]
  cases h1 : (Builtin.bitAnd n b1 == b1) <;> cases h2 : (Builtin.bitAnd n b2 == b2) <;> cases h3 : (Builtin.bitAnd n b3 == b3) <;> simp
theorem sg0 (n : Int) : signOf n 0 [(40960, 108), (49152, 115), (32768, 45), (24576, 98), (16384, 100), (8192, 99), (4096, 112)] = kindCh (bt n 12) (bt n 13) (bt n 14) (bt n 15) := by
  unfold signOf hits
  simp only [if_true]
  rw [kind_and]
  cases bt n 12 <;> cases bt n 13 <;> cases bt n 14 <;> cases bt n 15 <;> rfl
theorem x3_cd (x s : Bool) (both only : Nat) : cd (x && s) both (cd s only (cd x 120 45)) = x3 x s both only := by cases x <;> cases s <;> rfl
theorem mode_text (n : Int) : modeText n = ⟨(signs10 n).toArray⟩ := by
  unfold modeText
  congr 2
  show [signOf n 0 [(40960, 108), (49152, 115), (32768, 45), (24576, 98), (16384, 100), (8192, 99), (4096, 112)], signOf n 1 [(256, 114)], signOf n 2 [(128, 119)], signOf n 3 [(2112, 115), (2048, 83), (64, 120)], signOf n 4 [(32, 114)], signOf n 5 [(16, 119)],
    signOf n 6 [(1032, 115), (1024, 83), (8, 120)], signOf n 7 [(4, 114)], signOf n 8 [(2, 119)], signOf n 9 [(513, 116), (512, 84), (1, 120)]] = _
  rw [sg0, sg1 n 0, sg1 n 1, sg3 n 2, sg1 n 3, sg1 n 4, sg3 n 5, sg1 n 6, sg1 n 7, sg3 n 8, hit_256, hit_128, hit_2112, hit_2048, hit_64, hit_32, hit_16, hit_1032, hit_1024, hit_8, hit_4, hit_2, hit_513, hit_512, hit_1, x3_cd, x3_cd, x3_cd]
  rfl
theorem text_len (n : Int) : (modeText n).cps.size = 10 := by rw [mode_text]; rfl
end Mine
end

section
open PySem PySem.W PyProof.Rows PySem.Spec PySem.Calls PySem.SeqAt
set_option Elab.async false
set_option maxRecDepth 100000
set_option maxHeartbeats 4000000
namespace Mine
abbrev sgn (m : Int) : Int := Builtin.bitAnd m 4095
abbrev chSign (m : Int) : Str := ⟨#[(sgn m).toNat]⟩
/-- a mode whose last twelve bits are below 128 -/
def lowM (m : Int) : Bool := decide (sgn m < 128)
theorem bi_bd (b : Bool) : 0 ≤ bi b ∧ bi b ≤ 1 := by cases b <;> decide
theorem sgn_bits (m : Int) : sgn m = bi (bt m 0) + 2 * (bi (bt m 1) + 2 * (bi (bt m 2) + 2 * (bi (bt m 3) + 2 * (bi (bt m 4) + 2 * (bi (bt m 5) + 2 * (bi (bt m 6) + 2 * (bi (bt m 7) + 2 * (bi (bt m 8) + 2 * (bi (bt m 9) + 2 * (bi (bt m 10) + 2 * bi (bt m 11))))))))))) := by
  show Builtin.bitAnd m 4095 = _
  rw [and_bits 12 m 4095 (by decide) (by decide)]
  have y : ∀ i, i < 12 → bt 4095 i = true := by decide
  simp only [wsum_succ, wsum_zero, Nat.zero_add, Nat.reduceAdd, y 0 (by decide), y 1 (by decide), y 2 (by decide), y 3 (by decide), y 4 (by decide), y 5 (by decide), y 6 (by decide), y 7 (by decide), y 8 (by decide), y 9 (by decide), y 10 (by decide), y 11 (by decide), Bool.and_true]
  omega
theorem sgn_bound (m : Int) : 0 ≤ sgn m ∧ sgn m < 4096 := by
  rw [sgn_bits]
  have b := fun i => bi_bd (bt m i)
  have := b 0; have := b 1; have := b 2; have := b 3; have := b 4; have := b 5; have := b 6; have := b 7; have := b 8; have := b 9; have := b 10; have := b 11
  omega
theorem sgn_parts (m : Int) : ∃ l : Int, 0 ≤ l ∧ l < 128 ∧ sgn m = l + 128 * bi (bt m 7) + 256 * bi (bt m 8) + 512 * bi (bt m 9) + 1024 * bi (bt m 10) + 2048 * bi (bt m 11) := by
  rw [sgn_bits]
  have b := fun i => bi_bd (bt m i)
  have := b 0; have := b 1; have := b 2; have := b 3; have := b 4; have := b 5; have := b 6
  exact ⟨bi (bt m 0) + 2 * (bi (bt m 1) + 2 * (bi (bt m 2) + 2 * (bi (bt m 3) + 2 * (bi (bt m 4) + 2 * (bi (bt m 5) + 2 * bi (bt m 6)))))), by omega, by omega, by omega⟩
theorem low_bits (m : Int) : lowM m = !(bt m 8 || (bt m 7 || (bt m 11 || (bt m 10 || bt m 9)))) := by
  obtain ⟨l, h0, h1, e⟩ := sgn_parts m
  unfold lowM
  rw [e]
  cases bt m 7 <;> cases bt m 8 <;> cases bt m 9 <;> cases bt m 10 <;> cases bt m 11 <;> simp [bi] <;> omega
theorem ascii_sign (m : Int) : (chSign m).cps.all (fun c => decide (c < 128)) = lowM m := by
  have := (sgn_bound m).1
  unfold lowM
  show (#[(sgn m).toNat].all fun c => decide (c < 128)) = _
  rw [List.all_toArray, List.all_cons, List.all_nil, Bool.and_true]
  rw [Bool.eq_iff_iff, decide_eq_true_iff, decide_eq_true_iff]
  omega
theorem text_item (m : Int) (i : Nat) (hi : i < 10) : Txt.item (modeText m) (i : Int) = ⟨#[(signs10 m).getD i 0]⟩ := by
  rw [mode_text, item_meets ⟨Int.natCast_nonneg _, by show (i : Int) < ((signs10 m).toArray.size : Nat); rw [List.size_toArray]; show (i : Int) < (10 : Nat); omega⟩]
  congr 2
  simp
theorem in_s (x s : Bool) : hasIn (Str.ofString "sS") ⟨#[x3 x s 115 83]⟩ = s := by cases x <;> cases s <;> decide +kernel
theorem in_t (x s : Bool) : hasIn (Str.ofString "tT") ⟨#[x3 x s 116 84]⟩ = s := by cases x <;> cases s <;> decide +kernel
theorem is_r (b : Bool) : ((⟨#[cd b 114 45]⟩ : Str) == Str.ofString "r") = b := by cases b <;> decide +kernel
theorem is_w (b : Bool) : ((⟨#[cd b 119 45]⟩ : Str) == Str.ofString "w") = b := by cases b <;> decide +kernel
theorem high_mode (m : Int) : highOf (modeText m) = !lowM m := by
  rw [low_bits, Bool.not_not]
  unfold highOf
  have e (i : Nat) (hi : i < 10) := text_item m i hi
  rw [show (1 : Int) = ((1 : Nat) : Int) from rfl, show (2 : Int) = ((2 : Nat) : Int) from rfl, show (3 : Int) = ((3 : Nat) : Int) from rfl, show (6 : Int) = ((6 : Nat) : Int) from rfl, show (9 : Int) = ((9 : Nat) : Int) from rfl, e 1 (by decide), e 2 (by decide), e 3 (by decide), e 6 (by decide), e 9 (by decide)]
  show ((⟨#[cd (bt m 8) 114 45]⟩ : Str) == Str.ofString "r" || ((⟨#[cd (bt m 7) 119 45]⟩ : Str) == Str.ofString "w" || (hasIn (Str.ofString "sS") ⟨#[x3 (bt m 6) (bt m 11) 115 83]⟩ || (hasIn (Str.ofString "sS") ⟨#[x3 (bt m 3) (bt m 10) 115 83]⟩ || hasIn (Str.ofString "tT") ⟨#[x3 (bt m 0) (bt m 9) 116 84]⟩)))) = _
  rw [is_r, is_w, in_s, in_s, in_t]
/-- the last nine signs by the bits -/
def signs9 (m : Int) : Str := ⟨((signs10 m).drop 1).toArray⟩
theorem three_bits (b0 b1 b2 s : Bool) : threeSigns (bi b0 + 2 * bi b1 + 4 * bi b2) (bi s) (Str.ofString "-xSs") = ⟨#[cd b2 114 45, cd b1 119 45, x3 b0 s 115 83]⟩ := by cases b0 <;> cases b1 <;> cases b2 <;> cases s <;> rfl
theorem three_bits' (b0 b1 b2 s : Bool) : threeSigns (bi b0 + 2 * bi b1 + 4 * bi b2) (bi s) (Str.ofString "-xTt") = ⟨#[cd b2 114 45, cd b1 119 45, x3 b0 s 116 84]⟩ := by cases b0 <;> cases b1 <;> cases b2 <;> cases s <;> rfl
theorem nine_mode (m : Int) : nineSigns (sgn m) = signs9 m := by
  have b := fun i => bi_bd (bt m i)
  have h0 := b 0; have h1 := b 1; have h2 := b 2; have h3 := b 3; have h4 := b 4; have h5 := b 5; have h6 := b 6; have h7 := b 7; have h8 := b 8; have h9 := b 9; have h10 := b 10; have h11 := b 11
  have e := sgn_bits m
  have e1 : ((sgn m).fdiv 64).fmod 8 = bi (bt m 6) + 2 * bi (bt m 7) + 4 * bi (bt m 8) := by
    rw [Int.fdiv_eq_ediv_of_nonneg _ (by decide), Int.fmod_eq_emod_of_nonneg _ (by decide)]; omega
  have e2 : ((sgn m).fdiv 8).fmod 8 = bi (bt m 3) + 2 * bi (bt m 4) + 4 * bi (bt m 5) := by
    rw [Int.fdiv_eq_ediv_of_nonneg _ (by decide), Int.fmod_eq_emod_of_nonneg _ (by decide)]; omega
  have e3 : (sgn m).fmod 8 = bi (bt m 0) + 2 * bi (bt m 1) + 4 * bi (bt m 2) := by
    rw [Int.fmod_eq_emod_of_nonneg _ (by decide)]; omega
  have e4 : (sgn m).fdiv 2048 = bi (bt m 11) := by
    rw [Int.fdiv_eq_ediv_of_nonneg _ (by decide)]; omega
  have e5 : ((sgn m).fdiv 1024).fmod 2 = bi (bt m 10) := by
    rw [Int.fdiv_eq_ediv_of_nonneg _ (by decide), Int.fmod_eq_emod_of_nonneg _ (by decide)]; omega
  have e6 : ((sgn m).fdiv 512).fmod 2 = bi (bt m 9) := by
    rw [Int.fdiv_eq_ediv_of_nonneg _ (by decide), Int.fmod_eq_emod_of_nonneg _ (by decide)]; omega
  unfold nineSigns
  rw [e1, e2, e3, e4, e5, e6, three_bits, three_bits, three_bits']
  rfl
end Mine
end

section
open PySem PySem.W PyProof.Rows PySem.Spec PySem.Calls PySem.SeqAt
set_option Elab.async false
set_option maxRecDepth 100000
set_option maxHeartbeats 4000000
namespace Mine
def highs (ms : List Int) : List Str := (ms.filter fun m => !lowM m).map chSign
def lows (ms : List Int) : List Str := (ms.filter lowM).map chSign
theorem filter_sign (ms : List Int) (p : Str → Bool) (q : Int → Bool) (h : ∀ m ∈ ms, p (chSign m) = q m) : (ms.map chSign).filter p = (ms.filter q).map chSign := by
  rw [List.filter_map]
  congr 1
  exact List.filter_congr fun m hm => h m hm
theorem refused_eq (ms : List Int) : ((ms.map chSign).filter (fun x => !x.cps.all (fun c => decide (c < 128)))).map id = highs ms := by
  rw [List.map_id]
  exact filter_sign ms _ _ fun m _ => by rw [ascii_sign]
theorem range_get (ms : List Int) : (List.range ms.length).map (fun i => ms.getD i 0) = ms := by
  refine List.ext_getElem (by simp) fun i h1 h2 => ?_
  rw [List.getElem_map, List.getElem_range, List.getD_eq_getElem?_getD, List.getElem?_eq_getElem h2]
  rfl
theorem lawA (ms : List Int) : highs ms = ((List.range ms.length).filter (fun i => highOf (modeText (ms.getD i 0)))).map (fun i => chSign (ms.getD i 0)) := by
  unfold highs
  conv => lhs; rw [← range_get ms]
  rw [List.filter_map, List.map_map]
  congr 1
  exact List.filter_congr fun i _ => by rw [high_mode]; rfl
theorem low_of_sign {a b : Int} (h : chSign a = chSign b) : lowM a = lowM b := by rw [← ascii_sign, ← ascii_sign, h]
theorem in_highs (ms : List Int) (a : Int) (ha : a ∈ ms) : (highs ms).contains (chSign a) = !lowM a := by
  unfold highs
  rw [Bool.eq_iff_iff, List.contains_iff_mem, List.mem_map]
  constructor
  · rintro ⟨b, hb, e⟩
    rw [← low_of_sign e]
    exact (List.mem_filter.mp hb).2
  · intro h
    exact ⟨a, List.mem_filter.mpr ⟨ha, h⟩, rfl⟩
theorem in_lows (ms : List Int) (a : Int) (ha : a ∈ ms) : (lows ms).contains (chSign a) = lowM a := by
  unfold lows
  rw [Bool.eq_iff_iff, List.contains_iff_mem, List.mem_map]
  constructor
  · rintro ⟨b, hb, e⟩
    rw [← low_of_sign e]
    exact (List.mem_filter.mp hb).2
  · intro h
    exact ⟨a, List.mem_filter.mpr ⟨ha, h⟩, rfl⟩
theorem kept_eq (ms : List Int) (k : Nat) : ((ms.map chSign).take k).filter (fun a => !(highs ms).contains a) = lows (ms.take k) := by
  rw [← List.map_take]
  exact filter_sign _ _ _ fun m hm => by rw [in_highs ms m (List.mem_of_mem_take hm), Bool.not_not]
theorem left_eq (ms : List Int) : (ms.map chSign).filter (fun a => !(highs ms).contains a) = lows ms :=
  filter_sign _ _ _ fun m hm => by rw [in_highs ms m hm, Bool.not_not]
theorem lawE (ms : List Int) : ((ms.map chSign) ++ (ms.map chSign)).filter (fun a => !(lows ms).contains a) = highs ms ++ highs ms := by
  have : (ms.map chSign).filter (fun a => !(lows ms).contains a) = highs ms := filter_sign _ _ _ fun m hm => by rw [in_lows ms m hm]
  rw [List.filter_append, this]
theorem join_signs : ∀ l : List Int, Txt.join (Str.ofString "") (l.map chSign) = ⟨(l.map fun m => (sgn m).toNat).toArray⟩ := by
  intro l
  show Builtin.Str.glued _ _ = _
  rw [StrLaws.glued_eq_join]
  have e0 : Str.ofString "" = ⟨#[]⟩ := by rfl
  rw [e0]
  have app : ∀ a b : Str, a ++ b = ⟨a.cps ++ b.cps⟩ := fun _ _ => rfl
  induction l with
  | nil => rfl
  | cons m r ih =>
    cases r with
    | nil => rfl
    | cons n r =>
      show chSign m ++ ⟨#[]⟩ ++ Str.join ⟨#[]⟩ ((n :: r).map chSign) = _
      rw [ih, app, app]
      simp
theorem ascii_join (l : List Int) : (Txt.join (Str.ofString "") (l.map chSign)).cps.all (fun c => decide (c < 128)) = l.all lowM := by
  rw [join_signs, List.all_toArray, List.all_map]
  refine congrArg (fun f => l.all f) (funext fun m => ?_)
  have := ascii_sign m
  rw [List.all_toArray, List.all_cons, List.all_nil, Bool.and_true] at this
  exact this
theorem lows_all (l : List Int) : decide (lows l = l.map chSign) = l.all lowM := by
  rw [Bool.eq_iff_iff, decide_eq_true_iff, List.all_eq_true]
  unfold lows
  constructor
  · intro h m hm
    have hl := congrArg List.length h
    rw [List.length_map, List.length_map] at hl
    have := List.filter_eq_self.mp (List.filter_sublist.eq_of_length hl)
    exact this m hm
  · intro h
    rw [List.filter_eq_self.mpr h]
theorem lawB (ms : List Int) (k : Nat) : decide (lows (ms.take k) = (ms.map chSign).take k) = (Txt.join (Str.ofString "") ((ms.map chSign).take k)).cps.all (fun c => decide (c < 128)) := by
  rw [← List.map_take, ascii_join, lows_all]
theorem join_len (l : List Int) : (Txt.join (Str.ofString "") (l.map chSign)).length = l.length := by
  rw [join_signs]
  show (List.toArray _).size = _
  simp
theorem ascii_left (ms : List Int) : (Txt.join (Str.ofString "") (lows ms)).cps.all (fun c => decide (c < 128)) = true := by
  unfold lows
  rw [ascii_join, List.all_eq_true]
  exact fun m hm => (List.mem_filter.mp hm).2
theorem left_ints (ms : List Int) : KBw.bInts (asciiBytes (Txt.join (Str.ofString "") (lows ms))) = (ms.filter lowM).map sgn := by
  unfold lows
  rw [join_signs]
  show ((((ms.filter lowM).map fun m => (sgn m).toNat).toArray.toList.map fun c => c.toUInt8).toArray.toList.map fun c => (c.toNat : Int)) = _
  simp only [List.map_map]
  refine List.map_congr_left fun m hm => ?_
  have h1 : sgn m < 128 := of_decide_eq_true (List.mem_filter.mp hm).2
  have h0 := (sgn_bound m).1
  show (((sgn m).toNat.toUInt8.toNat : Nat) : Int) = sgn m
  rw [show (sgn m).toNat.toUInt8.toNat = (sgn m).toNat from by simp [Nat.toUInt8, UInt8.toNat_ofNat']; omega]
  omega
/-- a row behind its first sign -/
abbrev tailOf (m : Int) : Str := Txt.slice (modeText m) (some 1) none
theorem slice9 (a b c d e f g h i j : Nat) : Txt.slice ⟨#[a, b, c, d, e, f, g, h, i, j]⟩ (some 1) none = ⟨#[b, c, d, e, f, g, h, i, j]⟩ := by
  have q : Builtin.Str.strSliceIndices (some 1) none 1 10 = [1, 2, 3, 4, 5, 6, 7, 8, 9] := by decide +kernel
  unfold Txt.slice
  show (if ((1 : Int) == 1 && (Builtin.Str.strSliceIndices (some 1) none 1 10).length == 10) = true then _ else (⟨((Builtin.Str.strSliceIndices (some 1) none 1 10).filterMap _).toArray⟩ : Str)) = _
  rw [q]
  rfl
theorem tail_eq (m : Int) : tailOf m = signs9 m := by
  unfold tailOf signs9 
  rw [mode_text]
  exact slice9 _ _ _ _ _ _ _ _ _ _
theorem lawD (ms : List Int) : (ms.filter lowM).map (fun m => nineSigns (sgn m)) = (ms.filter (fun m => !highOf (modeText m))).map tailOf := by
  rw [show (fun m => !highOf (modeText m)) = lowM from funext fun m => by rw [high_mode, Bool.not_not]]
  exact List.map_congr_left fun m _ => by rw [nine_mode, tail_eq]
theorem lawF (ms : List Int) : (ms.filter fun m => !lowM m).map (fun m => nineSigns (sgn m)) = (ms.filter (fun m => highOf (modeText m))).map tailOf := by
  rw [show (fun m => highOf (modeText m)) = (fun m => !lowM m) from funext fun m => high_mode m]
  exact List.map_congr_left fun m _ => by rw [nine_mode, tail_eq]
end Mine
end

section
open PySem PySem.W PyProof.Rows PySem.Spec PySem.Calls PySem.SeqAt PyProof.Rows.LCg PyProof.Rows.LCt
set_option Elab.async false
set_option maxRecDepth 100000
set_option maxHeartbeats 3000000
namespace Mine
local macro_rules | `(tactic| walk_at "pad 0") => `(tactic| skip)
local macro_rules | `(tactic| walk_at "pad 1") => `(tactic| skip)
local macro_rules | `(tactic| walk_at "pad 2") => `(tactic| skip)
local macro_rules | `(tactic| walk_at "my_stop") => `(tactic| with_reducible first | show wpAny _ _ (pyIter (Value.ref _)) _ _ _ | show wpAny _ _ (subscriptTail _ (PySem.Expr.Slice _ _ _ _) (Value.ref _) (Value.ref _)) _ _ _ | show wpAny _ _ (call (Value.ref _) _) _ _ _ | show wpAny _ _ (eval (Expr.ListComp _ _ _ _) _) _ _ _ | refine Exists.intro ?_ ?_ | show wpAny _ _ (compareOp CmpOp.NotEq (Value.ref _) (Value.ref _)) _ _ _ | show wpAny _ _ (compareOp CmpOp.Eq (Value.ref _) (Value.ref _)) _ _ _ | show wpAny _ _ (binaryOp _ (Value.ref _) (Value.ref _)) _ _ _)
local macro_rules | `(tactic| walk_at "my_steps") => `(tactic| repeat' ((try ((with_reducible show wpAny _ _ (execs (_ :: _) _) _ _ _); k_fold; (try dsimp only))); (fail_if_success walk_at "my_stop"); first | (k_unfold; (try dsimp only)) | (k_end; wrow_close) | (dsimp only; walk1) | walk1 | (leave1; walk_say "STEP leave1"; try dsimp only) | fail "no step"))
local macro_rules | `(tactic| walk_at "my_stepsA") => `(tactic| repeat' ((try ((with_reducible show wpAny _ _ (execs (_ :: _) _) _ _ _); k_fold; (try dsimp only))); (fail_if_success walk_at "my_stop"); (fail_if_success with_reducible show wpAny _ _ (exec (Stmt.Assign _ (Expr.ListComp _ _ _ _) _) _) _ _ _); first | (k_unfold; (try dsimp only)) | (k_end; wrow_close) | (dsimp only; walk1) | walk1 | (leave1; walk_say "STEP leave1"; try dsimp only) | fail "no step"))
local macro_rules | `(tactic| walk_at "my_stepsB") => `(tactic| repeat' ((try ((with_reducible show wpAny _ _ (execs (_ :: _) _) _ _ _); k_fold; (try dsimp only))); (fail_if_success walk_at "my_stop"); (fail_if_success with_reducible show wpAny _ _ (subscriptTail _ _ (Value.ref _) (Value.int _ _)) _ _ _); first | (k_unfold; (try dsimp only)) | (k_end; wrow_close) | (dsimp only; walk1) | walk1 | (leave1; walk_say "STEP leave1"; try dsimp only) | fail "no step"))
theorem Are.at {α β : Type} {W : β → Value → Prop} {vs : List Value} {ms : List α} {f : α → β} (h : Are W vs (ms.map f)) (d : α) {i : Nat} (hi : i < ms.length) : ∃ v, vs.toArray[i]? = some v ∧ W (f (ms.getD i d)) v := by
  have hl : i < vs.length := by rw [h.len, List.length_map]; exact hi
  have e : vs.toArray[i]? = some vs[i] := by rw [List.getElem?_toArray, List.getElem?_eq_getElem hl]
  obtain ⟨b, hb, hW⟩ := h.get e
  refine ⟨_, e, ?_⟩
  rw [List.getElem?_map, List.getElem?_eq_getElem hi] at hb
  rw [List.getD_eq_getElem?_getD, List.getElem?_eq_getElem hi]
  exact (Option.some.inj hb) ▸ hW
theorem range_ok : ∀ n, n < 18 → Builtin.Range.small 0 (n : Nat) 1 = true ∧ Builtin.Range.rangeSize 0 (n : Nat) 1 = ((n : Nat) : Int) := by decide
abbrev lawNames (mb : Str → Option Value) (M Rf : Addr) (o1 o2 : Option Value) : Str → Option Value := fun y =>
  if y = Str.ofString "kept" then o2 else if y = Str.ofString "k" then o1 else if y = Str.ofString "refused" then some (.ref Rf) else if y = Str.ofString "modes" then some (.ref M) else mb y
theorem turn_names (mb : Str → Option Value) (M Rf : Addr) (o1 o2 : Option Value) (v1 v2 : Value) (y : Str) : (if y = Str.ofString "kept" then some v2 else if y = Str.ofString "k" then some v1 else lawNames mb M Rf o1 o2 y) = lawNames mb M Rf (some v1) (some v2) y := by
  unfold lawNames
  by_cases h1 : y = Str.ofString "kept"
  · rw [if_pos h1, if_pos h1]
  · by_cases h2 : y = Str.ofString "k"
    · rw [if_neg h1, if_pos h2, if_neg h1, if_pos h2]
    · rw [if_neg h1, if_neg h2, if_neg h1, if_neg h2, if_neg h1, if_neg h2]
theorem Are.getMap {α β : Type} {W : β → Value → Prop} {vs : List Value} {ms : List α} {f : α → β} (h : Are W vs (ms.map f)) {i : Nat} {v : Value} (hv : vs.toArray[i]? = some v) : ∃ a, ms[i]? = some a ∧ W (f a) v := by
  obtain ⟨b, hb, hW⟩ := h.get hv
  rw [List.getElem?_map] at hb
  cases q : ms[i]? with
  | none => rw [q] at hb; cases hb
  | some a => rw [q] at hb; cases hb; exact ⟨a, rfl, hW⟩
theorem main : PySem.Challenge.rw_il0163_02.Holds := by
  refine hd (by
    w_top off
    k_go0
    rename_i o3 o2 o1 d3 d2 d1 N0 X0
    clear X0
    replace d3 : o3.data = .cell none := d3
    replace d2 : o2.data = .cell none := d2
    replace d1 : o1.data = .cell none := d1
    walk_at "my_steps"
    rename Fr _ _ _ _ => F1
    rename News _ _ _ _ => N1
    rename IntsAre _ _ => hXi
    rename (hd.heap_1 _).In _ => KX
    rename Top _ _ _ _ _ _ => TT
    rename Shared => sb
    rename (Heap.IsList _ _ _) => hXL
    rename (¬ _ < _) => hLen
    refine (sp_modes _ _ _ hXi (by omega)).use F1 N1 KX TT rfl (by show callerA.depth + 1 + 8 < _; decide) (by show callerA.units + 3 + 60 < _; decide) (hXL.at fun o q => F1.keep _ o q) (fun v h3 tk3 F3 N3 k3 hv => ?_)
    obtain ⟨M, rfl, hM0, mv, cM, ms, hM, hMi, hMl⟩ := hv
    have N4 := news_add F1 N3 hM0 hM
    have hMne : ∀ p ∈ [(sb.heap.objs.size + 1 + 1 + 1, o3), (sb.heap.objs.size + 1 + 1, o2), (sb.heap.objs.size + 1, o1)], p.1 ≠ M := fun p hp z => by have := (N1 p hp).1; rw [z, hM0] at this; cases this
    have nM3 : @Ne Nat (sb.heap.objs.size + 1 + 1 + 1) M := hMne _ (.head _)
    have nM2 : @Ne Nat (sb.heap.objs.size + 1 + 1) M := hMne _ (.tail _ (.head _))
    have nM1 : @Ne Nat (sb.heap.objs.size + 1) M := hMne _ (.tail _ (.tail _ (.head _)))
    clear hMne
    clear F1 N1 N3 k3 hM0 hM hXi hXL
    walk_at "my_steps"
    refine comp_UW strW ms (fun n v => ∃ t, v = .int n t) modeText (by with_unfolding_all rfl) (by decide) (by rfl) (by decide) (by rfl) (Nat.le_trans hMl (by decide)) ?_
    walk_at "my_steps"
    rename Fr _ _ _ _ => F1
    rename News _ _ _ _ => N1
    refine ⟨_, _, _, _, ⟨_, feeds_lst rfl F1 N1 (.head _) (by rw [List.size_toArray]; exact intsAre_len hMi), (fun i v _ hv => intsAre_get hMi hv), ?_⟩, ?_⟩
    · intro g a v ha hv I oI C oC D ys m₂ h tk Q' E' hTH k
      obtain ⟨t, rfl⟩ := hv
      obtain ⟨hC, hx, F', N', off, ne⟩ := hTH
      walk_at "my_steps"
      rename Fr _ _ _ _ => F2
      rename News _ _ _ _ => N2
      refine (sp_filemode a _).use F2 N2 KX TT rfl (by show callerA.depth + 1 + 8 < _; decide) (by show callerA.units + 3 + 40 < _; decide) trivial (fun v h3 tk3 F3 N3 k3 hv => ?_)
      obtain ⟨t3, rfl⟩ := hv
      clear F2 N2 k3
      walk_at "my_steps"
      exact k _ _ _ ⟨_, rfl⟩ (by assumption) (by assumption)
    intro rv R hR tkR hRa F2 N2 hRne
    simp only [LCg.Off1, and_true] at hRne
    clear F1 N1
    walk_at "my_steps"
    refine comp_UW strW ms (fun n v => ∃ t, v = .int n t) chSign (by with_unfolding_all rfl) (by decide) (by rfl) (by decide) (by rfl) (Nat.le_trans hMl (by decide)) ?_
    walk_at "my_steps"
    rename Fr _ _ _ _ => F1
    rename News _ _ _ _ => N1
    refine ⟨_, _, _, _, ⟨_, feeds_lst rfl F1 N1 (by k_mem) (by rw [List.size_toArray]; exact intsAre_len hMi), (fun i v _ hv => intsAre_get hMi hv), ?_⟩, ?_⟩
    · intro g a v ha hv I oI C oC D ys m₂ h tk Q' E' hTH k
      obtain ⟨t, rfl⟩ := hv
      obtain ⟨hC, hx, F', N', off, ne⟩ := hTH
      walk_at "my_steps"
      rename Fr _ _ _ _ => F2
      rename News _ _ _ _ => N2
      refine (sp_imode a _).use F2 N2 KX TT rfl (by show callerA.depth + 1 + 4 < _; decide) (by show callerA.units + 3 + 20 < _; decide) trivial (fun v h3 tk3 F3 N3 k3 hv => ?_)
      obtain ⟨t3, rfl⟩ := hv
      obtain ⟨hb0, hb1⟩ : 0 ≤ Builtin.bitAnd a 4095 ∧ Builtin.bitAnd a 4095 < 4096 := sgn_bound a
      clear F2 N2 k3
      walk_at "my_steps"
      exact k _ _ _ ⟨_, rfl⟩ (by assumption) (by assumption)
    intro sv G hG tkG hGa F2 N2 hGne
    simp only [LCg.Off1, and_true] at hGne
    clear F1 N1
    walk_at "my_stepsA"
    have hRf : ∀ x ∈ ms.map chSign, x.length ≤ sizeLine := fun x hx => by
      obtain ⟨m, _, rfl⟩ := List.mem_map.mp hx
      show 1 ≤ sizeLine; decide
    refine assign_TW strW (ms.map chSign) strW (fun x => !(x.cps.all (· < 128))) id (by with_unfolding_all rfl) (by with_unfolding_all rfl) (by decide) (by rfl) (by decide) (by rfl) (by rfl) (by rfl) (by rw [List.length_map]; exact Nat.le_trans hMl (by decide)) ?_
    walk_at "my_steps"
    rename Fr _ _ _ _ => F1
    rename News _ _ _ _ => N1
    refine ⟨_, _, _, ⟨_, feeds_lst rfl F1 N1 (show (G, lst sv) ∈ _ by k_mem) (by rw [List.size_toArray]; exact hGa.len), (fun i v _ hv => hGa.get hv), ?_, ?_⟩, ?_⟩
    · intro g x v hx hv I oI C oC D ys m₂ h tk Q' E' hTH k
      obtain ⟨t, rfl⟩ := hv
      obtain ⟨hC, hx', F', N', off, ne⟩ := hTH
      walk_at "my_steps"
      rename Fr _ _ _ _ => F2
      rename News _ _ _ _ => N2
      refine ldoor_raw x _ (hRf x hx) KX TT (fun b o q => F2.keep b o q) (Nat.le_of_lt (fr_lt F2)) (Heap.FunFrames.cons (by show ScopeKind.function ≠ ScopeKind.module; decide) rfl F2.ns (Heap.get?_none_of_le F2.above) trivial) (by show callerA.depth + 1 + 30 < _; decide) (by show callerA.units + 3 + 150 < _; decide) (fun v h3 tk3 hout hold hup => ?_)
      obtain ⟨F3, N3⟩ := after_deed rfl F2 N2 hold hup
      rcases hout with ⟨ha, t2, rfl⟩ | ⟨ha, D2, u2, c2, rfl, hD0, hD⟩
      · simp only [ha, Bool.not_true] at k
        clear F2 N2 hold hup
        walk_at "my_steps"
        refine eq_bytes_list (N3 _ (show (_, lstObj #[.str doorWords _] 0) ∈ _ by k_mem)).1 (by show callerA.units + 3 < _; decide) ?_
        walk_at "my_steps"
        exact k _ _ (by assumption) (by assumption)
      · simp only [ha, Bool.not_false] at k
        have N4 := news_add F2 N3 hD0 hD
        clear F2 N2 N3 hold hup hD0 hD
        walk_at "my_steps"
        refine eq_texts (N4 _ (show (_, lstObj [Value.str doorWords _].toArray _) ∈ _ by k_mem)).1 (N4 _ (show (_, lstObj [Value.str doorWords _].toArray 0) ∈ _ by k_mem)).1 (.cons ⟨_, rfl⟩ .nil) (.cons ⟨_, rfl⟩ .nil) (by show callerA.units + 3 < _; decide) ?_
        rw [decide_eq_true (rfl : [doorWords] = [doorWords])]
        walk_at "my_steps"
        rename News _ _ _ _ => N5
        exact k _ _ (by assumption) (fun p hp => N5 p (.tail _ hp))
    · intro g x v hx hv hp I oI C oC D ys m₂ h tk Q' E' hTH k
      obtain ⟨t, rfl⟩ := hv
      obtain ⟨hC, hx', F', N', off, ne⟩ := hTH
      walk_at "my_steps"
      exact k _ _ _ ⟨_, rfl⟩ (by assumption) (by assumption)
    intro fv Rf hRf2 tkF hFa F2 N2 hFne
    simp only [LCg.Off1, and_true] at hFne
    rw [refused_eq] at hFa
    clear F1 N1
    walk_at "my_stepsA"
    refine comp_TW strW (List.range ms.length) (fun i v => ∃ t, v = .int (i : Int) t) (fun i => highOf (modeText (ms.getD i 0))) (fun i => chSign (ms.getD i 0)) (by with_unfolding_all rfl) (by decide) (by rfl) (by decide) (by rfl) (by rw [List.length_range]; exact Nat.le_trans hMl (by decide)) ?_
    walk_at "my_steps"
    rename Fr _ _ _ _ => F1
    rename News _ _ _ _ => N1
    rename IsRange _ _ _ _ _ _ _ _ => hRg
    have hrow : ∀ i, i < ms.length → (modeText (ms.getD i 0)).length = 10 := fun i _ => text_len _
    refine ⟨_, _, _, _, ⟨_, (by rw [List.length_range]; exact feeds_range rfl F1 N1 hRg (range_ok _ (by omega)).1 (range_ok _ (by omega)).2), ?_, ?_, ?_⟩, ?_⟩
    · rintro i v hi ⟨t, rfl⟩
      exact ⟨i, by rw [List.getElem?_range (by simpa using hi)], t, by rw [Int.zero_add]⟩
    · intro g i v hi hv I oI C oC D ys m₂ h tk Q' E' hTH k
      obtain ⟨t, rfl⟩ := hv
      replace hi := List.mem_range.mp hi
      obtain ⟨hC, hx', F', N', off, ne⟩ := hTH
      obtain ⟨rw', hrw, t2, rfl⟩ := hRa.at 0 hi
      refine isTrue_plain (wpAny_Call_ofName ?_)
      walk_at "my_stepsB"
      refine PyProof.Rows.item_list (by is_list) (by omega) (by omega) hrw ?_
      walk_at "my_steps"
      rename Fr _ _ _ _ => F2
      rename News _ _ _ _ => N2
      refine (sp_high _ _ (hrow i hi)).use F2 N2 KX TT rfl (by show callerA.depth + 1 + 4 < _; decide) (by show callerA.units + 3 + 20 < _; decide) trivial (fun v h3 tk3 F3 N3 k3 hv => ?_)
      subst hv
      clear F2 N2 k3
      walk_at "my_steps"
      exact k _ _ (by assumption) (by assumption)
    · intro g i v hi hv hp I oI C oC D ys m₂ h tk Q' E' hTH k
      obtain ⟨t, rfl⟩ := hv
      replace hi := List.mem_range.mp hi
      obtain ⟨hC, hx', F', N', off, ne⟩ := hTH
      obtain ⟨rw', hrw, t2, rfl⟩ := hGa.at 0 hi
      walk_at "my_stepsB"
      refine PyProof.Rows.item_list (by is_list) (by omega) (by omega) hrw ?_
      walk_at "my_steps"
      exact k _ _ _ ⟨_, rfl⟩ (by assumption) (by assumption)
    intro gv D4 h4 tk4 hga F2 N2 h4ne
    simp only [LCg.Off1, and_true] at h4ne
    clear F1 N1
    walk_at "my_steps"
    rename News _ _ _ _ => N1
    refine ne_texts (vs := fv) (ws := gv) (N1 (Rf, lst fv) (by k_mem)).1 (N1 (D4, lst gv) (by k_mem)).1 hFa hga (by show callerA.units + 3 < _; decide) ?_
    rw [decide_eq_true (lawA ms)]
    walk_at "my_steps"
    rename Fr _ _ _ _ => F1
    rename News _ _ _ _ => N1
    rename IsRange _ _ _ _ _ _ _ _ => hRg2
    have e17 : ((ms.length : Int) + 1) = ((ms.length + 1 : Nat) : Int) := by omega
    rw [e17] at hRg2
    obtain ⟨mb, F0⟩ : ∃ mb, Fr sb.heap sb.heap.objs.size _ (lawNames mb M Rf none none) := ⟨_, fr_cong F1 (fun y => by
      by_cases h1 : y = Str.ofString "kept"
      · subst h1; rfl
      by_cases h2 : y = Str.ofString "k"
      · subst h2; rfl
      by_cases h3 : y = Str.ofString "refused"
      · subst h3; rfl
      by_cases h4 : y = Str.ofString "modes"
      · subst h4; rfl
      simp only [lawNames, if_neg h1, if_neg h2, if_neg h3, if_neg h4]
      rfl)⟩
    clear F1
    refine loop_range2 (n := ms.length + 1) (fun _ m => ∃ o1 o2, m = lawNames mb M Rf o1 o2) rfl F0 N1 hRg2 (range_ok _ (by omega)).1 (range_ok _ (by omega)).2 ⟨_, _, rfl⟩ (fun i t m₁ h tk own hi hJ F2 N2 => ?_) (fun m₁ h tk hJ F2 N2 => ?_)
    · obtain ⟨o1, o2, rfl⟩ := hJ
      clear F0 N1
      simp only [List.cons_append, List.nil_append] at N2
      have hsvl : sv.length = ms.length := by rw [hGa.len, List.length_map]
      have hsz20 : sv.length ≤ sizeLine := by rw [hsvl]; exact Nat.le_trans hMl (by decide)
      walk_at "my_steps"
      refine slice_upto F2 N2 (show (G, lst sv) ∈ _ by k_mem) (by omega) hsz20 (fun D1 h5 F5 N5 l5 => ?_)
      clear F2 N2
      walk_at "my_steps"
      rename Fr _ _ _ _ => F2
      rename News _ _ _ _ => N2
      refine filter_law KX TT (by rfl) (by rfl) F2 N2 (show (D1, lstObj (sv.take i).toArray 0) ∈ _ by k_mem) (show (Rf, lst fv) ∈ _ by k_mem) (hGa.take i) hFa (by rw [List.length_take, List.length_map]; exact Nat.le_trans (Nat.min_le_right _ _) (Nat.le_trans hMl (by decide))) (by show callerA.depth + 1 + 12 < _; decide) (by show callerA.units + 3 + 120 < _; decide) (fun K1 h6 tk6 kv ck F6 N6 n6 hKa => ?_)
      clear F2 N2
      walk_at "my_steps"
      rename Fr _ _ _ _ => F2
      rename News _ _ _ _ => N2
      refine slice_upto F2 N2 (show (G, lst sv) ∈ _ by k_mem) (by omega) hsz20 (fun D2 h7 F7 N7 l7 => ?_)
      clear F2 N2
      walk_at "my_steps"
      rename Fr _ _ _ _ => F2
      rename News _ _ _ _ => N2
      have hJz : (((ms.map chSign).take i).map (·.length)).sum + ((ms.map chSign).take i).length ≤ 1048576 := by
        rw [← List.map_take, List.map_map]
        show ((ms.take i).map fun _ => 1).sum + _ ≤ _
        rw [List.map_const', List.sum_replicate_nat, List.length_map, List.length_take]
        omega
      refine join_listW ⟨_, (N2 (D2, lstObj (sv.take i).toArray 0) (by k_mem)).1, rfl, _, rfl⟩ (hGa.take i).strs (by decide) hJz (fun t8 k8 => ?_)
      walk_at "my_steps"
      rename Fr _ _ _ _ => F2
      rename News _ _ _ _ => N2
      refine door_law _ _ KX TT (by rfl) (by rfl) F2 N2 (by rw [← List.map_take, join_len, List.length_take]; exact Nat.le_trans (Nat.min_le_right _ _) (Nat.le_trans hMl (by decide))) (by show callerA.depth + 1 + 30 < _; decide) (by show callerA.units + 3 + 150 < _; decide) (fun t8 h8 k8 ha F8 N8 => ?_) (fun D8 u8 c8 h8 k8 ha F8 N8 => ?_)
      · clear F2 N2
        walk_at "my_steps"
        rename Fr _ _ _ _ => F2
        rename News _ _ _ _ => N2
        refine eq_bytes_list (N2 (_, lstObj #[.str doorWords _] 0) (by k_mem)).1 (by show callerA.units + 3 < _; decide) ?_
        walk_at "my_steps"
        rename Fr _ _ _ _ => F2
        rename News _ _ _ _ => N2
        refine slice_upto F2 N2 (show (G, lst sv) ∈ _ by k_mem) (by omega) hsz20 (fun D9 h9 F9 N9 l9 => ?_)
        clear F2 N2
        walk_at "my_steps"
        rename Fr _ _ _ _ => F2
        rename News _ _ _ _ => N2
        refine ne_texts (vs := kv) (ws := sv.take i) (N2 (K1, lstObj kv.toArray ck) (by k_mem)).1 (N2 (D9, lstObj (sv.take i).toArray 0) (by k_mem)).1 hKa (hGa.take i) (by show callerA.units + 3 < _; decide) ?_
        rw [kept_eq, lawB, ha]
        walk_at "my_steps"
        rename Fr _ _ _ _ => F2
        rename News _ _ _ _ => N2
        refine .inl ⟨rfl, _, _, _, rfl, fr_cong F2 (turn_names _ _ _ _ _ _ _), (fun p hp => N2 p ?_), _, _, rfl⟩
        simp only [List.cons_append, List.nil_append] at hp
        repeat (first | exact hp | apply List.mem_cons_of_mem)
      · clear F2 N2
        walk_at "my_steps"
        rename Fr _ _ _ _ => F2
        rename News _ _ _ _ => N2
        refine eq_texts (N2 (D8, lstObj [Value.str doorWords _].toArray _) (by k_mem)).1 (N2 (_, lstObj [Value.str doorWords _].toArray 0) (by k_mem)).1 (.cons ⟨_, rfl⟩ .nil) (.cons ⟨_, rfl⟩ .nil) (by show callerA.units + 3 < _; decide) ?_
        rw [decide_eq_true (rfl : [doorWords] = [doorWords])]
        walk_at "my_steps"
        rename Fr _ _ _ _ => F2
        rename News _ _ _ _ => N2
        refine slice_upto F2 N2 (show (G, lst sv) ∈ _ by k_mem) (by omega) hsz20 (fun D9 h9 F9 N9 l9 => ?_)
        clear F2 N2
        walk_at "my_steps"
        rename Fr _ _ _ _ => F2
        rename News _ _ _ _ => N2
        refine ne_texts (vs := kv) (ws := sv.take i) (N2 (K1, lstObj kv.toArray ck) (by k_mem)).1 (N2 (D9, lstObj (sv.take i).toArray 0) (by k_mem)).1 hKa (hGa.take i) (by show callerA.units + 3 < _; decide) ?_
        rw [kept_eq, lawB, ha]
        walk_at "my_steps"
        rename Fr _ _ _ _ => F2
        rename News _ _ _ _ => N2
        refine .inl ⟨rfl, _, _, _, rfl, fr_cong F2 (turn_names _ _ _ _ _ _ _), (fun p hp => N2 p ?_), _, _, rfl⟩
        simp only [List.cons_append, List.nil_append] at hp
        repeat (first | exact hp | apply List.mem_cons_of_mem)
    · obtain ⟨o1, o2, rfl⟩ := hJ
      clear F0 N1
      dsimp only
      walk_at "my_steps"
      rename Fr _ _ _ _ => F2
      rename News _ _ _ _ => N2
      refine filter_law KX TT (by rfl) (by rfl) F2 N2 (show (G, lst sv) ∈ _ by k_mem) (show (Rf, lst fv) ∈ _ by k_mem) hGa hFa (by rw [List.length_map]; exact Nat.le_trans hMl (by decide)) (by show callerA.depth + 1 + 12 < _; decide) (by show callerA.units + 3 + 120 < _; decide) (fun K2 h6 tk6 lv ck F6 N6 n6 hLa => ?_)
      rw [left_eq] at hLa
      clear F2 N2
      walk_at "my_steps"
      rename Fr _ _ _ _ => F2
      rename News _ _ _ _ => N2
      have hll : (ms.filter lowM).length ≤ 16 := Nat.le_trans (List.length_filter_le _ _) hMl
      have hJz : ((lows ms).map (·.length)).sum + (lows ms).length ≤ 1048576 := by
        unfold lows
        rw [List.map_map]
        show ((ms.filter lowM).map fun _ => 1).sum + _ ≤ _
        rw [List.map_const', List.sum_replicate_nat, List.length_map]
        omega
      refine join_listW ⟨_, (N2 (K2, lstObj lv.toArray ck) (by k_mem)).1, rfl, _, rfl⟩ hLa.strs (by decide) hJz (fun t8 k8 => ?_)
      walk_at "my_steps"
      rename Fr _ _ _ _ => F2
      rename News _ _ _ _ => N2
      have hJl : (Txt.join (Str.ofString "") (lows ms)).length ≤ sizeLine := by
        unfold lows
        rw [join_len]
        exact Nat.le_trans hll (by decide)
      refine door_law _ _ KX TT (by rfl) (by rfl) F2 N2 hJl (by show callerA.depth + 1 + 30 < _; decide) (by show callerA.units + 3 + 150 < _; decide) (fun t8 h8 k8 ha F8 N8 => ?_) (fun D8 u8 c8 h8 k8 ha F8 N8 => absurd (ascii_left ms) (by rw [ha]; decide))
      clear F2 N2
      have hOi := left_ints ms
      generalize asciiBytes (Txt.join (Str.ofString "") (lows ms)) = ob at *
      walk_at "my_steps"
      refine comp_UW strW (ms.filter lowM) (fun m v => ∃ t, v = .int (sgn m) t) (fun m => nineSigns (sgn m)) (by with_unfolding_all rfl) (by decide) (by rfl) (by decide) (by rfl) (Nat.le_trans hll (by decide)) ?_
      walk_at "my_steps"
      rename Fr _ _ _ _ => F2
      rename News _ _ _ _ => N2
      refine ⟨_, _, _, _, ⟨_, feeds_bytes (by rw [← KBw.ints_length, hOi, List.length_map]) rfl F2 N2, (fun i v _ hv => ?_), ?_⟩, ?_⟩
      · obtain ⟨k, u, hk, rfl⟩ := bytes_ints hOi hv
        rw [List.getElem?_map] at hk
        cases q : (ms.filter lowM)[i]? with
        | none => rw [q] at hk; cases hk
        | some a => rw [q] at hk; cases hk; exact ⟨a, rfl, u, rfl⟩
      · intro g a v ha hv I oI C oC D ys m₂ h tk Q' E' hTH k
        obtain ⟨t, rfl⟩ := hv
        obtain ⟨hC, hx, F', N', off, ne⟩ := hTH
        walk_at "my_steps"
        rename Fr _ _ _ _ => F2
        rename News _ _ _ _ => N2
        refine (sp_nine (sgn a) _ (sgn_bound a).1 (sgn_bound a).2).use F2 N2 KX TT rfl (by show callerA.depth + 1 + 8 < _; decide) (by show callerA.units + 3 + 40 < _; decide) trivial (fun v h3 tk3 F3 N3 k3 hv => ?_)
        obtain ⟨t3, rfl⟩ := hv
        clear F2 N2 k3
        walk_at "my_steps"
        exact k _ _ _ ⟨_, rfl⟩ (by assumption) (by assumption)
      intro nv P1 hP tkP hNa F3 N3 hPne
      simp only [LCg.Off1, and_true] at hPne
      clear F2 N2
      walk_at "my_steps"
      refine comp_TW strW ms (fun m v => ∃ t, v = .str (modeText m) t) (fun m => !highOf (modeText m)) tailOf (by with_unfolding_all rfl) (by decide) (by rfl) (by decide) (by rfl) (Nat.le_trans hMl (by decide)) ?_
      walk_at "my_steps"
      rename Fr _ _ _ _ => F2
      rename News _ _ _ _ => N2
      refine ⟨_, _, _, _, ⟨_, feeds_lst rfl F2 N2 (show (R, lst rv) ∈ _ by k_mem) (by rw [List.size_toArray, hRa.len, List.length_map]), (fun i v _ hv => hRa.getMap hv), ?_, ?_⟩, ?_⟩
      · intro g a v ha hv I oI C oC D ys m₂ h tk Q' E' hTH k
        obtain ⟨t, rfl⟩ := hv
        obtain ⟨hC, hx', F', N', off, ne⟩ := hTH
        refine isTrue_not (isTrue_plain (wpAny_Call_ofName ?_))
        walk_at "my_steps"
        rename Fr _ _ _ _ => F2
        rename News _ _ _ _ => N2
        refine (sp_high _ _ (show (modeText a).length = 10 from text_len a)).use F2 N2 KX TT rfl (by show callerA.depth + 1 + 4 < _; decide) (by show callerA.units + 3 + 20 < _; decide) trivial (fun v h3 tk3 F3 N3 k3 hv => ?_)
        subst hv
        clear F2 N2 k3
        walk_at "my_steps"
        exact k _ _ (by assumption) (by assumption)
      · intro g a v ha hv hp I oI C oC D ys m₂ h tk Q' E' hTH k
        obtain ⟨t, rfl⟩ := hv
        obtain ⟨hC, hx', F', N', off, ne⟩ := hTH
        walk_at "my_steps"
        exact k _ _ _ ⟨_, rfl⟩ (by assumption) (by assumption)
      intro dv P2 hP tkP hDa F3 N3 hPne2
      simp only [LCg.Off1, and_true] at hPne2
      clear F2 N2
      walk_at "my_steps"
      rename News _ _ _ _ => N2
      refine ne_texts (vs := nv) (ws := dv) (N2 (P1, lst nv) (by k_mem)).1 (N2 (P2, lst dv) (by k_mem)).1 hNa hDa (by show callerA.units + 3 < _; decide) ?_
      rw [decide_eq_true (lawD ms)]
      walk_at "my_steps"
      rename Fr _ _ _ _ => F2
      rename News _ _ _ _ => N2
      have hsvl : sv.length = ms.length := by rw [hGa.len, List.length_map]
      refine add_two F2 N2 (show (G, lst sv) ∈ _ by k_mem) (show (G, lst sv) ∈ _ by k_mem) (by rw [hsvl]; exact Nat.le_trans (Nat.add_le_add hMl hMl) (by decide)) (fun B1 h9 F9 N9 l9 => ?_)
      clear F2 N2
      walk_at "my_steps"
      rename Fr _ _ _ _ => F2
      rename News _ _ _ _ => N2
      refine filter_law KX TT (by rfl) (by rfl) F2 N2 (show (B1, lstObj (sv ++ sv).toArray 0) ∈ _ by k_mem) (show (K2, lstObj lv.toArray ck) ∈ _ by k_mem) (hGa.append hGa) hLa (by rw [List.length_append, List.length_map]; exact Nat.le_trans (Nat.add_le_add hMl hMl) (by decide)) (by show callerA.depth + 1 + 12 < _; decide) (by show callerA.units + 3 + 120 < _; decide) (fun K3 h6 tk6 zv cz F6 N6 n6 hZa => ?_)
      rw [lawE] at hZa
      clear F2 N2
      walk_at "my_steps"
      rename Fr _ _ _ _ => F2
      rename News _ _ _ _ => N2
      have hfvl : fv.length ≤ 16 := by rw [hFa.len]; unfold highs; rw [List.length_map]; exact Nat.le_trans (List.length_filter_le _ _) hMl
      refine add_two F2 N2 (show (Rf, lst fv) ∈ _ by k_mem) (show (Rf, lst fv) ∈ _ by k_mem) (Nat.le_trans (Nat.add_le_add hfvl hfvl) (by decide)) (fun B2 h9 F9 N9 l9 => ?_)
      clear F2 N2
      walk_at "my_steps"
      rename News _ _ _ _ => N2
      refine ne_texts (vs := zv) (ws := fv ++ fv) (N2 (K3, lstObj zv.toArray cz) (by k_mem)).1 (N2 (B2, lstObj (fv ++ fv).toArray 0) (by k_mem)).1 hZa (hFa.append hFa) (by show callerA.units + 3 < _; decide) ?_
      rw [decide_eq_true rfl]
      walk_at "my_steps"
      have hhl : (ms.filter fun m => !lowM m).length ≤ 16 := Nat.le_trans (List.length_filter_le _ _) hMl
      refine comp_UW strW (ms.filter fun m => !lowM m) (fun m v => ∃ t, v = .str (chSign m) t) (fun m => nineSigns (sgn m)) (by with_unfolding_all rfl) (by decide) (by rfl) (by decide) (by rfl) (Nat.le_trans hhl (by decide)) ?_
      walk_at "my_steps"
      rename Fr _ _ _ _ => F2
      rename News _ _ _ _ => N2
      refine ⟨_, _, _, _, ⟨_, feeds_lst rfl F2 N2 (show (Rf, lst fv) ∈ _ by k_mem) (by rw [List.size_toArray, hFa.len]; exact List.length_map ..), (fun i v _ hv => hFa.getMap hv), ?_⟩, ?_⟩
      · intro g a v ha hv I oI C oC D ys m₂ h tk Q' E' hTH k
        obtain ⟨t, rfl⟩ := hv
        obtain ⟨hC, hx, F', N', off, ne⟩ := hTH
        walk_at "my_steps"
        rename Fr _ _ _ _ => F2
        rename News _ _ _ _ => N2
        rw [Int.toNat_of_nonneg (sgn_bound a).1]
        refine (sp_nine (sgn a) _ (sgn_bound a).1 (sgn_bound a).2).use F2 N2 KX TT rfl (by show callerA.depth + 1 + 8 < _; decide) (by show callerA.units + 3 + 40 < _; decide) trivial (fun v h3 tk3 F3 N3 k3 hv => ?_)
        obtain ⟨t3, rfl⟩ := hv
        clear F2 N2 k3
        walk_at "my_steps"
        exact k _ _ _ ⟨_, rfl⟩ (by assumption) (by assumption)
      intro nv2 P3 hP tkP hNa2 F3 N3 hPne3
      simp only [LCg.Off1, and_true] at hPne3
      clear F2 N2
      walk_at "my_steps"
      refine comp_TW strW ms (fun m v => ∃ t, v = .str (modeText m) t) (fun m => highOf (modeText m)) tailOf (by with_unfolding_all rfl) (by decide) (by rfl) (by decide) (by rfl) (Nat.le_trans hMl (by decide)) ?_
      walk_at "my_steps"
      rename Fr _ _ _ _ => F2
      rename News _ _ _ _ => N2
      refine ⟨_, _, _, _, ⟨_, feeds_lst rfl F2 N2 (show (R, lst rv) ∈ _ by k_mem) (by rw [List.size_toArray, hRa.len, List.length_map]), (fun i v _ hv => hRa.getMap hv), ?_, ?_⟩, ?_⟩
      · intro g a v ha hv I oI C oC D ys m₂ h tk Q' E' hTH k
        obtain ⟨t, rfl⟩ := hv
        obtain ⟨hC, hx', F', N', off, ne⟩ := hTH
        refine isTrue_plain (wpAny_Call_ofName ?_)
        walk_at "my_steps"
        rename Fr _ _ _ _ => F2
        rename News _ _ _ _ => N2
        refine (sp_high _ _ (show (modeText a).length = 10 from text_len a)).use F2 N2 KX TT rfl (by show callerA.depth + 1 + 4 < _; decide) (by show callerA.units + 3 + 20 < _; decide) trivial (fun v h3 tk3 F3 N3 k3 hv => ?_)
        subst hv
        clear F2 N2 k3
        walk_at "my_steps"
        exact k _ _ (by assumption) (by assumption)
      · intro g a v ha hv hp I oI C oC D ys m₂ h tk Q' E' hTH k
        obtain ⟨t, rfl⟩ := hv
        obtain ⟨hC, hx', F', N', off, ne⟩ := hTH
        walk_at "my_steps"
        exact k _ _ _ ⟨_, rfl⟩ (by assumption) (by assumption)
      intro dv2 P4 hP tkP hDa2 F3 N3 hPne4
      simp only [LCg.Off1, and_true] at hPne4
      clear F2 N2
      walk_at "my_steps"
      rename News _ _ _ _ => N2
      refine eq_texts (vs := nv2) (ws := dv2) (N2 (P3, lst nv2) (by k_mem)).1 (N2 (P4, lst dv2) (by k_mem)).1 hNa2 hDa2 (by show callerA.units + 3 < _; decide) ?_
      rw [decide_eq_true (lawF ms)]
      walk_at "my_steps")
end Mine
end

theorem PySem.Challenge.cw_il0163_02_holds : PySem.Challenge.rw_il0163_02.Holds :=
  Mine.main

import PyProof.Rows.All
import Wide.All
import OpenK.AllK
import Wide.FinOn
import PySem.Challenge.RW_mr0173_01
section
open PySem PySem.W PyProof.Rows
set_option Elab.async false
namespace Mine
set_option maxRecDepth 100000 in
set_option maxHeartbeats 8000000 in
open_top hd for PySem.Challenge.rw_mr0173_01
end Mine
end
section
open PySem PySem.W PyProof.Rows PySem.Calls
set_option Elab.async false
set_option maxRecDepth 100000
namespace Mine

theorem fn_setattr : Slot "function" "__setattr__" "object.__setattr__" :=
  .of (owner := "object") (n := "__setattr__") (by rw [typeLookup_type, builtinLookup_eq_fast]; kernel_rfl) (by decide +kernel) (by decide +kernel) (by decide +kernel)
    (by first | exact .inl (by decide +kernel) | exact .inr (by decide +kernel)) (by rw [isSubtype_type]; kernel_rfl)
theorem fn_getattribute : Slot "function" "__getattribute__" "object.__getattribute__" :=
  .of (owner := "object") (n := "__getattribute__") (by rw [typeLookup_type, builtinLookup_eq_fast]; kernel_rfl) (by decide +kernel) (by decide +kernel) (by decide +kernel)
    (by first | exact .inl (by decide +kernel) | exact .inr (by decide +kernel)) (by rw [isSubtype_type]; kernel_rfl)
theorem fn_span : typeLookup (.type "function") "span" = pure none := by rw [typeLookup_type, builtinLookup_eq_fast]; kernel_rfl
theorem fn_search : typeLookup (.type "function") "search" = pure none := by rw [typeLookup_type, builtinLookup_eq_fast]; kernel_rfl
theorem fn_bool : typeLookup (.type "function") "__bool__" = pure none := by rw [typeLookup_type, builtinLookup_eq_fast]; kernel_rfl
theorem fn_len : typeLookup (.type "function") "__len__" = pure none := by rw [typeLookup_type, builtinLookup_eq_fast]; kernel_rfl
theorem fn_getattr : typeLookup (.type "function") "__getattr__" = pure none := by rw [typeLookup_type, builtinLookup_eq_fast]; kernel_rfl
theorem fn_mro : mroOf (.type "function") = pure [.type "function", .type "object"] := by with_unfolding_all kernel_rfl
theorem entry_osa : entryFor table "object.__setattr__" = some Builtin.«object.__setattr__» := entryFor_of_tree (by kernel_rfl)
theorem entry_oga : entryFor table "object.__getattribute__" = some Builtin.«object.__getattribute__» := entryFor_of_tree (by kernel_rfl)
theorem args_osa (a b c : Value) : argsOk "object.__setattr__" ⟨[a, b, c], []⟩ := by
  unfold argsOk; kernel_rfl
theorem args_oga (a b : Value) : argsOk "object.__getattribute__" ⟨[a, b], []⟩ := by
  unfold argsOk; kernel_rfl
theorem fn_passes (self : Value) : refuseLoop self "__setattr__" [.type "function", .type "object"] = pure () := by
  with_unfolding_all kernel_rfl
theorem fn_hasDict : typeHasDict (.type "function") = true := by with_unfolding_all kernel_rfl
theorem fn_canon : Manifest.canonical "object.__getattribute__" = "object.__getattribute__" := by with_unfolding_all kernel_rfl
end Mine
end
section
open PySem PySem.W PyProof.Rows PySem.Calls
open Builtin Builtin.ObjectAttr
set_option Elab.async false
set_option maxRecDepth 100000
namespace Mine
/-- a namespace object by itself -/
def NsObj (o : Obj) (m : Str → Option Value) : Prop := ∃ es ep, o.data = .dict es ep ∧ (∀ e ∈ es, ∃ n t, e.key = .str n t) ∧ ∀ x, nsFind es x = m x
abbrev fnObj (d : Option Addr) (fd : FuncData) : Obj := { cls := .type "function", dict := d, data := .func fd }
section
variable {prog : Program} {w : World} {A : Around} {E : Value → Shared → Prop} {s : Shared} {x : Addr} {fd : FuncData} {name : Str} {v : Value}
theorem set_fn {Q : Unit → Shared → Prop} (hx : s.heap.get? x = some (fnObj none fd)) (hl : typeLookup (.type "function") name = pure none)
    (h : ∀ h' tk od, h'.get? s.heap.objs.size = some od → NsObj od (fun y => if y = name then some v else none) → h'.get? x = some (fnObj (some s.heap.objs.size) fd) →
      (∀ b o, b ≠ x → s.heap.get? b = some o → h'.get? b = some o) → Q () { s with heap := h', toks := tk }) :
    wpAny (model prog w) A (setAttr (.ref x) name v) Q E s := by
  have hT : s.TypeIs (.ref x) "function" := ⟨_, hx, rfl⟩
  unfold setAttr
  refine wpAny_bind (wpAny_mkText ?_)
  refine wpAny_bind (wpAny_callSpecial?_slot (s := { s with toks := s.toks + 1 }) hT fn_setattr ?_)
  refine wpAny_call (codeAny_call_builtin fn_setattr.plain entry_osa (fn_setattr.check _ _ _ _ _ _ _ _ hT (args_osa _ _ _) ?_))
  unfold Builtin.«object.__setattr__»
  simp only [List.isEmpty_nil, Bool.not_true, Bool.false_eq_true, if_false]
  rw [refuse_eq]
  refine wpAny_bind (wpAny_bind (wpAny_typeOf (T := "function") hT ?_))
  refine wpAny_bind (wpAny_of_eq fn_mro ?_)
  rw [fn_passes]
  refine wpAny_pure ?_
  refine wpAny_bind (wpAny_pure ?_)
  refine wpAny_bind (wpAny_typeOf (T := "function") hT ?_)
  refine wpAny_bind (wpAny_of_eq hl ?_)
  refine wpAny_bind (wpAny_pure ?_)
  show wpAny _ _ (storeInOwnDict _ _ _ _ _ _) _ _ _
  unfold storeInOwnDict
  refine wpAny_bind (wpAny_of_eq (a := ()) (by rfl) ?_)
  rw [if_neg (by decide)]
  show wpAny _ _ (instanceDict x true >>= _) _ _ _
  refine wpAny_bind ?_
  unfold instanceDict
  refine wpAny_bind (wpAny_loadPart hx ?_)
  have hx₁ : (s.heap.push { cls := .type "dict", data := .dict #[] }).get? x = some (fnObj none fd) := Heap.get?_push_of_some _ hx
  have hxs : x ≠ s.heap.objs.size := Nat.ne_of_lt (Heap.lt_size hx)
  dsimp only
  rw [if_neg (by rw [fn_hasDict]; decide)]
  refine wpAny_bind (wpAny_alloc ?_)
  refine wpAny_bind (wpAny_update hx₁ ?_)
  refine wpAny_of_eq (a := some s.heap.objs.size) (by rfl) ?_
  show wpAny _ _ (storeInDict s.heap.objs.size (.str name _) name v) _ _ _
  unfold storeInDict newKeyGuard
  have hgd : ((s.heap.push { cls := .type "dict", data := .dict #[] }).update x fun o => { cls := o.cls, dict := some s.heap.objs.size, data := o.data, slots := o.slots }).get? s.heap.objs.size
      = some { cls := .type "dict", data := .dict #[] } := (Heap.get?_update_ne _ _ _ _ hxs.symm).trans (Heap.get?_push_size _ rfl)
  have hnd : ((s.heap.push { cls := .type "dict", data := .dict #[] }).update x fun o => { cls := o.cls, dict := some s.heap.objs.size, data := o.data, slots := o.slots }).Ns s.heap.objs.size (fun _ => none) :=
    ⟨_, #[], _, hgd, rfl, fun e he => absurd he (by simp), fun _ => rfl⟩
  refine wpAny_bind (wpAny_pure (wpAny_bind (wpAny_nsSet1 (Heap.Ns1.of_empty hnd) fun h' hn' hs => ?_)))
  obtain ⟨oD, esD, epD, hoD, hdD, hcD⟩ := hn'.count (Within.cons name v Within.nil)
  refine wpAny_bind (wpAny_lookBehind hoD (by rw [hdD]; exact pastItsLine_dict (Nat.le_trans hcD (by rw [List.length_cons, List.length_nil, sizeLine_eq]; omega))) ?_)
  refine wpAny_pure (wpAny_pure ?_)
  obtain ⟨o', es, ep, e1, e2, e3, eu, e4⟩ := hn'
  refine h h' _ o' e1 ⟨es, ep, e2, e3, fun y => ?_⟩ ?_ fun b o hb e => ?_
  · rw [e4 y]
  · exact (hs.2 x hxs).trans (Heap.get?_update_self _ hx₁ rfl)
  · exact (hs.2 b (Nat.ne_of_lt (Heap.lt_size e))).trans ((Heap.get?_update_ne _ _ _ _ hb).trans (Heap.get?_push_of_some _ e))
theorem truthy_fn {d : Option Addr} {Q : Bool → Shared → Prop} (hx : s.heap.get? x = some (fnObj d fd)) (h : Q true s) : wpAny (model prog w) A (truthy (.ref x)) Q E s := by
  have hT : s.TypeIs (.ref x) "function" := ⟨_, hx, rfl⟩
  unfold truthy
  dsimp only
  refine wpAny_bind (wpAny_callSpecial?_none hT fn_bool ?_)
  refine wpAny_bind (wpAny_specialOf hT fn_len ?_)
  rw [if_pos (by rfl)]
  exact wpAny_pure h

theorem ns_get {a : Addr} {o : Obj} {m : Str → Option Value} {Q : Option Value → Shared → Prop} (ho : s.heap.get? a = some o) (hm : NsObj o m) (h : Q (m name) s) : wpAny (model prog w) A (nsGet a name) Q E s := by
  obtain ⟨es, ep, e1, e2, e3⟩ := hm
  exact wpAny_nsGet ⟨o, es, ep, ho, e1, e2, e3⟩ h

theorem get_fn {d : Addr} {od : Obj} {m : Str → Option Value} {pl : Sem Bool} {Q : Value × List Value → Shared → Prop} {f : Addr} (hx : s.heap.get? x = some (fnObj (some d) fd)) (hl : typeLookup (.type "function") name = pure none)
    (hd : s.heap.get? d = some od) (ho : NsObj od m) (hm : m name = some (.ref f)) (h : Q (.ref f, []) { s with toks := s.toks + 1 }) :
    wpAny (model prog w) A (getMethod (.ref x) name pl) Q E s := by
  have hT : s.TypeIs (.ref x) "function" := ⟨_, hx, rfl⟩
  unfold getMethod
  dsimp only
  refine wpAny_bind (wpAny_specialOf hT fn_getattribute.lookup ?_)
  dsimp only
  rw [if_neg (by rw [fn_canon]; decide)]
  refine wpAny_bind (wpAny_specialOf hT fn_getattr ?_)
  rw [if_neg (by decide)]
  refine wpAny_bind (wpAny_specialOf hT hl ?_)
  dsimp only
  refine wpAny_bind ?_
  unfold getAttr
  refine wpAny_bind (wpAny_mkText ?_)
  unfold getAttrBy
  have hT' : Shared.TypeIs { s with toks := s.toks + 1 } (.ref x) "function" := ⟨_, hx, rfl⟩
  refine wpAny_holding (wpAny_bind (wpAny_typeOf hT' (wpAny_bind (wpAny_of_eq fn_getattribute.lookup ?_))))
  dsimp only
  rw [if_neg (by decide)]
  unfold getAttrByItsOwn
  refine wpAny_bind (wpAny_pure ?_)
  refine wpAny_bind (wpAny_attempt (wpAny_holding ?_))
  unfold callGetattribute
  rw [if_neg (by decide)]
  unfold boundAndCalled
  rw [fn_getattribute.bind]
  refine wpAny_bind (wpAny_pure ?_)
  refine wpAny_call (codeAny_call_builtin fn_getattribute.plain entry_oga (fn_getattribute.check _ _ _ _ _ _ _ _ hT' (args_oga _ _) ?_))
  unfold Builtin.«object.__getattribute__»
  refine wpAny_bind (wpAny_of_eq (a := (.ref x, [.str name s.toks])) (by rfl) ?_)
  dsimp only
  refine wpAny_bind (wpAny_of_eq (a := name) (by rfl) ?_)
  refine wpAny_bind (wpAny_typeOf hT' ?_)
  unfold find
  refine wpAny_bind (wpAny_bind (wpAny_of_eq hl ?_))
  refine wpAny_bind (wpAny_pure ?_)
  refine wpAny_bind (wpAny_pure ?_)
  dsimp only
  unfold ownThenClass
  refine wpAny_bind ?_
  show wpAny _ _ (Builtin.ObjectAttr.ownDict x >>= _) _ _ _
  unfold Builtin.ObjectAttr.ownDict
  refine wpAny_bind (wpAny_bind (wpAny_loadPart (s := { s with toks := s.toks + 1 }) hx ?_))
  dsimp only
  unfold instanceDict
  refine wpAny_bind (wpAny_loadPart (s := { s with toks := s.toks + 1 }) hx ?_)
  dsimp only
  refine wpAny_pure ?_
  show wpAny _ _ (nsGet d name) _ _ _
  refine ns_get (s := { s with toks := s.toks + 1 }) hd ho ?_
  rw [hm]
  refine wpAny_bind (wpAny_rule (wpAny_pure (wpAny_pure ?_)))
  exact wpAny_pure (wpAny_pure h)
end
end Mine
end
section
open PySem PySem.W PyProof.Rows PySem.Calls
set_option Elab.async false
set_option maxRecDepth 100000
namespace Mine
abbrev Ledger := List (Addr × Obj)
/-- the object of a range's iterator, as far as we look -/
def IsRit (o : Obj) : Prop := ∃ x y z : Int, o = { cls := .type "range_iterator", dict := none, data := .fields #[rawInt x, rawInt y, rawInt z], slots := #[] }
def RngEnd {σ : Type} (h₀ : Heap) (L : Addr) (s : Shared) (Led : σ → Ledger) (ps : σ → List (Str × Value)) (x : Str) (stored : List Str) (m₀ : Str → Option Value) (P : Nat → σ → Prop) (I : Addr) (io : Obj) (i : Nat) (s₂ : Shared) : Prop :=
  ∃ (c' : σ) (h' : Heap) (tk : Nat) (m' : Str → Option Value) (news' : Ledger), s₂ = { s with heap := h', toks := tk } ∧ Fr h₀ L h' m' ∧ News h₀ L h' news' ∧ (∀ p ∈ Led c', p ∈ news') ∧ (I, io) ∈ news' ∧ (∀ p ∈ Led c', p.1 ≠ I) ∧
    (∀ p ∈ ps c', m' p.1 = some p.2) ∧ (∀ z, z ≠ x → (∀ p ∈ ps c', z ≠ p.1) → stored.contains z = false → m' z = m₀ z) ∧ P (i + 1) c'
def RngPost {σ : Type} (h₀ : Heap) (L : Addr) (s : Shared) (Led : σ → Ledger) (ps : σ → List (Str × Value)) (x : Str) (stored : List Str) (m₀ : Str → Option Value) (P : Nat → σ → Prop) (I : Addr) (io : Obj) (i : Nat) (Q : Flow → Shared → Prop) (f : Flow) (s₂ : Shared) : Prop :=
  match f with
  | .ret v => Q (.ret v) s₂
  | .brk => Q .next s₂
  | _ => RngEnd h₀ L s Led ps x stored m₀ P I io i s₂
theorem rng_end {σ : Type} {h₀ : Heap} {L : Addr} {s : Shared} {Led : σ → Ledger} {ps : σ → List (Str × Value)} {x : Str} {stored : List Str} {m₀ m' : Str → Option Value} {P : Nat → σ → Prop} {I : Addr} {io : Obj} {i : Nat} {h' : Heap} {tk : Nat} {news' : Ledger} (c' : σ)
    (F : Fr h₀ L h' m') (N : News h₀ L h' news') (hn : ∀ p ∈ Led c', p ∈ news') (hI : (I, io) ∈ news') (ho : ∀ p ∈ Led c', p.1 ≠ I) (hk : ∀ p ∈ ps c', m' p.1 = some p.2)
    (hr : ∀ z, z ≠ x → (∀ p ∈ ps c', z ≠ p.1) → stored.contains z = false → m' z = m₀ z) (hp : P (i + 1) c') :
    RngEnd h₀ L s Led ps x stored m₀ P I io i { s with heap := h', toks := tk } := ⟨c', h', tk, m', news', rfl, F, N, hn, hI, ho, hk, hr, hp⟩
section
variable {prog : Program} {w : World} {A : Around} {E : Value → Shared → Prop} {s : Shared} {env : Env} {h₀ : Heap} {x : Str} {body : List Stmt} {Q : Flow → Shared → Prop}
theorem rng {σ : Type} {r : Addr} {a₀ b₀ st : Int} {t₀ u₀ v₀ : Tok} {n : Nat} {m₀ : Str → Option Value} (Led : σ → Ledger) (ps : σ → List (Str × Value)) (stored : List Str) (P : Nat → σ → Prop) (c₀ : σ)
    (hh : A.handled = none) (hr : IsRange s.heap r a₀ b₀ st t₀ u₀ v₀) (hsmall : Builtin.Range.small a₀ b₀ st = true) (hn : Builtin.Range.rangeSize a₀ b₀ st = (n : Int)) (F : Fr h₀ env.locals s.heap m₀) (N : News h₀ env.locals s.heap (Led c₀)) (hk : ∀ p ∈ ps c₀, m₀ p.1 = some p.2) (hp : P 0 c₀)
    (turn : ∀ (i : Nat) (c : σ) (k : Int) t (u : Str → Option Value) h tk I io, i < n → k = a₀ + i * st → P i c → (∀ p ∈ Led c, p.1 ≠ I) → L₀ ≤ I → IsRit io →
      Fr h₀ env.locals h (fun y => if y = x then some (.int k t) else kstB (fun z => if stored.contains z then u z else m₀ z) (ps c) y) → News h₀ env.locals h ((I, io) :: Led c) →
      wpAny (model prog w) A (execs body env) (RngPost h₀ env.locals { s with heap := h, toks := tk } Led ps x stored m₀ P I io i Q) E { s with heap := h, toks := tk })
    (done : ∀ (c : σ) (u : Str → Option Value) h tk, P n c → Fr h₀ env.locals h (fun y => if y = x then u y else kstB (fun z => if stored.contains z then u z else m₀ z) (ps c) y) → News h₀ env.locals h (Led c) → Q .next { s with heap := h, toks := tk })
    (hL₀ : L₀ ≤ s.heap.objs.size) :
    wpAny (model prog w) A (pyIter (.ref r)) (fun it s₂ => LoopAtV prog w A h₀ env x body Q E it s₂) E s := by
  refine wpAny_pyIter_range hr hsmall ?_
  have W : Walks prog w A s.heap.objs.size [s.heap.objs.size] [s.heap.objs.size] n (fun i v => ∃ t, v = .int (a₀ + i * st) t)
      (fun i h => IsRangeIter h s.heap.objs.size (a₀ + (i : Nat) * st) ((n : Int) - (i : Nat)) st) := Walks.range hh _ a₀ st n
  let J : Nat → (Str → Option Value) → Ledger → Prop := fun i m nx => ∃ c : σ, nx = Led c ∧ (∀ p ∈ ps c, m p.1 = some p.2) ∧ (∀ z, z ≠ x → (∀ p ∈ ps c, z ≠ p.1) → stored.contains z = false → m z = m₀ z) ∧ P i c
  refine ⟨_, _, _, n, _, _, m₀, Led c₀, J, rfl, W, ?_, ?_, ?_, by show IsRangeIter _ _ _ _ _; rw [hn]; simpa using Heap.get?_push_size _ rfl, F.push _, (fun p hp => ⟨Heap.get?_push_of_some _ (N p hp).1, (N p hp).2⟩), ⟨c₀, rfl, hk, fun _ _ _ _ => rfl, hp⟩, ?_, ?_⟩
  · intro hm
    exact absurd F.ns.lt ((List.mem_singleton.mp hm) ▸ Nat.lt_irrefl _)
  · intro b hb
    rw [List.mem_singleton.mp hb]
    exact next_is_new F
  · intro p hp hI
    exact absurd (Heap.lt_size (N p hp).1) ((List.mem_singleton.mp hI) ▸ Nat.lt_irrefl _)
  · rintro i v m₁ news₁ s₁ own ⟨hh', tk', rfl⟩ hin ⟨t, rfl⟩ ⟨c, rfl, h1, h2, hp'⟩ hoff hown hat hall hst F₁ N₁
    obtain ⟨io, hio, hst⟩ : ∃ io, IsRit io ∧ hh'.get? s.heap.objs.size = some io := ⟨_, ⟨_, _, _, rfl⟩, hst⟩
    have hI : (s.heap.objs.size, io) ∈ own := hall _ (.head _) (next_is_new F) _ hst
    have hone : ∀ p ∈ own, p = (s.heap.objs.size, io) := fun p hp => by
      have e1 := List.mem_singleton.mp (hown p hp)
      have e2 := hat p hp
      rw [e1] at e2
      have e3 : some p.2 = some _ := e2.symm.trans hst
      exact Prod.ext e1 (Option.some.inj e3)
    refine wpAny_mono (turn i c _ t m₁ hh' tk' s.heap.objs.size io hin rfl hp' (fun p hp q => hoff p hp (List.mem_singleton.mpr q)) hL₀ hio (kst_fr h1 h2 F₁) (fun p hp => ?_)) (fun f s₂ q => ?_) fun _ _ e => e
    · rcases List.mem_cons.mp hp with rfl | hp
      · exact N₁ _ (List.mem_append_left _ hI)
      · exact N₁ _ (List.mem_append_right _ hp)
    · have fin : RngEnd h₀ env.locals { s with heap := hh', toks := tk' } Led ps x stored m₀ P s.heap.objs.size io i s₂ → LoopStepU h₀ env.locals [s.heap.objs.size] own (J (i + 1)) { s with heap := hh', toks := tk' } .next s₂ := by
        rintro ⟨c', h', tk, m', news', e, F', N', hn', hI', ho', hk', hr', hp''⟩
        refine ⟨rfl, h', tk, m', Led c', e, F', fun p hp => ?_, fun p hp hq => ho' p hp (List.mem_singleton.mp hq), c', rfl, hk', hr', hp''⟩
        rcases List.mem_append.mp hp with hp | hp
        · rw [hone p hp]; exact N' _ hI'
        · exact N' _ (hn' p hp)
      cases f with
      | ret v => exact .ret q
      | brk => exact .brk q
      | next => exact .next (fin q)
      | cont => exact .cont (fin q)
  · rintro h' tk m' news' F' N' _ ⟨c, rfl, h1, h2, hp'⟩
    exact done c m' h' tk hp' (kst_frOut h1 h2 F') N'
end
end Mine
end
section
open PySem PySem.W PyProof.Rows PySem.Calls
set_option Elab.async false
set_option maxRecDepth 100000
namespace Mine
noncomputable abbrev KF (w : World) : Frag := hd.heap_39 w.params
/-- the written def at an address -/
noncomputable def fdOf (P : Params) (a : Addr) : FuncData := match (hd.heap_39 P).lookup a with
  | some ⟨_, _, .func fd, _⟩ => fd
  | _ => default
noncomputable def valAt (P : Params) (a : Addr) (i : Nat) : Expr := match (fdOf P a).body with
  | .stmts b => (match b[i]? with | some (.Assign _ v _) => v | _ => .Constant .none 0 default)
  | _ => .Constant .none 0 default
def lamPar : Expr → Arguments | .Lambda p _ _ _ => p | _ => default
def lamBody : Expr → Expr | .Lambda _ b _ _ => b | e => e
def lamScope : Expr → Scope | .Lambda _ _ s _ => s | _ => default
abbrev lamQ : Str := ("_law_hit" : Str) ++ ".<locals>." ++ "<lambda>"
abbrev proQ : Str := ("_law_program" : Str) ++ ".<locals>." ++ "<lambda>"
def IsRec (o : Obj) (q : Str) : Prop := ∃ vs t, o.data = .fields vs ∧ vs[1]? = some (.str q t)
/-- an address that the ledger holds, no table's -/
def LbIn (lb : Nat) (N : Ledger) : Prop := lb ≠ 26 ∧ lb ≠ 40 ∧ ∃ o, (lb, o) ∈ N
def Tab26 (lb : Nat) (N : Ledger) : Prop := LbIn lb N ∧ ((26, tabObj #[]) ∈ N ∨ ∃ k1 o1 k2 o2, (26, tabObj #[rawInt 68, rawInt 10, .ref k1, rawInt 69, rawInt 15, .ref k2]) ∈ N ∧ (k1, o1) ∈ N ∧ IsRec o1 lamQ ∧ (k2, o2) ∈ N ∧ IsRec o2 lamQ ∧ (k1 ≠ 26 ∧ k1 ≠ 40 ∧ k1 ≠ lb) ∧ k2 ≠ 26 ∧ k2 ≠ 40 ∧ k2 ≠ lb)
def Tab40 (lb : Nat) (N : Ledger) : Prop := LbIn lb N ∧ ((40, tabObj #[]) ∈ N ∨ ∃ k1 o1 k2 o2, (40, tabObj #[rawInt 82, rawInt 14, .ref k1, rawInt 83, rawInt 21, .ref k2]) ∈ N ∧ (k1, o1) ∈ N ∧ IsRec o1 proQ ∧ (k2, o2) ∈ N ∧ IsRec o2 proQ ∧ (k1 ≠ 26 ∧ k1 ≠ 40 ∧ k1 ≠ lb) ∧ k2 ≠ 26 ∧ k2 ≠ 40 ∧ k2 ≠ lb)
def Keeps (N N' : Ledger) : Prop := ∀ p ∈ N, p.1 ≠ 26 → p ∈ N'
def HitAt (w : World) (N : Ledger) (v : Value) (i j : Int) : Prop :=
  ∃ a d od fd f c ct pm oc cf cb ocf ocb ti tj, v = .ref a ∧ (a, fnObj (some d) fd) ∈ N ∧ (d, od) ∈ N ∧ NsObj od (fun y => if y = "span" then some (.ref f) else none) ∧
    (f, kla_obj "<lambda>" lamQ (lamPar (valAt w.params 31 1)) (lamBody (valAt w.params 31 1)) (lamScope (valAt w.params 31 1)) [("first", cf), ("behind", cb)] pm c ct) ∈ N ∧
    (c, oc) ∈ N ∧ IsRec oc lamQ ∧ (cf, ocf) ∈ N ∧ ocf.data = .cell (some (.int i ti)) ∧ (cb, ocb) ∈ N ∧ ocb.data = .cell (some (.int j tj)) ∧ a ≠ 26 ∧ d ≠ 26 ∧ f ≠ 26 ∧ c ≠ 26 ∧ cf ≠ 26 ∧ cb ≠ 26
def Keeps40 (N N' : Ledger) : Prop := ∀ p ∈ N, p.1 ≠ 40 → p ∈ N'
def ProgFn (w : World) (N : Ledger) (f : Addr) (marked : Bool) : Prop :=
  ∃ c ct doc pm oc cm ocm tD t0, (f, kdv_obj "<lambda>" proQ (lamPar (valAt w.params 45 1)) (.expr (lamBody (valAt w.params 45 1))) (lamScope (valAt w.params 45 1)) [("marked", cm)] (.ref tD) doc pm c ct) ∈ N ∧
    (tD, kdv_tup [.int 0 t0]) ∈ N ∧ (c, oc) ∈ N ∧ IsRec oc proQ ∧ (cm, ocm) ∈ N ∧ ocm.data = .cell (some (.bool marked)) ∧ f ≠ 26 ∧ tD ≠ 26 ∧ c ≠ 26 ∧ cm ≠ 26
def ProgAt (w : World) (N : Ledger) (v : Value) (marked : Bool) : Prop :=
  ∃ a d od fd f, v = .ref a ∧ (a, fnObj (some d) fd) ∈ N ∧ (d, od) ∈ N ∧ NsObj od (fun y => if y = "search" then some (.ref f) else none) ∧ ProgFn w N f marked ∧ a ≠ 26 ∧ d ≠ 26
theorem ProgFn.keeps {w : World} {N N' : Ledger} {f : Addr} {b : Bool} (h : ProgFn w N f b) (k : Keeps N N') : ProgFn w N' f b := by
  obtain ⟨c, ct, doc, pm, oc, cm, ocm, tD, t0, m1, m2, m3, e3, m4, e4, n1, n2, n3, n4⟩ := h
  exact ⟨c, ct, doc, pm, oc, cm, ocm, tD, t0, k _ m1 n1, k _ m2 n2, k _ m3 n3, e3, k _ m4 n4, e4, n1, n2, n3, n4⟩
theorem ProgAt.keeps {w : World} {N N' : Ledger} {v : Value} {b : Bool} (h : ProgAt w N v b) (k : Keeps N N') : ProgAt w N' v b := by
  obtain ⟨a, d, od, fd, f, e, m1, m2, e2, hf, n1, n2⟩ := h
  exact ⟨a, d, od, fd, f, e, k _ m1 n1, k _ m2 n2, e2, hf.keeps k, n1, n2⟩
theorem LbIn.keeps {lb : Nat} {N N' : Ledger} (h : LbIn lb N) (k : Keeps N N') : LbIn lb N' := let ⟨a, b, o, m⟩ := h; ⟨a, b, o, k _ m a⟩
theorem LbIn.keeps40 {lb : Nat} {N N' : Ledger} (h : LbIn lb N) (k : Keeps40 N N') : LbIn lb N' := let ⟨a, b, o, m⟩ := h; ⟨a, b, o, k _ m b⟩
theorem LbIn.sub {lb : Nat} {N N' : Ledger} (h : LbIn lb N) (k : ∀ p ∈ N, p ∈ N') : LbIn lb N' := let ⟨a, b, o, m⟩ := h; ⟨a, b, o, k _ m⟩
theorem Tab40.keeps {lb : Nat} {N N' : Ledger} (h : Tab40 lb N) (k : Keeps N N') : Tab40 lb N' := by
  refine ⟨h.1.keeps k, ?_⟩
  rcases h.2 with h | ⟨k1, o1, k2, o2, m1, m2, e2, m3, e3, n1, n2⟩
  · exact .inl (k _ h (by decide : (40 : Nat) ≠ 26))
  · exact .inr ⟨k1, o1, k2, o2, k _ m1 (by decide : (40 : Nat) ≠ 26), k _ m2 n1.1, e2, k _ m3 n2.1, e3, n1, n2⟩
theorem Tab26.keeps40 {lb : Nat} {N N' : Ledger} (h : Tab26 lb N) (k : Keeps40 N N') : Tab26 lb N' := by
  refine ⟨h.1.keeps40 k, ?_⟩
  rcases h.2 with h | ⟨k1, o1, k2, o2, m1, m2, e2, m3, e3, n1, n2⟩
  · exact .inl (k _ h (by decide : (26 : Nat) ≠ 40))
  · exact .inr ⟨k1, o1, k2, o2, k _ m1 (by decide : (26 : Nat) ≠ 40), k _ m2 n1.2.1, e2, k _ m3 n2.2.1, e3, n1, n2⟩
theorem Keeps.refl (N : Ledger) : Keeps N N := fun _ hp _ => hp
theorem Keeps.trans {N N' N'' : Ledger} (a : Keeps N N') (b : Keeps N' N'') : Keeps N N'' := fun p hp hn => b p (a p hp hn) hn
theorem Keeps.cons {N N' : Ledger} {q : Addr × Obj} (a : Keeps (q :: N) N') : Keeps N N' := fun p hp hn => a p (.tail _ hp) hn
theorem Keeps.sub {N N' N'' : Ledger} (h : ∀ p ∈ N'', p ∈ N) (a : Keeps N N') : Keeps N'' N' := fun p hp hn => a p (h p hp) hn
theorem HitAt.keeps {w : World} {N N' : Ledger} {v : Value} {i j : Int} (h : HitAt w N v i j) (k : Keeps N N') : HitAt w N' v i j := by
  obtain ⟨a, d, od, fd, f, c, ct, pm, oc, cf, cb, ocf, ocb, ti, tj, e, m1, m2, e2, m3, m4, e4, m5, e5, m6, e6, n1, n2, n3, n4, n5, n6⟩ := h
  exact ⟨a, d, od, fd, f, c, ct, pm, oc, cf, cb, ocf, ocb, ti, tj, e, k _ m1 n1, k _ m2 n2, e2, k _ m3 n3, k _ m4 n4, e4, k _ m5 n5, e5, k _ m6 n6, e6, n1, n2, n3, n4, n5, n6⟩
theorem Tab26.sub {lb : Nat} {N N' : Ledger} (h : Tab26 lb N) (k : ∀ p ∈ N, p ∈ N') : Tab26 lb N' := by
  refine ⟨h.1.sub k, ?_⟩
  rcases h.2 with h | ⟨k1, o1, k2, o2, m1, m2, e2, m3, e3, n1, n2⟩
  · exact .inl (k _ h)
  · exact .inr ⟨k1, o1, k2, o2, k _ m1, k _ m2, e2, k _ m3, e3, n1, n2⟩
theorem Tab26.cons {lb : Nat} {N : Ledger} {q : Addr × Obj} (h : Tab26 lb N) : Tab26 lb (q :: N) := h.sub fun _ hp => .tail _ hp
theorem Keeps.tail (N : Ledger) (q : Addr × Obj) : Keeps N (q :: N) := fun _ hp _ => .tail _ hp
theorem HitAt.cons {w : World} {N : Ledger} {v : Value} {i j : Int} {q : Addr × Obj} (h : HitAt w N v i j) : HitAt w (q :: N) v i j := h.keeps (Keeps.tail N q)
theorem ProgFn.cons {w : World} {N : Ledger} {f : Addr} {b : Bool} {q : Addr × Obj} (h : ProgFn w N f b) : ProgFn w (q :: N) f b := h.keeps (Keeps.tail N q)
theorem ProgAt.cons {w : World} {N : Ledger} {v : Value} {b : Bool} {q : Addr × Obj} (h : ProgAt w N v b) : ProgAt w (q :: N) v b := h.keeps (Keeps.tail N q)
theorem Tab40.cons {lb : Nat} {N : Ledger} {q : Addr × Obj} (h : Tab40 lb N) : Tab40 lb (q :: N) := h.keeps (Keeps.tail N q)
/-- a contract of a callable object -/
def Ct (lb : Nat) (w : World) (p : Program) (loose : List Str) (mean : ExcName → Option Value) (mg mb : Str → Option Value) (n : Nat) (f : Addr) (args : List Value) (Pre : Ledger → Prop) (Post : Ledger → Value → Prop) : Prop :=
  ∀ (dp un : Nat) (gd : Option (List Code)) (cn : Str) (cs : Scope) (a : Addr) (ccd : Value) (cl : List (Str × Addr)) (outer : List Env) (A₀ : Around) (base h₀ : Heap) (L : Addr) (m : Str → Option Value) (news : Ledger) (s : Shared)
    (Q E : Value → Shared → Prop),
    Below A₀ base outer h₀ → Fr h₀ L s.heap m → (hd.heap_39 w.params).In h₀ → News h₀ L s.heap news → Top p loose mean mg mb h₀ → cs.kind = .function → Tab26 lb news → Pre news → dp + n < recursionLimit → un + 8 * n < cLine →
    (∀ r news' h' tk', Fr h₀ L h' m → News h₀ L h' news' → Keeps news news' → Tab26 lb news' → Post news' r → Q r { s with heap := h', toks := tk' }) →
    wpAny (model Challenge.rw_mr0173_01.row.prog w) (ktrTop dp un gd cn cs L a ccd cl outer) (call (.ref f) args) Q E s
section
variable {lb : Nat} {w : World} {p : Program} {loose : List Str} {mean : ExcName → Option Value} {mg mb : Str → Option Value} {n : Nat} {f : Addr} {args : List Value} {Pre : Ledger → Prop} {Post : Ledger → Value → Prop}
theorem Ct.use {dp un : Nat} {gd : Option (List Code)} {cn : Str} {cs : Scope} {a : Addr} {ccd : Value} {cl : List (Str × Addr)} {outer : List Env} {A₀ : Around} {base h₀ : Heap} {L : Addr} {m : Str → Option Value} {news : Ledger} {s : Shared}
    {Q E : Value → Shared → Prop} (C : Ct lb w p loose mean mg mb n f args Pre Post) (B : Below A₀ base outer h₀) (F : Fr h₀ L s.heap m) (X : (hd.heap_39 w.params).In h₀) (N : News h₀ L s.heap news) (T : Top p loose mean mg mb h₀) (hk : cs.kind = .function) (ht : Tab26 lb news) (hp : Pre news) (hd : dp + n < recursionLimit) (hu : un + 8 * n < cLine)
    (ret : ∀ r news' h' tk', Fr h₀ L h' m → News h₀ L h' news' → Keeps news news' → Tab26 lb news' → Post news' r → Q r { s with heap := h', toks := tk' }) :
    wpAny (model Challenge.rw_mr0173_01.row.prog w) (ktrTop dp un gd cn cs L a ccd cl outer) (call (.ref f) args) Q E s := C _ _ _ _ _ _ _ _ _ _ _ _ _ _ _ _ _ _ B F X N T hk ht hp hd hu ret
end
/-- the ledger less the table -/
abbrev less26 (N : Ledger) : Ledger := N.filter fun p => p.1 != 26
theorem less26_off (N : Ledger) : ∀ p ∈ less26 N, p.1 ≠ 26 := fun p hp => by simpa using (List.mem_filter.mp hp).2
theorem less26_mem {N : Ledger} : ∀ p ∈ less26 N, p ∈ N := fun p hp => (List.mem_filter.mp hp).1
theorem mem_less26 {N : Ledger} {p : Addr × Obj} (h : p ∈ N) (hn : p.1 ≠ 26) : p ∈ less26 N := List.mem_filter.mpr ⟨h, by simpa using hn⟩
end Mine
end
section
open PySem PySem.W PyProof.Rows PySem.Calls
set_option Elab.async false
set_option maxRecDepth 100000
namespace Mine
section
variable {prog : Program} {w : World} {A : Around} {E : Value → Shared → Prop} {s : Shared} {x : Addr} {fd : FuncData} {name : Str} {v : Value} {h₀ : Heap} {L : Addr} {m : Str → Option Value} {news : List (Addr × Obj)} {g : Obj → List (Addr × Obj)}
theorem set_fnN {Q : Unit → Shared → Prop} (F : Fr h₀ L s.heap m) (N : News h₀ L s.heap news) (U : UpdF x (fnObj none fd) news g) (hl : typeLookup (.type "function") name = pure none)
    (h : ∀ d od h' tk, Fr h₀ L h' m → News h₀ L h' ((d, od) :: g (fnObj (some d) fd)) → NsObj od (fun y => if y = name then some v else none) → (∀ q ∈ news, q.1 < d) → Q () { s with heap := h', toks := tk }) :
    wpAny (model prog w) A (setAttr (.ref x) name v) Q E s := by
  obtain ⟨pre, post, rfl, hg, h1, h2⟩ := U.split
  have hx := N (x, fnObj none fd) (List.mem_append_right _ (.head _))
  refine set_fn hx.1 hl fun h' tk od e1 e2 e3 e4 => ?_
  have hLs : L < s.heap.objs.size := F.ns.lt
  obtain ⟨oL, es, ep, hL, r⟩ := F.ns
  have old : ∀ b o, h₀.get? b = some o → h'.get? b = some o := fun b o e => e4 b o (fun q => by rw [q, hx.2.2] at e; cases e) (F.keep b o e)
  refine h s.heap.objs.size od h' tk ⟨⟨oL, es, ep, e4 _ _ (Ne.symm hx.2.1) hL, r⟩, old, F.above⟩ (fun q hq => ?_) e2 (fun q hq => Heap.lt_size (N q hq).1)
  rcases List.mem_cons.mp hq with rfl | hq
  · exact ⟨e1, Nat.ne_of_gt hLs, Heap.get?_none_of_le (Nat.le_trans F.above (Nat.le_of_lt hLs))⟩
  · rw [hg] at hq
    rcases List.mem_append.mp hq with hq | hq
    · have n := N q (List.mem_append_left _ hq)
      exact ⟨e4 _ _ (h1 q hq) n.1, n.2⟩
    · rcases List.mem_cons.mp hq with rfl | hq
      · exact ⟨e3, hx.2⟩
      · have n := N q (List.mem_append_right _ (.tail _ hq))
        exact ⟨e4 _ _ (h2 q hq) n.1, n.2⟩
end
theorem off_of_allLt {d x : Nat} {l : List (Addr × Obj)} (h : AllLt d l) (hx : d ≤ x) : ∀ p ∈ l, p.1 ≠ x := by
  induction l with
  | nil => intro p hp; cases hp
  | cons q r ih =>
    intro p hp
    rcases List.mem_cons.mp hp with rfl | hp
    · exact Nat.ne_of_lt (Nat.lt_of_lt_of_le h.1 hx)
    · exact ih h.2 p hp
local macro_rules | `(tactic| k_all) => `(tactic| first | assumption | exact off_of_allLt (by assumption) (by omega))
local macro_rules | `(tactic| walk_at "setAttr ref ref") => `(tactic| (k_here; k_dflt (refine' set_fnN ?F ?N ?U ?l ?_; (case F => k_asm); (case N => k_asm); (case U => k_updF); (case l => first | exact fn_span | exact fn_search); k_whole); intro d' od' h' tk' F' N' dN' l1; (try dsimp only at N'); (try k_lt l1)))
theorem hitAt_intro {w : World} {N : Ledger} {a d f c cf cb : Nat} {od oc ocf ocb : Obj} {fd : FuncData} {ct pm : Value} {i j : Int} {ti tj t : Tok} {vs : Array Value}
    (m1 : (a, fnObj (some d) fd) ∈ N) (m2 : (d, od) ∈ N) (e2 : NsObj od (fun y => if y = "span" then some (.ref f) else none))
    (m3 : (f, kla_obj "<lambda>" lamQ (lamPar (valAt w.params 31 1)) (lamBody (valAt w.params 31 1)) (lamScope (valAt w.params 31 1)) [("first", cf), ("behind", cb)] pm c ct) ∈ N)
    (m4 : (c, oc) ∈ N) (e4 : oc.data = .fields vs) (e4' : vs[1]? = some (.str lamQ t)) (m5 : (cf, ocf) ∈ N) (e5 : ocf.data = .cell (some (.int i ti))) (m6 : (cb, ocb) ∈ N) (e6 : ocb.data = .cell (some (.int j tj)))
    (n : a ≠ 26 ∧ d ≠ 26 ∧ f ≠ 26 ∧ c ≠ 26 ∧ cf ≠ 26 ∧ cb ≠ 26) : HitAt w N (.ref a) i j :=
  ⟨a, d, od, fd, f, c, ct, pm, oc, cf, cb, ocf, ocb, ti, tj, rfl, m1, m2, e2, m3, m4, ⟨vs, t, e4, e4'⟩, m5, e5, m6, e6, n.1, n.2.1, n.2.2.1, n.2.2.2.1, n.2.2.2.2.1, n.2.2.2.2.2⟩
theorem tab26_intro {lb : Nat} {N : Ledger} {k1 k2 : Nat} {o1 o2 : Obj} {vs1 vs2 : Array Value} {t1 t2 : Tok} (m : (26, tabObj #[rawInt 68, rawInt 10, .ref k1, rawInt 69, rawInt 15, .ref k2]) ∈ N) (m1 : (k1, o1) ∈ N) (e1 : o1.data = .fields vs1) (e1' : vs1[1]? = some (.str lamQ t1))
    (m2 : (k2, o2) ∈ N) (e2 : o2.data = .fields vs2) (e2' : vs2[1]? = some (.str lamQ t2)) (n1 : k1 ≠ 26 ∧ k1 ≠ 40 ∧ k1 ≠ lb) (n2 : k2 ≠ 26 ∧ k2 ≠ 40 ∧ k2 ≠ lb) (hlb : LbIn lb N) : Tab26 lb N :=
  ⟨hlb, .inr ⟨k1, o1, k2, o2, m, m1, ⟨vs1, t1, e1, e1'⟩, m2, ⟨vs2, t2, e2, e2'⟩, n1, n2⟩⟩
theorem allLt_mem {d : Nat} {l : List (Addr × Obj)} (h : AllLt d l) {p : Addr × Obj} (hp : p ∈ l) : @LT.lt Nat _ p.1 d := by
  induction l with
  | nil => cases hp
  | cons q r ih =>
    rcases List.mem_cons.mp hp with rfl | hp
    · exact h.1
    · exact ih h.2 hp
theorem fill : Challenge.rw_mr0173_01 = Challenge.rw_mr0173_01 ∧ hd.heap_39 = hd.heap_39 := by
  k_fill
  exact ⟨rfl, rfl⟩
variable {w : World} {p : Program} {loose : List Str} {mean : ExcName → Option Value} {mg mb : Str → Option Value}
set_option maxHeartbeats 4000000 in
theorem hit_ct {lb : Nat} (i j : Int) (ti tj : Tok) : Ct lb w p loose mean mg mb 2 31 [.int i ti, .int j tj] (fun _ => True) (fun N v => HitAt w N v i j) := by
  intro dp un gd cn cs a ccd cl outer A₀ base h₀ L m news s Q E B F X N T hk ht _ hd hu ret
  obtain ⟨⟨b1, b2, ob, b3⟩, ht⟩ := ht
  rcases ht with h1 | ⟨k1, o1, k2, o2, m1, m2, ⟨vs1, t1, q1, q2⟩, m3, ⟨vs2, t2, q3, q4⟩, n1, n2⟩
  · have N1 : News h₀ L s.heap ((26, tabObj #[]) :: less26 news) := fun q hq => by
      rcases List.mem_cons.mp hq with rfl | hq
      · exact N _ h1
      · exact N _ (less26_mem q hq)
    have hr := less26_off news
    have hm : ∀ q ∈ news, q.1 ≠ 26 → q ∈ less26 news := fun q hq hn => mem_less26 hq hn
    have b4 := hm _ b3 b1
    generalize less26 news = rest at N1 hr hm b4
    clear N h1
    refine wpAny_call ?_
    k_dflt (refine' code_defC ?k1 ?k2 ?k3 ?k4 ?k5 ?kA ?kF ?kK ?k6 ?k7 ?k8 ?k9 ?kB ?kD ?_ ?c2 ?c3 ?c4; (case kA => exact rfl); (case kF => exact rfl); (case kK => assumption); (case k1 => k_asm); (case k2 => k_asm); (case k3 => k_asm); (case k4 => k_asm); (case k5 => k_asm); (case k6 => k_is); (case k7 => k_is); (case k8 => ktr_room); (case k9 => exact BindsTo.of_eq rfl); (case kB => exact rfl); (case kD => decide +kernel); (case c2 => exact rfl); (case c3 => exact rfl); (case c4 => exact rfl); k_whole; intro g' L' h' tk' cells' FG' F' N' Y' B' X' T' l1; (try k_lt l1); k_cells Y'; (try simp only [List.cons_append, List.nil_append] at N'); (try dsimp only); (try k_lift B'); (try k_fold))
    have C' : CodeHd g' 30 26 := codeHd_of_K X' (by kernel_rfl)
    have h40 : 40 < g'.objs.size := Nat.lt_trans (by decide : 40 < 45) (Heap.lt_size (X' 45 _ rfl))
    replace h40 : @LT.lt Nat _ 40 L' := Nat.lt_of_lt_of_le h40 (Fr.above (by assumption))
    have hlb : @LT.lt Nat _ lb L' := allLt_mem (l1.2) b4
    k_steps
    rename_i kF kN _ _
    refine ret _ _ _ _ kF kN ?kp ?kt ?kh
    case kp => intro q hq hn; repeat (first | exact hm q hq hn | refine List.Mem.tail _ ?_)
    case kt => k_dflt (refine' tab26_intro ?m ?m1 ?e1 ?e1' ?m2 ?e2 ?e2' ?n1 ?n2 ?lb9; (case lb9 => exact ⟨b1, b2, ob, by repeat (first | exact b4 | refine List.Mem.tail _ ?_)⟩); (case m => k_mem); (case m1 => k_mem); (case m2 => k_mem); (case e1 => assumption); (case e2 => assumption); (case e1' => assumption); (case e2' => assumption); (case n1 => omega); (case n2 => omega))
    case kh => k_dflt (refine' hitAt_intro ?m1 ?m2 ?e2 ?m3 ?m4 ?e4 ?e4' ?m5 ?e5 ?m6 ?e6 ?nn; (case m1 => k_mem); (case m2 => k_mem); (case e2 => assumption); (case m3 => k_mem); (case m4 => k_mem); (case e4 => assumption); (case e4' => assumption); (case m5 => k_mem); (case m6 => k_mem); (case e5 => assumption); (case e6 => assumption); (case nn => omega))
  · have N1 : News h₀ L s.heap ((26, tabObj #[rawInt 68, rawInt 10, .ref k1, rawInt 69, rawInt 15, .ref k2]) :: (k1, o1) :: (k2, o2) :: less26 news) := fun q hq => by
      rcases List.mem_cons.mp hq with rfl | hq
      · exact N _ m1
      rcases List.mem_cons.mp hq with rfl | hq
      · exact N _ m2
      rcases List.mem_cons.mp hq with rfl | hq
      · exact N _ m3
      · exact N _ (less26_mem q hq)
    have hr := less26_off news
    have hm : ∀ q ∈ news, q.1 ≠ 26 → q ∈ less26 news := fun q hq hn => mem_less26 hq hn
    have b4 := hm _ b3 b1
    generalize less26 news = rest at N1 hr hm b4
    obtain ⟨n1, n1'⟩ := n1
    obtain ⟨n2, n2'⟩ := n2
    replace n1 := neN n1
    replace n2 := neN n2
    clear N m1 m2 m3
    refine wpAny_call ?_
    k_dflt (refine' code_defC ?k1 ?k2 ?k3 ?k4 ?k5 ?kA ?kF ?kK ?k6 ?k7 ?k8 ?k9 ?kB ?kD ?_ ?c2 ?c3 ?c4; (case kA => exact rfl); (case kF => exact rfl); (case kK => assumption); (case k1 => k_asm); (case k2 => k_asm); (case k3 => k_asm); (case k4 => k_asm); (case k5 => k_asm); (case k6 => k_is); (case k7 => k_is); (case k8 => ktr_room); (case k9 => exact BindsTo.of_eq rfl); (case kB => exact rfl); (case kD => decide +kernel); (case c2 => exact rfl); (case c3 => exact rfl); (case c4 => exact rfl); k_whole; intro g' L' h' tk' cells' FG' F' N' Y' B' X' T' l1; (try k_lt l1); k_cells Y'; (try simp only [List.cons_append, List.nil_append] at N'); (try dsimp only); (try k_lift B'); (try k_fold))
    have C' : CodeHd g' 30 26 := codeHd_of_K X' (by kernel_rfl)
    have h40 : 40 < g'.objs.size := Nat.lt_trans (by decide : 40 < 45) (Heap.lt_size (X' 45 _ rfl))
    replace h40 : @LT.lt Nat _ 40 L' := Nat.lt_of_lt_of_le h40 (Fr.above (by assumption))
    have hlb : @LT.lt Nat _ lb L' := allLt_mem (l1.2.2.2) b4
    k_steps
    rename_i kF kN _ _
    refine ret _ _ _ _ kF kN ?kp ?kt ?kh
    case kp => intro q hq hn; repeat (first | exact hm q hq hn | refine List.Mem.tail _ ?_)
    case kt => k_dflt (refine' tab26_intro ?m ?m1 ?e1 ?e1' ?m2 ?e2 ?e2' ?n1 ?n2 ?lb9; (case lb9 => exact ⟨b1, b2, ob, by repeat (first | exact b4 | refine List.Mem.tail _ ?_)⟩); (case m => k_mem); (case m1 => k_mem); (case m2 => k_mem); (case e1 => exact q1); (case e2 => exact q3); (case e1' => exact q2); (case e2' => exact q4); (case n1 => exact ⟨n1, n1'⟩); (case n2 => exact ⟨n2, n2'⟩))
    case kh => k_dflt (refine' hitAt_intro ?m1 ?m2 ?e2 ?m3 ?m4 ?e4 ?e4' ?m5 ?e5 ?m6 ?e6 ?nn; (case m1 => k_mem); (case m2 => k_mem); (case e2 => assumption); (case m3 => k_mem); (case m4 => k_mem); (case e4 => exact q3); (case e4' => exact q4); (case m5 => k_mem); (case m6 => k_mem); (case e5 => assumption); (case e6 => assumption); (case nn => omega))
end Mine
end
section
open PySem PySem.W PyProof.Rows PySem.Calls
set_option Elab.async false
set_option maxRecDepth 100000
namespace Mine
def SpanFn (w : World) (N : Ledger) (f : Addr) (i j : Int) : Prop :=
  ∃ c ct pm oc cf cb ocf ocb ti tj, (f, kla_obj "<lambda>" lamQ (lamPar (valAt w.params 31 1)) (lamBody (valAt w.params 31 1)) (lamScope (valAt w.params 31 1)) [("first", cf), ("behind", cb)] pm c ct) ∈ N ∧
    (c, oc) ∈ N ∧ IsRec oc lamQ ∧ (cf, ocf) ∈ N ∧ ocf.data = .cell (some (.int i ti)) ∧ (cb, ocb) ∈ N ∧ ocb.data = .cell (some (.int j tj))
theorem SpanFn.sub {w : World} {N N' : Ledger} {f : Addr} {i j : Int} (h : SpanFn w N f i j) (k : ∀ p ∈ N, p ∈ N') : SpanFn w N' f i j := by
  obtain ⟨c, ct, pm, oc, cf, cb, ocf, ocb, ti, tj, m1, m2, e, m3, e3, m4, e4⟩ := h
  exact ⟨c, ct, pm, oc, cf, cb, ocf, ocb, ti, tj, k _ m1, k _ m2, e, k _ m3, e3, k _ m4, e4⟩
theorem SpanFn.cons {w : World} {N : Ledger} {f : Addr} {i j : Int} {q : Addr × Obj} (h : SpanFn w N f i j) : SpanFn w (q :: N) f i j := h.sub fun _ hp => .tail _ hp
theorem SpanFn.fnAt {w : World} {h₀ h : Heap} {L f : Addr} {i j : Int} {N : Ledger} (x : SpanFn w N f i j) (H : News h₀ L h N) : FnAt f h := by
  obtain ⟨c, ct, pm, oc, cf, cb, ocf, ocb, ti, tj, m1, _⟩ := x
  exact FnAt.of H m1
section
variable {prog : Program} {w : World} {A : Around} {E : Value → Shared → Prop} {s : Shared} {h₀ : Heap} {L : Addr} {N : Ledger} {v : Value} {i j : Int}
theorem getm_hit {pl : Sem Bool} {Q : Value × List Value → Shared → Prop} (H : News h₀ L s.heap N) (h : HitAt w N v i j) (hq : ∀ f, SpanFn w N f i j → Q (.ref f, []) { s with toks := s.toks + 1 }) : wpAny (model prog w) A (getMethod v "span" pl) Q E s := by
  obtain ⟨a, d, od, fd, f, c, ct, pm, oc, cf, cb, ocf, ocb, ti, tj, rfl, m1, m2, e2, m3, m4, e4, m5, e5, m6, e6, n⟩ := h
  exact get_fn (H _ m1).1 fn_span (H _ m2).1 e2 (by rfl) (hq f ⟨c, ct, pm, oc, cf, cb, ocf, ocb, ti, tj, m3, m4, e4, m5, e5, m6, e6⟩)
theorem truthy_hit {Q : Bool → Shared → Prop} (H : News h₀ L s.heap N) (h : HitAt w N v i j) (hq : Q true s) : wpAny (model prog w) A (truthy v) Q E s := by
  obtain ⟨a, d, od, fd, f, c, ct, pm, oc, cf, cb, ocf, ocb, ti, tj, rfl, m1, _⟩ := h
  exact truthy_fn (H _ m1).1 hq
end
theorem fill2 : Challenge.rw_mr0173_01 = Challenge.rw_mr0173_01 ∧ hd.heap_39 = hd.heap_39 := by
  k_fill
  exact ⟨rfl, rfl⟩
abbrev tup2 (i j : Int) (ti tj : Tok) : Obj := { cls := .type "tuple", data := .seq #[.int i ti, .int j tj] }
variable {w : World} {p : Program} {loose : List Str} {mean : ExcName → Option Value} {mg mb : Str → Option Value}
set_option maxHeartbeats 4000000 in
theorem span_ct {lb : Nat} (f : Addr) (i j : Int) : Ct lb w p loose mean mg mb 2 f [] (fun N => SpanFn w N f i j) (fun N v => ∃ t ti tj, v = .ref t ∧ (t, tup2 i j ti tj) ∈ N) := by
  intro dp un gd cn cs a ccd cl outer A₀ base h₀ L m news s Q E B F X N T hk ht hs hd hu ret
  obtain ⟨c, ct, pm, oc, cf, cb, ocf, ocb, ti, tj, m1, m2, ⟨vs, t, e1, e2⟩, m3, e3, m4, e4⟩ := hs
  generalize hv : valAt w.params 31 1 = lam at m1
  conv at hv => lhs; whnf
  subst hv
  dsimp only [lamPar, lamBody, lamScope] at m1
  refine wpAny_call ?_
  k_dflt (refine' kla_code ?k1 ?k2 ?k3 ?k4 ?k5 ?kA ?kF ?kK ?k6 ?k7 ?k8 ?k9 ?kB ?_ ?c2 ?c3 ?c4 ?c5; (case kA => exact rfl); (case kF => exact rfl); (case kK => assumption); (case k1 => k_asm); (case k2 => k_asm); (case k3 => exact X); (case k4 => k_asm); (case k5 => k_asm); (case k6 => exact m1); (case k7 => exact codeRec_news N m2 e1 e2); (case k8 => ktr_room); (case k9 => exact rfl); (case c5 => decide); (case kB => exact locs rfl); (case c2 => exact rfl); (case c3 => exact rfl); (case c4 => exact rfl); k_whole; intro g' L' h' FG' F' N' B' X' T'; (try dsimp only); (try k_lift B'); (try k_fold))
  have C' : CodeHd g' 30 26 := codeHd_of_K X' (by kernel_rfl)
  k_steps
  rename_i kF kN _ _
  exact ret _ _ _ _ kF kN (Keeps.tail _ _) ht.cons ⟨_, _, _, rfl, List.Mem.head _⟩
end Mine
end
section
open PySem PySem.W PyProof.Rows
namespace Mine
/-- the operators' codes, in the table's order, each with its kind -/
def opTab : List (List Nat × Int) := [([33], 54), ([33, 61], 28), ([37], 24), ([37, 61], 40), ([38], 19), ([38, 61], 41), ([40], 7), ([41], 8), ([42], 16), ([42, 42], 35), ([42, 42, 61], 46), ([42, 61], 38), ([43], 14), ([43, 61], 36), ([44], 12), ([45], 15), ([45, 61], 37), ([45, 62], 51), ([46], 23), ([46, 46, 46], 52), ([47], 17), ([47, 47], 47), ([47, 47, 61], 48), ([47, 61], 39), ([58], 11), ([58, 61], 53), ([59], 13), ([60], 20), ([60, 60], 33), ([60, 60, 61], 44), ([60, 61], 29), ([61], 22), ([61, 61], 27), ([62], 21), ([62, 61], 30), ([62, 62], 34), ([62, 62, 61], 45), ([64], 49), ([64, 61], 50), ([91], 9), ([93], 10), ([94], 32), ([94, 61], 43), ([123], 25), ([124], 18), ([124, 61], 42), ([125], 26), ([126], 31)]
def inTab (x : Str) : Bool := opTab.any fun q => decide (x = ⟨q.1.toArray⟩)
def topOf (c : Str) (k : Int) : Int := if (c.length : Int) < k + 3 then (c.length : Int) else k + 3
def IsTok (c : Str) (k b : Int) : Prop :=
  ((Txt.item c k == "a") = true ∧ b = k) ∨
  ((Txt.item c k == "a") = false ∧ k < b ∧ b ≤ topOf c k ∧ inTab (Txt.slice c (some k) (some b)) = true ∧ ∀ b', b < b' → b' ≤ topOf c k → inTab (Txt.slice c (some k) (some b')) = false)
def NoTok (c : Str) (k : Int) : Prop := (Txt.item c k == "a") = false ∧ ∀ b', k < b' → b' ≤ topOf c k → inTab (Txt.slice c (some k) (some b')) = false
def Found (c : Str) (marked : Bool) (start : Int) : Option (Int × Int) → Prop
  | some (k, b) => ((start ≤ k ∧ k < c.length ∧ IsTok c k b) ∨ (k = c.length ∧ b = c.length ∧ marked = true ∧ start ≤ c.length)) ∧ ∀ k', start ≤ k' → k' < k → k' < c.length → NoTok c k'
  | none => (∀ k', start ≤ k' → k' < c.length → NoTok c k') ∧ (marked = true → ¬ start ≤ c.length)
/-- the kind of a text by the table, 0 off it -/
def kindL (x : Str) : List (List Nat × Int) → Int
  | [] => 0
  | q :: r => if (⟨q.1.toArray⟩ : Str) = x then q.2 else kindL x r
def kindT (x : Str) : Int := kindL x opTab
theorem flat_kind {x : Str} : ∀ (l : List (List Nat × Int)), (Spec.lookup (.str x) (l.map fun q => (PyData.str ⟨q.1.toArray⟩, PyData.int q.2))).getD (.int 0) = .int (kindL x l)
  | [] => rfl
  | q :: r => by
    simp only [List.map_cons, Spec.lookup, kindL]
    by_cases h : (⟨q.1.toArray⟩ : Str) = x
    · simp [h, Spec.same]
    · have : Spec.same (PyData.str ⟨q.1.toArray⟩) (PyData.str x) = false := by simp [Spec.same, h]
      rw [this, if_neg h]
      exact flat_kind r
theorem kind_of {v : Value} {x : Str} (h : PyProof.V.Flat v ((Spec.lookup (.str x) (opTab.map fun q => (PyData.str ⟨q.1.toArray⟩, PyData.int q.2))).getD (.int 0))) : ∃ t, v = .int (kindT x) t := by
  rw [flat_kind] at h
  have := h {}
  cases this
  exact ⟨_, rfl⟩
end Mine
end
section
open PySem PySem.W PyProof.Rows PySem.Calls
set_option Elab.async false
set_option maxRecDepth 100000
namespace Mine
theorem fill3 : Challenge.rw_mr0173_01 = Challenge.rw_mr0173_01 ∧ hd.heap_39 = hd.heap_39 := by
  k_fill
  exact ⟨rfl, rfl⟩
theorem big {w : World} {h : Heap} (X : (hd.heap_39 w.params).In h) : 27 ≤ h.objs.size := by
  have : (31 : Nat) < h.objs.size := Heap.lt_size (X 31 _ rfl)
  exact Nat.le_trans (by decide) this
theorem big_at {w : World} {h g : Heap} {L : Addr} {m : Str → Option Value} (X : (hd.heap_39 w.params).In g) (F : Fr g L h m) : 27 ≤ h.objs.size := Nat.le_trans (big X) (Nat.le_trans F.above (Nat.le_of_lt F.ns.lt))
def HitRes (w : World) (N : Ledger) (v : Value) : Option (Int × Int) → Prop
  | none => v = .none
  | some (i, j) => HitAt w N v i j
theorem ne_of_27 {I : Addr} (h : 27 ≤ I) : I ≠ 26 := fun e => by rw [e] at h; exact absurd h (by decide)
local macro_rules | `(tactic| walk_at "RngPost") => `(tactic| (dsimp only [RngPost]))
variable {w : World} {p : Program} {loose : List Str} {mean : ExcName → Option Value} {mg mb : Str → Option Value}
set_option maxHeartbeats 8000000 in
theorem search_ct {lb : Nat} (chars : Str) (ti : Tok) (start : Int) (tj : Tok) (marked : Bool) (h0 : 0 ≤ start) (hn : start ≤ chars.length + 1) (hl : chars.length ≤ 1000) :
    Ct lb w p loose mean mg mb 6 38 [.str chars ti, .int start tj, .bool marked] (fun _ => True) (fun N v => ∃ res, Found chars marked start res ∧ HitRes w N v res) := by
  intro dp un gd cn cs a ccd cl outer A₀ base h₀ L m news s Q E B F X N T hk ht _ hd hu ret
  refine wpAny_call ?_
  k_dflt (refine' code_def ?k1 ?k2 ?k3 ?k4 ?k5 ?kA ?kF ?kK ?k6 ?k7 ?k8 ?k9 ?kB ?_ ?c2 ?c3 ?c4 ?c5; (case kA => exact rfl); (case kF => exact rfl); (case kK => assumption); (case k1 => k_asm); (case k2 => k_asm); (case k3 => k_asm); (case k4 => k_asm); (case k5 => k_asm); (case k6 => k_is); (case k7 => k_is); (case k8 => ktr_room); (case k9 => exact BindsTo.of_eq rfl); (case c5 => decide); (case kB => exact locs rfl); (case c2 => exact rfl); (case c3 => exact rfl); (case c4 => exact rfl); k_whole; intro g' L' h' FG' F' N' B' X' T')
  replace F' : Fr g' L' h' (fun y => List.lookup y [("marked", .bool marked), ("start", .int start tj), ("chars", .str chars ti)]) := F'
  dsimp only
  (try k_fold)
  k_steps
  (with_reducible rename Fr _ _ _ _ => lF)
  (with_reducible rename News _ _ _ _ => lN)
  (with_reducible rename IsRange _ _ _ _ _ _ _ _ => lR)
  with_unfolding_all refine rng (σ := Unit) (n := (chars.length - start).toNat) (L₀ := 27) (fun _ => news) (fun _ => []) ["behind"] (fun i _ => ∀ k', start ≤ k' → k' < start + i → NoTok chars k') () (by rfl) lR ?sm ?n lF lN ?ps ?p0 ?turn ?done ?L0
  case ps => exact List.forall_mem_nil _
  case p0 => intro k' h1 h2; omega
  case L0 => exact big_at X' lF
  case sm => exact small_one (by omega) (by omega) (by omega) (by omega)
  case n => exact rangeSize_nat _ _
  case turn =>
    clear lF lN lR
    intro i c k t u h' tk' I io hi hk' hP hoff hI hio F' N'
    have hk0 : 0 ≤ k := by omega
    have hk1 : k < chars.length := by omega
    (try k_fold)
    k_steps
    · (with_reducible rename (Txt.item _ _ == _) = true => q0)
      refine (hit_ct k k t t).use B' F' X' N' T' rfl ht.cons trivial ?r1 ?r2 ?_
      case r1 => show dp + 1 + 2 < recursionLimit; omega
      case r2 => show un + 3 + 8 * 2 < cLine; omega
      intro r N₂ h₂ tk₂ F₂ N₂' hkeep htab hpost
      k_steps
      (with_reducible rename Fr _ _ _ _ => kF)
      (with_reducible rename News _ _ _ _ => kN)
      exact ret _ _ _ _ kF kN hkeep.cons htab ⟨some (k, k), ⟨.inl ⟨by omega, hk1, .inl ⟨q0, rfl⟩⟩, fun k' a1 a2 _ => hP k' a1 (by omega)⟩, hpost⟩
    · (with_reducible rename (Txt.item _ _ == _) = false => q0)
      (with_reducible rename Fr _ _ _ _ => lF)
      (with_reducible rename News _ _ _ _ => lN)
      (with_reducible rename IsRange _ _ _ _ _ _ _ _ => lR)
      have htop : k < topOf chars k ∧ topOf chars k ≤ 2000 ∧ topOf chars k ≤ k + 3 ∧ topOf chars k ≤ chars.length := by unfold topOf; split <;> omega
      with_unfolding_all refine rng (σ := Unit) (n := (topOf chars k - k).toNat) (L₀ := 27) (fun _ => (I, io) :: news) (fun _ => []) [] (fun i _ => ∀ b', topOf chars k - i < b' → b' ≤ topOf chars k → inTab (Txt.slice chars (some k) (some b')) = false) () (by rfl) lR ?sm₂ ?n₂ lF lN ?ps₂ ?p0₂ ?turn₂ ?done₂ ?L0₂
      case ps₂ => exact List.forall_mem_nil _
      case p0₂ => intro b' h1 h2; omega
      case L0₂ => exact big_at X' lF
      case sm₂ => exact small_down (a := topOf chars k) (by omega) (by omega) (by omega) (by omega)
      case n₂ => exact rangeSize_downNat _ _
      case turn₂ =>
        clear lF lN lR
        intro i₂ c₂ b t₂ u₂ h₂ tk₂ I₂ io₂ hi₂ hk₂ hP₂ hoff₂ hI₂ hio₂ F' N'
        (try k_fold)
        have hb : b = topOf chars k - i₂ := by rw [hk₂]; show topOf chars k + i₂ * (-1) = _; omega
        clear hk₂
        k_steps
        · rename (decide _ || _) = true => q1
          replace q1 : inTab (Txt.slice chars (some k) (some b)) = true := q1
          (with_reducible rename Fr _ _ _ _ => lF)
          (with_reducible rename News _ _ _ _ => lN)
          refine (hit_ct k b t t₂).use B' lF X' lN T' rfl ht.cons.cons trivial ?r1 ?r2 ?_
          case r1 => show dp + 1 + 2 < recursionLimit; omega
          case r2 => show un + 3 + 8 * 2 < cLine; omega
          intro r N₂ h₂ tk₂ F₂ N₂' hkeep htab hpost
          k_steps
          (with_reducible rename Fr _ _ _ _ => kF)
          (with_reducible rename News _ _ _ _ => kN)
          exact ret _ _ _ _ kF kN hkeep.cons.cons htab ⟨some (k, b), ⟨.inl ⟨by omega, hk1, .inr ⟨q0, by omega, by omega, q1, fun b' a1 a2 => hP₂ b' (by omega) a2⟩⟩, fun k' a1 a2 _ => hP k' a1 (by omega)⟩, hpost⟩
        · rename (decide _ || _) = false => q1
          replace q1 : inTab (Txt.slice chars (some k) (some b)) = false := q1
          (with_reducible rename Fr _ _ _ _ => lF)
          (with_reducible rename News _ _ _ _ => lN)
          refine rng_end () lF lN (fun p hp => .tail _ hp) (.head _) hoff₂ (List.forall_mem_nil _) (by intro z h1 _ h3; simp_all [kstB]) ?_
          intro b' a1 a2
          by_cases hbb : b' = b
          · rw [hbb]; exact q1
          · exact hP₂ b' (by omega) a2
      case done₂ =>
        clear lF lN lR
        intro c₂ u₂ h₂ tk₂ hP₂ F' N'
        (try k_fold)
        k_steps
        refine rng_end () F' N' (fun p hp => .tail _ hp) (.head _) hoff (List.forall_mem_nil _) (by intro z h1 _ h3; simp_all [kstB]) ?_
        intro k' a1 a2
        by_cases hkk : k' = k
        · rw [hkk]; exact ⟨q0, fun b' a3 a4 => hP₂ b' (by omega) a4⟩
        · exact hP k' a1 (by omega)
  case done =>
    clear lF lN lR
    intro c₂ u₂ h₂ tk₂ hP F' N'
    (try k_fold)
    k_steps
    · (with_reducible rename Fr _ _ _ _ => lF)
      (with_reducible rename News _ _ _ _ => lN)
      refine (hit_ct (chars.length : Int) (chars.length : Int) _ _).use B' lF X' lN T' rfl ht trivial ?r1 ?r2 ?_
      case r1 => show dp + 1 + 2 < recursionLimit; omega
      case r2 => show un + 3 + 8 * 2 < cLine; omega
      intro r N₂ h₂ tk₂ F₂ N₂' hkeep htab hpost
      k_steps
      (with_reducible rename Fr _ _ _ _ => kF)
      (with_reducible rename News _ _ _ _ => kN)
      refine ret _ _ _ _ kF kN hkeep htab ⟨some (chars.length, chars.length), ⟨.inr ⟨rfl, rfl, ?_, ?_⟩, fun k' a1 a2 a3 => hP k' a1 (by omega)⟩, hpost⟩
      · assumption
      · assumption
    · (with_reducible rename Fr _ _ _ _ => kF)
      (with_reducible rename News _ _ _ _ => kN)
      refine ret _ _ _ _ kF kN (Keeps.refl _) ht ⟨none, ⟨fun k' a1 a2 => hP k' a1 (by omega), ?_⟩, rfl⟩
      intro _; assumption
    · (with_reducible rename Fr _ _ _ _ => kF)
      (with_reducible rename News _ _ _ _ => kN)
      refine ret _ _ _ _ kF kN (Keeps.refl _) ht ⟨none, ⟨fun k' a1 a2 => hP k' a1 (by omega), ?_⟩, rfl⟩
      intro hm; rename marked = false => hf; rw [hf] at hm; cases hm
end Mine
end
section
open PySem PySem.W PyProof.Rows PySem.Calls
set_option Elab.async false
set_option maxRecDepth 100000
namespace Mine
theorem fill4 : Challenge.rw_mr0173_01 = Challenge.rw_mr0173_01 ∧ hd.heap_39 = hd.heap_39 := by
  k_fill
  exact ⟨rfl, rfl⟩
theorem ProgFn.fnAt {w : World} {h₀ h : Heap} {L f : Addr} {b : Bool} {N : Ledger} (x : ProgFn w N f b) (H : News h₀ L h N) : FnAt f h := by
  obtain ⟨c, ct, doc, pm, oc, cm, ocm, tD, t0, m1, _⟩ := x
  exact FnAt.of H m1
section
variable {prog : Program} {w : World} {A : Around} {E : Value → Shared → Prop} {s : Shared} {h₀ : Heap} {L : Addr} {N : Ledger} {v : Value} {b : Bool}
theorem getm_prog {pl : Sem Bool} {Q : Value × List Value → Shared → Prop} (H : News h₀ L s.heap N) (h : ProgAt w N v b) (hq : ∀ f, ProgFn w N f b → Q (.ref f, []) { s with toks := s.toks + 1 }) : wpAny (model prog w) A (getMethod v "search" pl) Q E s := by
  obtain ⟨a, d, od, fd, f, rfl, m1, m2, e2, hf, n⟩ := h
  exact get_fn (H _ m1).1 fn_search (H _ m2).1 e2 (by rfl) (hq f hf)
end
variable {w : World} {p : Program} {loose : List Str} {mean : ExcName → Option Value} {mg mb : Str → Option Value}
set_option maxHeartbeats 8000000 in
theorem lam_ct2 {lb : Nat} (f : Addr) (chars : Str) (ti : Tok) (start : Int) (tj : Tok) (marked : Bool) (h0 : 0 ≤ start) (hn : start ≤ chars.length + 1) (hl : chars.length ≤ 1000) :
    Ct lb w p loose mean mg mb 8 f [.str chars ti, .int start tj] (fun N => ProgFn w N f marked) (fun N v => ∃ res, Found chars marked start res ∧ HitRes w N v res) := by
  intro dp un gd cn cs a ccd cl outer A₀ base h₀ L m news s Q E B F X N T hk ht hs hd hu ret
  obtain ⟨c, ct, doc, pm, oc, cm, ocm, tD, t0, m1, m2, m3, ⟨vs, t, e1, e2⟩, m4, e4, n1, n2, n3, n4⟩ := hs
  generalize hv : valAt w.params 45 1 = lam at m1
  conv at hv => lhs; whnf
  subst hv
  dsimp only [lamPar, lamBody, lamScope] at m1
  refine wpAny_call ?_
  k_dflt (refine' kdv_codeE ?k1 ?k2 ?k3 ?k4 ?k5 ?kA ?kF ?kK ?k6 ?k7 ?k8 ?k9 ?kB ?_ ?c2 ?c3 ?c4 ?c5; (case kA => exact rfl); (case kF => exact rfl); (case kK => assumption); (case k1 => k_asm); (case k2 => k_asm); (case k3 => exact X); (case k4 => k_asm); (case k5 => k_asm); (case k6 => exact m1); (case k7 => exact codeRec_news N m3 e1 e2); (case k8 => ktr_room); (case k9 => kdv_bind); (case c5 => decide); (case kB => exact locs rfl); (case c2 => exact rfl); (case c3 => exact rfl); (case c4 => exact rfl); k_whole; intro g' L' h' FG' F' N' B' X' T')
  replace F' : Fr g' L' h' (fun y => List.lookup y [("start", .int start tj), ("chars", .str chars ti)]) := F'
  dsimp only
  (try k_fold)
  have C' : CodeHd g' 30 26 := codeHd_of_K X' (by kernel_rfl)
  k_steps
  (with_reducible rename Fr _ _ _ _ => lF)
  (with_reducible rename News _ _ _ _ => lN)
  refine (search_ct chars ti start tj marked h0 hn hl).use B' lF X' lN T' rfl ht trivial ?r1 ?r2 ?_
  case r1 => show dp + 1 + 6 < recursionLimit; omega
  case r2 => show un + 3 + 8 * 6 < cLine; omega
  intro r N₂ h₂ tk₂ F₂ N₂' hkeep htab hpost
  k_steps
  (with_reducible rename Fr _ _ _ _ => kF)
  (with_reducible rename News _ _ _ _ => kN)
  exact ret _ _ _ _ kF kN hkeep htab hpost
set_option maxHeartbeats 8000000 in
theorem lam_ct1 {lb : Nat} (f : Addr) (chars : Str) (ti : Tok) (marked : Bool) (hl : chars.length ≤ 1000) :
    Ct lb w p loose mean mg mb 8 f [.str chars ti] (fun N => ProgFn w N f marked) (fun N v => ∃ res, Found chars marked 0 res ∧ HitRes w N v res) := by
  intro dp un gd cn cs a ccd cl outer A₀ base h₀ L m news s Q E B F X N T hk ht hs hd hu ret
  obtain ⟨c, ct, doc, pm, oc, cm, ocm, tD, t0, m1, m2, m3, ⟨vs, t, e1, e2⟩, m4, e4, n1, n2, n3, n4⟩ := hs
  generalize hv : valAt w.params 45 1 = lam at m1
  conv at hv => lhs; whnf
  subst hv
  dsimp only [lamPar, lamBody, lamScope] at m1
  refine wpAny_call ?_
  k_dflt (refine' kdv_codeE ?k1 ?k2 ?k3 ?k4 ?k5 ?kA ?kF ?kK ?k6 ?k7 ?k8 ?k9 ?kB ?_ ?c2 ?c3 ?c4 ?c5; (case kA => exact rfl); (case kF => exact rfl); (case kK => assumption); (case k1 => k_asm); (case k2 => k_asm); (case k3 => exact X); (case k4 => k_asm); (case k5 => k_asm); (case k6 => exact m1); (case k7 => exact codeRec_news N m3 e1 e2); (case k8 => ktr_room); (case k9 => kdv_bind); (case c5 => decide); (case kB => exact locs rfl); (case c2 => exact rfl); (case c3 => exact rfl); (case c4 => exact rfl); k_whole; intro g' L' h' FG' F' N' B' X' T')
  replace F' : Fr g' L' h' (fun y => List.lookup y [("start", .int 0 t0), ("chars", .str chars ti)]) := F'
  dsimp only
  (try k_fold)
  have C' : CodeHd g' 30 26 := codeHd_of_K X' (by kernel_rfl)
  k_steps
  (with_reducible rename Fr _ _ _ _ => lF)
  (with_reducible rename News _ _ _ _ => lN)
  refine (search_ct chars ti 0 t0 marked (by omega) (by omega) hl).use B' lF X' lN T' rfl ht trivial ?r1 ?r2 ?_
  case r1 => show dp + 1 + 6 < recursionLimit; omega
  case r2 => show un + 3 + 8 * 6 < cLine; omega
  intro r N₂ h₂ tk₂ F₂ N₂' hkeep htab hpost
  k_steps
  (with_reducible rename Fr _ _ _ _ => kF)
  (with_reducible rename News _ _ _ _ => kN)
  exact ret _ _ _ _ kF kN hkeep htab hpost
abbrev less40 (N : Ledger) : Ledger := N.filter fun p => p.1 != 40
theorem less40_off (N : Ledger) : ∀ p ∈ less40 N, p.1 ≠ 40 := fun p hp => by simpa using (List.mem_filter.mp hp).2
theorem less40_mem {N : Ledger} : ∀ p ∈ less40 N, p ∈ N := fun p hp => (List.mem_filter.mp hp).1
theorem mem_less40 {N : Ledger} {p : Addr × Obj} (h : p ∈ N) (hn : p.1 ≠ 40) : p ∈ less40 N := List.mem_filter.mpr ⟨h, by simpa using hn⟩
theorem progAt_intro {w : World} {N : Ledger} {a d f c cm tD : Nat} {od oc ocm : Obj} {fd : FuncData} {ct doc pm : Value} {b : Bool} {t0 t : Tok} {vs : Array Value}
    (m1 : (a, fnObj (some d) fd) ∈ N) (m2 : (d, od) ∈ N) (e2 : NsObj od (fun y => if y = "search" then some (.ref f) else none))
    (m3 : (f, kdv_obj "<lambda>" proQ (lamPar (valAt w.params 45 1)) (.expr (lamBody (valAt w.params 45 1))) (lamScope (valAt w.params 45 1)) [("marked", cm)] (.ref tD) doc pm c ct) ∈ N)
    (m4 : (tD, kdv_tup [.int 0 t0]) ∈ N) (m5 : (c, oc) ∈ N) (e5 : oc.data = .fields vs) (e5' : vs[1]? = some (.str proQ t)) (m6 : (cm, ocm) ∈ N) (e6 : ocm.data = .cell (some (.bool b)))
    (nn : a ≠ 26 ∧ d ≠ 26 ∧ f ≠ 26 ∧ c ≠ 26 ∧ cm ≠ 26 ∧ tD ≠ 26) : ProgAt w N (.ref a) b :=
  ⟨a, d, od, fd, f, rfl, m1, m2, e2, ⟨c, ct, doc, pm, oc, cm, ocm, tD, t0, m3, m4, m5, ⟨vs, t, e5, e5'⟩, m6, e6, nn.2.2.1, nn.2.2.2.2.2, nn.2.2.2.1, nn.2.2.2.2.1⟩, nn.1, nn.2.1⟩
theorem tab40_intro {lb : Nat} {N : Ledger} {k1 k2 : Nat} {o1 o2 : Obj} {vs1 vs2 : Array Value} {t1 t2 : Tok} (m : (40, tabObj #[rawInt 82, rawInt 14, .ref k1, rawInt 83, rawInt 21, .ref k2]) ∈ N) (m1 : (k1, o1) ∈ N) (e1 : o1.data = .fields vs1) (e1' : vs1[1]? = some (.str proQ t1))
    (m2 : (k2, o2) ∈ N) (e2 : o2.data = .fields vs2) (e2' : vs2[1]? = some (.str proQ t2)) (n1 : k1 ≠ 26 ∧ k1 ≠ 40 ∧ k1 ≠ lb) (n2 : k2 ≠ 26 ∧ k2 ≠ 40 ∧ k2 ≠ lb) (hlb : LbIn lb N) : Tab40 lb N :=
  ⟨hlb, .inr ⟨k1, o1, k2, o2, m, m1, ⟨vs1, t1, e1, e1'⟩, m2, ⟨vs2, t2, e2, e2'⟩, n1, n2⟩⟩
local macro_rules | `(tactic| k_all) => `(tactic| first | assumption | exact off_of_allLt (by assumption) (by omega))
local macro_rules | `(tactic| walk_at "setAttr ref ref") => `(tactic| (k_here; k_dflt (refine' set_fnN ?F ?N ?U ?l ?_; (case F => k_asm); (case N => k_asm); (case U => k_updF); (case l => first | exact fn_span | exact fn_search); k_whole); intro d' od' h' tk' F' N' dN' l1; (try dsimp only at N'); (try k_lt l1)))
set_option maxHeartbeats 8000000 in
theorem prog_ct {lb : Nat} (marked : Bool) (dp un : Nat) (gd : Option (List Code)) (cn : Str) (cs : Scope) (a : Addr) (ccd : Value) (cl : List (Str × Addr)) (outer : List Env) (A₀ : Around) (base h₀ : Heap) (L : Addr) (m : Str → Option Value) (news : Ledger) (s : Shared)
    (Q E : Value → Shared → Prop)
    (B : Below A₀ base outer h₀) (F : Fr h₀ L s.heap m) (X : (hd.heap_39 w.params).In h₀) (N : News h₀ L s.heap news) (T : Top p loose mean mg mb h₀) (hk : cs.kind = .function) (ht : Tab40 lb news) (hd : dp + 2 < recursionLimit)
    (ret : ∀ r news' h' tk', Fr h₀ L h' m → News h₀ L h' news' → Keeps40 news news' → Tab40 lb news' → ProgAt w news' r marked → Q r { s with heap := h', toks := tk' }) :
    wpAny (model Challenge.rw_mr0173_01.row.prog w) (ktrTop dp un gd cn cs L a ccd cl outer) (call (.ref 45) [.bool marked]) Q E s := by
  obtain ⟨⟨b1, b2, ob, b3⟩, ht⟩ := ht
  rcases ht with h1 | ⟨k1, o1, k2, o2, m1, m2, ⟨vs1, t1, q1, q2⟩, m3, ⟨vs2, t2, q3, q4⟩, ⟨n1, n1'⟩, n2, n2'⟩
  · have N1 : News h₀ L s.heap ((40, tabObj #[]) :: less40 news) := fun q hq => by
      rcases List.mem_cons.mp hq with rfl | hq
      · exact N _ h1
      · exact N _ (less40_mem q hq)
    have hr := less40_off news
    have hm : ∀ q ∈ news, q.1 ≠ 40 → q ∈ less40 news := fun q hq hn => mem_less40 hq hn
    have b4 := hm _ b3 b2
    generalize less40 news = rest at N1 hr hm b4
    clear N h1
    refine wpAny_call ?_
    k_dflt (refine' code_defC ?k1 ?k2 ?k3 ?k4 ?k5 ?kA ?kF ?kK ?k6 ?k7 ?k8 ?k9 ?kB ?kD ?_ ?c2 ?c3 ?c4; (case kA => exact rfl); (case kF => exact rfl); (case kK => assumption); (case k1 => k_asm); (case k2 => k_asm); (case k3 => k_asm); (case k4 => k_asm); (case k5 => k_asm); (case k6 => k_is); (case k7 => k_is); (case k8 => ktr_room); (case k9 => exact BindsTo.of_eq rfl); (case kB => exact rfl); (case kD => decide +kernel); (case c2 => exact rfl); (case c3 => exact rfl); (case c4 => exact rfl); k_whole; intro g' L' h' tk' cells' FG' F' N' Y' B' X' T' l1; (try k_lt l1); k_cells Y'; (try simp only [List.cons_append, List.nil_append] at N'); (try dsimp only); (try k_lift B'); (try k_fold))
    have C' : CodeHd g' 44 40 := codeHd_of_K X' (by kernel_rfl)
    have h40 : 40 < g'.objs.size := Nat.lt_trans (by decide : 40 < 45) (Heap.lt_size (X' 45 _ rfl))
    replace h40 : @LT.lt Nat _ 40 L' := Nat.lt_of_lt_of_le h40 (Fr.above (by assumption))
    have hlb : @LT.lt Nat _ lb L' := allLt_mem (l1.2) b4
    k_steps
    (with_reducible rename Fr _ _ _ _ => kF)
    (with_reducible rename News _ _ _ _ => kN)
    refine ret _ _ _ _ kF kN ?kp ?kt ?kh
    case kp => intro q hq hn; repeat (first | exact hm q hq hn | refine List.Mem.tail _ ?_)
    case kt => k_dflt (refine' tab40_intro ?m ?m1 ?e1 ?e1' ?m2 ?e2 ?e2' ?n1 ?n2 ?lb9; (case lb9 => exact ⟨b1, b2, ob, by repeat (first | exact b4 | refine List.Mem.tail _ ?_)⟩); (case m => k_mem); (case m1 => k_mem); (case m2 => k_mem); (case e1 => assumption); (case e2 => assumption); (case e1' => assumption); (case e2' => assumption); (case n1 => omega); (case n2 => omega))
    case kh => k_dflt (refine' progAt_intro ?m1 ?m2 ?e2 ?m3 ?m4 ?m5 ?e5 ?e5' ?m6 ?e6 ?nn; (case m1 => k_mem); (case m2 => k_mem); (case e2 => assumption); (case m3 => k_mem); (case m4 => k_mem); (case m5 => k_mem); (case e5 => assumption); (case e5' => assumption); (case m6 => k_mem); (case e6 => assumption); (case nn => omega))
  · have N1 : News h₀ L s.heap ((40, tabObj #[rawInt 82, rawInt 14, .ref k1, rawInt 83, rawInt 21, .ref k2]) :: (k1, o1) :: (k2, o2) :: less40 news) := fun q hq => by
      rcases List.mem_cons.mp hq with rfl | hq
      · exact N _ m1
      rcases List.mem_cons.mp hq with rfl | hq
      · exact N _ m2
      rcases List.mem_cons.mp hq with rfl | hq
      · exact N _ m3
      · exact N _ (less40_mem q hq)
    have hr := less40_off news
    have hm : ∀ q ∈ news, q.1 ≠ 40 → q ∈ less40 news := fun q hq hn => mem_less40 hq hn
    have b4 := hm _ b3 b2
    generalize less40 news = rest at N1 hr hm b4
    replace n1 := neN n1
    replace n2 := neN n2
    clear N m1 m2 m3
    refine wpAny_call ?_
    k_dflt (refine' code_defC ?k1 ?k2 ?k3 ?k4 ?k5 ?kA ?kF ?kK ?k6 ?k7 ?k8 ?k9 ?kB ?kD ?_ ?c2 ?c3 ?c4; (case kA => exact rfl); (case kF => exact rfl); (case kK => assumption); (case k1 => k_asm); (case k2 => k_asm); (case k3 => k_asm); (case k4 => k_asm); (case k5 => k_asm); (case k6 => k_is); (case k7 => k_is); (case k8 => ktr_room); (case k9 => exact BindsTo.of_eq rfl); (case kB => exact rfl); (case kD => decide +kernel); (case c2 => exact rfl); (case c3 => exact rfl); (case c4 => exact rfl); k_whole; intro g' L' h' tk' cells' FG' F' N' Y' B' X' T' l1; (try k_lt l1); k_cells Y'; (try simp only [List.cons_append, List.nil_append] at N'); (try dsimp only); (try k_lift B'); (try k_fold))
    have C' : CodeHd g' 44 40 := codeHd_of_K X' (by kernel_rfl)
    have h40 : 40 < g'.objs.size := Nat.lt_trans (by decide : 40 < 45) (Heap.lt_size (X' 45 _ rfl))
    replace h40 : @LT.lt Nat _ 40 L' := Nat.lt_of_lt_of_le h40 (Fr.above (by assumption))
    have hlb : @LT.lt Nat _ lb L' := allLt_mem (l1.2.2.2) b4
    k_steps
    (with_reducible rename Fr _ _ _ _ => kF)
    (with_reducible rename News _ _ _ _ => kN)
    refine ret _ _ _ _ kF kN ?kp ?kt ?kh
    case kp => intro q hq hn; repeat (first | exact hm q hq hn | refine List.Mem.tail _ ?_)
    case kt => k_dflt (refine' tab40_intro ?m ?m1 ?e1 ?e1' ?m2 ?e2 ?e2' ?n1 ?n2 ?lb9; (case lb9 => exact ⟨b1, b2, ob, by repeat (first | exact b4 | refine List.Mem.tail _ ?_)⟩); (case m => k_mem); (case m1 => k_mem); (case m2 => k_mem); (case e1 => exact q1); (case e2 => exact q3); (case e1' => exact q2); (case e2' => exact q4); (case n1 => exact ⟨n1, n1'⟩); (case n2 => exact ⟨n2, n2'⟩))
    case kh => k_dflt (refine' progAt_intro ?m1 ?m2 ?e2 ?m3 ?m4 ?m5 ?e5 ?e5' ?m6 ?e6 ?nn; (case m1 => k_mem); (case m2 => k_mem); (case e2 => assumption); (case m3 => k_mem); (case m4 => k_mem); (case m5 => k_mem); (case e5 => exact q3); (case e5' => exact q4); (case m6 => k_mem); (case e6 => assumption); (case nn => omega))
end Mine
end
section
open PySem PySem.W PyProof.Rows PySem.Calls
set_option Elab.async false
set_option maxRecDepth 100000
namespace Mine
theorem fill5 : Challenge.rw_mr0173_01 = Challenge.rw_mr0173_01 ∧ hd.heap_39 = hd.heap_39 := by
  k_fill
  exact ⟨rfl, rfl⟩
/-- what a walk of matches has found, and where it goes on -/
inductive Rev (c : Str) (marked : Bool) (col : Int) : Option (Int × Int) → Int → Prop where
  | start : Rev c marked col none 0
  | step {f : Option (Int × Int)} {st i j : Int} : Rev c marked col f st → Found c marked st (some (i, j)) → i < col → j ≤ col → Rev c marked col (some (i, j)) (if i = j then j + 1 else j)
def RevRes (c : Str) (marked : Bool) (col : Int) (res : Option (Int × Int)) : Prop :=
  ∃ st, Rev c marked col res st ∧ (Found c marked st none ∨ ∃ i j, Found c marked st (some (i, j)) ∧ ¬ (i < col ∧ j ≤ col))
theorem topOf_le (c : Str) (k : Int) : topOf c k ≤ c.length := by unfold topOf; split <;> omega
theorem Found.bounds {c : Str} {marked : Bool} {st i j : Int} (h : Found c marked st (some (i, j))) : st ≤ i ∧ i ≤ j ∧ j ≤ c.length := by
  obtain ⟨h, _⟩ := h
  rcases h with ⟨h1, h2, h3⟩ | ⟨h1, h2, _, h4⟩
  · rcases h3 with ⟨_, h3⟩ | ⟨_, h3, h4, _⟩
    · omega
    · have := topOf_le c i; omega
  · omega
theorem Rev.bounds {c : Str} {marked : Bool} {col : Int} {f : Option (Int × Int)} {st : Int} (h : Rev c marked col f st) : 0 ≤ st ∧ st ≤ c.length + 1 := by
  induction h with
  | start => omega
  | step _ h _ _ ih => have := h.bounds; split <;> omega
def Hold (P : Prop) : Prop := P
theorem hold_out {P : Prop} (h : Hold P) : P := h
local macro_rules | `(tactic| walk_at "exec While BoolOp cons nil") => `(tactic| refine hold_out ?_)
local macro_rules | `(tactic| walk_at "call ref") => `(tactic| refine hold_out ?_)
local macro_rules | `(tactic| walk_at "getMethod") => `(tactic| (k_here; k_dflt (refine' getm_prog ?N ?h ?_; (case N => k_asm); (case h => (repeat (first | assumption | refine ProgAt.cons ?_)))); intro f' hf'))
local macro_rules | `(tactic| walk_at "getMethod") => `(tactic| (k_here; k_dflt (refine' getm_hit ?N ?h ?_; (case N => k_asm); (case h => (repeat (first | assumption | refine HitAt.cons ?_)))); intro f' hf'))
local macro_rules | `(tactic| walk_at "callWith ref") => `(tactic| (k_here; k_dflt (first
  | (refine' callWith_F ?k1 ?_; (case k1 => first | exact ProgFn.fnAt (by assumption) (by k_asm) | exact SpanFn.fnAt (by assumption) (by k_asm)); k_whole)
  | (refine' callWith_F0 ?k1 ?_; (case k1 => first | exact ProgFn.fnAt (by assumption) (by k_asm) | exact SpanFn.fnAt (by assumption) (by k_asm)); k_whole; try dsimp only [List.nil_append, List.cons_append]))))
local macro_rules | `(tactic| walk_at "And") => `(tactic| ((with_reducible show FnAt _ _ ∧ _); refine ⟨by first | exact ProgFn.fnAt (by assumption) (by k_asm) | exact SpanFn.fnAt (by assumption) (by k_asm), ?_⟩; try dsimp only [List.nil_append, List.cons_append]))
local macro_rules | `(tactic| walk_at "truthy") => `(tactic| (k_here; k_dflt (refine' truthy_hit ?N ?h ?_; (case N => k_asm); (case h => (repeat (first | assumption | refine HitAt.cons ?_))))))
structure RvSt where
  N : Ledger
  mv : Value
  fv : Value
  i : Int
  j : Int
  ti : Tok
  tj : Tok
  f : Option (Int × Int)
  st : Int
local macro_rules | `(tactic| walk_at "KswPost") => `(tactic| (dsimp only [KswPost]))
local macro_rules | `(tactic| walk_at "KswEnd") => `(tactic| refine hold_out ?_)
variable {w : World} {p : Program} {loose : List Str} {mean : ExcName → Option Value} {mg mb : Str → Option Value}
set_option maxHeartbeats 8000000 in
theorem rev_ct {lb : Nat} (pv : Value) (chars : Str) (ti : Tok) (col : Int) (tj : Tok) (marked : Bool) (hl : chars.length ≤ 1000) :
    Ct lb w p loose mean mg mb 12 21 [pv, .str chars ti, .int col tj] (fun N => ProgAt w N pv marked) (fun N v => ∃ res, RevRes chars marked col res ∧ HitRes w N v res) := by
  intro dp un gd cn cs a ccd cl outer A₀ base h₀ L m news s Q E B F X N T hk ht hs hd hu ret
  refine wpAny_call ?_
  k_dflt (refine' code_def ?k1 ?k2 ?k3 ?k4 ?k5 ?kA ?kF ?kK ?k6 ?k7 ?k8 ?k9 ?kB ?_ ?c2 ?c3 ?c4 ?c5; (case kA => exact rfl); (case kF => exact rfl); (case kK => assumption); (case k1 => k_asm); (case k2 => k_asm); (case k3 => k_asm); (case k4 => k_asm); (case k5 => k_asm); (case k6 => k_is); (case k7 => k_is); (case k8 => ktr_room); (case k9 => exact BindsTo.of_eq rfl); (case c5 => decide); (case kB => exact locs rfl); (case c2 => exact rfl); (case c3 => exact rfl); (case c4 => exact rfl); k_whole; intro g' L' h' FG' F' N' B' X' T')
  replace F' : Fr g' L' h' (fun y => List.lookup y [("col", .int col tj), ("chars", .str chars ti), ("prog", pv)]) := F'
  dsimp only
  (try k_fold)
  k_steps
  (with_reducible rename ProgFn _ _ _ _ => hf)
  unfold Hold
  refine (lam_ct1 _ chars ti marked hl).use B' F' X' N' T' rfl ht hf ?r1 ?r2 ?_
  case r1 => show dp + 1 + 8 < recursionLimit; omega
  case r2 => show un + 3 + 8 * 8 < cLine; omega
  intro r N₂ h₂ tk₂ F₂ N₂' hkeep htab ⟨res, hfd, hpost⟩
  have hs₂ := hs.keeps hkeep
  cases res with
  | none =>
    obtain rfl : r = .none := hpost
    k_steps
    (with_reducible rename Fr _ _ _ _ => kF)
    (with_reducible rename News _ _ _ _ => kN)
    exact ret _ _ _ _ kF kN hkeep htab ⟨none, ⟨0, .start, .inl hfd⟩, rfl⟩
  | some ij =>
    obtain ⟨i, j⟩ := ij
    replace hpost : HitAt w N₂ r i j := hpost
    clear hf
    k_steps
    (with_reducible rename SpanFn _ _ _ _ _ => hf)
    (with_reducible rename Fr _ _ _ _ => lF)
    (with_reducible rename News _ _ _ _ => lN)
    unfold Hold
    refine (span_ct _ i j).use B' lF X' lN T' rfl htab hf ?r3 ?r4 ?_
    case r3 => show dp + 1 + 2 < recursionLimit; omega
    case r4 => show un + 3 + 8 * 2 < cLine; omega
    intro r₃ N₃ h₃ tk₃ F₃ N₃' hkeep₃ htab₃ ⟨t₃, ti₃, tj₃, e₃, m₃⟩
    subst e₃
    clear hf lF lN
    have hs₃ := hs₂.keeps hkeep₃
    have hpost₃ := hpost.keeps hkeep₃
    k_steps
    unfold Hold
    (with_reducible rename Fr _ _ _ _ => lF)
    (with_reducible rename News _ _ _ _ => lN)
    refine ksw_while (σ := RvSt) (fun c => c.N) (fun c => [("m", c.mv), ("found", c.fv), ("i", .int c.i c.ti), ("j", .int c.j c.tj)]) (fun _ => True) []
      (fun c => Rev chars marked col c.f c.st ∧ Found chars marked c.st (some (c.i, c.j)) ∧ HitAt w c.N c.mv c.i c.j ∧ HitRes w c.N c.fv c.f ∧ Tab26 lb c.N ∧ ProgAt w c.N pv marked ∧ Keeps news c.N)
      (fun c => (chars.length + 2 - c.st).toNat) ⟨N₃, r, .none, i, j, ti₃, tj₃, none, 0⟩ lF lN trivial ?ps ⟨.start, hfd, hpost₃, rfl, htab₃, hs₃, hkeep.trans hkeep₃⟩ ?_ ?pass
    case ps => kst_all
    case pass => passes_own
    clear lF lN hs₃ hpost₃ htab₃ m₃ hkeep₃ hs₂ hpost htab hkeep hfd
    rintro ⟨N₄, mv, fv, i₄, j₄, ti₄, tj₄, f₄, st₄⟩ u h₄ tk₄ _ ⟨hR, hF, hH, hV, htab, hs₄, hkeep⟩ F' N'
    dsimp only at hR hF hH hV htab hs₄ hkeep F' N'
    (try k_fold)
    k_steps
    · unfold Hold
      (with_reducible rename ProgFn _ _ _ _ => hf)
      (with_reducible rename Fr _ _ _ _ => lF)
      (with_reducible rename News _ _ _ _ => lN)
      have hb := hF.bounds
      have hb₂ := hR.bounds
      have hi : i₄ < col := by omega
      have hj : j₄ ≤ col := by omega
      have hR' := Rev.step hR hF hi hj
      rw [if_pos (by omega : i₄ = j₄)] at hR'
      refine (lam_ct2 _ chars ti (j₄ + 1) _ marked (by omega) (by omega) hl).use B' lF X' lN T' rfl htab hf ?r5 ?r6 ?_
      case r5 => show dp + 1 + 8 < recursionLimit; omega
      case r6 => show un + 3 + 8 * 8 < cLine; omega
      intro r₅ N₅ h₅ tk₅ F₅ N₅' hkeep₅ htab₅ ⟨res, hfd, hpost⟩
      have hs₅ := hs₄.keeps hkeep₅
      have hH₅ := hH.keeps hkeep₅
      clear hf lF lN
      cases res with
      | none =>
        obtain rfl : r₅ = .none := hpost
        k_steps
        (with_reducible rename Fr _ _ _ _ => kF)
        (with_reducible rename News _ _ _ _ => kN)
        exact ret _ _ _ _ kF kN (hkeep.trans hkeep₅) htab₅ ⟨some (i₄, j₄), ⟨_, hR', .inl hfd⟩, hH₅⟩
      | some ij =>
        obtain ⟨i₅, j₅⟩ := ij
        replace hpost : HitAt w N₅ r₅ i₅ j₅ := hpost
        k_steps
        unfold Hold
        (with_reducible rename SpanFn _ _ _ _ _ => hf)
        (with_reducible rename Fr _ _ _ _ => lF)
        (with_reducible rename News _ _ _ _ => lN)
        refine (span_ct _ i₅ j₅).use B' lF X' lN T' rfl htab₅ hf ?r7 ?r8 ?_
        case r7 => show dp + 1 + 2 < recursionLimit; omega
        case r8 => show un + 3 + 8 * 2 < cLine; omega
        intro r₆ N₆ h₆ tk₆ F₆ N₆' hkeep₆ htab₆ ⟨t₆, ti₆, tj₆, e₆, m₆⟩
        subst e₆
        clear hf lF lN
        k_steps
        unfold Hold
        (with_reducible rename Fr _ _ _ _ => lF)
        (with_reducible rename News _ _ _ _ => lN)
        refine ksw_end ⟨N₆, r₅, mv, i₅, j₅, ti₆, tj₆, some (i₄, j₄), (j₄ + 1)⟩ lF lN (fun _ hp => hp) trivial (by kst_all) ?_ ⟨hR', hfd, hpost.keeps hkeep₆, hH₅.keeps hkeep₆, htab₆, hs₅.keeps hkeep₆, (hkeep.trans hkeep₅).trans hkeep₆⟩ ?_
        · intro z h1 h2
          simp only [List.forall_mem_cons, List.not_mem_nil, false_implies, implies_true, and_true, ne_eq] at h1
          simp_all [kstB]
        · show (chars.length + 2 - ((j₄ + 1) : Int)).toNat < (chars.length + 2 - st₄).toNat
          omega
    · unfold Hold
      (with_reducible rename ProgFn _ _ _ _ => hf)
      (with_reducible rename Fr _ _ _ _ => lF)
      (with_reducible rename News _ _ _ _ => lN)
      have hb := hF.bounds
      have hb₂ := hR.bounds
      have hi : i₄ < col := by omega
      have hj : j₄ ≤ col := by omega
      have hR' := Rev.step hR hF hi hj
      rw [if_neg (by omega : ¬ i₄ = j₄)] at hR'
      refine (lam_ct2 _ chars ti j₄ _ marked (by omega) (by omega) hl).use B' lF X' lN T' rfl htab hf ?r5 ?r6 ?_
      case r5 => show dp + 1 + 8 < recursionLimit; omega
      case r6 => show un + 3 + 8 * 8 < cLine; omega
      intro r₅ N₅ h₅ tk₅ F₅ N₅' hkeep₅ htab₅ ⟨res, hfd, hpost⟩
      have hs₅ := hs₄.keeps hkeep₅
      have hH₅ := hH.keeps hkeep₅
      clear hf lF lN
      cases res with
      | none =>
        obtain rfl : r₅ = .none := hpost
        k_steps
        (with_reducible rename Fr _ _ _ _ => kF)
        (with_reducible rename News _ _ _ _ => kN)
        exact ret _ _ _ _ kF kN (hkeep.trans hkeep₅) htab₅ ⟨some (i₄, j₄), ⟨_, hR', .inl hfd⟩, hH₅⟩
      | some ij =>
        obtain ⟨i₅, j₅⟩ := ij
        replace hpost : HitAt w N₅ r₅ i₅ j₅ := hpost
        k_steps
        unfold Hold
        (with_reducible rename SpanFn _ _ _ _ _ => hf)
        (with_reducible rename Fr _ _ _ _ => lF)
        (with_reducible rename News _ _ _ _ => lN)
        refine (span_ct _ i₅ j₅).use B' lF X' lN T' rfl htab₅ hf ?r7 ?r8 ?_
        case r7 => show dp + 1 + 2 < recursionLimit; omega
        case r8 => show un + 3 + 8 * 2 < cLine; omega
        intro r₆ N₆ h₆ tk₆ F₆ N₆' hkeep₆ htab₆ ⟨t₆, ti₆, tj₆, e₆, m₆⟩
        subst e₆
        clear hf lF lN
        k_steps
        unfold Hold
        (with_reducible rename Fr _ _ _ _ => lF)
        (with_reducible rename News _ _ _ _ => lN)
        refine ksw_end ⟨N₆, r₅, mv, i₅, j₅, ti₆, tj₆, some (i₄, j₄), j₄⟩ lF lN (fun _ hp => hp) trivial (by kst_all) ?_ ⟨hR', hfd, hpost.keeps hkeep₆, hH₅.keeps hkeep₆, htab₆, hs₅.keeps hkeep₆, (hkeep.trans hkeep₅).trans hkeep₆⟩ ?_
        · intro z h1 h2
          simp only [List.forall_mem_cons, List.not_mem_nil, false_implies, implies_true, and_true, ne_eq] at h1
          simp_all [kstB]
        · show (chars.length + 2 - (j₄ : Int)).toNat < (chars.length + 2 - st₄).toNat
          omega
    · (with_reducible rename Fr _ _ _ _ => kF)
      (with_reducible rename News _ _ _ _ => kN)
      exact ret _ _ _ _ kF kN hkeep htab ⟨f₄, ⟨st₄, hR, .inr ⟨i₄, j₄, hF, by omega⟩⟩, hV⟩
    · (with_reducible rename Fr _ _ _ _ => kF)
      (with_reducible rename News _ _ _ _ => kN)
      exact ret _ _ _ _ kF kN hkeep htab ⟨f₄, ⟨st₄, hR, .inr ⟨i₄, j₄, hF, by omega⟩⟩, hV⟩
end Mine
end
section
open PySem PySem.W PyProof.Rows PySem.Calls
namespace Mine
def stepD (kd d : Int) : Int := if kd = 8 ∨ kd = 10 ∨ kd = 26 then d + 1 else if kd = 7 ∨ kd = 9 ∨ kd = 25 then d - 1 else d
def stepC (kd d co : Int) : Int := if kd = 8 ∨ kd = 10 ∨ kd = 26 then co else if kd = 7 ∨ kd = 9 ∨ kd = 25 then co else if d = 0 ∧ kd = 12 then co + 1 else co
def stepO (kd d co o : Int) : Int := if kd = 8 ∨ kd = 10 ∨ kd = 26 then o else if kd = 7 ∨ kd = 9 ∨ kd = 25 then o else if d = 0 ∧ kd = 12 then o else if d = 0 ∧ co = 0 then o + 1 else o
inductive Back (c : Str) (marked : Bool) (col : Int) : Nat → Int → Int → Int → Int → Prop where
  | start : Back c marked col 0 col 0 0 0
  | step {n : Nat} {b d co o i j kd : Int} : Back c marked col n b d co o → RevRes c marked b (some (i, j)) → kindT (Txt.slice c (some i) (some j)) = kd → ((kd = 7 ∨ kd = 9 ∨ kd = 25) → d ≠ 0) → Back c marked col (n + 1) i (stepD kd d) (stepC kd d co) (stepO kd d co o)
def BackRes (c : Str) (marked : Bool) (col : Int) (x y z : Int) : Prop :=
  ∃ n b d, Back c marked col n b d y z ∧ ((RevRes c marked b none ∧ x = -1) ∨ ∃ i j kd, RevRes c marked b (some (i, j)) ∧ kindT (Txt.slice c (some i) (some j)) = kd ∧ (kd = 7 ∨ kd = 9 ∨ kd = 25) ∧ d = 0 ∧ x = i)
theorem back_step {c : Str} {marked : Bool} {col : Int} {n : Nat} {b d co o i j kd d' co' o' : Int} (h : Back c marked col n b d co o) (hr : RevRes c marked b (some (i, j))) (hk : kindT (Txt.slice c (some i) (some j)) = kd) (hno : (kd = 7 ∨ kd = 9 ∨ kd = 25) → d ≠ 0)
    (h1 : d' = stepD kd d) (h2 : co' = stepC kd d co) (h3 : o' = stepO kd d co o) : Back c marked col (n + 1) i d' co' o' := by
  rw [h1, h2, h3]; exact .step h hr hk hno
theorem any8 {kd : Int} (h : ([8, 10, 26].any fun x => x == kd) = true) : kd = 8 ∨ kd = 10 ∨ kd = 26 := by
  simp only [List.any_cons, List.any_nil, Bool.or_false, Bool.or_eq_true, beq_iff_eq] at h; omega
theorem none8 {kd : Int} (h : ([8, 10, 26].any fun x => x == kd) = false) : kd ≠ 8 ∧ kd ≠ 10 ∧ kd ≠ 26 := by
  simp only [List.any_cons, List.any_nil, Bool.or_false, Bool.or_eq_false_iff, beq_eq_false_iff_ne, ne_eq] at h; omega
theorem any7 {kd : Int} (h : ([7, 9, 25].any fun x => x == kd) = true) : kd = 7 ∨ kd = 9 ∨ kd = 25 := by
  simp only [List.any_cons, List.any_nil, Bool.or_false, Bool.or_eq_true, beq_iff_eq] at h; omega
theorem none7 {kd : Int} (h : ([7, 9, 25].any fun x => x == kd) = false) : kd ≠ 7 ∧ kd ≠ 9 ∧ kd ≠ 25 := by
  simp only [List.any_cons, List.any_nil, Bool.or_false, Bool.or_eq_false_iff, beq_eq_false_iff_ne, ne_eq] at h; omega
theorem Rev.at {c : Str} {marked : Bool} {col : Int} {i j st : Int} (h : Rev c marked col (some (i, j)) st) : i < col ∧ j ≤ col ∧ 0 ≤ i ∧ i ≤ j ∧ j ≤ c.length := by
  cases h with
  | step h1 h2 h3 h4 => have := h1.bounds; have := h2.bounds; omega
theorem RevRes.at {c : Str} {marked : Bool} {col : Int} {i j : Int} (h : RevRes c marked col (some (i, j))) : i < col ∧ j ≤ col ∧ 0 ≤ i ∧ i ≤ j ∧ j ≤ c.length := by
  obtain ⟨st, h, _⟩ := h
  exact h.at
/-- each step goes down -/
theorem Back.low {c : Str} {marked : Bool} {col : Int} {n : Nat} {b d co o : Int} (h : Back c marked col n b d co o) : n = 0 ∨ (0 ≤ b ∧ b ≤ c.length + 1 - n) := by
  induction h with
  | start => exact .inl rfl
  | step _ hr _ _ ih => have := hr.at; omega
theorem Back.few {c : Str} {marked : Bool} {col : Int} {b d co o : Int} (h : Back c marked col (c.length + 2) b d co o) : False := by
  have := h.low; omega
/-- the ledger less a loop's iterator -/
abbrev lessI (I : Addr) (N : Ledger) : Ledger := N.filter fun p => p.1 != I
theorem lessI_off (I : Addr) (N : Ledger) : ∀ p ∈ lessI I N, p.1 ≠ I := fun p hp => by simpa using (List.mem_filter.mp hp).2
theorem lessI_mem {I : Addr} {N : Ledger} : ∀ p ∈ lessI I N, p ∈ N := fun p hp => (List.mem_filter.mp hp).1
theorem mem_lessI {I : Addr} {N : Ledger} {p : Addr × Obj} (h : p ∈ N) (hn : p.1 ≠ I) : p ∈ lessI I N := List.mem_filter.mpr ⟨h, by simpa using hn⟩
section
variable {w : World} {N N' N₁ news : Ledger} {I : Addr} {io : Obj} {h₀ h : Heap} {L : Addr}
theorem only_rit (H : News h₀ L h N) (hI : (I, io) ∈ N) (hio : IsRit io) : ∀ o, (I, o) ∈ N → IsRit o := fun o ho => by
  have e : some o = some io := (H _ ho).1.symm.trans (H _ hI).1
  rw [Option.some.inj e]; exact hio
theorem rec_ne {a : Addr} {o : Obj} {q : Str} (hr : ∀ o, (I, o) ∈ N → IsRit o) (hm : (a, o) ∈ N) (h : IsRec o q) : a ≠ I := fun e => by
  subst e
  obtain ⟨x, y, z, rfl⟩ := hr o hm
  obtain ⟨vs, t, e1, e2⟩ := h
  cases e1
  cases e2
theorem fn_ne {a : Addr} {d : Option Addr} {fd : FuncData} (hr : ∀ o, (I, o) ∈ N → IsRit o) (hm : (a, fnObj d fd) ∈ N) : a ≠ I := fun e => by
  subst e
  obtain ⟨x, y, z, e⟩ := hr _ hm
  cases congrArg Obj.data e
theorem Tab26.less {lb : Nat} (h : Tab26 lb N) (hr : ∀ o, (I, o) ∈ N → IsRit o) (hI : I ≠ 26) (hl : lb ≠ I) : Tab26 lb (lessI I N) := by
  obtain ⟨⟨b1, b2, ob, b3⟩, h⟩ := h
  refine ⟨⟨b1, b2, ob, mem_lessI b3 hl⟩, ?_⟩
  rcases h with h | ⟨k1, o1, k2, o2, m1, m2, e2, m3, e3, n1, n2⟩
  · exact .inl (mem_lessI h hI.symm)
  · exact .inr ⟨k1, o1, k2, o2, mem_lessI m1 hI.symm, mem_lessI m2 (rec_ne hr m2 e2), e2, mem_lessI m3 (rec_ne hr m3 e3), e3, n1, n2⟩
theorem Tab40.less {lb : Nat} (h : Tab40 lb N) (hr : ∀ o, (I, o) ∈ N → IsRit o) (hI : I ≠ 40) (hl : lb ≠ I) : Tab40 lb (lessI I N) := by
  obtain ⟨⟨b1, b2, ob, b3⟩, h⟩ := h
  refine ⟨⟨b1, b2, ob, mem_lessI b3 hl⟩, ?_⟩
  rcases h with h | ⟨k1, o1, k2, o2, m1, m2, e2, m3, e3, n1, n2⟩
  · exact .inl (mem_lessI h hI.symm)
  · exact .inr ⟨k1, o1, k2, o2, mem_lessI m1 hI.symm, mem_lessI m2 (rec_ne hr m2 e2), e2, mem_lessI m3 (rec_ne hr m3 e3), e3, n1, n2⟩
theorem ProgAt.less {v : Value} {b : Bool} (h : ProgAt w N v b) (hr : ∀ o, (I, o) ∈ N → IsRit o) : ProgAt w (lessI I N) v b := by
  obtain ⟨a, d, od, fd, f, e, m1, m2, e2, ⟨c, ct, doc, pm, oc, cm, ocm, tD, t0, q1, q2, q3, x3, q4, x4, n3, n4, n5, n6⟩, n1, n2⟩ := h
  refine ⟨a, d, od, fd, f, e, mem_lessI m1 (fn_ne hr m1), mem_lessI m2 ?_, e2, ⟨c, ct, doc, pm, oc, cm, ocm, tD, t0, mem_lessI q1 (fn_ne hr q1), mem_lessI q2 ?_, mem_lessI q3 (rec_ne hr q3 x3), x3, mem_lessI q4 ?_, x4, n3, n4, n5, n6⟩, n1, n2⟩
  · intro e'
    obtain ⟨es, ep, x1, _⟩ := e2
    have e' : d = I := e'
    subst e'
    obtain ⟨x, y, z, rfl⟩ := hr _ m2
    cases x1
  · intro e'
    have e' : tD = I := e'
    subst e'
    obtain ⟨x, y, z, e⟩ := hr _ q2
    cases congrArg Obj.data e
  · intro e'
    have e' : cm = I := e'
    subst e'
    obtain ⟨x, y, z, rfl⟩ := hr _ q4
    cases x4
theorem Keeps.less (h1 : Keeps news N₁) (hoff : ∀ p ∈ N₁, p.1 ≠ I) (h2 : Keeps ((I, io) :: N₁) N) : Keeps news (lessI I N) := fun p hp hn =>
  have h3 := h1 p hp hn
  mem_lessI (h2 p (.tail _ h3) hn) (hoff p h3)
end
end Mine
end
section
open PySem PySem.W PyProof.Rows PySem.Calls
set_option Elab.async false
set_option maxRecDepth 100000
namespace Mine
theorem fill6 : Challenge.rw_mr0173_01 = Challenge.rw_mr0173_01 ∧ hd.heap_39 = hd.heap_39 := by
  k_fill
  exact ⟨rfl, rfl⟩
theorem HitAt.ref {w : World} {N : Ledger} {v : Value} {i j : Int} (h : HitAt w N v i j) : ∃ a, v = .ref a := by
  obtain ⟨a, d, od, fd, f, c, ct, pm, oc, cf, cb, ocf, ocb, ti, tj, e, _⟩ := h
  exact ⟨a, e⟩
abbrev tup3 (x y z : Int) (tx ty tz : Tok) : Obj := { cls := .type "tuple", data := .seq #[.int x tx, .int y ty, .int z tz] }
section
variable {c : Str} {marked : Bool} {col : Int} {n : Nat} {b d co o i j kd : Int}
theorem back8 (h : Back c marked col n b d co o) (hr : RevRes c marked b (some (i, j))) (hk : kindT (Txt.slice c (some i) (some j)) = kd) (c1 : ([8, 10, 26].any fun x => x == kd) = true) : Back c marked col (n + 1) i (d + 1) co o := by
  have h8 := any8 c1
  refine back_step h hr hk ?_ (if_pos h8).symm (if_pos h8).symm (if_pos h8).symm
  rintro (rfl | rfl | rfl) <;> simp at c1
theorem back7 (h : Back c marked col n b d co o) (hr : RevRes c marked b (some (i, j))) (hk : kindT (Txt.slice c (some i) (some j)) = kd) (c2 : ([8, 10, 26].any fun x => x == kd) = false) (c3 : ([7, 9, 25].any fun x => x == kd) = true) (hd : d ≠ 0) : Back c marked col (n + 1) i (d - 1) co o := by
  have n8 : ¬ (kd = 8 ∨ kd = 10 ∨ kd = 26) := by have := none8 c2; rintro (e | e | e) <;> simp [e] at this
  have h7 := any7 c3
  exact back_step h hr hk (fun _ => hd) ((if_neg n8).trans (if_pos h7)).symm ((if_neg n8).trans (if_pos h7)).symm ((if_neg n8).trans (if_pos h7)).symm
theorem back0 {co' o' : Int} (h : Back c marked col n b d co o) (hr : RevRes c marked b (some (i, j))) (hk : kindT (Txt.slice c (some i) (some j)) = kd) (c2 : ([8, 10, 26].any fun x => x == kd) = false) (c4 : ([7, 9, 25].any fun x => x == kd) = false)
    (h1 : co' = if d = 0 ∧ kd = 12 then co + 1 else co) (h2 : o' = if d = 0 ∧ kd = 12 then o else if d = 0 ∧ co = 0 then o + 1 else o) : Back c marked col (n + 1) i d co' o' := by
  have n8 : ¬ (kd = 8 ∨ kd = 10 ∨ kd = 26) := by have := none8 c2; rintro (e | e | e) <;> simp [e] at this
  have n7 : ¬ (kd = 7 ∨ kd = 9 ∨ kd = 25) := by have := none7 c4; rintro (e | e | e) <;> simp [e] at this
  exact back_step h hr hk (fun h => absurd h n7) ((if_neg n8).trans (if_neg n7)).symm (h1.trans ((if_neg n8).trans (if_neg n7)).symm) (h2.trans ((if_neg n8).trans (if_neg n7)).symm)
end
local macro_rules | `(tactic| walk_at "call ref") => `(tactic| refine hold_out ?_)
local macro_rules | `(tactic| walk_at "pyIter ref") => `(tactic| refine hold_out ?_)
local macro_rules | `(tactic| walk_at "getMethod ref") => `(tactic| (k_here; k_dflt (refine' getm_hit ?N ?h ?_; (case N => k_asm); (case h => (repeat (first | assumption | refine HitAt.cons ?_)))); intro f' hf'))
local macro_rules | `(tactic| walk_at "callWith ref") => `(tactic| (k_here; k_dflt (first
  | (refine' callWith_F0 ?k1 ?_; (case k1 => exact SpanFn.fnAt (by assumption) (by k_asm)); k_whole; try dsimp only [List.nil_append, List.cons_append]))))
local macro_rules | `(tactic| walk_at "RngPost") => `(tactic| (dsimp only [RngPost]))
local macro_rules | `(tactic| walk_at "RngEnd") => `(tactic| refine hold_out ?_)
structure BkSt where
  N : Ledger
  b : Int
  d : Int
  co : Int
  o : Int
  tb : Tok
  td : Tok
  tc : Tok
  to : Tok
variable {w : World} {p : Program} {loose : List Str} {mean : ExcName → Option Value} {mg mb : Str → Option Value}
set_option maxHeartbeats 8000000 in
theorem back_ct {lb : Nat} (pv : Value) (row : Str) (ti : Tok) (col : Int) (tj : Tok) (marked : Bool) (hl : row.length ≤ 900) :
    Ct lb w p loose mean mg mb 16 52 [pv, .str row ti, .int col tj] (fun N => ProgAt w N pv marked) (fun N v => ∃ t x y z tx ty tz, v = .ref t ∧ (t, tup3 x y z tx ty tz) ∈ N ∧ BackRes row marked col x y z) := by
  intro dp un gd cn cs a ccd cl outer A₀ base h₀ L m news s Q E B F X N T hk ht hs hd hu ret
  refine wpAny_call ?_
  k_dflt (refine' code_def ?k1 ?k2 ?k3 ?k4 ?k5 ?kA ?kF ?kK ?k6 ?k7 ?k8 ?k9 ?kB ?_ ?c2 ?c3 ?c4 ?c5; (case kA => exact rfl); (case kF => exact rfl); (case kK => assumption); (case k1 => k_asm); (case k2 => k_asm); (case k3 => k_asm); (case k4 => k_asm); (case k5 => k_asm); (case k6 => k_is); (case k7 => k_is); (case k8 => ktr_room); (case k9 => exact BindsTo.of_eq rfl); (case c5 => decide); (case kB => exact locs rfl); (case c2 => exact rfl); (case c3 => exact rfl); (case c4 => exact rfl); k_whole; intro g' L' h' FG' F' N' B' X' T')
  replace F' : Fr g' L' h' (fun y => List.lookup y [("column", .int col tj), ("row", .str row ti), ("program", pv)]) := F'
  dsimp only
  (try k_fold)
  k_steps
  unfold Hold
  (with_reducible rename Fr _ _ _ _ => lF)
  (with_reducible rename News _ _ _ _ => lN)
  (with_reducible rename IsRange _ _ _ _ _ _ _ _ => lR)
  with_unfolding_all refine rng (σ := BkSt) (n := row.length + 2) (L₀ := 27) (fun c => c.N) (fun c => [("bound", .int c.b c.tb), ("depth", .int c.d c.td), ("commas", .int c.co c.tc), ("others", .int c.o c.to)]) ["found", "end", "kind"] (fun i c => Tab26 lb c.N ∧ ProgAt w c.N pv marked ∧ Keeps news c.N ∧ Back row marked col i c.b c.d c.co c.o) ⟨news, col, 0, 0, 0, ?tb, ?td, ?tc, ?to⟩ (by rfl) lR ?sm ?n lF lN ?ps ⟨ht, hs, Keeps.refl _, .start⟩ ?turn ?done ?L0
  case ps => kst_all
  case L0 => exact big_at X' lF
  case sm => exact small_one (by omega) (by omega) (by omega) (by omega)
  case n => exact (rangeSize_nat _ _).trans (by omega)
  case turn =>
    clear lF lN lR
    rintro k ⟨N₁, b, d, co, o, tb, td, tc, to⟩ kk tt u h₁ tk₁ I io hi hk₁ ⟨htab, hs₁, hkeep, hB⟩ hoff hI hio F' N'
    dsimp only at htab hs₁ hkeep hB hoff F' N'
    have hlI : lb ≠ I := let ⟨⟨_, _, _, hm9⟩, _⟩ := htab; hoff _ hm9
    (try k_fold)
    k_steps
    unfold Hold
    (with_reducible rename Fr _ _ _ _ => lF)
    (with_reducible rename News _ _ _ _ => lN)
    refine (rev_ct pv row ti b tb marked (by omega)).use B' lF X' lN T' rfl htab.cons hs₁.cons ?r1 ?r2 ?_
    case r1 => show dp + 1 + 12 < recursionLimit; omega
    case r2 => show un + 3 + 8 * 12 < cLine; omega
    intro r₂ N₂ h₂ tk₂ F₂ N₂' hkeep₂ htab₂ ⟨res, hres, hpost⟩
    have hs₂ := hs₁.cons.keeps hkeep₂
    clear lF lN
    cases res with
    | none =>
      obtain rfl : r₂ = .none := hpost
      k_steps
      (with_reducible rename Fr _ _ _ _ => kF)
      (with_reducible rename News _ _ _ _ => kN)
      exact ret _ _ _ _ kF kN (fun q hq hn => .tail _ (hkeep₂ _ (.tail _ (hkeep q hq hn)) hn)) htab₂.cons ⟨_, -1, co, o, _, _, _, rfl, .head _, k, b, d, hB, .inl ⟨hres, rfl⟩⟩
    | some ij =>
      obtain ⟨i, j⟩ := ij
      replace hpost : HitAt w N₂ r₂ i j := hpost
      obtain ⟨ra, rfl⟩ := hpost.ref
      k_steps
      unfold Hold
      (with_reducible rename SpanFn _ _ _ _ _ => hf)
      (with_reducible rename Fr _ _ _ _ => lF)
      (with_reducible rename News _ _ _ _ => lN)
      refine (span_ct _ i j).use B' lF X' lN T' rfl htab₂ hf ?r3 ?r4 ?_
      case r3 => show dp + 1 + 2 < recursionLimit; omega
      case r4 => show un + 3 + 8 * 2 < cLine; omega
      intro r₃ N₃ h₃ tk₃ F₃ N₃' hkeep₃ htab₃ ⟨t₃, ti₃, tj₃, e₃, m₃⟩
      subst e₃
      clear hf lF lN
      k_steps
      (rename PyProof.V.Flat _ _ => hv)
      obtain ⟨tv, rfl⟩ := kind_of hv
      clear hv
      generalize hkd : kindT (Txt.slice row (some i) (some j)) = kd
      (with_reducible rename Fr _ _ _ _ => lF)
      simp only [hkd] at lF
      have hs₃ := hs₂.keeps hkeep₃
      have hkp : Keeps ((I, io) :: N₁) N₃ := hkeep₂.trans hkeep₃
      have hmI : (I, io) ∈ N₃ := hkp _ (.head _) (ne_of_27 hI)
      k_steps
      · unfold Hold
        (with_reducible rename Fr _ _ _ _ => lF)
        (with_reducible rename News _ _ _ _ => lN)
        have hr := only_rit (N := N₃) (fun p hp => lN p (by repeat (first | exact hp | refine List.Mem.tail _ ?_))) hmI hio
        refine rng_end ⟨lessI I N₃, i, ?d1, ?co1, ?o1, ti₃, ?td1, ?tc1, ?to1⟩ lF lN ?sub1 ?in1 (lessI_off I N₃) ?ps1 ?same1 ⟨htab₃.less hr (ne_of_27 hI) hlI, hs₃.less hr, hkeep.less hoff hkp, ?back1⟩
        case ps1 => kst_all
        case same1 =>
          intro z h1 h2 h3
          simp only [List.forall_mem_cons, List.not_mem_nil, false_implies, implies_true, and_true, ne_eq] at h2
          simp only [List.contains_cons, List.contains_nil, Bool.or_false, Bool.or_eq_false_iff, beq_eq_false_iff_ne, ne_eq] at h3
          simp [kstB, h1, h2, h3]
        case back1 =>
          dsimp only
          first
          | exact back8 hB hres hkd (by assumption)
          | exact back7 hB hres hkd (by assumption) (by assumption) (by omega)
          | exact back0 hB hres hkd (by assumption) (by assumption) (if_pos ⟨by omega, by omega⟩).symm (if_pos ⟨by omega, by omega⟩).symm
          | exact back0 hB hres hkd (by assumption) (by assumption) (if_neg (by omega)).symm ((if_neg (by omega)).trans (if_pos ⟨by omega, by omega⟩)).symm
          | exact back0 hB hres hkd (by assumption) (by assumption) (if_neg (by omega)).symm ((if_neg (by omega)).trans (if_neg (by omega))).symm
        case sub1 =>
          intro p hp
          have hp' := lessI_mem p hp
          repeat (first | exact hp' | refine List.Mem.tail _ ?_)
        case in1 => repeat (first | exact hmI | refine List.Mem.tail _ ?_)
      · (try dsimp only [qk, RngPost])
        k_steps
        (with_reducible rename Fr _ _ _ _ => kF)
        (with_reducible rename News _ _ _ _ => kN)
        have c3 := any7 (by assumption)
        refine ret _ _ _ _ kF kN (fun q hq hn => ?_) ?_ ⟨_, i, co, o, _, _, _, rfl, .head _, k, b, d, hB, .inr ⟨i, j, kd, hres, hkd, c3, by omega, rfl⟩⟩
        · have hq' := hkp _ (.tail _ (hkeep q hq hn)) hn
          repeat (first | exact hq' | refine List.Mem.tail _ ?_)
        · repeat (first | exact htab₃ | refine Tab26.cons ?_)
      · unfold Hold
        (with_reducible rename Fr _ _ _ _ => lF)
        (with_reducible rename News _ _ _ _ => lN)
        have hr := only_rit (N := N₃) (fun p hp => lN p (by repeat (first | exact hp | refine List.Mem.tail _ ?_))) hmI hio
        refine rng_end ⟨lessI I N₃, i, ?d2, ?co2, ?o2, ti₃, ?td2, ?tc2, ?to2⟩ lF lN ?sub2 ?in2 (lessI_off I N₃) ?ps2 ?same2 ⟨htab₃.less hr (ne_of_27 hI) hlI, hs₃.less hr, hkeep.less hoff hkp, ?back2⟩
        case ps2 => kst_all
        case same2 =>
          intro z h1 h2 h3
          simp only [List.forall_mem_cons, List.not_mem_nil, false_implies, implies_true, and_true, ne_eq] at h2
          simp only [List.contains_cons, List.contains_nil, Bool.or_false, Bool.or_eq_false_iff, beq_eq_false_iff_ne, ne_eq] at h3
          simp [kstB, h1, h2, h3]
        case back2 =>
          dsimp only
          first
          | exact back8 hB hres hkd (by assumption)
          | exact back7 hB hres hkd (by assumption) (by assumption) (by omega)
          | exact back0 hB hres hkd (by assumption) (by assumption) (if_pos ⟨by omega, by omega⟩).symm (if_pos ⟨by omega, by omega⟩).symm
          | exact back0 hB hres hkd (by assumption) (by assumption) (if_neg (by omega)).symm ((if_neg (by omega)).trans (if_pos ⟨by omega, by omega⟩)).symm
          | exact back0 hB hres hkd (by assumption) (by assumption) (if_neg (by omega)).symm ((if_neg (by omega)).trans (if_neg (by omega))).symm
        case sub2 =>
          intro p hp
          have hp' := lessI_mem p hp
          repeat (first | exact hp' | refine List.Mem.tail _ ?_)
        case in2 => repeat (first | exact hmI | refine List.Mem.tail _ ?_)
      · unfold Hold
        (with_reducible rename Fr _ _ _ _ => lF)
        (with_reducible rename News _ _ _ _ => lN)
        have hr := only_rit (N := N₃) (fun p hp => lN p (by repeat (first | exact hp | refine List.Mem.tail _ ?_))) hmI hio
        refine rng_end ⟨lessI I N₃, i, ?d3, ?co3, ?o3, ti₃, ?td3, ?tc3, ?to3⟩ lF lN ?sub3 ?in3 (lessI_off I N₃) ?ps3 ?same3 ⟨htab₃.less hr (ne_of_27 hI) hlI, hs₃.less hr, hkeep.less hoff hkp, ?back3⟩
        case ps3 => kst_all
        case same3 =>
          intro z h1 h2 h3
          simp only [List.forall_mem_cons, List.not_mem_nil, false_implies, implies_true, and_true, ne_eq] at h2
          simp only [List.contains_cons, List.contains_nil, Bool.or_false, Bool.or_eq_false_iff, beq_eq_false_iff_ne, ne_eq] at h3
          simp [kstB, h1, h2, h3]
        case back3 =>
          dsimp only
          first
          | exact back8 hB hres hkd (by assumption)
          | exact back7 hB hres hkd (by assumption) (by assumption) (by omega)
          | exact back0 hB hres hkd (by assumption) (by assumption) (if_pos ⟨by omega, by omega⟩).symm (if_pos ⟨by omega, by omega⟩).symm
          | exact back0 hB hres hkd (by assumption) (by assumption) (if_neg (by omega)).symm ((if_neg (by omega)).trans (if_pos ⟨by omega, by omega⟩)).symm
          | exact back0 hB hres hkd (by assumption) (by assumption) (if_neg (by omega)).symm ((if_neg (by omega)).trans (if_neg (by omega))).symm
        case sub3 =>
          intro p hp
          have hp' := lessI_mem p hp
          repeat (first | exact hp' | refine List.Mem.tail _ ?_)
        case in3 => repeat (first | exact hmI | refine List.Mem.tail _ ?_)
      · unfold Hold
        (with_reducible rename Fr _ _ _ _ => lF)
        (with_reducible rename News _ _ _ _ => lN)
        have hr := only_rit (N := N₃) (fun p hp => lN p (by repeat (first | exact hp | refine List.Mem.tail _ ?_))) hmI hio
        refine rng_end ⟨lessI I N₃, i, ?d4, ?co4, ?o4, ti₃, ?td4, ?tc4, ?to4⟩ lF lN ?sub4 ?in4 (lessI_off I N₃) ?ps4 ?same4 ⟨htab₃.less hr (ne_of_27 hI) hlI, hs₃.less hr, hkeep.less hoff hkp, ?back4⟩
        case ps4 => kst_all
        case same4 =>
          intro z h1 h2 h3
          simp only [List.forall_mem_cons, List.not_mem_nil, false_implies, implies_true, and_true, ne_eq] at h2
          simp only [List.contains_cons, List.contains_nil, Bool.or_false, Bool.or_eq_false_iff, beq_eq_false_iff_ne, ne_eq] at h3
          simp [kstB, h1, h2, h3]
        case back4 =>
          dsimp only
          first
          | exact back8 hB hres hkd (by assumption)
          | exact back7 hB hres hkd (by assumption) (by assumption) (by omega)
          | exact back0 hB hres hkd (by assumption) (by assumption) (if_pos ⟨by omega, by omega⟩).symm (if_pos ⟨by omega, by omega⟩).symm
          | exact back0 hB hres hkd (by assumption) (by assumption) (if_neg (by omega)).symm ((if_neg (by omega)).trans (if_pos ⟨by omega, by omega⟩)).symm
          | exact back0 hB hres hkd (by assumption) (by assumption) (if_neg (by omega)).symm ((if_neg (by omega)).trans (if_neg (by omega))).symm
        case sub4 =>
          intro p hp
          have hp' := lessI_mem p hp
          repeat (first | exact hp' | refine List.Mem.tail _ ?_)
        case in4 => repeat (first | exact hmI | refine List.Mem.tail _ ?_)
      · unfold Hold
        (with_reducible rename Fr _ _ _ _ => lF)
        (with_reducible rename News _ _ _ _ => lN)
        have hr := only_rit (N := N₃) (fun p hp => lN p (by repeat (first | exact hp | refine List.Mem.tail _ ?_))) hmI hio
        refine rng_end ⟨lessI I N₃, i, ?d5, ?co5, ?o5, ti₃, ?td5, ?tc5, ?to5⟩ lF lN ?sub5 ?in5 (lessI_off I N₃) ?ps5 ?same5 ⟨htab₃.less hr (ne_of_27 hI) hlI, hs₃.less hr, hkeep.less hoff hkp, ?back5⟩
        case ps5 => kst_all
        case same5 =>
          intro z h1 h2 h3
          simp only [List.forall_mem_cons, List.not_mem_nil, false_implies, implies_true, and_true, ne_eq] at h2
          simp only [List.contains_cons, List.contains_nil, Bool.or_false, Bool.or_eq_false_iff, beq_eq_false_iff_ne, ne_eq] at h3
          simp [kstB, h1, h2, h3]
        case back5 =>
          dsimp only
          first
          | exact back8 hB hres hkd (by assumption)
          | exact back7 hB hres hkd (by assumption) (by assumption) (by omega)
          | exact back0 hB hres hkd (by assumption) (by assumption) (if_pos ⟨by omega, by omega⟩).symm (if_pos ⟨by omega, by omega⟩).symm
          | exact back0 hB hres hkd (by assumption) (by assumption) (if_neg (by omega)).symm ((if_neg (by omega)).trans (if_pos ⟨by omega, by omega⟩)).symm
          | exact back0 hB hres hkd (by assumption) (by assumption) (if_neg (by omega)).symm ((if_neg (by omega)).trans (if_neg (by omega))).symm
        case sub5 =>
          intro p hp
          have hp' := lessI_mem p hp
          repeat (first | exact hp' | refine List.Mem.tail _ ?_)
        case in5 => repeat (first | exact hmI | refine List.Mem.tail _ ?_)
      · unfold Hold
        (with_reducible rename Fr _ _ _ _ => lF)
        (with_reducible rename News _ _ _ _ => lN)
        have hr := only_rit (N := N₃) (fun p hp => lN p (by repeat (first | exact hp | refine List.Mem.tail _ ?_))) hmI hio
        refine rng_end ⟨lessI I N₃, i, ?d6, ?co6, ?o6, ti₃, ?td6, ?tc6, ?to6⟩ lF lN ?sub6 ?in6 (lessI_off I N₃) ?ps6 ?same6 ⟨htab₃.less hr (ne_of_27 hI) hlI, hs₃.less hr, hkeep.less hoff hkp, ?back6⟩
        case ps6 => kst_all
        case same6 =>
          intro z h1 h2 h3
          simp only [List.forall_mem_cons, List.not_mem_nil, false_implies, implies_true, and_true, ne_eq] at h2
          simp only [List.contains_cons, List.contains_nil, Bool.or_false, Bool.or_eq_false_iff, beq_eq_false_iff_ne, ne_eq] at h3
          simp [kstB, h1, h2, h3]
        case back6 =>
          dsimp only
          first
          | exact back8 hB hres hkd (by assumption)
          | exact back7 hB hres hkd (by assumption) (by assumption) (by omega)
          | exact back0 hB hres hkd (by assumption) (by assumption) (if_pos ⟨by omega, by omega⟩).symm (if_pos ⟨by omega, by omega⟩).symm
          | exact back0 hB hres hkd (by assumption) (by assumption) (if_neg (by omega)).symm ((if_neg (by omega)).trans (if_pos ⟨by omega, by omega⟩)).symm
          | exact back0 hB hres hkd (by assumption) (by assumption) (if_neg (by omega)).symm ((if_neg (by omega)).trans (if_neg (by omega))).symm
        case sub6 =>
          intro p hp
          have hp' := lessI_mem p hp
          repeat (first | exact hp' | refine List.Mem.tail _ ?_)
        case in6 => repeat (first | exact hmI | refine List.Mem.tail _ ?_)
      · unfold Hold
        (with_reducible rename Fr _ _ _ _ => lF)
        (with_reducible rename News _ _ _ _ => lN)
        have hr := only_rit (N := N₃) (fun p hp => lN p (by repeat (first | exact hp | refine List.Mem.tail _ ?_))) hmI hio
        refine rng_end ⟨lessI I N₃, i, ?d7, ?co7, ?o7, ti₃, ?td7, ?tc7, ?to7⟩ lF lN ?sub7 ?in7 (lessI_off I N₃) ?ps7 ?same7 ⟨htab₃.less hr (ne_of_27 hI) hlI, hs₃.less hr, hkeep.less hoff hkp, ?back7⟩
        case ps7 => kst_all
        case same7 =>
          intro z h1 h2 h3
          simp only [List.forall_mem_cons, List.not_mem_nil, false_implies, implies_true, and_true, ne_eq] at h2
          simp only [List.contains_cons, List.contains_nil, Bool.or_false, Bool.or_eq_false_iff, beq_eq_false_iff_ne, ne_eq] at h3
          simp [kstB, h1, h2, h3]
        case back7 =>
          dsimp only
          first
          | exact back8 hB hres hkd (by assumption)
          | exact back7 hB hres hkd (by assumption) (by assumption) (by omega)
          | exact back0 hB hres hkd (by assumption) (by assumption) (if_pos ⟨by omega, by omega⟩).symm (if_pos ⟨by omega, by omega⟩).symm
          | exact back0 hB hres hkd (by assumption) (by assumption) (if_neg (by omega)).symm ((if_neg (by omega)).trans (if_pos ⟨by omega, by omega⟩)).symm
          | exact back0 hB hres hkd (by assumption) (by assumption) (if_neg (by omega)).symm ((if_neg (by omega)).trans (if_neg (by omega))).symm
        case sub7 =>
          intro p hp
          have hp' := lessI_mem p hp
          repeat (first | exact hp' | refine List.Mem.tail _ ?_)
        case in7 => repeat (first | exact hmI | refine List.Mem.tail _ ?_)
      · unfold Hold
        (with_reducible rename Fr _ _ _ _ => lF)
        (with_reducible rename News _ _ _ _ => lN)
        have hr := only_rit (N := N₃) (fun p hp => lN p (by repeat (first | exact hp | refine List.Mem.tail _ ?_))) hmI hio
        refine rng_end ⟨lessI I N₃, i, ?d8, ?co8, ?o8, ti₃, ?td8, ?tc8, ?to8⟩ lF lN ?sub8 ?in8 (lessI_off I N₃) ?ps8 ?same8 ⟨htab₃.less hr (ne_of_27 hI) hlI, hs₃.less hr, hkeep.less hoff hkp, ?back8⟩
        case ps8 => kst_all
        case same8 =>
          intro z h1 h2 h3
          simp only [List.forall_mem_cons, List.not_mem_nil, false_implies, implies_true, and_true, ne_eq] at h2
          simp only [List.contains_cons, List.contains_nil, Bool.or_false, Bool.or_eq_false_iff, beq_eq_false_iff_ne, ne_eq] at h3
          simp [kstB, h1, h2, h3]
        case back8 =>
          dsimp only
          first
          | exact back8 hB hres hkd (by assumption)
          | exact back7 hB hres hkd (by assumption) (by assumption) (by omega)
          | exact back0 hB hres hkd (by assumption) (by assumption) (if_pos ⟨by omega, by omega⟩).symm (if_pos ⟨by omega, by omega⟩).symm
          | exact back0 hB hres hkd (by assumption) (by assumption) (if_neg (by omega)).symm ((if_neg (by omega)).trans (if_pos ⟨by omega, by omega⟩)).symm
          | exact back0 hB hres hkd (by assumption) (by assumption) (if_neg (by omega)).symm ((if_neg (by omega)).trans (if_neg (by omega))).symm
        case sub8 =>
          intro p hp
          have hp' := lessI_mem p hp
          repeat (first | exact hp' | refine List.Mem.tail _ ?_)
        case in8 => repeat (first | exact hmI | refine List.Mem.tail _ ?_)
      · unfold Hold
        (with_reducible rename Fr _ _ _ _ => lF)
        (with_reducible rename News _ _ _ _ => lN)
        have hr := only_rit (N := N₃) (fun p hp => lN p (by repeat (first | exact hp | refine List.Mem.tail _ ?_))) hmI hio
        refine rng_end ⟨lessI I N₃, i, ?d9, ?co9, ?o9, ti₃, ?td9, ?tc9, ?to9⟩ lF lN ?sub9 ?in9 (lessI_off I N₃) ?ps9 ?same9 ⟨htab₃.less hr (ne_of_27 hI) hlI, hs₃.less hr, hkeep.less hoff hkp, ?back9⟩
        case ps9 => kst_all
        case same9 =>
          intro z h1 h2 h3
          simp only [List.forall_mem_cons, List.not_mem_nil, false_implies, implies_true, and_true, ne_eq] at h2
          simp only [List.contains_cons, List.contains_nil, Bool.or_false, Bool.or_eq_false_iff, beq_eq_false_iff_ne, ne_eq] at h3
          simp [kstB, h1, h2, h3]
        case back9 =>
          dsimp only
          first
          | exact back8 hB hres hkd (by assumption)
          | exact back7 hB hres hkd (by assumption) (by assumption) (by omega)
          | exact back0 hB hres hkd (by assumption) (by assumption) (if_pos ⟨by omega, by omega⟩).symm (if_pos ⟨by omega, by omega⟩).symm
          | exact back0 hB hres hkd (by assumption) (by assumption) (if_neg (by omega)).symm ((if_neg (by omega)).trans (if_pos ⟨by omega, by omega⟩)).symm
          | exact back0 hB hres hkd (by assumption) (by assumption) (if_neg (by omega)).symm ((if_neg (by omega)).trans (if_neg (by omega))).symm
        case sub9 =>
          intro p hp
          have hp' := lessI_mem p hp
          repeat (first | exact hp' | refine List.Mem.tail _ ?_)
        case in9 => repeat (first | exact hmI | refine List.Mem.tail _ ?_)
  case done =>
    clear lF lN lR
    rintro ⟨N₁, b, d, co, o, tb, td, tc, to⟩ u h₁ tk₁ ⟨_, _, _, hB⟩ F' N'
    exact hB.few.elim
end Mine
end
section
open PySem PySem.W PyProof.Rows PySem.Calls
set_option Elab.async false
set_option maxRecDepth 100000
namespace Mine
section
variable {M : Model} {A : Around} {E : Value → Shared → Prop} {s : Shared} {env : Env}
theorem cut2 {s1 s2 : Stmt} {rest : List Stmt} {Q : Flow → Shared → Prop} (Mid : Shared → Prop) (h : wpAny M A (execs [s1, s2] env) (fun f s' => Hold (f = .next ∧ Mid s')) E s)
    (k : ∀ s', Mid s' → wpAny M A (execs rest env) Q E s') : wpAny M A (execs (s1 :: s2 :: rest) env) Q E s := by
  intro Γ p hΓ
  have h1 := h Γ p hΓ
  rw [execs_cons, Sem.wp_bind'] at h1 ⊢
  refine Sem.wp_mono M Γ _ (fun f p' s' h' => ?_) (fun _ _ _ h' => h') _ _ h1
  cases f with
  | next =>
    have h2 : Sem.wp M Γ (execs [s2] env) (fun a _ s' => Hold (a = .next ∧ Mid s')) (fun e _ s' => E e s') p' s' := h'
    show Sem.wp M Γ (execs (s2 :: rest) env) _ _ p' s'
    rw [execs_cons, Sem.wp_bind'] at h2 ⊢
    refine Sem.wp_mono M Γ _ (fun f p'' s'' h'' => ?_) (fun _ _ _ h' => h') _ _ h2
    cases f with
    | next => exact k s'' (And.right (show Flow.next = .next ∧ Mid s'' from h'')) Γ p'' hΓ
    | _ => exact absurd (And.left (show _ = Flow.next ∧ Mid s'' from h'')) (by intro e; cases e)
  | _ => exact absurd (And.left (show _ = Flow.next ∧ Mid s' from h')) (by intro e; cases e)
end
theorem fr_congr {h₀ h : Heap} {L : Addr} {m m' : Str → Option Value} (F : Fr h₀ L h m) (e : ∀ y, m y = m' y) : Fr h₀ L h m' := by
  rw [show m' = m from funext fun y => (e y).symm]; exact F
section
variable {prog : Program} {w : World} {A : Around} {E : Value → Shared → Prop} {s : Shared} {h₀ : Heap} {L l : Addr} {m : Str → Option Value} {news : Ledger} {g : Obj → Ledger} {us : List Value} {x v : Value} {n : Nat}
theorem last_item {value slice : Expr} {u : Tok} {Q : Value → Shared → Prop} (N : News h₀ L s.heap news) (hm : (l, W.listOf (us ++ [x]).toArray n) ∈ news) (h : Q x s)
    (hs : subscripted slice false (.ref l) (.int (-1) u) = operate [.ref l, .int (-1) u] (getItem (.ref l) (.int (-1) u)) := by with_unfolding_all rfl) (hg : ∀ r, letTemporaryGo value (.ref l) r = pure () := by intro _; with_unfolding_all rfl) :
    wpAny (model prog w) A (subscriptTail value slice (.ref l) (.int (-1) u)) Q E s := by
  have hl : s.heap.IsList l (us ++ [x]).toArray := News.isList N hm
  have hz : (us ++ [x]).toArray.size = us.length + 1 := by simp
  refine subscriptTail_builtin hl.typeIs slot_list_getitem.lookup (wpAny_getItem_list_neg hl (by decide) (by rw [hz]; omega) (by decide) ?_ h) hs hg
  rw [hz, show ((-1 : Int) + ((us.length + 1 : Nat) : Int)).toNat = us.length by omega]
  simp
theorem set_last {t : Tok} {Q : Unit → Shared → Prop} (F : Fr h₀ L s.heap m) (N : News h₀ L s.heap news) (U : UpdF l (W.listOf (us ++ [x]).toArray n) news g)
    (h : ∀ h', Fr h₀ L h' m → News h₀ L h' (g (W.listOf (us ++ [v]).toArray n)) → Q () { s with heap := h' }) :
    wpAny (model prog w) A (setItem (.ref l) (.int (-1) t) v) Q E s := by
  obtain ⟨pre, post, rfl, hgr, h1, h2⟩ := U.split
  have hm : (l, W.listOf (us ++ [x]).toArray n) ∈ pre ++ (l, W.listOf (us ++ [x]).toArray n) :: post := List.mem_append_right _ (.head _)
  have hl : s.heap.IsList l (us ++ [x]).toArray := News.isList N hm
  have ho := (N _ hm).1
  have hz : (us ++ [x]).toArray.size = us.length + 1 := by simp
  unfold setItem
  try with_reducible refine wpAny_holding ?_
  first | refine wpAny_bind (wpAny_pure ?_) | skip
  refine wpAny_bind (wpAny_sequenceKey hl.typeIs (by decide) ?_)
  refine wpAny_bind (wpAny_callSpecial?_slot (name := Str.ofString "__setitem__") hl.typeIs slot_list_setitem
    (wpAny_call_entry slot_list_setitem hl.typeIs entry_list_setitem ?_ (args_list_setitem _ _ _)))
  show wpAny _ _ (Builtin.List.listSubscript? (.int (-1) t) >>= _) _ _ s
  refine wpAny_bind (wpAny_listSubscript_int (fitsIndex_neg (by decide) (by decide)) ?_)
  have hidx := seqIndex_neg (k := -1) (n := (us ++ [x]).toArray.size) (by decide) (by rw [hz]; omega)
  rw [hz, show ((-1 : Int) + ((us.length + 1 : Nat) : Int)).toNat = us.length by omega] at hidx
  show wpAny _ _ ((Builtin.List.listItems (.ref l) >>= fun xs => pure ((seqIndex? (Int.negSucc 0) xs.size).bind fun i => xs[i]?.map (i, ·))) >>= _) _ _ s
  refine wpAny_bind (wpAny_bind ?_)
  show wpAny _ _ (seqItems? (.ref l) >>= _) _ _ s
  refine wpAny_bind (wpAny_seqItems ho rfl (wpAny_pure (wpAny_pure ?_)))
  rw [hz, show seqIndex? (Int.negSucc 0) (us.length + 1) = some us.length from hidx]
  simp only [Option.bind_some]
  rw [show (us ++ [x]).toArray[us.length]? = some x by simp]
  simp only [Option.map_some]
  refine wpAny_bind (wpAny_setSeqItemAt ho rfl ?_)
  refine wpAny_pure ⟨.none, rfl, wpAny_pure ?_⟩
  have hup : Obj.mapSeq (·.setIfInBounds us.length v) (W.listOf (us ++ [x]).toArray n) = W.listOf (us ++ [v]).toArray n := by
    simp [Obj.mapSeq, W.listOf]
  obtain ⟨F', N'⟩ := news_upd F N h1 h2 hup rfl
  exact h _ F' (by rw [hgr]; exact N')
theorem len_pile {Q : Value → Shared → Prop} (N : News h₀ L s.heap news) (hm : (l, W.listOf (us ++ [x]).toArray n) ∈ news) (hz : us.length ≤ 2000) (h : Q (.int ((us.length : Int) + 1) (s.toks + 1)) { s with toks := s.toks + 1 + 1 }) :
    wpAny (model prog w) A (call (.builtin "len") [.ref l]) Q E s := by
  have hsz : (us ++ [x]).toArray.size = us.length + 1 := by simp
  refine Calls.call_len_list (News.isList N hm) (by rw [hsz]; omega) ?_
  rw [hsz]
  exact h
theorem append_pile {Q : Value → Shared → Prop} (F : Fr h₀ L s.heap m) (N : News h₀ L s.heap news) (U : UpdF l (W.listOf (us ++ [x]).toArray n) news g) (hz : us.length ≤ 2000)
    (h : ∀ h', Fr h₀ L h' m → News h₀ L h' (g (W.listOf ((us ++ [x]) ++ [v]).toArray (n + 1))) → Q .none { s with heap := h' }) : wpAny (model prog w) A (call (.builtin "list.append") [.ref l, v]) Q E s := by
  obtain ⟨pre, post, rfl, hgr, h1, h2⟩ := U.split
  have z := N (l, W.listOf (us ++ [x]).toArray n) (List.mem_append.mpr (.inr (.head _)))
  have hsz : (us ++ [x]).toArray.size ≤ sizeLine := by rw [sizeLine_eq]; simp; omega
  refine append_at (hsz := hsz) z.1 fun h' hs ho' => h h' (F.change hs z.2.1 z.2.2) ?_
  rw [hgr]
  exact news_set N h1 h2 hs (by rw [ho']; simp)
theorem slice_pile {value slice : Expr} {t : Tok} {Q : Value → Shared → Prop} (F : Fr h₀ L s.heap m) (N : News h₀ L s.heap news) (hm : (l, W.listOf (us ++ [x]).toArray n) ∈ news) (hz : us.length ≤ 2000)
    (h : ∀ l' h', Fr h₀ L h' m → News h₀ L h' ((l', W.listOf us.toArray 0) :: news) → (∀ q ∈ news, q.1 < l') → Q (.ref l') { s with heap := h' })
    (hs : subscripted slice false (.ref l) (.ref s.heap.objs.size) = operate [.ref s.heap.objs.size, .ref l] (getItem (.ref l) (.ref s.heap.objs.size)) := by with_unfolding_all rfl)
    (ht : ∀ r, letTemporaryGo value (.ref l) r = pure () := by intro _; with_unfolding_all rfl) :
    wpAny (model prog w) A (subscriptTail value slice (.ref l) (.ref s.heap.objs.size)) Q E { s with heap := s.heap.push { cls := .type "slice", data := .fields #[.none, .int (-1) t, .none] } } := by
  refine slice_list F N (News.isList N hm) .none (.int _ _) (fun h' F' N' => ?_) hs ht (by rw [sizeLine_eq]; simp; omega)
  have e : slicePick (us ++ [x]).toArray none (some (-1)) none = us.toArray := (slicePick_butLast _ 1 (by decide)).trans (by simp)
  rw [e] at N'
  exact h _ h' F' N' fun q hq => Nat.lt_succ_of_lt (Heap.lt_size (N q hq).1)
theorem slice_init : slicePick (us ++ [x]).toArray none (some (-1)) none = us.toArray :=
  (slicePick_butLast _ 1 (by decide)).trans (by simp)
end
/-- how many signs the reader takes at a place -/
def sizeOf1 (c : Str) (k : Int) : Int := if (Txt.slice c (some k) (some (k + 2)) == "**") = true then 2 else 1
/-- is the text x a part of y -/
def partOf (y x : Str) : Bool := !(Builtin.Str.occurrences y x 0 y.length 1).isEmpty
def sizeAt (c : Str) (k : Int) : Int :=
  if partOf "*=" (Txt.item c k) = true ∧ (Txt.slice c (some (k + sizeOf1 c k)) (some (k + sizeOf1 c k + 1)) == "=") = true then sizeOf1 c k + 1 else sizeOf1 c k
abbrev T3 := Int × Int × Int
/-- the reader's turn: the pile below (its top first), the top -/
def astep (c : Str) (col k : Int) (qs : List T3) (t : T3) : List T3 × T3 :=
  if partOf "([{" (Txt.item c k) = true then (t :: qs, (k, 0, 0))
  else if partOf ")]}" (Txt.item c k) = true then (match qs with | [] => ([], (-1, 0, 0)) | q :: r => (r, q))
  else if (Txt.item c k == ",") = true then (qs, (t.1, t.2.1 + 1, 0))
  else if (Txt.item c k == " ") = false ∧ k + sizeAt c k ≤ col then (qs, (t.1, t.2.1, t.2.2 + 1))
  else (qs, t)
inductive Ahd (c : Str) (col : Int) : Int → List T3 → T3 → Prop where
  | start : Ahd c col 0 [] (-1, 0, 0)
  | step {k : Int} {qs : List T3} {t : T3} : Ahd c col k qs t → k < col → k < c.length → Ahd c col (k + sizeAt c k) (astep c col k qs t).1 (astep c col k qs t).2
def AheadRes (c : Str) (marked : Bool) (col x y z : Int) : Prop :=
  ∃ k qs o, Ahd c col k qs (x, y, o) ∧ ¬ (k < col ∧ k < c.length) ∧ z = if marked = true ∧ (c.length : Int) < col then o + 1 else o
theorem sizeAt_pos (c : Str) (k : Int) : 1 ≤ sizeAt c k ∧ sizeAt c k ≤ 3 := by
  unfold sizeAt sizeOf1; (repeat' split) <;> omega
def TupsAt (R : Ledger) : List Value → List T3 → Prop
  | [], [] => True
  | v :: vs, q :: qs => (∃ b tx ty tz, v = .ref b ∧ (b, ({ cls := .type "tuple", data := .seq #[.int q.1 tx, .int q.2.1 ty, .int q.2.2 tz] } : Obj)) ∈ R) ∧ TupsAt R vs qs
  | _, _ => False
theorem TupsAt.sub {R R' : Ledger} (h : ∀ p ∈ R, p ∈ R') : ∀ {vs : List Value} {qs : List T3}, TupsAt R vs qs → TupsAt R' vs qs
  | [], [], _ => trivial
  | _ :: _, _ :: _, ⟨⟨b, tx, ty, tz, e, m⟩, r⟩ => ⟨⟨b, tx, ty, tz, e, h _ m⟩, r.sub h⟩
abbrev tup3a (x y z : Int) (tx ty tz : Tok) : Obj := { cls := .type "tuple", data := .seq #[.int x tx, .int y ty, .int z tz] }
structure AhSt where
  R : Ledger
  l : Nat
  n : Nat
  vs : List Value
  a : Nat
  x : Int
  y : Int
  z : Int
  tx : Tok
  ty : Tok
  tz : Tok
  k : Int
  tk : Tok
  qs : List T3
def AhInv (row : Str) (col : Int) (news : Ledger) (c : AhSt) : Prop :=
  c.l ≠ c.a ∧ (∀ p ∈ c.R, p.1 ≠ c.l) ∧ (∀ p ∈ news, p ∈ c.R) ∧ 0 ≤ c.k ∧ c.vs.length ≤ c.k.toNat ∧ c.k ≤ row.length + 3 ∧ TupsAt c.R c.vs c.qs ∧ Ahd row col c.k c.qs (c.x, c.y, c.z)
theorem part_t {y x : Str} (h : (Builtin.Str.occurrences y x 0 y.length 1).isEmpty = false) : partOf y x = true := by simp [partOf, h]
theorem part_f {y x : Str} (h : (Builtin.Str.occurrences y x 0 y.length 1).isEmpty = true) : partOf y x = false := by simp [partOf, h]
section
variable {c : Str} {k : Int}
theorem size_2 (h1 : (Txt.slice c (some k) (some (k + 2)) == "**") = true) (h2 : (Builtin.Str.occurrences "*=" (Txt.item c k) 0 ("*=" : Str).length 1).isEmpty = true) : sizeAt c k = 2 := by
  have e : sizeOf1 c k = 2 := if_pos h1
  unfold sizeAt; rw [e, if_neg (by rw [part_f h2]; simp)]
theorem size_3 (h1 : (Txt.slice c (some k) (some (k + 2)) == "**") = true) (h2 : (Builtin.Str.occurrences "*=" (Txt.item c k) 0 ("*=" : Str).length 1).isEmpty = false) (h3 : (Txt.slice c (some (k + 2)) (some (k + 2 + 1)) == "=") = true) : sizeAt c k = 2 + 1 := by
  have e : sizeOf1 c k = 2 := if_pos h1
  unfold sizeAt; rw [e, if_pos ⟨part_t h2, h3⟩]
theorem size_2' (h1 : (Txt.slice c (some k) (some (k + 2)) == "**") = true) (h3 : (Txt.slice c (some (k + 2)) (some (k + 2 + 1)) == "=") = false) : sizeAt c k = 2 := by
  have e : sizeOf1 c k = 2 := if_pos h1
  unfold sizeAt; rw [e, if_neg (by rw [h3]; simp)]
theorem size_1 (h1 : (Txt.slice c (some k) (some (k + 2)) == "**") = false) (h2 : (Builtin.Str.occurrences "*=" (Txt.item c k) 0 ("*=" : Str).length 1).isEmpty = true) : sizeAt c k = 1 := by
  have e : sizeOf1 c k = 1 := if_neg (by rw [h1]; simp)
  unfold sizeAt; rw [e, if_neg (by rw [part_f h2]; simp)]
theorem size_1b (h1 : (Txt.slice c (some k) (some (k + 2)) == "**") = false) (h2 : (Builtin.Str.occurrences "*=" (Txt.item c k) 0 ("*=" : Str).length 1).isEmpty = false) (h3 : (Txt.slice c (some (k + 1)) (some (k + 1 + 1)) == "=") = true) : sizeAt c k = 1 + 1 := by
  have e : sizeOf1 c k = 1 := if_neg (by rw [h1]; simp)
  unfold sizeAt; rw [e, if_pos ⟨part_t h2, h3⟩]
theorem size_1' (h1 : (Txt.slice c (some k) (some (k + 2)) == "**") = false) (h3 : (Txt.slice c (some (k + 1)) (some (k + 1 + 1)) == "=") = false) : sizeAt c k = 1 := by
  have e : sizeOf1 c k = 1 := if_neg (by rw [h1]; simp)
  unfold sizeAt; rw [e, if_neg (by rw [h3]; simp)]
end
section
variable {row : Str} {col : Int} {news R : Ledger} {l n a D : Nat} {vs : List Value} {x y z k : Int} {tx ty tz tk ta tb tc td : Tok} {qs : List T3}
theorem Ahd.to {qs' : List T3} {t t' : T3} (h : Ahd row col k qs t) (h1 : k < col) (h2 : k < row.length) (e : astep row col k qs t = (qs', t')) : Ahd row col (k + sizeAt row k) qs' t' := by
  have := Ahd.step h h1 h2
  rw [e] at this
  exact this
theorem inv_set {y' z' : Int} (h : AhInv row col news ⟨R, l, n, vs, a, x, y, z, tx, ty, tz, k, tk, qs⟩) (h1 : k < col) (h2 : k < row.length) (hD : l < D) (e : astep row col k qs (x, y, z) = (qs, (x, y', z'))) :
    AhInv row col news ⟨(a, tup3a x y z tx ty tz) :: R, l, n, vs, D, x, y', z', ta, tb, tc, k + sizeAt row k, td, qs⟩ := by
  obtain ⟨q1, q2, q3, q4, q5, q6, q7, q8⟩ := h
  dsimp only at *
  have hs := sizeAt_pos row k
  refine ⟨Nat.ne_of_lt hD, fun p hp => ?_, fun p hp => .tail _ (q3 p hp), by dsimp only; omega, by dsimp only; omega, by dsimp only; omega, q7.sub fun _ hp => .tail _ hp, q8.to h1 h2 e⟩
  rcases List.mem_cons.mp hp with rfl | hp
  · exact q1.symm
  · exact q2 p hp
theorem inv_same (h : AhInv row col news ⟨R, l, n, vs, a, x, y, z, tx, ty, tz, k, tk, qs⟩) (h1 : k < col) (h2 : k < row.length) (e : astep row col k qs (x, y, z) = (qs, (x, y, z))) :
    AhInv row col news ⟨R, l, n, vs, a, x, y, z, tx, ty, tz, k + sizeAt row k, td, qs⟩ := by
  obtain ⟨q1, q2, q3, q4, q5, q6, q7, q8⟩ := h
  dsimp only at *
  have hs := sizeAt_pos row k
  exact ⟨q1, q2, q3, by dsimp only; omega, by dsimp only; omega, by dsimp only; omega, q7, q8.to h1 h2 e⟩
theorem inv_push (h : AhInv row col news ⟨R, l, n, vs, a, x, y, z, tx, ty, tz, k, tk, qs⟩) (h1 : k < col) (h2 : k < row.length) (hD : l < D) (e1 : partOf "([{" (Txt.item row k) = true) :
    AhInv row col news ⟨(a, tup3a x y z tx ty tz) :: R, l, n + 1, .ref a :: vs, D, k, 0, 0, ta, tb, tc, k + sizeAt row k, td, (x, y, z) :: qs⟩ := by
  obtain ⟨q1, q2, q3, q4, q5, q6, q7, q8⟩ := h
  dsimp only at *
  have hs := sizeAt_pos row k
  refine ⟨Nat.ne_of_lt hD, fun p hp => ?_, fun p hp => .tail _ (q3 p hp), by dsimp only; omega, by dsimp only [List.length_cons]; omega, by dsimp only; omega, ⟨⟨a, tx, ty, tz, rfl, .head _⟩, q7.sub fun _ hp => .tail _ hp⟩, q8.to h1 h2 (by unfold astep; rw [if_pos e1])⟩
  rcases List.mem_cons.mp hp with rfl | hp
  · exact q1.symm
  · exact q2 p hp
theorem TupsAt.nil_left (h : TupsAt R [] qs) : qs = [] := by cases qs with | nil => rfl | cons _ _ => exact h.elim
theorem inv_reset {l' : Nat} (h : AhInv row col news ⟨R, l, n, vs, a, x, y, z, tx, ty, tz, k, tk, qs⟩) (h1 : k < col) (h2 : k < row.length) (hv : vs = []) (hD : D < l') (hl : ∀ p ∈ R, p.1 ≠ l') (e1 : partOf "([{" (Txt.item row k) = false) (e2 : partOf ")]}" (Txt.item row k) = true) :
    AhInv row col news ⟨R, l', 0, [], D, -1, 0, 0, ta, tb, tc, k + sizeAt row k, td, []⟩ := by
  obtain ⟨q1, q2, q3, q4, q5, q6, q7, q8⟩ := h
  dsimp only at *
  subst hv
  obtain rfl := q7.nil_left
  have hs := sizeAt_pos row k
  exact ⟨Nat.ne_of_gt hD, hl, q3, by dsimp only; omega, Nat.zero_le _, by dsimp only; omega, trivial, q8.to h1 h2 (by unfold astep; rw [if_neg (by simp [e1]), if_pos e2])⟩
theorem inv_pop {l' : Nat} (h : AhInv row col news ⟨R, l, n, vs, a, x, y, z, tx, ty, tz, k, tk, qs⟩) (h1 : k < col) (h2 : k < row.length) (hv : 0 < vs.length) (hl : ∀ p ∈ R, p.1 ≠ l') (e1 : partOf "([{" (Txt.item row k) = false) (e2 : partOf ")]}" (Txt.item row k) = true) :
    ∃ vs' b x' y' z' ta tb tc qs', vs.reverse = vs'.reverse ++ [Value.ref b] ∧ (b, tup3a x' y' z' ta tb tc) ∈ R ∧ ∀ td, AhInv row col news ⟨R, l', 0, vs', b, x', y', z', ta, tb, tc, k + sizeAt row k, td, qs'⟩ := by
  obtain ⟨q1, q2, q3, q4, q5, q6, q7, q8⟩ := h
  dsimp only at *
  have hs := sizeAt_pos row k
  cases vs with
  | nil => exact absurd hv (Nat.lt_irrefl _)
  | cons v vs' =>
    cases qs with
    | nil => exact q7.elim
    | cons q qs' =>
      obtain ⟨⟨b, ta, tb, tc, rfl, hm⟩, q7⟩ := q7
      refine ⟨vs', b, q.1, q.2.1, q.2.2, ta, tb, tc, qs', by simp, hm, fun td => ⟨fun e => hl _ hm e.symm, hl, q3, by dsimp only; omega, ?_, by dsimp only; omega, q7, q8.to h1 h2 (by unfold astep; rw [if_neg (by simp [e1]), if_pos e2])⟩⟩
      simp only [List.length_cons] at q5
      dsimp only; omega
end
end Mine
end
section
open PySem PySem.W PyProof.Rows PySem.Calls
set_option Elab.async false
set_option maxRecDepth 100000
namespace Mine
theorem fill7 : Challenge.rw_mr0173_01 = Challenge.rw_mr0173_01 ∧ hd.heap_39 = hd.heap_39 := by
  k_fill
  exact ⟨rfl, rfl⟩
local macro_rules | `(tactic| k_all) => `(tactic| first | assumption | exact off_of_allLt (by assumption) (by omega))
local macro_rules | `(tactic| walk_at "exec While Compare cons nil") => `(tactic| refine hold_out ?_)
local macro_rules | `(tactic| walk_at "KswPost") => `(tactic| (dsimp only [KswPost]))
local macro_rules | `(tactic| walk_at "KswEnd") => `(tactic| refine hold_out ?_)
local macro_rules | `(tactic| walk_at "execs cons Assign cons") => `(tactic| ((with_reducible show wpAny _ _ (execs (Stmt.Assign _ (Expr.IfExp _ _ _ _) _ :: _ :: _ :: _) _) _ _ _); refine hold_out ?_))
local macro_rules | `(tactic| walk_at "execs cons") => `(tactic| ((with_reducible show wpAny _ _ (execs (Stmt.Assign _ (Expr.IfExp _ _ _ _) _ :: _ :: _ :: _) _) _ _ _); refine hold_out ?_))
local macro_rules | `(tactic| walk_at "subscriptTail Name UnaryOp") => `(tactic| (k_here; k_dflt (refine' last_item ?N ?m ?_ ?hs ?hg; (case N => k_asm); (case m => k_mem); (case hs => with_unfolding_all rfl); (case hg => intro _; with_unfolding_all rfl))))
local macro_rules | `(tactic| walk_at "setItem") => `(tactic| (k_here; k_dflt (refine' set_last ?F ?N ?U ?_; (case F => k_asm); (case N => k_asm); (case U => k_updF)); intro h' F' N'; (try dsimp only at N')))
local macro_rules | `(tactic| walk_at "call builtin:len") => `(tactic| (k_here; (with_reducible show wpAny _ _ (call (Value.builtin "len") [Value.ref _]) _ _ _); k_dflt (refine' len_pile ?N ?m ?z ?_; (case N => k_asm); (case m => k_mem); (case z => (rw [List.length_reverse]; omega)))))
local macro_rules | `(tactic| walk_at "call builtin:list.append") => `(tactic| (k_here; k_dflt (refine' append_pile ?F ?N ?U ?z ?_; (case F => k_asm); (case N => k_asm); (case U => k_updF); (case z => (rw [List.length_reverse]; omega))); intro h' F' N'; (try dsimp only at N')))
local macro_rules | `(tactic| walk_at "subscriptTail Name Slice ref ref") => `(tactic| (k_here; k_dflt (refine' slice_pile ?F ?N ?m ?z ?_ ?hs ?ht; (case F => k_asm); (case N => k_asm); (case m => k_mem); (case z => (rw [List.length_reverse]; omega)); (case hs => with_unfolding_all rfl); (case ht => (intro _; with_unfolding_all rfl))); intro l' h' F' N' l1; (try k_lt l1)))
variable {w : World} {p : Program} {loose : List Str} {mean : ExcName → Option Value} {mg mb : Str → Option Value}
set_option maxHeartbeats 8000000 in
theorem ahead_ct {lb : Nat} (row : Str) (ti : Tok) (col : Int) (tj : Tok) (marked : Bool) (hl : row.length ≤ 900) :
    Ct lb w p loose mean mg mb 4 59 [.str row ti, .int col tj, .bool marked] (fun _ => True) (fun N v => ∃ t x y z tx ty tz, v = .ref t ∧ (t, tup3a x y z tx ty tz) ∈ N ∧ AheadRes row marked col x y z) := by
  intro dp un gd cn cs a ccd cl outer A₀ base h₀ L m news s Q E B F X N T hk ht _ hd hu ret
  refine wpAny_call ?_
  k_dflt (refine' code_def ?k1 ?k2 ?k3 ?k4 ?k5 ?kA ?kF ?kK ?k6 ?k7 ?k8 ?k9 ?kB ?_ ?c2 ?c3 ?c4 ?c5; (case kA => exact rfl); (case kF => exact rfl); (case kK => assumption); (case k1 => k_asm); (case k2 => k_asm); (case k3 => k_asm); (case k4 => k_asm); (case k5 => k_asm); (case k6 => k_is); (case k7 => k_is); (case k8 => ktr_room); (case k9 => exact BindsTo.of_eq rfl); (case c5 => decide); (case kB => exact locs rfl); (case c2 => exact rfl); (case c3 => exact rfl); (case c4 => exact rfl); k_whole; intro g' L' h' FG' F' N' B' X' T')
  replace F' : Fr g' L' h' (fun y => List.lookup y [("marked", .bool marked), ("column", .int col tj), ("row", .str row ti)]) := F'
  dsimp only
  generalize s.toks + List.length _ = tk₀
  (try k_fold)
  k_steps
  unfold Hold
  (with_reducible rename Fr _ _ _ _ => lF)
  (with_reducible rename News _ _ _ _ => lN)
  rename_i D₁ _ hD₁ l₁ _ hl₁ _ _
  refine ksw_while (σ := AhSt) (fun c => (c.l, W.listOf (c.vs.reverse ++ [Value.ref c.a]).toArray c.n) :: (c.a, tup3a c.x c.y c.z c.tx c.ty c.tz) :: c.R) (fun c => [("pile", Value.ref c.l), ("at", Value.int c.k c.tk)]) (fun _ => True) ["size", "place", "commas", "others"]
      (AhInv row col news)
      (fun c => (row.length + 3 - c.k).toNat) ⟨news, l₁, 0, [], D₁, -1, 0, 0, _, _, _, 0, ?ta, []⟩ lF lN trivial ?ps ⟨?n1, ?off, fun _ hp => hp, Int.le_refl 0, Nat.le_refl 0, by show (0 : Int) ≤ _; omega, trivial, .start⟩ ?_ ?pass
  case ps => kst_all
  case pass => passes_own
  case n1 => exact Nat.ne_of_gt hl₁.1
  case off => exact off_of_allLt hl₁.2 (Nat.le_refl _)
  clear lF lN
  rintro ⟨R, lp, np, vs, ap, xp, yp, zp, txp, typ, tzp, pl, tpl, qs⟩ u h₁ tk₁ _ hInv F' N'
  obtain ⟨hne, hoff, hkeep, h0, hvs, h3, hT, hA⟩ := id hInv
  dsimp only at hne hoff hkeep h0 hvs h3 hT hA F' N'
  dsimp only [kstB] at F'
  (try k_fold)
  k_steps
  · unfold Hold
    (with_reducible rename Fr _ _ _ _ => lF)
    (with_reducible rename News _ _ _ _ => lN)
    (rename (_ < _) => hlt)
    have hkc : pl < col := by revert hlt; split <;> intro hlt <;> omega
    have hkl : pl < row.length := by revert hlt; split <;> intro hlt <;> omega
    refine cut2 (fun s' => ∃ h₂ tk₂ t₂, s' = { s with heap := h₂, toks := tk₂ } ∧ Fr g' L' h₂ (fun y => if y = "size" then some (.int (sizeAt row pl) t₂) else if y = "pile" then some (Value.ref lp) else if y = "at" then some (Value.int pl tpl) else if (["size", "place", "commas", "others"] : List Str).contains y = true then u y else List.lookup y [("marked", .bool marked), ("column", .int col tj), ("row", .str row ti)]) ∧
      News g' L' h₂ ((lp, W.listOf (vs.reverse ++ [Value.ref ap]).toArray np) :: (ap, tup3a xp yp zp txp typ tzp) :: R)) ?_ ?_
    · k_steps
      · unfold Hold
        (with_reducible rename Fr _ _ _ _ => lF2)
        (with_reducible rename News _ _ _ _ => lN2)
        have hsz : sizeAt row pl = 2 := size_2 (by assumption) (by assumption)
        refine ⟨rfl, _, _, ?ts0, rfl, fr_congr lF2 ?fs0, lN2⟩
        case fs0 =>
          intro y
          by_cases hy : y = "size"
          · simp only [if_pos hy]; rw [hsz]
          · simp only [if_neg hy]
            by_cases hy1 : y = "pile"
            · simp [hy1]
            · by_cases hy2 : y = "at"
              · simp [hy2]
              · simp [hy1, hy2]
      · unfold Hold
        (with_reducible rename Fr _ _ _ _ => lF2)
        (with_reducible rename News _ _ _ _ => lN2)
        have hsz : sizeAt row pl = 2 + 1 := size_3 (by assumption) (by assumption) (by assumption)
        refine ⟨rfl, _, _, ?ts1, rfl, fr_congr lF2 ?fs1, lN2⟩
        case fs1 =>
          intro y
          by_cases hy : y = "size"
          · simp only [if_pos hy]; rw [hsz]
          · simp only [if_neg hy]
            by_cases hy1 : y = "pile"
            · simp [hy1]
            · by_cases hy2 : y = "at"
              · simp [hy2]
              · simp [hy1, hy2]
      · unfold Hold
        (with_reducible rename Fr _ _ _ _ => lF2)
        (with_reducible rename News _ _ _ _ => lN2)
        have hsz : sizeAt row pl = 2 := size_2' (by assumption) (by assumption)
        refine ⟨rfl, _, _, ?ts2, rfl, fr_congr lF2 ?fs2, lN2⟩
        case fs2 =>
          intro y
          by_cases hy : y = "size"
          · simp only [if_pos hy]; rw [hsz]
          · simp only [if_neg hy]
            by_cases hy1 : y = "pile"
            · simp [hy1]
            · by_cases hy2 : y = "at"
              · simp [hy2]
              · simp [hy1, hy2]
      · unfold Hold
        (with_reducible rename Fr _ _ _ _ => lF2)
        (with_reducible rename News _ _ _ _ => lN2)
        have hsz : sizeAt row pl = 1 := size_1 (by assumption) (by assumption)
        refine ⟨rfl, _, _, ?ts3, rfl, fr_congr lF2 ?fs3, lN2⟩
        case fs3 =>
          intro y
          by_cases hy : y = "size"
          · simp only [if_pos hy]; rw [hsz]
          · simp only [if_neg hy]
            by_cases hy1 : y = "pile"
            · simp [hy1]
            · by_cases hy2 : y = "at"
              · simp [hy2]
              · simp [hy1, hy2]
      · unfold Hold
        (with_reducible rename Fr _ _ _ _ => lF2)
        (with_reducible rename News _ _ _ _ => lN2)
        have hsz : sizeAt row pl = 1 + 1 := size_1b (by assumption) (by assumption) (by assumption)
        refine ⟨rfl, _, _, ?ts4, rfl, fr_congr lF2 ?fs4, lN2⟩
        case fs4 =>
          intro y
          by_cases hy : y = "size"
          · simp only [if_pos hy]; rw [hsz]
          · simp only [if_neg hy]
            by_cases hy1 : y = "pile"
            · simp [hy1]
            · by_cases hy2 : y = "at"
              · simp [hy2]
              · simp [hy1, hy2]
      · unfold Hold
        (with_reducible rename Fr _ _ _ _ => lF2)
        (with_reducible rename News _ _ _ _ => lN2)
        have hsz : sizeAt row pl = 1 := size_1' (by assumption) (by assumption)
        refine ⟨rfl, _, _, ?ts5, rfl, fr_congr lF2 ?fs5, lN2⟩
        case fs5 =>
          intro y
          by_cases hy : y = "size"
          · simp only [if_pos hy]; rw [hsz]
          · simp only [if_neg hy]
            by_cases hy1 : y = "pile"
            · simp [hy1]
            · by_cases hy2 : y = "at"
              · simp [hy2]
              · simp [hy1, hy2]
    · rintro s' ⟨h₂, tk₂, t₂, rfl, F', N'⟩
      clear lF lN
      (try k_fold)
      have hsz := sizeAt_pos row pl
      generalize hS : sizeAt row pl = sz at F' hsz
      k_steps
      · subst hS
        unfold Hold
        (with_reducible rename Fr _ _ _ _ => lF2)
        (with_reducible rename News _ _ _ _ => lN2)
        refine ksw_end (⟨(ap, tup3a xp yp zp txp typ tzp) :: R, lp, np, vs, ?De1, xp, (yp + 1), 0, ?tae1, ?tbe1, ?tce1, pl + sizeAt row pl, ?tde1, qs⟩ : AhSt) lF2 lN2 ?hne1 trivial ?pse1 ?sme1 (inv_set hInv hkc hkl ?lte1 ?ese1) ?mse1
        case hne1 => exact List.forall_mem_cons.mpr ⟨by k_dflt k_mem, List.forall_mem_cons.mpr ⟨by k_dflt k_mem, fun p hp => .tail _ (.tail _ hp)⟩⟩
        case lte1 => (rename (_ ∧ _ ∧ AllLt _ _) => hl1); exact hl1.1
        case ese1 => unfold astep; rw [if_neg (by rw [part_f (by assumption)]; simp), if_neg (by rw [part_f (by assumption)]; simp), if_pos (by assumption)]
        case pse1 => kst_all
        case sme1 =>
          intro z h2 h3
          simp only [List.forall_mem_cons, List.not_mem_nil, false_implies, implies_true, and_true, ne_eq] at h2
          simp only [List.contains_cons, List.contains_nil, Bool.or_false, Bool.or_eq_false_iff, beq_eq_false_iff_ne, ne_eq] at h3
          simp [h2, h3]
        case mse1 =>
          show (row.length + 3 - (pl + sizeAt row pl)).toNat < (row.length + 3 - pl).toNat
          omega
      · subst hS
        unfold Hold
        (with_reducible rename Fr _ _ _ _ => lF2)
        (with_reducible rename News _ _ _ _ => lN2)
        refine ksw_end (⟨(ap, tup3a xp yp zp txp typ tzp) :: R, lp, np, vs, ?De2, xp, yp, (zp + 1), ?tae2, ?tbe2, ?tce2, pl + sizeAt row pl, ?tde2, qs⟩ : AhSt) lF2 lN2 ?hne2 trivial ?pse2 ?sme2 (inv_set hInv hkc hkl ?lte2 ?ese2) ?mse2
        case hne2 => exact List.forall_mem_cons.mpr ⟨by k_dflt k_mem, List.forall_mem_cons.mpr ⟨by k_dflt k_mem, fun p hp => .tail _ (.tail _ hp)⟩⟩
        case lte2 => (rename (_ ∧ _ ∧ AllLt _ _) => hl1); exact hl1.1
        case ese2 => unfold astep; rw [if_neg (by rw [part_f (by assumption)]; simp), if_neg (by rw [part_f (by assumption)]; simp), if_neg (by rename (_ == ("," : Str)) = false => hc; rw [hc]; simp), if_pos ⟨by rename (_ != (" " : Str)) = true => hc; simpa using hc, by assumption⟩]
        case pse2 => kst_all
        case sme2 =>
          intro z h2 h3
          simp only [List.forall_mem_cons, List.not_mem_nil, false_implies, implies_true, and_true, ne_eq] at h2
          simp only [List.contains_cons, List.contains_nil, Bool.or_false, Bool.or_eq_false_iff, beq_eq_false_iff_ne, ne_eq] at h3
          simp [h2, h3]
        case mse2 =>
          show (row.length + 3 - (pl + sizeAt row pl)).toNat < (row.length + 3 - pl).toNat
          omega
      · subst hS
        unfold Hold
        (with_reducible rename Fr _ _ _ _ => lF2)
        (with_reducible rename News _ _ _ _ => lN2)
        refine ksw_end (⟨R, lp, np, vs, ap, xp, yp, zp, txp, typ, tzp, pl + sizeAt row pl, ?tde3, qs⟩ : AhSt) lF2 lN2 (fun _ hp => hp) trivial ?pse3 ?sme3 (inv_same hInv hkc hkl ?ese3) ?mse3
        case ese3 => unfold astep; rw [if_neg (by rw [part_f (by assumption)]; simp), if_neg (by rw [part_f (by assumption)]; simp), if_neg (by rename (_ == ("," : Str)) = false => hc; rw [hc]; simp), if_neg (fun hc => absurd hc.2 (by assumption))]
        case pse3 => kst_all
        case sme3 =>
          intro z h2 h3
          simp only [List.forall_mem_cons, List.not_mem_nil, false_implies, implies_true, and_true, ne_eq] at h2
          simp only [List.contains_cons, List.contains_nil, Bool.or_false, Bool.or_eq_false_iff, beq_eq_false_iff_ne, ne_eq] at h3
          simp [h2, h3]
        case mse3 =>
          show (row.length + 3 - (pl + sizeAt row pl)).toNat < (row.length + 3 - pl).toNat
          omega
      · subst hS
        unfold Hold
        (with_reducible rename Fr _ _ _ _ => lF2)
        (with_reducible rename News _ _ _ _ => lN2)
        refine ksw_end (⟨R, lp, np, vs, ap, xp, yp, zp, txp, typ, tzp, pl + sizeAt row pl, ?tde4, qs⟩ : AhSt) lF2 lN2 (fun _ hp => hp) trivial ?pse4 ?sme4 (inv_same hInv hkc hkl ?ese4) ?mse4
        case ese4 => unfold astep; rw [if_neg (by rw [part_f (by assumption)]; simp), if_neg (by rw [part_f (by assumption)]; simp), if_neg (by rename (_ == ("," : Str)) = false => hc; rw [hc]; simp), if_neg (fun hc => by rename (_ != (" " : Str)) = false => hd; have := hc.1; simp_all)]
        case pse4 => kst_all
        case sme4 =>
          intro z h2 h3
          simp only [List.forall_mem_cons, List.not_mem_nil, false_implies, implies_true, and_true, ne_eq] at h2
          simp only [List.contains_cons, List.contains_nil, Bool.or_false, Bool.or_eq_false_iff, beq_eq_false_iff_ne, ne_eq] at h3
          simp [h2, h3]
        case mse4 =>
          show (row.length + 3 - (pl + sizeAt row pl)).toNat < (row.length + 3 - pl).toNat
          omega
      · subst hS
        unfold Hold
        (with_reducible rename Fr _ _ _ _ => lF2)
        (with_reducible rename News _ _ _ _ => lN2)
        (rename (_ ∧ _ ∧ AllLt _ _) => hl1)
        have hlv : 0 < vs.length := by (rename (1 < _) => hgt); rw [List.length_reverse] at hgt; omega
        obtain ⟨vs', b, x', y', z', ta', tb', tc', qs', er, hb, hi⟩ := inv_pop hInv hkc hkl hlv (off_of_allLt hl1.2.2 (Nat.le_refl _)) (part_f (by assumption)) (part_t (by assumption))
        rw [er] at lN2
        refine ksw_end (⟨R, _, 0, vs', b, x', y', z', ta', tb', tc', pl + sizeAt row pl, ?tde5, qs'⟩ : AhSt) lF2 lN2 ?hne5 trivial ?pse5 ?sme5 (hi _) ?mse5
        case hne5 => exact List.forall_mem_cons.mpr ⟨.head _, List.forall_mem_cons.mpr ⟨.tail _ (.tail _ (.tail _ hb)), fun p hp => .tail _ (.tail _ (.tail _ hp))⟩⟩
        case pse5 => kst_all
        case sme5 =>
          intro z h2 h3
          simp only [List.forall_mem_cons, List.not_mem_nil, false_implies, implies_true, and_true, ne_eq] at h2
          simp only [List.contains_cons, List.contains_nil, Bool.or_false, Bool.or_eq_false_iff, beq_eq_false_iff_ne, ne_eq] at h3
          simp [h2, h3]
        case mse5 =>
          show (row.length + 3 - (pl + sizeAt row pl)).toNat < (row.length + 3 - pl).toNat
          omega
      · subst hS
        unfold Hold
        (with_reducible rename Fr _ _ _ _ => lF2)
        (with_reducible rename News _ _ _ _ => lN2)
        (rename (_ ∧ _ ∧ _ ∧ AllLt _ _) => hl1)
        refine ksw_end (⟨R, _, 0, [], _, -1, 0, 0, ?tae6, ?tbe6, ?tce6, pl + sizeAt row pl, ?tde6, []⟩ : AhSt) lF2 lN2 ?hne6 trivial ?pse6 ?sme6 (inv_reset hInv hkc hkl ?lve6 hl1.1 (off_of_allLt hl1.2.2.2 (Nat.le_refl _)) (part_f (by assumption)) (part_t (by assumption))) ?mse6
        case hne6 => exact List.forall_mem_cons.mpr ⟨by k_dflt k_mem, List.forall_mem_cons.mpr ⟨by k_dflt k_mem, fun p hp => .tail _ (.tail _ (.tail _ (.tail _ hp)))⟩⟩
        case lve6 => (rename ¬ (1 < _) => hgt); rw [List.length_reverse] at hgt; exact List.length_eq_zero_iff.mp (by omega)
        case pse6 => kst_all
        case sme6 =>
          intro z h2 h3
          simp only [List.forall_mem_cons, List.not_mem_nil, false_implies, implies_true, and_true, ne_eq] at h2
          simp only [List.contains_cons, List.contains_nil, Bool.or_false, Bool.or_eq_false_iff, beq_eq_false_iff_ne, ne_eq] at h3
          simp [h2, h3]
        case mse6 =>
          show (row.length + 3 - (pl + sizeAt row pl)).toNat < (row.length + 3 - pl).toNat
          omega
      · subst hS
        unfold Hold
        (with_reducible rename Fr _ _ _ _ => lF2)
        (with_reducible rename News _ _ _ _ => lN2)
        (rename (_ ∧ _ ∧ AllLt _ _) => hl1)
        refine ksw_end (⟨(ap, tup3a xp yp zp txp typ tzp) :: R, lp, np + 1, .ref ap :: vs, _, pl, 0, 0, ?tae7, ?tbe7, ?tce7, pl + sizeAt row pl, ?tde7, (xp, yp, zp) :: qs⟩ : AhSt) lF2 lN2 ?hne7 trivial ?pse7 ?sme7 (inv_push hInv hkc hkl hl1.1 (part_t (by assumption))) ?mse7
        case hne7 =>
          refine List.forall_mem_cons.mpr ⟨?_, List.forall_mem_cons.mpr ⟨by k_dflt k_mem, fun p hp => .tail _ (.tail _ hp)⟩⟩
          dsimp only
          rw [List.reverse_cons]
          exact .tail _ (.head _)
        case pse7 => kst_all
        case sme7 =>
          intro z h2 h3
          simp only [List.forall_mem_cons, List.not_mem_nil, false_implies, implies_true, and_true, ne_eq] at h2
          simp only [List.contains_cons, List.contains_nil, Bool.or_false, Bool.or_eq_false_iff, beq_eq_false_iff_ne, ne_eq] at h3
          simp [h2, h3]
        case mse7 =>
          show (row.length + 3 - (pl + sizeAt row pl)).toNat < (row.length + 3 - pl).toNat
          omega
  · (with_reducible rename Fr _ _ _ _ => kF)
    (with_reducible rename News _ _ _ _ => kN)
    refine ret _ _ _ _ kF kN (fun p hp _ => .tail _ (.tail _ (.tail _ (hkeep p hp)))) (ht.sub fun p hp => .tail _ (.tail _ (.tail _ (hkeep p hp)))) ⟨_, xp, yp, zp + 1, _, _, _, rfl, .head _, pl, qs, zp, hA, ?_, ?_⟩
    · rename ¬ (_ < _) => hlt; revert hlt; split <;> intro hlt <;> omega
    · exact (if_pos ⟨by assumption, by omega⟩).symm
  · (with_reducible rename Fr _ _ _ _ => kF)
    (with_reducible rename News _ _ _ _ => kN)
    refine ret _ _ _ _ kF kN (fun p hp _ => .tail _ (.tail _ (.tail _ (hkeep p hp)))) (ht.sub fun p hp => .tail _ (.tail _ (.tail _ (hkeep p hp)))) ⟨_, xp, yp, zp, _, _, _, rfl, .head _, pl, qs, zp, hA, ?_, ?_⟩
    · rename ¬ (pl < _) => hlt; revert hlt; split <;> intro hlt <;> omega
    · exact (if_neg (fun hc => by omega)).symm
  · (with_reducible rename Fr _ _ _ _ => kF)
    (with_reducible rename News _ _ _ _ => kN)
    refine ret _ _ _ _ kF kN (fun p hp _ => .tail _ (.tail _ (.tail _ (hkeep p hp)))) (ht.sub fun p hp => .tail _ (.tail _ (.tail _ (hkeep p hp)))) ⟨_, xp, yp, zp, _, _, _, rfl, .head _, pl, qs, zp, hA, ?_, ?_⟩
    · rename ¬ (_ < _) => hlt; revert hlt; split <;> intro hlt <;> omega
    · rename marked = false => hf; exact (if_neg (fun hc => by rw [hf] at hc; exact absurd hc.1 (by decide))).symm
end Mine
end
section
open PySem PySem.W PyProof.Rows
namespace Mine
def nxt (x : Int × Int) : Int := if x.1 = x.2 then x.2 + 1 else x.2
def nxtL : List (Int × Int) → Int
  | [] => 0
  | x :: _ => nxt x
/-- matches one after the other, the latest first -/
def Chain (c : Str) (marked : Bool) : List (Int × Int) → Prop
  | [] => True
  | x :: r => Found c marked (nxtL r) (some x) ∧ Chain c marked r
def Max (c : Str) (marked : Bool) (b : Int) (ts : List (Int × Int)) : Prop :=
  Chain c marked ts ∧ (∀ x ∈ ts, x.1 < b ∧ x.2 ≤ b) ∧ ∀ y, Chain c marked (y :: ts) → ¬ (y.1 < b ∧ y.2 ≤ b)
section
variable {c : Str} {marked : Bool}
theorem tok_det {k b b' : Int} (h : IsTok c k b) (h' : IsTok c k b') : b = b' := by
  rcases h with ⟨h1, h2⟩ | ⟨h1, h2, h3, h4, h5⟩ <;> rcases h' with ⟨g1, g2⟩ | ⟨g1, g2, g3, g4, g5⟩
  · omega
  · rw [h1] at g1; cases g1
  · rw [h1] at g1; cases g1
  · rcases Int.lt_trichotomy b b' with hl | hl | hl
    · rw [h5 b' hl g3] at g4; cases g4
    · exact hl
    · rw [g5 b hl h3] at h4; cases h4
theorem tok_no {k b : Int} (h : IsTok c k b) (h' : NoTok c k) : False := by
  obtain ⟨g1, g2⟩ := h'
  rcases h with ⟨h1, h2⟩ | ⟨h1, h2, h3, h4, h5⟩
  · rw [h1] at g1; cases g1
  · rw [g2 b h2 h3] at h4; cases h4
theorem found_det {st : Int} {x y : Int × Int} (h : Found c marked st (some x)) (h' : Found c marked st (some y)) : x = y := by
  obtain ⟨k, b⟩ := x
  obtain ⟨k', b'⟩ := y
  obtain ⟨h1, h2⟩ := h
  obtain ⟨g1, g2⟩ := h'
  rcases h1 with ⟨a1, a2, a3⟩ | ⟨a1, a2, a3, a4⟩ <;> rcases g1 with ⟨b1, b2, b3⟩ | ⟨b1, b2, b3, b4⟩
  · rcases Int.lt_trichotomy k k' with hl | hl | hl
    · exact (tok_no a3 (g2 k a1 hl a2)).elim
    · subst hl; rw [tok_det a3 b3]
    · exact (tok_no b3 (h2 k' b1 hl b2)).elim
  · exact (tok_no a3 (g2 k a1 (by omega) a2)).elim
  · exact (tok_no b3 (h2 k' b1 (by omega) b2)).elim
  · rw [a1, a2, b1, b2]
theorem found_no {st : Int} {x : Int × Int} (h : Found c marked st (some x)) (h' : Found c marked st none) : False := by
  obtain ⟨k, b⟩ := x
  obtain ⟨h1, h2⟩ := h
  obtain ⟨g1, g2⟩ := h'
  rcases h1 with ⟨a1, a2, a3⟩ | ⟨a1, a2, a3, a4⟩
  · exact tok_no a3 (g1 k a1 a2)
  · exact g2 a3 a4
theorem Chain.same : ∀ {ts ts' : List (Int × Int)}, Chain c marked ts → Chain c marked ts' → ts.length = ts'.length → ts = ts'
  | [], [], _, _, _ => rfl
  | x :: r, y :: r', h, h', e => by
    have e' : r = r' := Chain.same h.2 h'.2 (by simpa using e)
    subst e'
    rw [found_det h.1 h'.1]
theorem Chain.drop : ∀ {ts : List (Int × Int)} (m : Nat), Chain c marked ts → Chain c marked (ts.drop m)
  | [], m, _ => by simp [Chain]
  | x :: r, 0, h => h
  | x :: r, m + 1, h => by simpa using Chain.drop m h.2
/-- a longer chain goes on from the shorter -/
theorem Chain.more {ts ts' : List (Int × Int)} (h : Chain c marked ts) (h' : Chain c marked ts') (hl : ts.length < ts'.length) : ∃ y ∈ ts', Chain c marked (y :: ts) := by
  have h1 := h'.drop (ts'.length - (ts.length + 1))
  cases e : ts'.drop (ts'.length - (ts.length + 1)) with
  | nil => have := congrArg List.length e; simp at this; omega
  | cons y r =>
    rw [e] at h1
    have hz : r = ts := Chain.same h1.2 h (by have := congrArg List.length e; simp at this; omega)
    subst hz
    exact ⟨y, List.mem_of_mem_drop (by rw [e]; exact .head _), h1⟩
theorem Max.same {b : Int} {ts ts' : List (Int × Int)} (h : Max c marked b ts) (h' : Max c marked b ts') : ts = ts' := by
  rcases Nat.lt_trichotomy ts.length ts'.length with hl | hl | hl
  · obtain ⟨y, hy, hc⟩ := Chain.more h.1 h'.1 hl
    exact (h.2.2 y hc (h'.2.1 y hy)).elim
  · exact Chain.same h.1 h'.1 hl
  · obtain ⟨y, hy, hc⟩ := Chain.more h'.1 h.1 hl
    exact (h'.2.2 y hc (h.2.1 y hy)).elim
theorem nxt_of {st : Int} {x : Int × Int} (h : Found c marked st (some x)) : x.1 < nxt x ∧ x.2 ≤ nxt x ∧ st ≤ x.1 := by
  have := Found.bounds (i := x.1) (j := x.2) h
  unfold nxt
  split <;> omega
theorem Chain.below : ∀ {ts : List (Int × Int)}, Chain c marked ts → ∀ x ∈ ts, x.1 < nxtL ts ∧ x.2 ≤ nxtL ts
  | y :: r, h, x, hx => by
    have h1 := nxt_of h.1
    rcases List.mem_cons.mp hx with rfl | hx
    · exact ⟨h1.1, h1.2.1⟩
    · have h2 := Chain.below h.2 x hx
      show x.1 < nxt y ∧ x.2 ≤ nxt y
      omega
theorem Chain.max {x : Int × Int} {ts : List (Int × Int)} (h : Chain c marked (x :: ts)) : Max c marked x.1 ts := by
  refine ⟨h.2, fun y hy => ?_, fun y hy => ?_⟩
  · have h1 := Chain.below h.2 y hy
    have h2 := nxt_of h.1
    omega
  · have e := found_det h.1 hy.1
    subst e
    omega
theorem Rev.chain {b : Int} {f : Option (Int × Int)} {st : Int} (h : Rev c marked b f st) : ∃ ts, Chain c marked ts ∧ st = nxtL ts ∧ f = ts.head? ∧ ∀ x ∈ ts, x.1 < b ∧ x.2 ≤ b := by
  induction h with
  | start => exact ⟨[], trivial, rfl, rfl, fun x hx => nomatch hx⟩
  | @step f st i j _ hf hi hj ih =>
    obtain ⟨ts, h1, h2, _, h4⟩ := ih
    refine ⟨(i, j) :: ts, ⟨by rw [← h2]; exact hf, h1⟩, rfl, rfl, fun x hx => ?_⟩
    rcases List.mem_cons.mp hx with rfl | hx
    · exact ⟨hi, hj⟩
    · exact h4 x hx
theorem RevRes.max {b : Int} {f : Option (Int × Int)} (h : RevRes c marked b f) : ∃ ts, Max c marked b ts ∧ f = ts.head? := by
  obtain ⟨st, h, he⟩ := h
  obtain ⟨ts, h1, h2, h3, h4⟩ := h.chain
  refine ⟨ts, ⟨h1, h4, fun y hy hb => ?_⟩, h3⟩
  have hy1 := hy.1
  rw [← h2] at hy1
  rcases he with he | ⟨i, j, he, hn⟩
  · exact found_no hy1 he
  · have e := found_det hy1 he
    subst e
    exact hn hb
end
/-- the kind of a match -/
def kd (c : Str) (x : Int × Int) : Int := kindT (Txt.slice c (some x.1) (some x.2))
def bk (c : Str) : List (Int × Int) → Int → Int → Int → T3
  | [], _, co, o => (-1, co, o)
  | x :: r, d, co, o => if (kd c x = 7 ∨ kd c x = 9 ∨ kd c x = 25) ∧ d = 0 then (x.1, co, o) else bk c r (stepD (kd c x) d) (stepC (kd c x) d co) (stepO (kd c x) d co o)
section
variable {c : Str} {marked : Bool} {col : Int}
theorem Back.bk {ts : List (Int × Int)} (hm : Max c marked col ts) {n : Nat} {b d co o : Int} (h : Back c marked col n b d co o) : ∃ us, Max c marked b us ∧ bk c us d co o = Mine.bk c ts 0 0 0 := by
  induction h with
  | start => exact ⟨ts, hm, rfl⟩
  | @step n b d co o i j k _ hr hk hno ih =>
    obtain ⟨us, h1, h2⟩ := ih
    obtain ⟨us', h3, h4⟩ := hr.max
    have e := h3.same h1
    subst e
    cases us' with
    | nil => cases h4
    | cons x r =>
      have e : (i, j) = x := Option.some.inj h4
      subst e
      refine ⟨r, Chain.max h3.1, ?_⟩
      rw [← h2]
      have hk' : kd c (i, j) = k := hk
      show _ = if _ then _ else _
      rw [hk', if_neg (fun hh => hno hh.1 hh.2)]
theorem BackRes.bk {ts : List (Int × Int)} (hm : Max c marked col ts) {x y z : Int} (h : BackRes c marked col x y z) : (x, y, z) = bk c ts 0 0 0 := by
  obtain ⟨n, b, d, h, he⟩ := h
  obtain ⟨us, h1, h2⟩ := h.bk hm
  rw [← h2]
  rcases he with ⟨hr, rfl⟩ | ⟨i, j, k, hr, hk, hko, rfl, rfl⟩
  · obtain ⟨us', h3, h4⟩ := hr.max
    have e := h3.same h1
    subst e
    cases us' with
    | nil => rfl
    | cons x r => cases h4
  · obtain ⟨us', h3, h4⟩ := hr.max
    have e := h3.same h1
    subst e
    cases us' with
    | nil => cases h4
    | cons x r =>
      have e : (_, j) = x := Option.some.inj h4
      subst e
      have hk' : kd c (_, j) = k := hk
      show _ = if _ then _ else _
      rw [hk', if_pos ⟨hko, rfl⟩]
end
def fstep (k i : Int) (p : List T3 × T3) : List T3 × T3 :=
  if k = 7 ∨ k = 9 ∨ k = 25 then (p.2 :: p.1, (i, 0, 0))
  else if k = 8 ∨ k = 10 ∨ k = 26 then (match p.1 with | [] => ([], (-1, 0, 0)) | q :: r => (r, q))
  else if k = 12 then (p.1, (p.2.1, p.2.2.1 + 1, 0))
  else (p.1, (p.2.1, p.2.2.1, p.2.2.2 + 1))
def fw (c : Str) : List (Int × Int) → List T3 × T3
  | [] => ([], (-1, 0, 0))
  | x :: r => fstep (kd c x) x.1 (fw c r)
def at3 (d : Nat) (co o : Int) (l : List T3) : T3 :=
  match l[d]? with
  | some q => (q.1, co + q.2.1, if co = 0 then o + q.2.2 else o)
  | none => (-1, co, o)
theorem bk_fw (c : Str) : ∀ (ts : List (Int × Int)) (d : Nat) (co o : Int), 0 ≤ co → bk c ts d co o = at3 d co o ((fw c ts).2 :: (fw c ts).1)
  | [], 0, co, o, _ => by simp [bk, fw, at3]
  | [], d + 1, co, o, _ => by simp [bk, fw, at3]
  | x :: r, d, co, o, hc => by
    show (if _ then _ else _) = at3 d co o ((fstep (kd c x) x.1 (fw c r)).2 :: (fstep (kd c x) x.1 (fw c r)).1)
    generalize kd c x = k
    have ih := bk_fw c r
    generalize fw c r = p at ih
    obtain ⟨qs, t⟩ := p
    obtain ⟨t1, t2, t3⟩ := t
    by_cases h1 : k = 7 ∨ k = 9 ∨ k = 25
    · have h8 : ¬ (k = 8 ∨ k = 10 ∨ k = 26) := by omega
      unfold fstep
      rw [if_pos h1]
      cases d with
      | zero => rw [if_pos ⟨h1, rfl⟩]; simp [at3]
      | succ d =>
        rw [if_neg (by rintro ⟨_, h⟩; omega)]
        have e : stepD k ((d + 1 : Nat) : Int) = (d : Nat) := by unfold stepD; rw [if_neg h8, if_pos h1]; omega
        have e2 : stepC k ((d + 1 : Nat) : Int) co = co := by unfold stepC; rw [if_neg h8, if_pos h1]
        have e3 : stepO k ((d + 1 : Nat) : Int) co o = o := by unfold stepO; rw [if_neg h8, if_pos h1]
        rw [e, e2, e3, ih d co o hc]
        simp [at3]
    · rw [if_neg (fun h => h1 h.1)]
      unfold fstep
      rw [if_neg h1]
      by_cases h8 : k = 8 ∨ k = 10 ∨ k = 26
      · rw [if_pos h8]
        have e : stepD k (d : Int) = ((d + 1 : Nat) : Int) := by unfold stepD; rw [if_pos h8]; omega
        have e2 : stepC k (d : Int) co = co := by unfold stepC; rw [if_pos h8]
        have e3 : stepO k (d : Int) co o = o := by unfold stepO; rw [if_pos h8]
        rw [e, e2, e3, ih (d + 1) co o hc]
        cases qs with
        | nil => cases d <;> simp [at3]
        | cons q r => simp [at3]
      · rw [if_neg h8]
        have e : stepD k (d : Int) = (d : Int) := by unfold stepD; rw [if_neg h8, if_neg h1]
        rw [e]
        by_cases h12 : k = 12
        · rw [if_pos h12]
          cases d with
          | zero =>
            have e2 : stepC k ((0 : Nat) : Int) co = co + 1 := by unfold stepC; rw [if_neg h8, if_neg h1, if_pos ⟨rfl, h12⟩]
            have e3 : stepO k ((0 : Nat) : Int) co o = o := by unfold stepO; rw [if_neg h8, if_neg h1, if_pos ⟨rfl, h12⟩]
            rw [e2, e3, ih 0 (co + 1) o (by omega)]
            have : ¬ (co + 1 = 0) := by omega
            simp [at3, this]
            omega
          | succ d =>
            have e2 : stepC k ((d + 1 : Nat) : Int) co = co := by unfold stepC; rw [if_neg h8, if_neg h1, if_neg (by omega)]
            have e3 : stepO k ((d + 1 : Nat) : Int) co o = o := by unfold stepO; rw [if_neg h8, if_neg h1, if_neg (by omega), if_neg (by omega)]
            rw [e2, e3, ih (d + 1) co o hc]
            simp [at3]
        · rw [if_neg h12]
          have e2 : stepC k (d : Int) co = co := by unfold stepC; rw [if_neg h8, if_neg h1, if_neg (fun h => h12 h.2)]
          cases d with
          | zero =>
            have e3 : stepO k ((0 : Nat) : Int) co o = if co = 0 then o + 1 else o := by unfold stepO; rw [if_neg h8, if_neg h1, if_neg (fun h => h12 h.2)]; simp
            rw [e2, e3, ih 0 co _ hc]
            by_cases h0 : co = 0
            · simp [at3, h0]; omega
            · simp [at3, h0]
          | succ d =>
            have e3 : stepO k ((d + 1 : Nat) : Int) co o = o := by unfold stepO; rw [if_neg h8, if_neg h1, if_neg (by omega), if_neg (by omega)]
            rw [e2, e3, ih (d + 1) co o hc]
            simp [at3]
theorem bk_fw0 (c : Str) (ts : List (Int × Int)) : bk c ts 0 0 0 = (fw c ts).2 := by
  have h := bk_fw c ts 0 0 0 (by omega)
  rw [show ((0 : Nat) : Int) = 0 from rfl] at h
  rw [h]
  simp [at3]
end Mine
end
section
open PySem PySem.W PyProof.Rows
namespace Mine
def RowOk (row : Str) : Prop := ∀ c ∈ row.cps.toList, c ∈ [40, 41, 91, 93, 123, 125, 44, 42, 61, 97, 32]
theorem slice_clip {x : Str} {i j : Int} (h : (x.length : Int) ≤ j) : Txt.slice x (some i) (some j) = Txt.slice x (some i) (some (x.length : Int)) := by
  have e : Builtin.Str.strSliceIndices (some i) (some j) 1 x.length = Builtin.Str.strSliceIndices (some i) (some (x.length : Int)) 1 x.length := by
    unfold Builtin.Str.strSliceIndices
    have h1 : ¬ (j < 0) := by omega
    have h2 : ¬ ((x.length : Int) < 0) := by omega
    simp only [h1, h2, if_false, show ((1 : Int) > 0) = True by simp, if_true]
    rw [show min j (x.length : Int) = min (x.length : Int) x.length by omega]
  unfold Txt.slice
  rw [e]
theorem slice_list {x : Str} {i j : Int} (h0 : 0 ≤ i) (h1 : i ≤ j) (h2 : i ≤ x.length) : Txt.slice x (some i) (some j) = ⟨((x.cps.toList.drop i.toNat).take (j - i).toNat).toArray⟩ := by
  have hl : x.cps.toList.length = x.length := Array.length_toList
  by_cases hj : j ≤ x.length
  · exact eq_of_beq (slice_closes ⟨h0, h1, by omega⟩)
  · rw [slice_clip (by omega), eq_of_beq (slice_closes (x := x) (i := i) (j := x.length) ⟨h0, h2, by omega⟩)]
    congr 2
    rw [List.take_of_length_le (by rw [List.length_drop]; omega), List.take_of_length_le (by rw [List.length_drop]; omega)]
def inL (l : List Nat) : Bool := opTab.any fun q => l == q.1
theorem inTab_list (l : List Nat) : inTab ⟨l.toArray⟩ = inL l := by
  unfold inTab inL
  congr 1
  funext q
  rw [Bool.eq_iff_iff]
  simp
def kL (l : List Nat) : List (List Nat × Int) → Int
  | [] => 0
  | q :: r => if q.1 = l then q.2 else kL l r
theorem kindT_list (l : List Nat) : kindT ⟨l.toArray⟩ = kL l opTab := by
  unfold kindT
  induction opTab with
  | nil => rfl
  | cons q r ih => simp [kindL, kL, ih]
theorem str_beq {l : List Nat} {s : Str} : ((⟨l.toArray⟩ : Str) == s) = (l == s.cps.toList) := by
  obtain ⟨a⟩ := s
  rw [Bool.eq_iff_iff]
  simp
  constructor
  · intro h; rw [← h]
  · intro h; rw [h]
/-- the longest operator at the head of a list has m signs -/
def Longest (l : List Nat) (m : Nat) : Prop := 1 ≤ m ∧ m ≤ 3 ∧ m ≤ l.length ∧ inL (l.take m) = true ∧ ∀ m', m < m' → m' ≤ 3 → m' ≤ l.length → inL (l.take m') = false
def szL (l : List Nat) : Nat :=
  if (l.head? = some 42 ∨ l.head? = some 61) ∧ (l.drop (if l.take 2 = [42, 42] then 2 else 1)).take 1 = [61] then (if l.take 2 = [42, 42] then 2 else 1) + 1 else (if l.take 2 = [42, 42] then 2 else 1)
section
variable {row : Str} {k : Int} {c : Nat} {r : List Nat}
theorem len_of (h0 : 0 ≤ k) (e : row.cps.toList.drop k.toNat = c :: r) : (row.length : Int) = k + 1 + r.length := by
  have hl : row.cps.toList.length = row.length := Array.length_toList
  have := congrArg List.length e
  rw [List.length_drop, List.length_cons] at this
  omega
theorem item_of (h0 : 0 ≤ k) (e : row.cps.toList.drop k.toNat = c :: r) : Txt.item row k = ⟨#[c]⟩ := by
  refine item_meets h0 ?_
  have h : (row.cps.toList.drop k.toNat)[0]? = some c := by rw [e]; rfl
  rw [List.getElem?_drop] at h
  simpa using h
theorem slice_of (h0 : 0 ≤ k) (e : row.cps.toList.drop k.toNat = c :: r) {b : Int} (m : Nat) (hb : b = k + m) : Txt.slice row (some k) (some b) = ⟨((c :: r).take m).toArray⟩ := by
  have := len_of h0 e
  rw [slice_list h0 (by omega) (by omega), e]
  congr 3
  omega
theorem isTok_of (h0 : 0 ≤ k) (e : row.cps.toList.drop k.toNat = c :: r) (hc : c ≠ 97) {m : Nat} (hm : Longest (c :: r) m) : IsTok row k (k + m) := by
  have hn := len_of h0 e
  obtain ⟨h1, h2, h3, h4, h5⟩ := hm
  rw [List.length_cons] at h3 h5
  have ht : topOf row k ≤ row.length ∧ topOf row k ≤ k + 3 ∧ (k + m ≤ topOf row k) := by unfold topOf; split <;> omega
  refine .inr ⟨?_, by omega, ht.2.2, ?_, fun b' hb hb' => ?_⟩
  · rw [item_of h0 e, show (⟨#[c]⟩ : Str) = ⟨[c].toArray⟩ from rfl, str_beq]
    simp [hc, show ("a" : Str).cps.toList = [97] by decide]
  · rw [slice_of h0 e m rfl, inTab_list]; exact h4
  · rw [slice_of h0 e (b' - k).toNat (by omega), inTab_list]
    exact h5 _ (by omega) (by omega) (by omega)
theorem sizeAt_of (h0 : 0 ≤ k) (e : row.cps.toList.drop k.toNat = c :: r) : sizeAt row k = szL (c :: r) := by
  have hn := len_of h0 e
  have e1 : sizeOf1 row k = ((if (c :: r).take 2 = [42, 42] then 2 else 1 : Nat) : Int) := by
    unfold sizeOf1
    rw [slice_of h0 e (b := k + 2) 2 rfl, str_beq, show ("**" : Str).cps.toList = [42, 42] by decide]
    by_cases h : (c :: r).take 2 = [42, 42]
    · rw [if_pos h, if_pos (by simp [h])]; rfl
    · rw [if_neg h, if_neg (by simpa using h)]; rfl
  have e2 : partOf "*=" (Txt.item row k) = decide (c = 42 ∨ c = 61) := by
    rw [item_of h0 e]
    unfold partOf
    rw [StrLaws.found_one, show ("*=" : Str).cps.toList = [42, 61] by decide]
    simp
  unfold sizeAt szL
  rw [e1, e2]
  generalize hq : (if (c :: r).take 2 = [42, 42] then 2 else 1 : Nat) = q
  have hq1 : q ≤ (c :: r).length := by
    rw [← hq]
    split
    · rename_i h; have := congrArg List.length h; simp at this ⊢; omega
    · simp
  rw [List.length_cons] at hq1
  have e3 : Txt.slice row (some (k + q)) (some (k + q + 1)) = ⟨(((c :: r).drop q).take 1).toArray⟩ := by
    rw [slice_list (by omega) (by omega) (by omega), show (k + q).toNat = k.toNat + q by omega, ← List.drop_drop, e]
    congr 3
    omega
  rw [e3, str_beq, show ("=" : Str).cps.toList = [61] by decide]
  by_cases h : (c = 42 ∨ c = 61) ∧ ((c :: r).drop q).take 1 = [61]
  · rw [if_pos (by simpa using h), if_pos (by simpa using h)]; simp
  · rw [if_neg (by simpa using h), if_neg (by simpa using h)]
theorem part_of {y : Str} {ys : List Nat} (h0 : 0 ≤ k) (e : row.cps.toList.drop k.toNat = c :: r) (hy : y.cps.toList = ys) : partOf y (Txt.item row k) = decide (c ∈ ys) := by
  rw [item_of h0 e]
  unfold partOf
  rw [StrLaws.found_one, hy]
theorem eq_of {y : Str} {d : Nat} (h0 : 0 ≤ k) (e : row.cps.toList.drop k.toNat = c :: r) (hy : y.cps.toList = [d]) : (Txt.item row k == y) = decide (c = d) := by
  rw [item_of h0 e, show (⟨#[c]⟩ : Str) = ⟨[c].toArray⟩ from rfl, str_beq, hy, Bool.eq_iff_iff]
  simp
theorem kd_of (h0 : 0 ≤ k) (e : row.cps.toList.drop k.toNat = c :: r) (m : Nat) : kd row (k, k + m) = kL ((c :: r).take m) opTab := by
  unfold kd
  rw [slice_of h0 e m rfl, kindT_list]
/-- what both see at a place -/
def Fact (row : Str) (k : Int) : Prop :=
  (NoTok row k ∧ sizeAt row k = 1 ∧ ∀ col qs t, astep row col k qs t = (qs, t)) ∨
  (∃ j, IsTok row k j ∧ nxt (k, j) = k + sizeAt row k ∧ j ≤ k + sizeAt row k ∧ k + sizeAt row k ≤ row.length ∧ ∀ col qs t, k < col → (j ≤ col → astep row col k qs t = fstep (kd row (k, j)) k (qs, t)) ∧ (col < j → col < k + sizeAt row k ∧ astep row col k qs t = (qs, t)))
theorem single {c : Nat} {r : List Nat} (h1 : inL [c] = true) (h2 : ∀ d l, inL (c :: d :: l) = false) : Longest (c :: r) 1 := by
  refine ⟨by omega, by omega, by simp, h1, fun m' h3 h4 h5 => ?_⟩
  match m', h3, r, h5 with
  | 0, h3, _, _ => omega
  | 1, h3, _, _ => omega
  | _ + 2, _, [], h5 => simp at h5
  | _ + 2, _, d :: r', _ => exact h2 _ _
theorem sz_single {c : Nat} {r : List Nat} (h1 : c ≠ 42) (h2 : c ≠ 61) : szL (c :: r) = 1 := by
  have : ¬ ((c :: r).take 2 = [42, 42]) := by intro h; simp at h; exact h1 h.1
  unfold szL
  rw [if_neg this, if_neg]
  simp [h1, h2]
theorem astep_of {col : Int} {qs : List T3} {t : T3} (h0 : 0 ≤ k) (e : row.cps.toList.drop k.toNat = c :: r) : astep row col k qs t =
    if c ∈ [40, 91, 123] then (t :: qs, (k, 0, 0)) else if c ∈ [41, 93, 125] then (match qs with | [] => ([], (-1, 0, 0)) | q :: r => (r, q))
    else if c = 44 then (qs, (t.1, t.2.1 + 1, 0)) else if c ≠ 32 ∧ k + sizeAt row k ≤ col then (qs, (t.1, t.2.1, t.2.2 + 1)) else (qs, t) := by
  unfold astep
  rw [part_of h0 e (ys := [40, 91, 123]) (by decide), part_of h0 e (ys := [41, 93, 125]) (by decide), eq_of h0 e (d := 44) (by decide), eq_of h0 e (d := 32) (by decide)]
  simp only [decide_eq_true_eq, decide_eq_false_iff_not, ne_eq]
  all_goals (cases qs <;> rfl)
theorem fact_single (h0 : 0 ≤ k) (e : row.cps.toList.drop k.toNat = c :: r) (hc : c ≠ 97) (hc1 : c ≠ 42) (hc2 : c ≠ 61) (h1 : inL [c] = true) (h2 : ∀ d l, inL (c :: d :: l) = false)
    (hf : ∀ col qs t, astep row col k qs t = fstep (kL [c] opTab) k (qs, t)) : Fact row k := by
  have hn := len_of h0 e
  have hs : sizeAt row k = 1 := by rw [sizeAt_of h0 e, sz_single hc1 hc2]; rfl
  refine .inr ⟨k + (1 : Nat), isTok_of h0 e hc (single h1 h2), ?_, by omega, by omega, fun col qs t hk => ⟨fun _ => ?_, fun _ => by omega⟩⟩
  · unfold nxt; dsimp only; rw [if_neg (by omega)]; omega
  · rw [hf, kd_of h0 e 1]; rfl
theorem fact_op (h0 : 0 ≤ k) (e : row.cps.toList.drop k.toNat = c :: r) (hc : c = 42 ∨ c = 61) (h1 : Longest (c :: r) (szL (c :: r))) 
    (hf : ∀ p, fstep (kL ((c :: r).take (szL (c :: r))) opTab) k p = (p.1, (p.2.1, p.2.2.1, p.2.2.2 + 1))) : Fact row k := by
  have hn := len_of h0 e
  have hs := sizeAt_of h0 e
  have h3 := h1.2.2.1
  have h4 := h1.1
  rw [List.length_cons] at h3
  refine .inr ⟨k + (szL (c :: r) : Nat), isTok_of h0 e (by omega) h1, ?_, by omega, by omega, fun col qs t hk => ⟨fun hj => ?_, fun hj => ⟨by omega, ?_⟩⟩⟩
  · unfold nxt; dsimp only; rw [if_neg (by omega)]; omega
  · rw [kd_of h0 e, hf, astep_of h0 e, if_neg (by rcases hc with rfl | rfl <;> decide), if_neg (by rcases hc with rfl | rfl <;> decide), if_neg (by omega), if_pos ⟨by omega, by omega⟩]
  · rw [astep_of h0 e, if_neg (by rcases hc with rfl | rfl <;> decide), if_neg (by rcases hc with rfl | rfl <;> decide), if_neg (by omega), if_neg (by omega)]
theorem fact_a (h0 : 0 ≤ k) (e : row.cps.toList.drop k.toNat = 97 :: r) : Fact row k := by
  have hn := len_of h0 e
  have hs : sizeAt row k = 1 := by rw [sizeAt_of h0 e, sz_single (by decide) (by decide)]; rfl
  refine .inr ⟨k, .inl ⟨by rw [eq_of h0 e (d := 97) (by decide)]; decide, rfl⟩, ?_, by omega, by omega, fun col qs t hk => ⟨fun _ => ?_, fun _ => by omega⟩⟩
  · unfold nxt; dsimp only; rw [if_pos rfl]; omega
  · have e0 : kd row (k, k) = 0 := by
      have := kd_of h0 e 0
      rw [show k + ((0 : Nat) : Int) = k by omega] at this
      rw [this]; rfl
    rw [e0, astep_of h0 e, if_neg (by decide), if_neg (by decide), if_neg (by decide), if_pos ⟨by decide, by omega⟩]
    simp [fstep]
theorem gap1 {a b : Int} (h : a < b) : (b - a).toNat = ((b - a).toNat - 1) + 1 ∧ b = a + ((b - a).toNat : Int) :=
  ⟨(Nat.sub_add_cancel (Int.lt_toNat.mpr (Int.sub_pos_of_lt h))).symm, by rw [Int.toNat_of_nonneg (Int.le_of_lt (Int.sub_pos_of_lt h)), Int.add_comm, Int.sub_add_cancel]⟩
theorem inL_false {l : List Nat} (P : List Nat → Bool) (hP : (opTab.all fun q => P q.1) = true) (h : P l = false) : inL l = false := by
  cases e : inL l with
  | false => rfl
  | true =>
    obtain ⟨q, hq, hl⟩ := List.any_eq_true.mp e
    have := List.all_eq_true.mp hP q hq
    rw [← eq_of_beq hl, h] at this
    cases this
def second (c : Nat) (f : Nat → Bool) : List Nat → Bool
  | x :: y :: _ => x != c || f y
  | _ => true
def third (c d : Nat) (f : Nat → Bool) : List Nat → Bool
  | x :: y :: z :: _ => x != c || y != d || f z
  | _ => true
theorem second_f {c y : Nat} {l : List Nat} {f : Nat → Bool} (h : f y = false) : second c f (c :: y :: l) = false := by
  show (c != c || f y) = false
  rw [h, bne_self_eq_false]; rfl
theorem third_f {c d z : Nat} {l : List Nat} {f : Nat → Bool} (h : f z = false) : third c d f (c :: d :: z :: l) = false := by
  show (c != c || d != d || f z) = false
  rw [h, bne_self_eq_false, bne_self_eq_false]; rfl
theorem no_two {c : Nat} (h : (opTab.all fun q => second c (fun _ => false) q.1) = true) (d : Nat) (l : List Nat) : inL (c :: d :: l) = false :=
  inL_false _ h (second_f rfl)
theorem fact_br (h0 : 0 ≤ k) (e : row.cps.toList.drop k.toNat = c :: r) (hc : c ≠ 97 ∧ c ≠ 42 ∧ c ≠ 61) (h1 : inL [c] = true) (h2 : (opTab.all fun q => second c (fun _ => false) q.1) = true) {kk : Int} (hk : kL [c] opTab = kk)
    (hf : ∀ (P : Prop) [Decidable P] (qs : List T3) (t : T3), (if c ∈ [40, 91, 123] then (t :: qs, (k, 0, 0)) else if c ∈ [41, 93, 125] then (match qs with | [] => ([], (-1, 0, 0)) | q :: r => (r, q))
    else if c = 44 then (qs, (t.1, t.2.1 + 1, 0)) else if c ≠ 32 ∧ P then (qs, (t.1, t.2.1, t.2.2 + 1)) else (qs, t)) = fstep kk k (qs, t)) : Fact row k :=
  fact_single h0 e hc.1 hc.2.1 hc.2.2 h1 (no_two h2) fun col qs t => by rw [astep_of h0 e, hk]; exact hf _ qs t
theorem fact_sp (h0 : 0 ≤ k) (e : row.cps.toList.drop k.toNat = 32 :: r) : Fact row k := by
  have hn := len_of h0 e
  have hs : sizeAt row k = 1 := by rw [sizeAt_of h0 e, sz_single (by decide) (by decide)]; rfl
  refine .inl ⟨⟨by rw [eq_of h0 e (d := 97) (by decide)]; decide, fun b' hb hb' => ?_⟩, hs, fun col qs t => ?_⟩
  · rw [slice_of h0 e (b' - k).toNat (gap1 hb).2, inTab_list, (gap1 hb).1, List.take_succ_cons]
    exact inL_false (fun l => l.head? != some 32) (by decide) rfl
  · rw [astep_of h0 e, if_neg (by decide), if_neg (by decide), if_neg (by decide), if_neg (fun h => h.1 rfl)]
theorem longest2 {c d : Nat} {r : List Nat} (h1 : inL [c, d] = true) (h2 : ∀ e l, inL (c :: d :: e :: l) = false) : Longest (c :: d :: r) 2 := by
  refine ⟨by omega, by omega, by simp, h1, fun m' h3 h4 h5 => ?_⟩
  match m', h3, r, h5 with
  | 0, h3, _, _ => omega
  | 1, h3, _, _ => omega
  | 2, h3, _, _ => omega
  | _ + 3, _, [], h5 => simp at h5
  | _ + 3, _, d :: r', _ => exact h2 _ _
theorem longest2' {c d : Nat} {r : List Nat} (h1 : inL [c, d] = true) (h2 : ∀ e, r.head? = some e → inL [c, d, e] = false) : Longest (c :: d :: r) 2 := by
  refine ⟨by omega, by omega, by simp, h1, fun m' h3 h4 h5 => ?_⟩
  match m', h3, r, h5, h2 with
  | 0, h3, _, _, _ => omega
  | 1, h3, _, _, _ => omega
  | 2, h3, _, _, _ => omega
  | 3, _, [], h5, _ => simp at h5
  | 3, _, d :: r', _, h2 => exact h2 _ rfl
  | m + 4, _, _, _, _ => omega
theorem longest1' {c : Nat} {r : List Nat} (h1 : inL [c] = true) (h2 : ∀ d l, r.head? = some d → inL (c :: d :: l) = false) : Longest (c :: r) 1 := by
  refine ⟨by omega, by omega, by simp, h1, fun m' h3 h4 h5 => ?_⟩
  match m', h3, r, h5, h2 with
  | 0, h3, _, _, _ => omega
  | 1, h3, _, _, _ => omega
  | _ + 2, _, [], h5, _ => simp at h5
  | _ + 2, _, d :: r', _, h2 => exact h2 _ _ rfl
theorem longest3 {c d e : Nat} {r : List Nat} (h1 : inL [c, d, e] = true) : Longest (c :: d :: e :: r) 3 :=
  ⟨by omega, by omega, by simp, h1, fun m' h3 h4 h5 => by omega⟩
theorem op_fin {i : Int} {l : List Nat} {m z : Nat} {kk : Int} (hz : z = m) (hk : kL (l.take m) opTab = kk) (hn : kk ≠ 7 ∧ kk ≠ 9 ∧ kk ≠ 25 ∧ kk ≠ 8 ∧ kk ≠ 10 ∧ kk ≠ 26 ∧ kk ≠ 12) (p : List T3 × T3) : fstep (kL (l.take z) opTab) i p = (p.1, (p.2.1, p.2.2.1, p.2.2.2 + 1)) := by
  rw [hz, hk]
  unfold fstep
  rw [if_neg (by omega), if_neg (by omega), if_neg (by omega)]
theorem head_cons {d : Nat} (h : r.head? = some d) : ∃ r', r = d :: r' := by
  cases r with
  | nil => cases h
  | cons x r' => exact ⟨r', by rw [Option.some.inj h]⟩
theorem fact_42 (h0 : 0 ≤ k) (e : row.cps.toList.drop k.toNat = 42 :: r) : Fact row k := by
  by_cases h1 : r.head? = some 42
  · obtain ⟨r, rfl⟩ := head_cons h1
    by_cases h2 : r.head? = some 61
    · obtain ⟨r, rfl⟩ := head_cons h2
      have hz : szL (42 :: 42 :: 61 :: r) = 3 := rfl
      exact fact_op h0 e (.inl rfl) (by rw [hz]; exact longest3 (by decide)) (op_fin hz (m := 3) (kk := 46) rfl (by decide))
    · have hz : szL (42 :: 42 :: r) = 2 := by
        cases r with
        | nil => rfl
        | cons d r => exact if_neg fun h => h2 (congrArg List.head? h.2)
      refine fact_op h0 e (.inl rfl) ?_ (op_fin hz (m := 2) (kk := 35) rfl (by decide))
      rw [hz]
      exact longest2' (by decide) fun d hd => inL_false (third 42 42 (· == 61)) (by decide) (third_f (beq_eq_false_iff_ne.mpr fun e => h2 (by rw [hd, e])))
  · by_cases h2 : r.head? = some 61
    · obtain ⟨r, rfl⟩ := head_cons h2
      have hz : szL (42 :: 61 :: r) = 2 := rfl
      exact fact_op h0 e (.inl rfl) (by rw [hz]; exact longest2 (by decide) fun _ _ => inL_false (third 42 61 (fun _ => false)) (by decide) (third_f rfl)) (op_fin hz (m := 2) (kk := 38) rfl (by decide))
    · have hz : szL (42 :: r) = 1 := by
        cases r with
        | nil => rfl
        | cons d r =>
          have h3 : ¬ ((42 :: d :: r).take 2 = [42, 42]) := fun h => h1 (congrArg (fun l => l.tail.head?) h)
          unfold szL
          rw [if_neg h3]
          exact if_neg fun h => h2 (congrArg List.head? h.2)
      refine fact_op h0 e (.inl rfl) ?_ (op_fin hz (m := 1) (kk := 16) rfl (by decide))
      rw [hz]
      refine longest1' (by decide) fun d l hd => inL_false (second 42 (fun y => y == 42 || y == 61)) (by decide) (second_f ?_)
      have hd1 : d ≠ 42 := fun e => h1 (by rw [hd, e])
      have hd2 : d ≠ 61 := fun e => h2 (by rw [hd, e])
      simp [hd1, hd2]
theorem fact_61 (h0 : 0 ≤ k) (e : row.cps.toList.drop k.toNat = 61 :: r) : Fact row k := by
  by_cases h2 : r.head? = some 61
  · obtain ⟨r, rfl⟩ := head_cons h2
    have hz : szL (61 :: 61 :: r) = 2 := rfl
    exact fact_op h0 e (.inr rfl) (by rw [hz]; exact longest2 (by decide) fun _ _ => inL_false (third 61 61 (fun _ => false)) (by decide) (third_f rfl)) (op_fin hz (m := 2) (kk := 27) rfl (by decide))
  · have hz : szL (61 :: r) = 1 := by
      cases r with
      | nil => rfl
      | cons d r => exact if_neg fun h => h2 (congrArg List.head? h.2)
    refine fact_op h0 e (.inr rfl) ?_ (op_fin hz (m := 1) (kk := 22) rfl (by decide))
    rw [hz]
    exact longest1' (by decide) fun d l hd => inL_false (second 61 (· == 61)) (by decide) (second_f (beq_eq_false_iff_ne.mpr fun e => h2 (by rw [hd, e])))
theorem drop_ne {l : List Nat} {n : Nat} {k : Int} (hl : l.length = n) (h0 : 0 ≤ k) (hk : k < n) : l.drop k.toNat ≠ [] := fun e => by
  have := congrArg List.length e; rw [List.length_drop, List.length_nil, hl] at this; clear e hl
  exact absurd (Nat.le_of_sub_eq_zero this) (Nat.not_le_of_lt ((Int.toNat_lt h0).mpr hk))
theorem fact (hr : RowOk row) (h0 : 0 ≤ k) (hk : k < row.length) : Fact row k := by
  have hl : row.cps.toList.length = row.length := Array.length_toList
  cases e : row.cps.toList.drop k.toNat with
  | nil => exact absurd e (drop_ne hl h0 hk)
  | cons c r =>
    have hc := hr c (List.mem_of_mem_drop (by rw [e]; exact .head _))
    simp only [List.mem_cons, List.not_mem_nil, or_false] at hc
    rcases hc with rfl | rfl | rfl | rfl | rfl | rfl | rfl | rfl | rfl | rfl | rfl
    · exact fact_br h0 e (by decide) (by decide) (by decide) (kk := 7) (by decide) fun _ _ _ _ => rfl
    · exact fact_br h0 e (by decide) (by decide) (by decide) (kk := 8) (by decide) fun _ _ _ _ => rfl
    · exact fact_br h0 e (by decide) (by decide) (by decide) (kk := 9) (by decide) fun _ _ _ _ => rfl
    · exact fact_br h0 e (by decide) (by decide) (by decide) (kk := 10) (by decide) fun _ _ _ _ => rfl
    · exact fact_br h0 e (by decide) (by decide) (by decide) (kk := 25) (by decide) fun _ _ _ _ => rfl
    · exact fact_br h0 e (by decide) (by decide) (by decide) (kk := 26) (by decide) fun _ _ _ _ => rfl
    · exact fact_br h0 e (by decide) (by decide) (by decide) (kk := 12) (by decide) fun _ _ _ _ => rfl
    · exact fact_42 h0 e
    · exact fact_61 h0 e
    · exact fact_a h0 e
    · exact fact_sp h0 e
end
end Mine
end
section
open PySem PySem.W PyProof.Rows
namespace Mine
theorem Ahd.chain {row : Str} {col k : Int} {qs : List T3} {t : T3} (marked : Bool) (hr : RowOk row) (h : Ahd row col k qs t) :
    ∃ ts, Chain row marked ts ∧ (∀ x ∈ ts, x.1 < col ∧ x.2 ≤ col) ∧ fw row ts = (qs, t) ∧ 0 ≤ k ∧ k ≤ row.length ∧
      ((nxtL ts ≤ k ∧ ∀ k', nxtL ts ≤ k' → k' < k → NoTok row k') ∨ (Max row marked col ts ∧ col < k)) := by
  induction h with
  | start => exact ⟨[], trivial, fun x hx => (nomatch hx), rfl, by omega, by omega, .inl ⟨Int.le_refl _, fun k' h1 h2 => by have : (0 : Int) ≤ k' := h1; omega⟩⟩
  | @step k qs t _ hk hn ih =>
    obtain ⟨ts, h1, h2, h3, h4, h5, h6⟩ := ih
    rcases h6 with ⟨h6, h7⟩ | ⟨_, h7⟩
    · rcases fact hr h4 hn with ⟨f1, f2, f3⟩ | ⟨j, f1, f2, f3, f4, f5⟩
      · refine ⟨ts, h1, h2, by rw [f3]; exact h3, by omega, by omega, .inl ⟨by omega, fun k' g1 g2 => ?_⟩⟩
        by_cases hk' : k' = k
        · rw [hk']; exact f1
        · exact h7 k' g1 (by omega)
      · have hf : Found row marked (nxtL ts) (some (k, j)) := ⟨.inl ⟨h6, hn, f1⟩, fun k' g1 g2 _ => h7 k' g1 g2⟩
        have hs := sizeAt_pos row k
        by_cases hj : j ≤ col
        · refine ⟨(k, j) :: ts, ⟨hf, h1⟩, fun x hx => ?_, ?_, by omega, by omega, .inl ⟨Int.le_of_eq f2, fun k' g1 g2 => ?_⟩⟩
          · rcases List.mem_cons.mp hx with rfl | hx
            · exact ⟨hk, hj⟩
            · exact h2 x hx
          · show fstep _ k (fw row ts) = _
            rw [h3, (f5 col qs t hk).1 hj]
          · have : nxt (k, j) ≤ k' := g1
            omega
        · have f6 := (f5 col qs t hk).2 (by omega)
          refine ⟨ts, h1, h2, by rw [f6.2]; exact h3, by omega, by omega, .inr ⟨⟨h1, h2, fun y hy hb => ?_⟩, f6.1⟩⟩
          have e := found_det hf hy.1
          subst e
          exact hj hb.2
    · omega
theorem kd_end {row : Str} : kd row ((row.length : Int), (row.length : Int)) = 0 := by
  unfold kd
  dsimp only
  rw [slice_list (by omega) (Int.le_refl _) (Int.le_refl _), kindT_list, show ((row.length : Int) - row.length).toNat = 0 by omega, List.take_zero]
  decide
theorem AheadRes.fw {row : Str} {marked : Bool} {col x y z : Int} (hr : RowOk row) (h : AheadRes row marked col x y z) : ∃ ts, Max row marked col ts ∧ (fw row ts).2 = (x, y, z) := by
  obtain ⟨k, qs, o, h, hk, hz⟩ := h
  obtain ⟨ts, h1, h2, h3, h4, h5, h6⟩ := h.chain marked hr
  rcases h6 with ⟨h6, h7⟩ | ⟨h6, h7⟩
  · by_cases hm : marked = true ∧ (row.length : Int) < col
    · rw [if_pos hm] at hz
      have e : k = row.length := by omega
      subst e
      have hf : Found row marked (nxtL ts) (some ((row.length : Int), (row.length : Int))) := ⟨.inr ⟨rfl, rfl, hm.1, h6⟩, fun k' g1 g2 _ => h7 k' g1 g2⟩
      refine ⟨((row.length : Int), (row.length : Int)) :: ts, ⟨⟨hf, h1⟩, fun x hx => ?_, fun y hy hb => ?_⟩, ?_⟩
      · rcases List.mem_cons.mp hx with rfl | hx
        · exact ⟨hm.2, Int.le_of_lt hm.2⟩
        · exact h2 x hx
      · have hb' := Found.bounds (i := y.1) (j := y.2) hy.1
        have e : nxtL (((row.length : Int), (row.length : Int)) :: ts) = row.length + 1 := by show nxt _ = _; unfold nxt; simp
        rw [e] at hb'
        omega
      · show (fstep _ _ (Mine.fw row ts)).2 = _
        rw [h3, kd_end, hz]
        simp [fstep]
    · rw [if_neg hm] at hz
      refine ⟨ts, ⟨h1, h2, fun y hy hb => ?_⟩, by rw [h3, hz]⟩
      obtain ⟨i, j⟩ := y
      obtain ⟨hf, _⟩ := hy
      obtain ⟨hf, hno⟩ := hf
      have hb1 : i < col := hb.1
      rcases hf with ⟨a1, a2, a3⟩ | ⟨a1, a2, a3, a4⟩
      · by_cases hi : i < k
        · exact tok_no a3 (h7 i a1 hi)
        · omega
      · exact hm ⟨a3, by omega⟩
  · refine ⟨ts, h6, ?_⟩
    rw [h3, hz, if_neg (by omega)]
theorem agree {row : Str} {marked : Bool} (h : RowOk row) {col x y z x' y' z' : Int} (h1 : BackRes row marked col x y z) (h2 : AheadRes row marked col x' y' z') : x = x' ∧ y = y' ∧ z = z' := by
  obtain ⟨ts, hm, hf⟩ := h2.fw h
  have e := h1.bk hm
  rw [bk_fw0, hf] at e
  simpa using e
end Mine
end
section
open PySem PySem.W PyProof.Rows PySem.Calls
namespace Mine
theorem rowOk_nil : RowOk (Str.ofString "") := by
  unfold RowOk
  rw [show (Str.ofString "").cps.toList = [] by decide]
  intro c hc
  cases hc
def Ext (ks c : Ledger) : Prop := ∀ p ∈ ks, p ∈ c
theorem Ext.keeps {ks c c' : Ledger} (h : Ext ks c) (k : Keeps c c') (hn : ∀ p ∈ ks, p.1 ≠ 26) : Ext ks c' := fun p hp => k p (h p hp) (hn p hp)
theorem Ext.keeps40 {ks c c' : Ledger} (h : Ext ks c) (k : Keeps40 c c') (hn : ∀ p ∈ ks, p.1 ≠ 40) : Ext ks c' := fun p hp => k p (h p hp) (hn p hp)
theorem Ext.cons {ks c : Ledger} {q : Addr × Obj} (h : Ext ks c) : Ext ks (q :: c) := fun p hp => .tail _ (h p hp)
theorem ne_obj {h₀ h : Heap} {L a b : Addr} {o o' : Obj} {N : Ledger} (H : News h₀ L h N) (m1 : (a, o) ∈ N) (m2 : (b, o') ∈ N) (hc : o.cls ≠ o'.cls) : a ≠ b := fun e => by
  subst e
  have e' : some o = some o' := (H _ m1).1.symm.trans (H _ m2).1
  exact hc (congrArg Obj.cls (Option.some.inj e'))
/-- none of these is a range's iterator, a table -/
def Plain (o : Obj) : Prop := o.cls ≠ .type "range_iterator" ∧ o.cls ≠ .none
theorem ext_off {h₀ h : Heap} {L I : Addr} {io : Obj} {ks N : Ledger} (H : News h₀ L h N) (hI : (I, io) ∈ N) (hio : IsRit io) (hk : Ext ks N) (hp : ∀ p ∈ ks, Plain p.2) : ∀ p ∈ ks, p.1 ≠ I := fun p hp' => by
  obtain ⟨x, y, z, rfl⟩ := hio
  exact ne_obj H (hk p hp') hI (hp p hp').1
theorem ext_tab {h₀ h : Heap} {L T : Addr} {ps : Array Value} {ks N : Ledger} (H : News h₀ L h N) (hT : (T, tabObj ps) ∈ N) (hk : Ext ks N) (hp : ∀ p ∈ ks, Plain p.2) : ∀ p ∈ ks, p.1 ≠ T := fun p hp' =>
  ne_obj H (hk p hp') hT (hp p hp').2
theorem tab26_at {lb : Nat} {N : Ledger} (h : Tab26 lb N) : ∃ ps, (26, tabObj ps) ∈ N := by
  rcases h.2 with h | ⟨_, _, _, _, h, _⟩ <;> exact ⟨_, h⟩
theorem tab40_at {lb : Nat} {N : Ledger} (h : Tab40 lb N) : ∃ ps, (40, tabObj ps) ∈ N := by
  rcases h.2 with h | ⟨_, _, _, _, h, _⟩ <;> exact ⟨_, h⟩
theorem Ext.less {I : Addr} {ks N : Ledger} (h : Ext ks N) (hn : ∀ p ∈ ks, p.1 ≠ I) : Ext ks (lessI I N) := fun p hp => mem_lessI (h p hp) (hn p hp)
theorem grown_all {lb : Nat} {h₀ h : Heap} {L : Addr} {N : Ledger} (H : News h₀ L h N) (h1 : Tab26 lb N) (h2 : Tab40 lb N) : GrownAll [(30, 26), (44, 40)] h := by
  obtain ⟨p1, m1⟩ := tab26_at h1
  obtain ⟨p2, m2⟩ := tab40_at h2
  exact ⟨GrownAt.of H m1, GrownAt.of H m2, trivial⟩
theorem start_led {G h : Heap} {L : Addr} {i' l' t3 t2 t1 D l : Nat} {o' lo oC oB oA ld lv : Obj} (N : News G L h [(i', o'), (l', lo), (t3, oC), (t2, oB), (t1, oA), (D, ld), (l, lv), (26, tabObj #[]), (40, tabObj #[])]) (p0 : i' ≠ 26 ∧ i' ≠ 40) (hl : lo.cls = .type "list") (hC : oC.cls = .type "tuple") (hB : oB.cls = .type "tuple") :
    ∃ ks LED : Ledger, ks = [(l', lo), (t3, oC), (t2, oB)] ∧ News G L h LED ∧ Tab26 i' LED ∧ Tab40 i' LED ∧ Ext ((i', o') :: ks) LED ∧ ∀ oj : Obj, oj.cls = .type "list_iterator" → ∀ p ∈ ((i', oj) :: ks), Plain p.2 := by
  refine ⟨_, _, rfl, N, ⟨⟨p0.1, p0.2, o', .head _⟩, .inl (.tail _ (.tail _ (.tail _ (.tail _ (.tail _ (.tail _ (.tail _ (.head _))))))))⟩, ⟨⟨p0.1, p0.2, o', .head _⟩, .inl (.tail _ (.tail _ (.tail _ (.tail _ (.tail _ (.tail _ (.tail _ (.tail _ (.head _)))))))))⟩, ?_, ?_⟩
  · intro p hp
    simp only [List.mem_cons, List.not_mem_nil, or_false] at hp ⊢
    rcases hp with rfl | rfl | rfl | rfl <;> simp
  · intro oj hj p hp
    simp only [List.mem_cons, List.not_mem_nil, or_false] at hp
    rcases hp with rfl | rfl | rfl | rfl
    · exact ⟨by rw [hj]; decide, by rw [hj]; decide⟩
    · exact ⟨by rw [hl]; decide, by rw [hl]; decide⟩
    · exact ⟨by rw [hC]; decide, by rw [hC]; decide⟩
    · exact ⟨by rw [hB]; decide, by rw [hB]; decide⟩
theorem ext_ne {lb : Nat} {h₀ h : Heap} {L : Addr} {ks N : Ledger} (H : News h₀ L h N) (h1 : Tab26 lb N) (h2 : Tab40 lb N) (hk : Ext ks N) (hp : ∀ p ∈ ks, Plain p.2) : (∀ p ∈ ks, p.1 ≠ 26) ∧ ∀ p ∈ ks, p.1 ≠ 40 := by
  obtain ⟨_, m1⟩ := tab26_at h1
  obtain ⟨_, m2⟩ := tab40_at h2
  exact ⟨ext_tab H m1 hk hp, ext_tab H m2 hk hp⟩
/-- the tables outlive the list iterator's leaving the ledger and its coming back -/
theorem Tab26.back {lb : Nat} {N : Ledger} {o : Obj} (h : Tab26 lb N) : Tab26 lb ((lb, o) :: lessI lb N) := by
  obtain ⟨⟨b1, b2, _⟩, h⟩ := h
  refine ⟨⟨b1, b2, o, .head _⟩, ?_⟩
  rcases h with h | ⟨k1, o1, k2, o2, m1, m2, e2, m3, e3, n1, n2⟩
  · exact .inl (.tail _ (mem_lessI h (Ne.symm b1)))
  · exact .inr ⟨k1, o1, k2, o2, .tail _ (mem_lessI m1 (Ne.symm b1)), .tail _ (mem_lessI m2 n1.2.2), e2, .tail _ (mem_lessI m3 n2.2.2), e3, n1, n2⟩
theorem Tab40.back {lb : Nat} {N : Ledger} {o : Obj} (h : Tab40 lb N) : Tab40 lb ((lb, o) :: lessI lb N) := by
  obtain ⟨⟨b1, b2, _⟩, h⟩ := h
  refine ⟨⟨b1, b2, o, .head _⟩, ?_⟩
  rcases h with h | ⟨k1, o1, k2, o2, m1, m2, e2, m3, e3, n1, n2⟩
  · exact .inl (.tail _ (mem_lessI h (Ne.symm b2)))
  · exact .inr ⟨k1, o1, k2, o2, .tail _ (mem_lessI m1 (Ne.symm b2)), .tail _ (mem_lessI m2 n1.2.2), e2, .tail _ (mem_lessI m3 n2.2.2), e3, n1, n2⟩
theorem relink {lb : Nat} {o : Obj} {G h : Heap} {L : Addr} {c ks : Ledger} (lN : News G L h ((lb, o) :: lessI lb c)) (h1 : Tab26 lb c) (h2 : Tab40 lb c) (hli : ∀ p ∈ ks, p ∈ lessI lb c) :
    ∃ LED : Ledger, News G L h LED ∧ Tab26 lb LED ∧ Tab40 lb LED ∧ Ext ((lb, o) :: ks) LED :=
  ⟨_, lN, h1.back, h2.back, fun p hp => by
    rcases List.mem_cons.mp hp with rfl | hp
    · exact .head _
    · exact .tail _ (hli p hp)⟩
theorem item_drawn (a : Int) : ∃ n, Txt.item (Str.ofString "()[]{},**=a ") (a.fmod 12) = ⟨#[n]⟩ ∧ n ∈ [40, 41, 91, 93, 123, 125, 44, 42, 61, 97, 32] := by
  have h0 : 0 ≤ a.fmod 12 := Int.fmod_nonneg_of_pos a (by decide)
  have h1 : a.fmod 12 < 12 := Int.fmod_lt_of_pos a (by decide)
  have hl : (Str.ofString "()[]{},**=a ").cps.toList = [40, 41, 91, 93, 123, 125, 44, 42, 42, 61, 97, 32] := by decide
  have hz : (a.fmod 12).toNat < (Str.ofString "()[]{},**=a ").cps.toList.length := by rw [hl]; simp; omega
  have hm := List.getElem_mem hz
  have he : (Str.ofString "()[]{},**=a ").cps[(a.fmod 12).toNat]? = some (Str.ofString "()[]{},**=a ").cps.toList[(a.fmod 12).toNat] := by
    rw [← Array.getElem?_toList, List.getElem?_eq_getElem hz]
  refine ⟨_, item_meets h0 he, ?_⟩
  generalize (Str.ofString "()[]{},**=a ").cps.toList[(a.fmod 12).toNat] = n at hm
  rw [hl] at hm
  exact (by decide : ∀ n ∈ [40, 41, 91, 93, 123, 125, 44, 42, 42, 61, 97, 32], n ∈ [40, 41, 91, 93, 123, 125, 44, 42, 61, 97, 32]) n hm
theorem rowOk_drawn (ns : List Int) : RowOk (Txt.join (Str.ofString "") (List.map (fun a => if (Txt.item (Str.ofString "()[]{},**=a ") (a.fmod 12)).length = 1 then Txt.item (Str.ofString "()[]{},**=a ") (a.fmod 12) else Str.empty) ns)) := by
  intro c hc
  rw [show ∀ l, Txt.join (Str.ofString "") l = Str.join (Str.ofString "") l from fun l => StrLaws.glued_eq_join _ l, mem_join] at hc
  rcases hc with ⟨t, ht, hc⟩ | ⟨_, hc⟩
  · obtain ⟨a, _, rfl⟩ := List.mem_map.mp ht
    obtain ⟨n, e, hn⟩ := item_drawn a
    rw [e] at hc
    rw [if_pos (show (⟨#[n]⟩ : Str).length = 1 from rfl)] at hc
    have : c = n := by simpa using hc
    rw [this]; exact hn
  · rw [show (Str.ofString "").cps.toList = [] by decide] at hc
    cases hc
end Mine
end
section
open PySem PySem.W PyProof.Rows PySem.Calls
set_option Elab.async false
set_option maxRecDepth 100000
namespace Mine
theorem cut1 {M : Model} {A : Around} {E : Value → Shared → Prop} {s : Shared} {env : Env} {s1 : Stmt} {rest : List Stmt} {Q : Flow → Shared → Prop} (Mid : Shared → Prop) (h : wpAny M A (execs [s1] env) (fun f s' => Hold (f = .next ∧ Mid s')) E s)
    (k : ∀ s', Mid s' → wpAny M A (execs rest env) Q E s') : wpAny M A (execs (s1 :: rest) env) Q E s := by
  intro Γ p hΓ
  have h1 := h Γ p hΓ
  rw [execs_cons, Sem.wp_bind'] at h1 ⊢
  refine Sem.wp_mono M Γ _ (fun f p' s' h' => ?_) (fun _ _ _ h' => h') _ _ h1
  cases f with
  | next => exact k s' (And.right (show Flow.next = .next ∧ Mid s' from h')) Γ p' hΓ
  | _ => exact absurd (And.left (show _ = Flow.next ∧ Mid s' from h')) (by intro e; cases e)
theorem mid_intro {s₁ : Shared} {G h₂ : Heap} {L : Addr} {m₂ : Str → Option Value} {l l' n n' tk : Nat} {vs : List Value} {ns : List Int} {its : Array Value} (F : Fr G L h₂ (fun y => if y = "numbers" then some (.ref l) else m₂ y))
    (N : News G L h₂ [(l, W.listOf vs.toArray n), (l', W.listOf its n'), (26, tabObj #[]), (40, tabObj #[])]) (hI : IntsAre vs ns) (h1 : 1 ≤ ns.length) (h8 : ns.length ≤ 8) (hlt : l' < l ∧ 26 < l ∧ 40 < l) :
    ∃ (h₃ : Heap) (tk₂ : Nat) (l : Nat) (vs₂ : List Value) (ns₂ : List Int) (n₂ : Nat) (m₂ : Str → Option Value), ({ s₁ with heap := h₂, toks := tk } : Shared) = { s₁ with heap := h₃, toks := tk₂ } ∧ Fr G L h₃ (fun y => if y = "numbers" then some (.ref l) else m₂ y) ∧
    News G L h₃ ((l, W.listOf (List.toArray vs₂) n₂) :: [(26, tabObj #[]), (40, tabObj #[])]) ∧ IntsAre vs₂ ns₂ ∧ 1 ≤ ns₂.length ∧ ns₂.length ≤ 8 ∧ l ≠ 26 ∧ l ≠ 40 :=
  ⟨h₂, tk, l, vs, ns, n, m₂, rfl, F, fun p hp => N p (by
    rcases List.mem_cons.mp hp with rfl | hp
    · exact .head _
    · exact .tail _ (.tail _ hp)), hI, h1, h8, Nat.ne_of_gt hlt.2.1, Nat.ne_of_gt hlt.2.2⟩
local macro_rules | `(tactic| walk_at "mine nowhere") => `(tactic| skip)
local macro_rules | `(tactic| walk_at "call ref") => `(tactic| refine hold_out ?_)
local macro_rules | `(tactic| walk_at "pyIter ref") => `(tactic| ((with_reducible show wpAny _ _ (pyIter (Value.ref _)) (fun it s₂ => LoopAtV _ _ _ _ _ _ _ _ _ it s₂) _ _); refine hold_out ?_))
local macro_rules | `(tactic| walk_at "exec For Name Call cons nil") => `(tactic| (k_here; (rename Fr _ _ _ _ => lF'); (with_unfolding_all refine' For_invVF lF' ?k1 ?k2 ?_; (case k1 => exact rfl); (case k2 => exact rfl); k_whole)))
local macro_rules | `(tactic| walk_at "call type:range") => `(tactic| ((rename Fr _ _ _ _ => F'); (rename News _ _ _ _ => N'); (with_unfolding_all refine range2_rows F' N' ?_); intro _ _ _ _ _ _ _ _ _))
local macro_rules | `(tactic| walk_at "assign Tuple") => `(tactic| (k_here; (with_reducible show wpAny _ _ (assign (Expr.Tuple _ _ _) _ (Value.ref _)) _ _ _); k_dflt (refine' unpackN_ ?F ?N ?T ?k1 ?k2 ?k3 ?_; (case F => k_asm); (case N => k_asm); (case T => (refine News.isTup (by k_asm) (List.Mem.tail _ (by assumption)))); (case k1 => exact rfl); (case k2 => exact rfl); (case k3 => exact rfl)); intro h' F' N'))
local macro_rules | `(tactic| walk_at "RngPost") => `(tactic| (dsimp only [RngPost]))
local macro_rules | `(tactic| walk_at "RngEnd") => `(tactic| refine hold_out ?_)
local macro_rules | `(tactic| walk_at "UnrEndW") => `(tactic| refine hold_out ?_)
local macro_rules | `(tactic| walk_at "GrownAll") => `(tactic| refine hold_out ?_)
local macro_rules | `(tactic| walk_at "CompSrc") => `(tactic| (k_here; k_dflt (refine LCg.CompSrc.ledger (by rfl) (by k_asm) (by k_asm) (by k_mem) (by (rw [sizeLine_eq]; (have hn9 := IntsAre.length (by assumption)); simp only [List.size_toArray]; omega)) ?_; intro g'; (refine' kct_list _ (by assumption) (fun k' t' I' oI' C' oC' D' m' ys' h' tk' E' hk' hC' hx' F' N' off' ne' => ?_) ?_); (all_goals (try (simp only [LCg.Off3, and_true] at off'))); (all_goals (try ((show KPfMark → _); intro hMark'))); kcf_last)))
set_option maxHeartbeats 8000000 in
theorem law_holds : PySem.Challenge.rw_mr0173_01.Holds := Mine.hd (by
  k_go0
  (try k_fold)
  (with_reducible rename Fr _ _ _ _ => lF)
  rename_i w s₀ s₁ mg mb G Y fa o pm cd doc kV ho hcd hg X0 V T B0 TE TW ns0 hs0 hlay0 hL1 hr1 hl2 w4 w3 sa vs0 w0 hL ra w1 r0 hI0 hr hc1 hc0 hD h₁ X' T' K' codeA N' l0
  refine cut1 (fun s' => ∃ (h₂ : Heap) (tk₂ : Nat) (l : Nat) (vs₂ : List Value) (ns₂ : List Int) (n₂ : Nat) (m₂ : Str → Option Value), s' = { s₁ with heap := h₂, toks := tk₂ } ∧ Fr (ghostOf s₁.heap [(30, 26), (44, 40)]) s₁.heap.objs.size h₂ (fun y => if y = "numbers" then some (.ref l) else m₂ y) ∧
    News (ghostOf s₁.heap [(30, 26), (44, 40)]) s₁.heap.objs.size h₂ ((l, W.listOf (List.toArray vs₂) n₂) :: [(26, tabObj #[]), (40, tabObj #[])]) ∧ IntsAre vs₂ ns₂ ∧ 1 ≤ ns₂.length ∧ ns₂.length ≤ 8 ∧ l ≠ 26 ∧ l ≠ 40) ?_ ?_
  · k_steps
    · unfold Hold
      (with_reducible rename Fr _ _ _ _ => lF2)
      (with_reducible rename News _ _ _ _ => lN2)
      exact ⟨rfl, mid_intro (ns := [0, 7, 8, 9]) lF2 lN2 (.cons _ _ (.cons _ _ (.cons _ _ (.cons _ _ .nil)))) (by decide) (by decide) (by assumption)⟩
    · unfold Hold
      (with_reducible rename Fr _ _ _ _ => lF2)
      (with_reducible rename News _ _ _ _ => lN2)
      refine ⟨rfl, mid_intro (ns := List.take 8 ns0) lF2 lN2 (by assumption) ?_ (by simp only [List.length_take]; omega) (by assumption)⟩
      (rename decide (ns0 = []) = false => hne)
      cases ns0 with
      | nil => exact absurd hne (by decide)
      | cons _ _ => simp
  · rintro s' ⟨h₂, tk₂, l, vs₂, ns₂, n₂, m₂, rfl, F', N', hI, hn1, hn8, hl26, hl40⟩
    clear lF l0
    k_steps
    unfold Hold
    (with_reducible rename Fr _ _ _ _ => lF)
    (with_reducible rename News _ _ _ _ => lN)
    rename_i hI8 g' hc0' ha8 hL8 D' _ _ o1 t' _ ktE h8 tk8 h7 hk2 nm2 h6 hk1 nm1 t5 h5 hk0 x1 x0 nm0 l' h4 l1a i' l1b h3 tk3 o' hc' h2 F2 N2 h1 h0
    have p0 : i' ≠ 26 ∧ i' ≠ 40 := ⟨Nat.ne_of_gt (by omega), Nat.ne_of_gt (by omega)⟩
    obtain ⟨ks, LED, hks, lN', hT26, hT40, hE, hpl⟩ := start_led lN p0 rfl rfl rfl
    clear lN
    rename News _ _ _ LED => lN
    have hki : ∀ p ∈ ks, p.1 ≠ i' := by
      rw [hks]
      intro p hp
      simp only [List.mem_cons, List.not_mem_nil, or_false] at hp
      rcases hp with rfl | rfl | rfl
      · exact Nat.ne_of_lt l1b.1
      · exact Nat.ne_of_lt l1b.2.1
      · exact Nat.ne_of_lt l1b.2.2.1
    subst ks
    refine prog_ct (lb := i') _ _ _ _ _ _ _ _ _ _ _ _ _ _ _ _ _ _ _ K' lF X' lN T' rfl hT40 (by show 302 + 2 < recursionLimit; decide) ?_
    intro r N₁ h₁ tk₁ F₁ N₁' hk₁ hT40₁ hP₁
    have hT26₁ := hT26.keeps40 hk₁
    have hne := ext_ne lN hT26 hT40 hE (hpl _ hc')
    have hE₁ := hE.keeps40 hk₁ hne.2
    clear lF lN
    k_steps
    unfold Hold
    (with_reducible rename Fr _ _ _ _ => lF)
    (with_reducible rename News _ _ _ _ => lN)
    (with_reducible rename IsRange _ _ _ _ _ _ _ _ => lR)
    with_unfolding_all refine rng (σ := Ledger) (n := 3) (L₀ := 41) (fun c => c) (fun _ => []) [] (fun _ c => Tab26 i' c ∧ Tab40 i' c ∧ ProgAt w c r (false) ∧ Ext _ c) N₁ (by rfl) lR ?sm1 ?n1 lF lN ?ps1 ⟨hT26₁, hT40₁, hP₁, hE₁⟩ ?turn1 ?done1 ?L01
    case sm1 => exact (by decide)
    case n1 => exact (rangeSize_nat _ _).trans (by rfl)
    case ps1 => exact List.forall_mem_nil _
    case L01 => exact Nat.le_trans (Nat.le_trans (by decide : 41 ≤ 45 + 1) (Heap.lt_size (X' 45 _ rfl))) (Nat.le_trans lF.above (Nat.le_of_lt lF.ns.lt))
    case turn1 =>
      clear lF lN lR
      rintro kq c kk tt u h₂ tk₂ I io hi hkk ⟨hT26₂, hT40₂, hP₂, hE₂⟩ hoff hI hio F' N'
      (try k_fold)
      k_steps
      unfold Hold
      (with_reducible rename Fr _ _ _ _ => lF)
      (with_reducible rename News _ _ _ _ => lN)
      refine (back_ct r _ _ kk tt (false) (by decide)).use K' lF X' lN T' rfl hT26₂.cons hP₂.cons (by show 302 + 16 < recursionLimit; decide) (by show 7 + 8 * 16 < cLine; decide) ?_
      intro r₂ N₂ h₃ tk₃ F₂ N₂' hkeep₂ hT26₃ ⟨ta, xa, ya, za, txa, tya, tza, e₂, hm₂, hB⟩
      subst e₂
      clear lF lN
      k_steps
      unfold Hold
      (with_reducible rename Fr _ _ _ _ => lF)
      (with_reducible rename News _ _ _ _ => lN)
      refine (ahead_ct _ _ kk tt (false) (by decide)).use K' lF X' lN T' rfl hT26₃ trivial (by show 302 + 4 < recursionLimit; decide) (by show 7 + 8 * 4 < cLine; decide) ?_
      intro r₃ N₃ h₄ tk₄ F₃ N₃' hkeep₃ hT26₄ ⟨tb, xb, yb, zb, txb, tyb, tzb, e₃, hm₃, hA⟩
      subst e₃
      obtain ⟨rfl, rfl, rfl⟩ := agree rowOk_nil hB hA
      obtain ⟨ps9, mt9⟩ := tab26_at hT26₃
      have hm₂' := hkeep₃ _ hm₂ (ne_obj lN hm₂ mt9 (show Value.type "tuple" ≠ Value.none by decide))
      clear lF lN
      k_steps
      unfold Hold
      (with_reducible rename Fr _ _ _ _ => lF)
      (with_reducible rename News _ _ _ _ => lN)
      have hkp : Keeps ((I, io) :: c) N₃ := hkeep₂.trans hkeep₃
      have hI26 : I ≠ 26 := Nat.ne_of_gt (Nat.lt_of_lt_of_le (by decide) hI)
      have hI40 : I ≠ 40 := Nat.ne_of_gt (Nat.lt_of_lt_of_le (by decide) hI)
      have hmI : (I, io) ∈ N₃ := hkp _ (.head _) hI26
      have hr9 := only_rit lN hmI hio
      have hE₃ := hE₂.cons.keeps hkp hne.1
      have hlI : i' ≠ I := let ⟨⟨_, _, _, hm9⟩, _⟩ := hT26₂; hoff _ hm9
      refine rng_end (lessI I N₃) lF lN lessI_mem hmI (lessI_off I N₃) (List.forall_mem_nil _) (by intro z h1 _ h3; simp [kstB, h1]) ⟨hT26₄.less hr9 hI26 hlI, (hT40₂.cons.keeps hkp).less hr9 hI40 hlI, (hP₂.cons.keeps hkp).less hr9, hE₃.less (ext_off lN hmI hio hE₃ (hpl _ hc'))⟩
    case done1 =>
      clear lF lN lR
      intro c u h₂ tk₂ ⟨hT26₂, hT40₂, hP₂, hE₂⟩ F' N'
      (try k_fold)
      k_steps
      unfold Hold
      have hli : ∀ p ∈ _, p ∈ lessI i' c := fun p hp => mem_lessI (hE₂ p (.tail _ hp)) (hki p hp)
      refine ⟨_, _, _, lessI i' c, rfl, F', fun p hp => ?_, fun p hp q hq => ?_, ⟨hli _ (.head _), trivial⟩, ?_⟩
      · rcases List.mem_append.mp hp with hp | hp
        · rw [List.mem_singleton.mp hp]; exact N' _ (hE₂ _ (.head _))
        · exact N' _ (lessI_mem p hp)
      · rw [List.mem_singleton.mp hq]; exact lessI_off i' c p hp
      · have hmB := hli _ (.tail _ (.tail _ (.head _)))
        have hmC := hli _ (.tail _ (.head _))
        clear F' N'
        k_steps
        unfold Hold
        (with_reducible rename Fr _ _ _ _ => lF)
        (with_reducible rename News _ _ _ _ => lN)
        (rename (_ = Value.type "list_iterator") => hc2)
        obtain ⟨LED2, lN2, hT26, hT40, hE⟩ := relink lN hT26₂ hT40₂ hli
        clear lN
        (with_reducible rename News _ _ _ _ => lN)
        clear hne hE₁ hT26₁ hT40₁ hP₁ hk₁
        refine prog_ct (lb := i') _ _ _ _ _ _ _ _ _ _ _ _ _ _ _ _ _ _ _ K' lF X' lN T' rfl hT40 (by show 302 + 2 < recursionLimit; decide) ?_
        intro r N₁ h₁ tk₁ F₁ N₁' hk₁ hT40₁ hP₁
        have hT26₁ := hT26.keeps40 hk₁
        have hne := ext_ne lN hT26 hT40 hE (hpl _ hc2)
        have hE₁ := hE.keeps40 hk₁ hne.2
        clear lF lN
        k_steps
        unfold Hold
        (with_reducible rename Fr _ _ _ _ => lF)
        (with_reducible rename News _ _ _ _ => lN)
        (with_reducible rename IsRange _ _ _ _ _ _ _ _ => lR)
        with_unfolding_all refine rng (σ := Ledger) (n := 3) (L₀ := 41) (fun c => c) (fun _ => []) [] (fun _ c => Tab26 i' c ∧ Tab40 i' c ∧ ProgAt w c r (true) ∧ Ext _ c) N₁ (by rfl) lR ?sm2 ?n2 lF lN ?ps2 ⟨hT26₁, hT40₁, hP₁, hE₁⟩ ?turn2 ?done2 ?L02
        case sm2 => exact (by decide)
        case n2 => exact (rangeSize_nat _ _).trans (by rfl)
        case ps2 => exact List.forall_mem_nil _
        case L02 => exact Nat.le_trans (Nat.le_trans (by decide : 41 ≤ 45 + 1) (Heap.lt_size (X' 45 _ rfl))) (Nat.le_trans lF.above (Nat.le_of_lt lF.ns.lt))
        case turn2 =>
          clear lF lN lR
          rintro kq c kk tt u h₂ tk₂ I io hi hkk ⟨hT26₂, hT40₂, hP₂, hE₂⟩ hoff hI hio F' N'
          (try k_fold)
          k_steps
          unfold Hold
          (with_reducible rename Fr _ _ _ _ => lF)
          (with_reducible rename News _ _ _ _ => lN)
          refine (back_ct r _ _ kk tt (true) (by decide)).use K' lF X' lN T' rfl hT26₂.cons hP₂.cons (by show 302 + 16 < recursionLimit; decide) (by show 7 + 8 * 16 < cLine; decide) ?_
          intro r₂ N₂ h₃ tk₃ F₂ N₂' hkeep₂ hT26₃ ⟨ta, xa, ya, za, txa, tya, tza, e₂, hm₂, hB⟩
          subst e₂
          clear lF lN
          k_steps
          unfold Hold
          (with_reducible rename Fr _ _ _ _ => lF)
          (with_reducible rename News _ _ _ _ => lN)
          refine (ahead_ct _ _ kk tt (true) (by decide)).use K' lF X' lN T' rfl hT26₃ trivial (by show 302 + 4 < recursionLimit; decide) (by show 7 + 8 * 4 < cLine; decide) ?_
          intro r₃ N₃ h₄ tk₄ F₃ N₃' hkeep₃ hT26₄ ⟨tb, xb, yb, zb, txb, tyb, tzb, e₃, hm₃, hA⟩
          subst e₃
          obtain ⟨rfl, rfl, rfl⟩ := agree rowOk_nil hB hA
          obtain ⟨ps9, mt9⟩ := tab26_at hT26₃
          have hm₂' := hkeep₃ _ hm₂ (ne_obj lN hm₂ mt9 (show Value.type "tuple" ≠ Value.none by decide))
          clear lF lN
          k_steps
          unfold Hold
          (with_reducible rename Fr _ _ _ _ => lF)
          (with_reducible rename News _ _ _ _ => lN)
          have hkp : Keeps ((I, io) :: c) N₃ := hkeep₂.trans hkeep₃
          have hI26 : I ≠ 26 := Nat.ne_of_gt (Nat.lt_of_lt_of_le (by decide) hI)
          have hI40 : I ≠ 40 := Nat.ne_of_gt (Nat.lt_of_lt_of_le (by decide) hI)
          have hmI : (I, io) ∈ N₃ := hkp _ (.head _) hI26
          have hr9 := only_rit lN hmI hio
          have hE₃ := hE₂.cons.keeps hkp hne.1
          have hlI : i' ≠ I := let ⟨⟨_, _, _, hm9⟩, _⟩ := hT26₂; hoff _ hm9
          refine rng_end (lessI I N₃) lF lN lessI_mem hmI (lessI_off I N₃) (List.forall_mem_nil _) (by intro z h1 _ h3; simp [kstB, h1]) ⟨hT26₄.less hr9 hI26 hlI, (hT40₂.cons.keeps hkp).less hr9 hI40 hlI, (hP₂.cons.keeps hkp).less hr9, hE₃.less (ext_off lN hmI hio hE₃ (hpl _ hc2))⟩
        case done2 =>
          clear lF lN lR
          intro c u h₂ tk₂ ⟨hT26₂, hT40₂, hP₂, hE₂⟩ F' N'
          (try k_fold)
          k_steps
          unfold Hold
          have hli : ∀ p ∈ _, p ∈ lessI i' c := fun p hp => mem_lessI (hE₂ p (.tail _ hp)) (hki p hp)
          refine ⟨_, _, _, lessI i' c, rfl, F', fun p hp => ?_, fun p hp q hq => ?_, ⟨hli _ (.head _), trivial⟩, ?_⟩
          · rcases List.mem_append.mp hp with hp | hp
            · rw [List.mem_singleton.mp hp]; exact N' _ (hE₂ _ (.head _))
            · exact N' _ (lessI_mem p hp)
          · rw [List.mem_singleton.mp hq]; exact lessI_off i' c p hp
          · have hmB := hli _ (.tail _ (.tail _ (.head _)))
            have hmC := hli _ (.tail _ (.head _))
            clear F' N'
            k_steps
            unfold Hold
            (with_reducible rename Fr _ _ _ _ => lF)
            (with_reducible rename News _ _ _ _ => lN)
            (rename (_ = Value.type "list_iterator") => hc3)
            obtain ⟨LED3, lN2, hT26, hT40, hE⟩ := relink lN hT26₂ hT40₂ hli
            clear lN
            (with_reducible rename News _ _ _ _ => lN)
            clear hne hE₁ hT26₁ hT40₁ hP₁ hk₁
            refine prog_ct (lb := i') _ _ _ _ _ _ _ _ _ _ _ _ _ _ _ _ _ _ _ K' lF X' lN T' rfl hT40 (by show 302 + 2 < recursionLimit; decide) ?_
            intro r N₁ h₁ tk₁ F₁ N₁' hk₁ hT40₁ hP₁
            have hT26₁ := hT26.keeps40 hk₁
            have hne := ext_ne lN hT26 hT40 hE (hpl _ hc3)
            have hE₁ := hE.keeps40 hk₁ hne.2
            clear lF lN
            k_steps
            unfold Hold
            (with_reducible rename Fr _ _ _ _ => lF)
            (with_reducible rename News _ _ _ _ => lN)
            (with_reducible rename IsRange _ _ _ _ _ _ _ _ => lR)
            with_unfolding_all refine rng (σ := Ledger) (n := ns₂.length + 3) (L₀ := 41) (fun c => c) (fun _ => []) [] (fun _ c => Tab26 i' c ∧ Tab40 i' c ∧ ProgAt w c r (((ns₂.getD (Int.toNat 0) 0).fdiv 12).fmod 2 == 1) ∧ Ext _ c) N₁ (by rfl) lR ?sm3 ?n3 lF lN ?ps3 ⟨hT26₁, hT40₁, hP₁, hE₁⟩ ?turn3 ?done3 ?L03
            case sm3 => exact small_one (by omega) (by omega) (by omega) (by omega)
            case n3 => exact (rangeSize_nat _ _).trans (by omega)
            case ps3 => exact List.forall_mem_nil _
            case L03 => exact Nat.le_trans (Nat.le_trans (by decide : 41 ≤ 45 + 1) (Heap.lt_size (X' 45 _ rfl))) (Nat.le_trans lF.above (Nat.le_of_lt lF.ns.lt))
            case turn3 =>
              clear lF lN lR
              rintro kq c kk tt u h₂ tk₂ I io hi hkk ⟨hT26₂, hT40₂, hP₂, hE₂⟩ hoff hI hio F' N'
              (try k_fold)
              k_steps
              unfold Hold
              (with_reducible rename Fr _ _ _ _ => lF)
              (with_reducible rename News _ _ _ _ => lN)
              refine (back_ct r _ _ kk tt (((ns₂.getD (Int.toNat 0) 0).fdiv 12).fmod 2 == 1) (by omega)).use K' lF X' lN T' rfl hT26₂.cons hP₂.cons (by show 302 + 16 < recursionLimit; decide) (by show 7 + 8 * 16 < cLine; decide) ?_
              intro r₂ N₂ h₃ tk₃ F₂ N₂' hkeep₂ hT26₃ ⟨ta, xa, ya, za, txa, tya, tza, e₂, hm₂, hB⟩
              subst e₂
              clear lF lN
              k_steps
              unfold Hold
              (with_reducible rename Fr _ _ _ _ => lF)
              (with_reducible rename News _ _ _ _ => lN)
              refine (ahead_ct _ _ kk tt (((ns₂.getD (Int.toNat 0) 0).fdiv 12).fmod 2 == 1) (by omega)).use K' lF X' lN T' rfl hT26₃ trivial (by show 302 + 4 < recursionLimit; decide) (by show 7 + 8 * 4 < cLine; decide) ?_
              intro r₃ N₃ h₄ tk₄ F₃ N₃' hkeep₃ hT26₄ ⟨tb, xb, yb, zb, txb, tyb, tzb, e₃, hm₃, hA⟩
              subst e₃
              obtain ⟨rfl, rfl, rfl⟩ := agree (rowOk_drawn _) hB hA
              obtain ⟨ps9, mt9⟩ := tab26_at hT26₃
              have hm₂' := hkeep₃ _ hm₂ (ne_obj lN hm₂ mt9 (show Value.type "tuple" ≠ Value.none by decide))
              clear lF lN
              k_steps
              unfold Hold
              (with_reducible rename Fr _ _ _ _ => lF)
              (with_reducible rename News _ _ _ _ => lN)
              have hkp : Keeps ((I, io) :: c) N₃ := hkeep₂.trans hkeep₃
              have hI26 : I ≠ 26 := Nat.ne_of_gt (Nat.lt_of_lt_of_le (by decide) hI)
              have hI40 : I ≠ 40 := Nat.ne_of_gt (Nat.lt_of_lt_of_le (by decide) hI)
              have hmI : (I, io) ∈ N₃ := hkp _ (.head _) hI26
              have hr9 := only_rit lN hmI hio
              have hE₃ := hE₂.cons.keeps hkp hne.1
              have hlI : i' ≠ I := let ⟨⟨_, _, _, hm9⟩, _⟩ := hT26₂; hoff _ hm9
              refine rng_end (lessI I N₃) lF lN lessI_mem hmI (lessI_off I N₃) (List.forall_mem_nil _) (by intro z h1 _ h3; simp [kstB, h1]) ⟨hT26₄.less hr9 hI26 hlI, (hT40₂.cons.keeps hkp).less hr9 hI40 hlI, (hP₂.cons.keeps hkp).less hr9, hE₃.less (ext_off lN hmI hio hE₃ (hpl _ hc3))⟩
            case done3 =>
              clear lF lN lR
              intro c u h₂ tk₂ ⟨hT26₂, hT40₂, hP₂, hE₂⟩ F' N'
              (try k_fold)
              k_steps
              unfold Hold
              have hli : ∀ p ∈ _, p ∈ lessI i' c := fun p hp => mem_lessI (hE₂ p (.tail _ hp)) (hki p hp)
              refine ⟨_, _, _, lessI i' c, rfl, F', fun p hp => ?_, fun p hp q hq => ?_, ⟨hli _ (.head _), trivial⟩, ?_⟩
              · rcases List.mem_append.mp hp with hp | hp
                · rw [List.mem_singleton.mp hp]; exact N' _ (hE₂ _ (.head _))
                · exact N' _ (lessI_mem p hp)
              · rw [List.mem_singleton.mp hq]; exact lessI_off i' c p hp
              · skip
                have hmC := hli _ (.tail _ (.head _))
                clear F' N'
                k_steps
                unfold Hold
                (with_reducible rename News _ _ _ _ => lN)
                obtain ⟨ps8, m8⟩ := tab26_at hT26₂
                obtain ⟨ps9, m9⟩ := tab40_at hT40₂
                exact ⟨GrownAt.of lN (mem_lessI m8 (Ne.symm p0.1)), GrownAt.of lN (mem_lessI m9 (Ne.symm p0.2)), trivial⟩
    )
end Mine
end
theorem PySem.Challenge.cw_mr0173_01_holds : PySem.Challenge.rw_mr0173_01.Holds :=
  Mine.law_holds

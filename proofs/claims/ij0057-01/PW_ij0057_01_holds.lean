import PyProof.Rows.All
import Wide.All
import OpenK.AllK
import Wide.FinOn
import PyProof.EqAt
import PyProof.Rows.StrIntSpec
import PyProof.CollectIter
import PyProof.Rows.SortRev
import Flt.Calls4
import Lean
import PySem.Challenge.RW_ij0057_01
set_option Elab.async false
set_option maxRecDepth 100000

section
open PySem PySem.W PyProof.Rows
set_option maxHeartbeats 8000000
namespace Mine
section
local macro_rules | `(tactic| o_head $_) => `(tactic| exact (And.right (by assumption)))
theorem frag (h : PySem.Challenge.rw_ij0057_01.Holds) : PySem.Challenge.rw_ij0057_01.Holds := by
  w_on
  refine holds_law h.1 fun _ => ?_
  k_head
end
noncomputable def lawDefP : {d : DefRec × List (Str × Expr) // defOf PySem.Challenge.rw_ij0057_01.row.toRowW.prog PySem.Challenge.rw_ij0057_01.row.toRowW.name = some d} := ⟨_, by rfl⟩
noncomputable def lawDef : DefRec := lawDefP.1.1
end Mine
end
section
namespace Mine
theorem offEA : True := by
  w_top off
  trivial
inductive E4 {α1 α2 α3 α4 : Type} (p : α1 → α2 → α3 → α4 → Prop) : Prop
  | mk (x1 : α1) (x2 : α2) (x3 : α3) (x4 : α4) (h : p x1 x2 x3 x4) : E4 p
inductive E5 {α1 α2 α3 α4 α5 : Type} (p : α1 → α2 → α3 → α4 → α5 → Prop) : Prop
  | mk (x1 : α1) (x2 : α2) (x3 : α3) (x4 : α4) (x5 : α5) (h : p x1 x2 x3 x4 x5) : E5 p
inductive E6 {α1 α2 α3 α4 α5 α6 : Type} (p : α1 → α2 → α3 → α4 → α5 → α6 → Prop) : Prop
  | mk (x1 : α1) (x2 : α2) (x3 : α3) (x4 : α4) (x5 : α5) (x6 : α6) (h : p x1 x2 x3 x4 x5 x6) : E6 p
inductive E8 {α1 α2 α3 α4 α5 α6 α7 α8 : Type} (p : α1 → α2 → α3 → α4 → α5 → α6 → α7 → α8 → Prop) : Prop
  | mk (x1 : α1) (x2 : α2) (x3 : α3) (x4 : α4) (x5 : α5) (x6 : α6) (x7 : α7) (x8 : α8) (h : p x1 x2 x3 x4 x5 x6 x7 x8) : E8 p
inductive E9 {α1 α2 α3 α4 α5 α6 α7 α8 α9 : Type} (p : α1 → α2 → α3 → α4 → α5 → α6 → α7 → α8 → α9 → Prop) : Prop
  | mk (x1 : α1) (x2 : α2) (x3 : α3) (x4 : α4) (x5 : α5) (x6 : α6) (x7 : α7) (x8 : α8) (x9 : α9) (h : p x1 x2 x3 x4 x5 x6 x7 x8 x9) : E9 p
inductive E11 {α1 α2 α3 α4 α5 α6 α7 α8 α9 α10 α11 : Type} (p : α1 → α2 → α3 → α4 → α5 → α6 → α7 → α8 → α9 → α10 → α11 → Prop) : Prop
  | mk (x1 : α1) (x2 : α2) (x3 : α3) (x4 : α4) (x5 : α5) (x6 : α6) (x7 : α7) (x8 : α8) (x9 : α9) (x10 : α10) (x11 : α11) (h : p x1 x2 x3 x4 x5 x6 x7 x8 x9 x10 x11) : E11 p
inductive A7 (c1 c2 c3 c4 c5 c6 c7 : Prop) : Prop
  | mk (h1 : c1) (h2 : c2) (h3 : c3) (h4 : c4) (h5 : c5) (h6 : c6) (h7 : c7) : A7 c1 c2 c3 c4 c5 c6 c7
inductive A8 (c1 c2 c3 c4 c5 c6 c7 c8 : Prop) : Prop
  | mk (h1 : c1) (h2 : c2) (h3 : c3) (h4 : c4) (h5 : c5) (h6 : c6) (h7 : c7) (h8 : c8) : A8 c1 c2 c3 c4 c5 c6 c7 c8
inductive A9 (c1 c2 c3 c4 c5 c6 c7 c8 c9 : Prop) : Prop
  | mk (h1 : c1) (h2 : c2) (h3 : c3) (h4 : c4) (h5 : c5) (h6 : c6) (h7 : c7) (h8 : c8) (h9 : c9) : A9 c1 c2 c3 c4 c5 c6 c7 c8 c9
inductive A10 (c1 c2 c3 c4 c5 c6 c7 c8 c9 c10 : Prop) : Prop
  | mk (h1 : c1) (h2 : c2) (h3 : c3) (h4 : c4) (h5 : c5) (h6 : c6) (h7 : c7) (h8 : c8) (h9 : c9) (h10 : c10) : A10 c1 c2 c3 c4 c5 c6 c7 c8 c9 c10
inductive A12 (c1 c2 c3 c4 c5 c6 c7 c8 c9 c10 c11 c12 : Prop) : Prop
  | mk (h1 : c1) (h2 : c2) (h3 : c3) (h4 : c4) (h5 : c5) (h6 : c6) (h7 : c7) (h8 : c8) (h9 : c9) (h10 : c10) (h11 : c11) (h12 : c12) : A12 c1 c2 c3 c4 c5 c6 c7 c8 c9 c10 c11 c12
inductive A14 (c1 c2 c3 c4 c5 c6 c7 c8 c9 c10 c11 c12 c13 c14 : Prop) : Prop
  | mk (h1 : c1) (h2 : c2) (h3 : c3) (h4 : c4) (h5 : c5) (h6 : c6) (h7 : c7) (h8 : c8) (h9 : c9) (h10 : c10) (h11 : c11) (h12 : c12) (h13 : c13) (h14 : c14) : A14 c1 c2 c3 c4 c5 c6 c7 c8 c9 c10 c11 c12 c13 c14
inductive A15 (c1 c2 c3 c4 c5 c6 c7 c8 c9 c10 c11 c12 c13 c14 c15 : Prop) : Prop
  | mk (h1 : c1) (h2 : c2) (h3 : c3) (h4 : c4) (h5 : c5) (h6 : c6) (h7 : c7) (h8 : c8) (h9 : c9) (h10 : c10) (h11 : c11) (h12 : c12) (h13 : c13) (h14 : c14) (h15 : c15) : A15 c1 c2 c3 c4 c5 c6 c7 c8 c9 c10 c11 c12 c13 c14 c15
end Mine
end
section
open PySem PySem.W PyProof.Rows PySem.Calls
set_option maxHeartbeats 8000000
namespace Mine
theorem offB0 : True := by
  w_top off
  trivial

structure Cx (w : World) (A₀ A : Around) (base h₀ : Heap) (outer : List Env) (env : Env) (L : Addr) (h : Heap) (m : Str → Option Value)
    (p : Program) (loose : List Str) (mean : ExcName → Option Value) (mg mb : Str → Option Value) : Prop where
  B : Below A₀ base outer h₀
  F : Fr h₀ L h m
  X : (Mine.frag.heap_1 w.params).In h₀
  T : Top p loose mean mg mb h₀
  hA : A.frames = some (env :: outer)
  hf : env.frame = some L
  hk : env.scope.kind = .function
  hh : A.handled = none

section
variable {w : World} {A₀ A : Around} {base h₀ : Heap} {outer : List Env} {env : Env} {L : Addr} {m : Str → Option Value}
  {p : Program} {loose : List Str} {mean : ExcName → Option Value} {mg mb : Str → Option Value} {s : Shared}
  {R : Result → Shared → Prop} {name qual : Str} {params : Arguments} {body : List Stmt} {scope : Scope} {dV kV doc pm cdv ct oc : Value}
  {an od : Option Addr} {osl : Array (Option Value)} {f : Addr} {args : Args} {binds : List (Str × Value)} {muts : List (Addr × Obj)}

theorem callM (c : Cx w A₀ A base h₀ outer env L s.heap m p loose mean mg mb) (N : News h₀ L s.heap muts)
    (ho : (Mine.frag.heap_1 w.params).lookup f = some ⟨oc, od, .func (fnOf name qual params body scope dV kV doc pm an cdv ct), osl⟩) (hcd : codeIn (Mine.frag.heap_1 w.params) cdv qual = true) (hroom : A.depth < recursionLimit)
    (hbind : BindsTo s (fnOf name qual params body scope dV kV doc pm an cdv ct) args binds) (hloc : ∀ y ∈ binds, scope.names.lookup y.1 = some .local)
    (h : ∀ g L' h₁, s.heap.objs.size ≤ L' → Fr g L' h₁ (fun y => binds.reverse.lookup y) → News g L' h₁ muts → Below A base (env :: outer) g → (Mine.frag.heap_1 w.params).In g → Top p loose mean mg mb g →
      (∀ b o, b ∉ muts.map (·.1) → s.heap.get? b = some o → g.get? b = some o) → (∀ b o, g.get? b = some o → s.heap.get? b = some o) → (∀ q ∈ muts, g.get? q.1 = none) →
      wpAny (model PySem.Challenge.rw_ij0057_01.row.prog w) (A.deeper (envOf qual scope L' f cdv)) (execs body (envOf qual scope L' f cdv))
        (fun fl s' => ∃ m', Fr g L' s'.heap m' ∧ ((∀ b o, b ∉ muts.map (·.1) → s.heap.get? b = some o → s'.heap.get? b = some o) → R (.ok (.ret (match fl with | .ret v => v | _ => .none))) s'))
        (fun _ _ => False)
        { s with heap := h₁, toks := s.toks + binds.length })
    (hco : scope.isCoroutine = false) (hgen : scope.isGenerator = false) (hk : scope.kind = .function)
    (hcell : ∀ x ∈ scope.names, x.2 ≠ .cell) : codeAny (model PySem.Challenge.rw_ij0057_01.row.prog w) A (.call (.ref f) args) R s := by
  obtain ⟨FG, BG, st, lv⟩ := groundX (R := R) c.B c.F N c.hA c.hf c.hk
  refine codeAny_call_def (fd := fnX name qual params body scope [] dV kV doc pm an cdv ct) (body := body) (binds := binds) hroom ((c.X.keeps c.F.keep) _ _ ho) rfl (c.T.nolimit.keeps c.F.keep) (codeRec_of (c.X.keeps c.F.keep) hcd) rfl hbind hcell hloc (fun h₁ hns hk₁ => ?_) hco hgen hk
  have X' : (Mine.frag.heap_1 w.params).In (hideAll s.heap (muts.map (·.1))) := c.X.keeps st
  have T' : Top p loose mean mg mb (hideAll s.heap (muts.map (·.1))) := c.T.keeps st
  refine wpAny_mono (h (hideAll s.heap (muts.map (·.1))) s.heap.objs.size h₁ (Nat.le_refl _) ⟨hns, fun b o e => hk₁ b o (of_hideAll _ e), Nat.le_of_eq (hideAll_size _ _)⟩
    (fun p hp => ⟨hk₁ _ _ (N p hp).1, Nat.ne_of_lt (Heap.lt_size (N p hp).1), hideAll_none _ (List.mem_map_of_mem hp)⟩) BG X' T'
    (fun b o hb e => hideAll_get _ e hb) (fun b o e => of_hideAll _ e) (fun q hq => hideAll_none _ (List.mem_map_of_mem hq))) (fun fl s' hl => ?_) fun _ _ y => y.elim
  obtain ⟨m', F', k⟩ := hl
  exact k fun b o hb e => F'.keep b o (hideAll_get _ e hb)

theorem Cx.inn (c : Cx w A₀ A base h₀ outer env L s.heap m p loose mean mg mb) {g h' : Heap} {L' a : Addr} {m' : Str → Option Value} {nm : Str} {sc : Scope} {cd : Value}
    (B' : Below A base (env :: outer) g) (F' : Fr g L' h' m') (X' : (Mine.frag.heap_1 w.params).In g) (T' : Top p loose mean mg mb g) (hk : sc.kind = .function := by rfl) :
    Cx w A (A.deeper (envOf nm sc L' a cd)) base g (env :: outer) (envOf nm sc L' a cd) L' h' m' p loose mean mg mb :=
  ⟨B', F', X', T', by show A.frames.map _ = _; rw [c.hA]; rfl, rfl, hk, c.hh⟩

theorem ext_fr {h h' : Heap} {a : Addr} (F : Fr h₀ L h m) (hx : Heap.ExtBut a h h') (ha : a ≠ L) (h0 : h₀.get? a = none) : Fr h₀ L h' m :=
  ⟨F.ns.extBut hx ha.symm, fun b o e => hx b o (fun q => by rw [q, h0] at e; cases e) (F.keep b o e), F.above⟩
end

noncomputable def CmpX (w : World) (h : Heap) (a : Addr) (v u : Value) (b : Bool) : Prop :=
  ∀ (A : Around) (Q : Value → Shared → Prop) (E : Value → Shared → Prop) (s' : Shared), A.units + 64 < cLine → Heap.ExtBut a h s'.heap → (∀ tk, Q (.bool b) { s' with toks := tk }) → wpAny (model PySem.Challenge.rw_ij0057_01.row.prog w) A (richCompare .Lt v u) Q E s'
theorem CmpX.keeps {w : World} {h h' : Heap} {a : Addr} {v u : Value} {b : Bool} (x : CmpX w h a v u b) (k : Heap.ExtBut a h h') : CmpX w h' a v u b :=
  fun A Q E s' hu hx hq => x A Q E s' hu (k.trans hx) hq
end Mine
end
section
open PySem PySem.W PyProof.Rows PySem.Calls
set_option maxHeartbeats 8000000
namespace Mine
theorem offB1 : True := by
  w_top off
  trivial

section
variable {prog : Program} {w : World} {A : Around} {E : Value → Shared → Prop} {s : Shared} {g : Heap} {L a : Addr} {m : Str → Option Value} {news rest : List (Addr × Obj)} {xs : List Value} {e : Nat} {k : Int} {t : Tok} {j : Nat} {v : Value}

theorem isListL {h : Heap} (N : News g L h news) (hm : (a, listOf xs.toArray e) ∈ news) : h.IsList a xs.toArray := PySem.IsL.isList (n := e) (N _ hm).1

theorem itemL {value slice : Expr} {Q : Value → Shared → Prop} (N : News g L s.heap news) (hm : (a, listOf xs.toArray e) ∈ news) (hk : k = (j : Int)) (hx : xs[j]? = some v) (hj : j < 2 ^ 63) (h : Q v s)
    (hs : subscripted slice false (.ref a) (.int k t) = operate [.ref a, .int k t] (getItem (.ref a) (.int k t)) := by with_unfolding_all rfl) :
    wpAny (model prog w) A (subscriptTail value slice (.ref a) (.int k t)) Q E s := by
  have hl := isListL N hm
  subst hk
  exact tail_any hl.typeIs slot_list_getitem.lookup (wpAny_getItem_list hl (by (first | lia | omega)) (by (first | lia | omega)) (by simpa using hx) h) hs

theorem lenL {Q : Value → Shared → Prop} (N : News g L s.heap news) (hm : (a, listOf xs.toArray e) ∈ news) (hl : xs.length < 2 ^ 62) (h : Q (.int xs.length (s.toks + 1)) { s with toks := s.toks + 1 + 1 }) :
    wpAny (model prog w) A (call (.builtin "len") [.ref a]) Q E s := by
  have e : xs.toArray.size = xs.length := by simp
  exact call_len_list (isListL N hm) (by rw [e]; (first | lia | omega)) (by rw [e]; exact h)

theorem setL {Q : Unit → Shared → Prop} (F : Fr g L s.heap m) (N : News g L s.heap ((a, listOf xs.toArray e) :: rest)) (hr : ∀ q ∈ rest, q.1 ≠ a) (hk : k = (j : Int)) (hj : j < xs.length) (hf : j < 2 ^ 63)
    (h : ∀ h', Fr g L h' m → News g L h' ((a, listOf (xs.set j v).toArray e) :: rest) → Heap.SameBut a s.heap h' → Q () { s with heap := h' }) :
    wpAny (model prog w) A (setItem (.ref a) (.int k t) v) Q E s := by
  have z := N (a, listOf xs.toArray e) (.head _)
  subst hk
  refine ki_setAt z.1 (by (first | lia | omega)) (by (first | lia | omega)) (by rw [List.size_toArray]; (first | lia | omega)) (h _ (F.change (Heap.SameBut.update ..) z.2.1 z.2.2) (ki_turn (pre := []) _ N (fun _ hh => nomatch hh) hr ?_ ?_) (Heap.SameBut.update ..))
  · show xs.toArray.setIfInBounds ((j : Int)).toNat v = (xs.set j v).toArray
    apply Array.toList_inj.mp
    simp
  · simp
end
end Mine
end
section
open PySem PySem.W PyProof.Rows PySem.Calls
set_option maxHeartbeats 8000000
namespace Mine
theorem offB2 : True := by
  w_top off
  trivial

section
variable {prog : Program} {w : World} {A : Around} {E : Value → Shared → Prop} {s : Shared}

theorem for_walk {target : Expr} {body : List Stmt} {env : Env} {I : Addr} {fp wr : List Addr} {n : Nat} {P : Nat → Value → Prop} {St : Nat → Heap → Prop} {R : Result → Shared → Prop}
    (W : Walks prog w A I fp wr n P St) (J : Nat → Shared → Prop) (hJ0 : J 0 s) (hst : St 0 s.heap)
    (step : ∀ i s' h' tk, J i s' → (∀ b o, b ∉ wr → s'.heap.get? b = some o → h'.get? b = some o) → J i { s' with heap := h', toks := tk })
    (turn : ∀ i v s₁ (E' : Value → Shared → Prop), i < n → P i v → J i s₁ → St (i + 1) s₁.heap → wpAny (model prog w) A (assign target env v) (fun _ s₂ => wpAny (model prog w) A (execs body env) (fun f s₃ => match f with
        | .next | .cont => J (i + 1) s₃ ∧ St (i + 1) s₃.heap
        | .brk => R (.ok .next) s₃
        | .ret v => R (.ok (.ret v)) s₃) E' s₂) E' s₁)
    (done : ∀ s₁, J n s₁ → R (.ok .next) s₁)
    (ht : ∀ v, letOwnedTupleGo target (.ref I) v = pure () := by intro _; rfl) : codeAny (model prog w) A (.forLoop target (.ref I) body [] env) R s := by
  refine codeAny_forLoop (fun k s' => ∃ i, k = n - i ∧ i ≤ n ∧ J i s' ∧ St i s'.heap) ?_ n ⟨0, by (first | lia | omega), by (first | lia | omega), hJ0, hst⟩ ht
  rintro k s' ⟨i, rfl, hi, hJ, hS⟩
  by_cases hlt : i < n
  · refine W.item i s' _ _ hlt hS fun v h' tk hP hS' hk => ?_
    refine wpAny_mono (turn i v _ _ hlt hP (step i s' h' tk hJ hk) hS') (fun _ s₂ h₂ => wpAny_mono h₂ (fun f s₃ h₃ => ?_) fun _ _ e => e) fun _ _ e => e
    cases f with
    | next => exact ⟨n - (i + 1), by (first | lia | omega), i + 1, rfl, hlt, h₃⟩
    | cont => exact ⟨n - (i + 1), by (first | lia | omega), i + 1, rfl, hlt, h₃⟩
    | brk => exact h₃
    | ret v => exact h₃
  · have : i = n := by (first | lia | omega)
    subst this
    refine W.done s' _ _ hS fun h' tk hk => ?_
    exact wpAny_execs_nil (done _ (step _ s' h' tk hJ hk))

theorem call_range_reversed {r : Addr} {a b c : Int} {t u v : Tok} {Q : Value → Shared → Prop} (hr : IsRange s.heap r a b c t u v)
    (hsmall : (Builtin.Range.rangeFitsLong a && Builtin.Range.rangeFitsLong b && Builtin.Range.rangeFitsLong c && Builtin.Range.rangeFitsLong (-c) && Builtin.Range.rangeFitsLong (a - c) && Builtin.Range.rangeFitsLong (Builtin.Range.rangeSize a b c)) = true)
    (h : Q (.ref s.heap.objs.size) { s with heap := s.heap.push { cls := .type "range_iterator", data := .fields #[rawInt (a + (Builtin.Range.rangeSize a b c - 1) * c), rawInt (Builtin.Range.rangeSize a b c), rawInt (-c)] } }) :
    wpAny (model prog w) A (call (.builtin "range.__reversed__") [.ref r]) Q E s := by
  have hT : s.TypeIs (.ref r) "range" := ⟨_, hr, rfl⟩
  refine wpAny_call_entry F.slot_range_reversed hT F.entry_range_reversed ?_ (F.args_range_reversed_1 _)
  unfold Builtin.«range.__reversed__»
  refine wpAny_bind (wpAny_of_eq (a := Value.ref r) rfl ?_)
  unfold Builtin.Range.rangeFields
  refine wpAny_bind (wpAny_bind (wpAny_field hr rfl (x := .int a t) rfl (wpAny_bind (wpAny_of_eq (a := some a) rfl ?_))))
  refine wpAny_bind (wpAny_field hr rfl (x := .int b u) rfl (wpAny_bind (wpAny_of_eq (a := some b) rfl ?_)))
  refine wpAny_bind (wpAny_field hr rfl (x := .int c v) rfl (wpAny_bind (wpAny_of_eq (a := some c) rfl ?_)))
  dsimp only
  refine wpAny_pure ?_
  dsimp only
  simp only [hsmall, Bool.not_true, Bool.false_eq_true, if_false, if_true]
  unfold newFields
  refine wpAny_bind (wpAny_newObj_type (wpAny_pure ⟨_, rfl, h⟩))

theorem sub_ri_reversed : isSubtype (.type "range_iterator") (.type "reversed") = pure false := by rw [isSubtype_type]; kernel_rfl

theorem reversed_by {x : Value} {T id : String} {P : PySem.Fin → Shared → Prop} (hT : s.TypeIs x T) (sl : Slot T "__reversed__" id) (h : wpAny (model prog w) A (call (.builtin id) [x]) (fun v s' => P (.done (.ret v)) s') E s) :
    wpAny (model prog w) A (Builtin.«reversed.__new__» ⟨[.type "reversed", x], []⟩) P E s := by
  have some' : (Value.builtin id == Value.none) = false := rfl
  unfold Builtin.«reversed.__new__»
  refine wpAny_bind (wpAny_of_eq (newClass_reversed _) (wpAny_bind (wpAny_of_eq (a := ()) (by kernel_rfl) (wpAny_bind (wpAny_of_eq (a := ()) rfl (wpAny_bind (wpAny_specialOf hT sl.lookup (wpAny_bind (wpAny_of_eq (sl.bind _) ?_)))))))))
  dsimp only
  rw [some', if_neg Bool.false_ne_true]
  exact wpAny_bind (wpAny_rule (wpAny_bind (wpAny_mono h (fun v s' q => wpAny_pure q) fun _ _ q => q)))

theorem code_reversed_range {r : Addr} {a b c : Int} {t u v : Tok} {Q₁ : Value → Shared → Prop} (hr : IsRange s.heap r a b c t u v)
    (hsmall : (Builtin.Range.rangeFitsLong a && Builtin.Range.rangeFitsLong b && Builtin.Range.rangeFitsLong c && Builtin.Range.rangeFitsLong (-c) && Builtin.Range.rangeFitsLong (a - c) && Builtin.Range.rangeFitsLong (Builtin.Range.rangeSize a b c)) = true)
    (h : Q₁ (.ref s.heap.objs.size) { s with heap := s.heap.push { cls := .type "range_iterator", data := .fields #[rawInt (a + (Builtin.Range.rangeSize a b c - 1) * c), rawInt (Builtin.Range.rangeSize a b c), rawInt (-c)] } }) :
    codeAny (model prog w) A (.call (.builtin "reversed.__new__") ⟨[.type "reversed", .ref r], []⟩) (wants Q₁ E) s := by
  refine codeAny_of_tree (wpAny_bind (wpAny_of_eq (F.newCall_reversed_1 _) (wpAny_pure ⟨plainId_quiet F.plain_reversed_new _, codeAny_builtin F.entry_reversed_new ?_⟩)))
  exact reversed_by (T := "range") ⟨_, hr, rfl⟩ F.slot_range_reversed (call_range_reversed hr hsmall h)

theorem call_reversed_range {r : Addr} {a b c : Int} {t u v : Tok} {Q : Value → Shared → Prop} (hr : IsRange s.heap r a b c t u v)
    (hsmall : (Builtin.Range.rangeFitsLong a && Builtin.Range.rangeFitsLong b && Builtin.Range.rangeFitsLong c && Builtin.Range.rangeFitsLong (-c) && Builtin.Range.rangeFitsLong (a - c) && Builtin.Range.rangeFitsLong (Builtin.Range.rangeSize a b c)) = true)
    (h : Q (.ref s.heap.objs.size) { s with heap := s.heap.push { cls := .type "range_iterator", data := .fields #[rawInt (a + (Builtin.Range.rangeSize a b c - 1) * c), rawInt (Builtin.Range.rangeSize a b c), rawInt (-c)] } }) :
    wpAny (model prog w) A (call (.type "reversed") [.ref r]) Q E s := by
  refine callType_other (U := "range_iterator") (Q₁ := fun obj s₁ => obj = .ref s.heap.objs.size ∧ s₁ = { s with heap := s.heap.push { cls := .type "range_iterator", data := .fields #[rawInt (a + (Builtin.Range.rangeSize a b c - 1) * c), rawInt (Builtin.Range.rangeSize a b c), rawInt (-c)] } }) (by decide +kernel) F.create_reversed ⟨_, _, F.mro_reversed⟩ F.made_reversed sub_ri_reversed (F.typeCall_reversed_1 _) (code_reversed_range hr hsmall ⟨rfl, rfl⟩) ?_
  rintro obj s₁ ⟨rfl, rfl⟩
  exact ⟨⟨_, Heap.get?_push_size _ rfl, rfl⟩, h⟩
end

section
variable {prog : Program} {w : World} {A : Around} {E : Value → Shared → Prop} {s : Shared} {g : Heap} {L a : Addr} {m : Str → Option Value} {news rest : List (Addr × Obj)} {xs : List Value} {e : Nat} {v : Value}
theorem news_ext {h h' : Heap} {o o' : Obj} (N : News g L h ((a, o) :: rest)) (hx : Heap.ExtBut a h h') (ho : h'.get? a = some o') (hr : ∀ q ∈ rest, q.1 ≠ a) : News g L h' ((a, o') :: rest) := by
  intro q hq
  rcases List.mem_cons.mp hq with rfl | hq
  · exact ⟨ho, (N (a, o) (.head _)).2⟩
  · have z := N q (.tail _ hq)
    exact ⟨hx _ _ (hr q hq) z.1, z.2⟩
theorem news_keep {h h' : Heap} (N : News g L h news) (hk : ∀ q ∈ news, h'.get? q.1 = h.get? q.1) : News g L h' news :=
  fun q hq => ⟨(hk q hq).trans (N q hq).1, (N q hq).2⟩
theorem fr_wr {h h' : Heap} {wr : List Addr} (F : Fr g L h m) (hk : ∀ b o, b ∉ wr → h.get? b = some o → h'.get? b = some o) (hL : L ∉ wr) (hg : ∀ b ∈ wr, g.get? b = none) : Fr g L h' m :=
  ⟨F.ns.at' fun o e => hk _ o hL e, fun b o e => hk b o (fun hb => by rw [hg b hb] at e; cases e) (F.keep b o e), F.above⟩
theorem newsC {h : Heap} {a : Addr} {o : Obj} {rest : List (Addr × Obj)} (x : h.get? a = some o ∧ a ≠ L ∧ g.get? a = none) (r : News g L h rest) : News g L h ((a, o) :: rest) := fun q hq => by
  rcases List.mem_cons.mp hq with rfl | hq
  · exact x
  · exact r q hq
theorem news_wr {h h' : Heap} {wr : List Addr} (N : News g L h news) (hk : ∀ b o, b ∉ wr → h.get? b = some o → h'.get? b = some o) (hn : ∀ q ∈ news, q.1 ∉ wr) : News g L h' news :=
  fun q hq => ⟨hk _ _ (hn q hq) (N q hq).1, (N q hq).2⟩
theorem addL {xs ys : List Value} {b : Addr} {e e' : Nat} {Q : Value → Shared → Prop} (F : Fr g L s.heap m) (N : News g L s.heap news) (h1 : (a, listOf xs.toArray e) ∈ news) (h2 : (b, listOf ys.toArray e') ∈ news) (hz : xs.length + ys.length < 100000)
    (h : ∀ D h', Fr g L h' m → News g L h' ((D, listOf (xs ++ ys).toArray 0) :: news) → (∀ q ∈ news, q.1 < D) → Q (.ref D) { s with heap := h' }) : wpAny (model prog w) A (binaryOp .Add (.ref a) (.ref b)) Q E s :=
  add_lists (hsz := by rw [sizeLine_eq]; (first | lia | omega)) F N (isListL N h1) (isListL N h2) fun h' F' N' => h _ h' F' N' fun q hq => Heap.lt_size (N q hq).1
theorem fold_rep (v : Value) : ∀ (k : Nat) (acc : Array Value), List.foldl (fun x1 x2 : Array Value => x1 ++ x2) acc (List.replicate k #[v]) = acc ++ (List.replicate k v).toArray
  | 0, acc => by simp
  | k + 1, acc => by
    rw [List.replicate_succ, List.foldl_cons, fold_rep v k, List.replicate_succ]
    apply Array.toList_inj.mp
    simp
theorem mul1L {e : Nat} {x : Int} {u : Tok} {Q : Value → Shared → Prop} (F : Fr g L s.heap m) (N : News g L s.heap news) (h1 : (a, listOf #[v] e) ∈ news) (hlo : -1000 < x) (hx : x < 1000)
    (h : ∀ D h', Fr g L h' m → News g L h' ((D, listOf (List.replicate x.toNat v).toArray 0) :: news) → (∀ q ∈ news, q.1 < D) → Q (.ref D) { s with heap := h' }) : wpAny (model prog w) A (binaryOp .Mult (.ref a) (.int x u)) Q E s := by
  refine mul_list F N (N _ h1).1 (by (first | lia | omega)) (by (first | lia | omega)) (by show 1 * x.toNat ≤ 2 ^ 24; (first | lia | omega)) fun h' F' N' => h _ h' F' ?_ fun q hq => Heap.lt_size (N q hq).1
  have e1 : (List.foldl (fun x1 x2 : Array Value => x1 ++ x2) #[] (List.replicate (if (#[v] : Array Value).isEmpty = true then 0 else x.toNat) #[v])) = (List.replicate x.toNat v).toArray := by
    rw [show (#[v] : Array Value).isEmpty = false from rfl, if_neg Bool.false_ne_true, fold_rep]
    simp
  rw [e1] at N'
  exact N'
theorem ints_app {vs us : List Value} {ns ms : List Int} (h : IntsAre vs ns) (h' : IntsAre us ms) : IntsAre (vs ++ us) (ns ++ ms) := by
  induction h with
  | nil => exact h'
  | cons k t _ ih => exact .cons k t ih
theorem ints_rep (n : Int) (t : Tok) : ∀ k : Nat, IntsAre (List.replicate k (.int n t)) (List.replicate k n)
  | 0 => .nil
  | k + 1 => .cons n t (ints_rep n t k)
theorem popL {Q : Value → Shared → Prop} (F : Fr g L s.heap m) (N : News g L s.heap ((a, listOf (xs ++ [v]).toArray e) :: rest)) (hr : ∀ q ∈ rest, q.1 ≠ a) (hz : xs.length < 1000)
    (h : ∀ h', Fr g L h' m → News g L h' ((a, listOf xs.toArray (e + 1)) :: rest) → Q v { s with heap := h' }) : wpAny (model prog w) A (call (.builtin "list.pop") [.ref a]) Q E s :=
  kl_pop F N (p := xs) (y := v) (by have := kpa_last v xs; simpa using this) (.head hr) (by rw [sizeLine_eq]; simp; (first | lia | omega)) h
end
end Mine
end
section
open PySem PySem.W PyProof.Rows PySem.Calls PySem.SeqAt
set_option maxHeartbeats 8000000
namespace Mine
theorem offC1 : True := by
  w_top off
  trivial

inductive KD where
  | i (n : Int)
  | s (x : Str)
  deriving DecidableEq
noncomputable def KD.Is : KD → Value → Prop
  | .i n, v => ∃ t, v = .int n t
  | .s x, v => ∃ t, v = .str x t
noncomputable def KD.lt : KD → KD → Bool
  | .i a, .i b => decide (a < b)
  | .s a, .s b => decide (a.cps.toList < b.cps.toList)
  | _, _ => false
noncomputable def KD.like : KD → KD → Bool
  | .i _, .i _ => true
  | .s _, .s _ => true
  | _, _ => false
inductive KDs : List KD → List Value → Prop
  | nil : KDs [] []
  | cons {k ks v vs} : k.Is v → KDs ks vs → KDs (k :: ks) (v :: vs)
noncomputable def lexKD : List KD → List KD → Bool
  | a :: r, b :: q => if a = b then lexKD r q else a.lt b
  | _, _ => false
noncomputable def likeKD : List KD → List KD → Bool
  | a :: r, b :: q => a.like b && likeKD r q
  | [], [] => true
  | _, _ => false
noncomputable def IsKT (h : Heap) (v : Value) (ks : List KD) : Prop := ∃ a vs n, v = .ref a ∧ h.get? a = some (seqObj "tuple" (List.toArray vs) n) ∧ KDs ks vs
theorem IsKT.keeps {h h' : Heap} {v : Value} {ks : List KD} (x : IsKT h v ks) (k : ∀ b o, v = .ref b → h.get? b = some o → h'.get? b = some o) : IsKT h' v ks :=
  let ⟨a, vs, n, e, ho, r⟩ := x; ⟨a, vs, n, e, k _ _ e ho, r⟩

theorem KDs.length {ks : List KD} {vs : List Value} (h : KDs ks vs) : ks.length = vs.length := by induction h with
  | nil => rfl
  | cons _ _ ih => simp [ih]
theorem KDs.get {ks : List KD} {vs : List Value} (h : KDs ks vs) : ∀ (j : Nat) (h1 : j < ks.length) (h2 : j < vs.length), ks[j].Is vs[j] := by
  induction h with
  | nil => intro j h1; exact absurd h1 (Nat.not_lt_zero _)
  | cons hk _ ih =>
    intro j h1 h2
    cases j with
    | zero => exact hk
    | succ j => exact ih j (Nat.lt_of_succ_lt_succ h1) (Nat.lt_of_succ_lt_succ h2)
theorem likeKD_length : ∀ {ks ls : List KD}, likeKD ks ls = true → ks.length = ls.length
  | [], [], _ => rfl
  | a :: r, b :: q, h => by
    rw [likeKD, Bool.and_eq_true] at h
    simp [likeKD_length h.2]
theorem likeKD_get : ∀ {ks ls : List KD}, likeKD ks ls = true → ∀ (j : Nat) (h1 : j < ks.length) (h2 : j < ls.length), ks[j].like ls[j] = true
  | [], [], _, j, h1, _ => absurd h1 (Nat.not_lt_zero _)
  | a :: r, b :: q, h, j, h1, h2 => by
    rw [likeKD, Bool.and_eq_true] at h
    cases j with
    | zero => exact h.1
    | succ j => exact likeKD_get h.2 j (Nat.lt_of_succ_lt_succ h1) (Nat.lt_of_succ_lt_succ h2)
theorem kd_eqAt {A : Around} {s : Shared} {k l : KD} {v u : Value} (hv : k.Is v) (hu : l.Is u) (hl : k.like l = true) : EqAt A s v u (decide (k = l)) := by
  intro prog w E Q hQ
  cases k with
  | i a =>
    cases l with
    | i b =>
      obtain ⟨t, rfl⟩ := hv
      obtain ⟨t', rfl⟩ := hu
      refine wpAny_eqBool_int ?_
      have e : (a == b) = decide (KD.i a = KD.i b) := by
        by_cases hab : a = b <;> simp [hab]
      rw [e]; exact hQ
    | s y => cases hl
  | s x =>
    cases l with
    | i b => cases hl
    | s y =>
      obtain ⟨t, rfl⟩ := hv
      obtain ⟨t', rfl⟩ := hu
      refine wpAny_eqBool_str ?_
      have e : decide (x = y) = decide (KD.s x = KD.s y) := by
        by_cases hab : x = y <;> simp [hab]
      rw [e]; exact hQ
theorem kd_ltAt {prog : Program} {w : World} {A : Around} {s : Shared} {E Q : Value → Shared → Prop} {k l : KD} {v u : Value} (hv : k.Is v) (hu : l.Is u) (hl : k.like l = true) (hQ : Q (.bool (k.lt l)) s) : wpAny (model prog w) A (richCompare .Lt v u) Q E s := by
  cases k with
  | i a =>
    cases l with
    | i b =>
      obtain ⟨t, rfl⟩ := hv
      obtain ⟨t', rfl⟩ := hu
      exact PyProof.Rows.lt_int hQ
    | s y => cases hl
  | s x =>
    cases l with
    | i b => cases hl
    | s y =>
      obtain ⟨t, rfl⟩ := hv
      obtain ⟨t', rfl⟩ := hu
      exact PyProof.Rows.lt_str hQ

theorem lexKD_nil (ks : List KD) : lexKD ks [] = false := by cases ks <;> rfl
theorem KDs.split {ks : List KD} {v : Value} {vs : List Value} (h : KDs ks (v :: vs)) : ∃ k r, ks = k :: r ∧ k.Is v ∧ KDs r vs := by cases h with | cons a b => exact ⟨_, _, rfl, a, b⟩

theorem tuple_lt_kt (a b : Addr) (vs us : List Value) (n n' : Nat) (ks ls : List KD) (hk : KDs ks vs) (hl : KDs ls us) (hs : likeKD ks ls = true) :
    Meets (Builtin.«tuple.__lt__» ⟨[.ref a, .ref b], []⟩) (fun _ R s => s.heap.get? a = some { cls := .type "tuple", data := .seq vs.toArray n } ∧ s.heap.get? b = some { cls := .type "tuple", data := .seq us.toArray n' } ∧
      R (.ok (.ret (.bool (lexKD ks ls)))) s) :=
  .of_wp fun prog w A R s h => by
    obtain ⟨hp, g, d, tk, os⟩ := s
    obtain ⟨ha, hb, h⟩ := h
    have sub := AutoSeq1.sub_tuple_tuple
    wp_walk using wpAny_loadPart' ha, wpAny_loadPart' hb, wpAny_forIn_list _ (fun rest b s' => b.1 = none ∧ s' = ⟨hp, g, d, tk, os⟩ ∧ ∃ ks' ls' vs' us', rest = List.zip vs' us' ∧ KDs ks' vs' ∧ KDs ls' us' ∧ likeKD ks' ls' = true ∧ lexKD ks ls = lexKD ks' ls') _
    case h => exact ⟨rfl, rfl, ks, ls, vs, us, rfl, hk, hl, hs, rfl⟩
    case turn =>
      rintro ⟨v, u⟩ rest r s' ⟨-, rfl, ks', ls', vs', us', e, k1, l1, s1, x1⟩
      cases vs' with
      | nil => cases e
      | cons v' vr =>
      cases us' with
      | nil => cases e
      | cons u' ur =>
      cases e
      obtain ⟨k, kr, rfl, hv, k2⟩ := k1.split
      obtain ⟨l, lr, rfl, hu, l2⟩ := l1.split
      rw [likeKD, Bool.and_eq_true] at s1
      refine wpAny_bind (kd_eqAt hv hu s1.1 prog w _ _ ?_)
      by_cases c : k = l
      · rw [decide_eq_true c]
        rw [lexKD, if_pos c] at x1
        exact wpAny_pure ⟨rfl, rfl, kr, lr, vr, ur, rfl, k2, l2, s1.2, x1⟩
      · rw [decide_eq_false c]
        rw [lexKD, if_neg c] at x1
        rw [x1] at h
        exact wpAny_bind (wpAny_rule (wpAny_bind (kd_ltAt hv hu s1.1 (wpAny_bind (wpAny_pure (wpAny_pure (wpAny_pure ⟨_, rfl, h⟩)))))))
    case fin =>
      rintro ⟨r, u⟩ s' ⟨rfl, rfl, ks', ls', vs', us', e, k1, l1, s1, x1⟩
      have z : lexKD ks ls = false := by
        rw [x1]
        cases k1 with
        | nil => rfl
        | cons =>
          cases l1 with
          | nil => exact lexKD_nil _
          | cons => cases e
      have n : ¬ vs.toArray.size < us.toArray.size := by
        have h1 := hk.length
        have h2 := hl.length
        have h3 := likeKD_length hs
        simp only [List.size_toArray]
        omega
      rw [z] at h
      refine wpAny_pure ⟨_, rfl, ?_⟩
      show R (.ok (.ret (.bool (decide (vs.toArray.size < us.toArray.size))))) _
      rw [decide_eq_false n]
      exact h

theorem lt_tuple {prog : Program} {w : World} {A : Around} {s : Shared} {E Q : Value → Shared → Prop} {v u : Value} {ks ls : List KD} (hv : IsKT s.heap v ks) (hu : IsKT s.heap u ls) (hl : likeKD ks ls = true) (hA : A.units < cLine) (hQ : Q (.bool (lexKD ks ls)) s) :
    wpAny (model prog w) A (richCompare .Lt v u) Q E s := by
  obtain ⟨a, vs, n, rfl, ha, hk⟩ := hv
  obtain ⟨b, us, n', rfl, hb, hk'⟩ := hu
  exact richCompare_meets_room (T := "tuple") ⟨_, ha, rfl⟩ ⟨_, hb, rfl⟩ PySem.F.slot_tuple_lt PySem.F.entry_tuple_lt (PySem.F.args_tuple_lt_2 _ _) (tuple_lt_kt a b vs us n n' ks ls hk hk' hl) ⟨ha, hb, (by intro h; cases h), hQ⟩ hA

theorem cmpX_tuple {w : World} {h : Heap} {a : Addr} {v u : Value} {ks ls : List KD} (hv : IsKT h v ks) (hu : IsKT h u ls) (hva : v ≠ .ref a) (hua : u ≠ .ref a) (hl : likeKD ks ls = true) : CmpX w h a v u (lexKD ks ls) := by
  intro A Q E s' hA hx hQ
  refine lt_tuple (hv.keeps fun b o e ho => hx b o (fun q => hva (q ▸ e)) ho) (hu.keeps fun b o e ho => hx b o (fun q => hua (q ▸ e)) ho) hl (by omega) ?_
  have := hQ s'.toks
  exact this
end Mine
end
section
open PySem PySem.W PyProof.Rows PySem.Calls
set_option maxHeartbeats 8000000
set_option linter.unusedSimpArgs false
namespace Mine
theorem offD1 : True := by
  w_top off
  trivial
open PySem.Builtin PySem.Flt

section
variable {prog : Program} {w : World} {A : Around} {E : Value → Shared → Prop} {s : Shared}

theorem int_format {a : Int} {t u : Tok} {spec : Str} {c d : Nat} {n : Option Nat} {ty : Option Nat} {P : PySem.Fin → Shared → Prop}
    (hn : s.heap.NoDigits) (ha : a.natAbs < 10 ^ 4300) (hs : (spec.length == 0) = false)
    (hp : Float.parseFormatSpec spec.cps.toList "int" 62 = .ok { fill := c, align := d, width := n, type := ty })
    (hc : ((spec.cps.toList.drop 1).any (· ≥ 128) || (spec.cps.getD 0 0 ≥ 128 && !([60, 62, 61, 94] : List Nat).contains (spec.cps.getD 1 0))) = false)
    (hty : ty.getD (if spec.cps.back? == some 0 then 0 else 100) = 100) (hw : n.getD 0 ≤ 100000)
    (hz : (intSpecText { fill := c, align := d, width := n, type := ty } a).length ≤ sizeLine)
    (h : P (.done (.ret (.str (intSpecText { fill := c, align := d, width := n, type := ty } a) s.toks))) { s with toks := s.toks + 1 }) :
    wpAny (model prog w) A (Builtin.«int.__format__» ⟨[.int a t, .str spec u], []⟩) P E s := by
  unfold Builtin.«int.__format__»
  refine wpAny_bind (wpAny_of_eq (a := (Value.int a t, Value.str spec u)) rfl (wpAny_bind (wpAny_of_eq (a := a) rfl ?_)))
  dsimp only
  refine wpAny_bind (wpAny_typeNameOf (T := "str") (typeIs_str _ _ _) (by decide) fun _ => wpAny_bind (wpAny_of_eq (a := some spec) rfl ?_))
  dsimp only
  rw [if_neg (by rw [hs]; decide), if_neg (by rw [hc]; decide)]
  refine wpAny_bind (wpAny_typeNameOfCut_int ?_)
  rw [hp]
  dsimp only
  rw [hty]
  rw [if_pos (by decide)]
  show wpAny _ _ (Builtin.overDigitLimit? a >>= fun r => _) P E _
  refine wpAny_bind (overDigitLimit_any hn (fun _ => ?_) fun big => absurd ha (Nat.not_lt.mpr big))
  dsimp only
  show wpAny _ _ (if n.getD 0 > 100000 then _ else _) P E _
  rw [if_neg (Nat.not_lt.mpr hw)]
  unfold retStr
  refine wpAny_bind (wpAny_mkStr (wpAny_pure ?_) ?_)
  · refine (congrArg (fun x => P (.done (.ret (.str x s.toks))) { s with toks := s.toks + 1 }) ?_).mpr h
    kernel_rfl
  · refine (congrArg (fun x : Str => x.length ≤ sizeLine) ?_).mpr hz
    kernel_rfl

theorem special_format {a : Int} {t u : Tok} {spec : Str} {f : Float.FormatSpec} {Q : Option Value → Shared → Prop} (hn : s.heap.NoDigits) (ha : a.natAbs < 10 ^ 4300)
    (hp : Float.parseFormatSpec spec.cps.toList "int" 62 = .ok f) (hs : (spec.length == 0) = false)
    (hc : ((spec.cps.toList.drop 1).any (· ≥ 128) || (spec.cps.getD 0 0 ≥ 128 && !([60, 62, 61, 94] : List Nat).contains (spec.cps.getD 1 0))) = false) (hg : intSpecGood spec f = true)
    (h : ∀ t' tk, Q (some (.str (intSpecText f a) t')) { s with toks := tk }) :
    wpAny (model prog w) A (callSpecial? (.int a t) (Str.ofString "__format__") [.str spec u]) Q E s := by
  obtain ⟨c, d, sg, z, al, n, gr, pr, ty⟩ := f
  simp only [intSpecGood, Bool.and_eq_true, Option.isNone_iff_eq_none, Bool.not_eq_true', decide_eq_true_eq] at hg
  obtain ⟨⟨⟨⟨⟨⟨g1, rfl⟩, rfl⟩, rfl⟩, g2⟩, rfl⟩, rfl⟩ := hg
  have hl := intSpecText_length (f := { fill := c, align := d, width := n, type := ty }) a rfl rfl
  have hd : (Nat.toDigits 10 a.natAbs).length ≤ 4300 := by
    rw [← Nat.toList_repr, String.length_toList]
    exact (Nat.length_repr_le_iff (by decide)).mpr ha
  refine wpAny_callSpecial?_slot (name := Str.ofString "__format__") (typeIs_int _ a t) slot_int_format
    (wpAny_call_entry slot_int_format (typeIs_int _ a t) entry_int_format (int_format hn ha hs hp hc (beq_iff_eq.mp g1) g2 ?_ ⟨_, rfl, h _ _⟩) (args_int_format _ _))
  rw [hl, sizeLine_eq]
  clear h hp hl ha
  dsimp only
  split <;> (first | lia | omega)

theorem call_format {a : Int} {t u : Tok} {spec : Str} {f : Float.FormatSpec} {Q : Value → Shared → Prop} (hn : s.heap.NoDigits) (ha : a.natAbs < 10 ^ 4300)
    (hp : Float.parseFormatSpec spec.cps.toList "int" 62 = .ok f) (hs : (spec.length == 0) = false)
    (hc : ((spec.cps.toList.drop 1).any (· ≥ 128) || (spec.cps.getD 0 0 ≥ 128 && !([60, 62, 61, 94] : List Nat).contains (spec.cps.getD 1 0))) = false) (hg : intSpecGood spec f = true)
    (h : ∀ t' tk, Q (.str (intSpecText f a) t') { s with toks := tk }) : wpAny (model prog w) A (call (.builtin "format") [.int a t, .str spec u]) Q E s := by
  refine call_function_entry kind_format plain_format entry_format (args_format _ _) ?_
  unfold Builtin.«format»
  refine wpAny_bind (wpAny_of_eq (a := [Value.int a t, Value.str spec u]) rfl ?_)
  dsimp only
  refine wpAny_bind (wpAny_of_eq (a := (Value.int a t, Value.str spec u)) rfl ?_)
  dsimp only
  refine wpAny_bind (wpAny_typeNameOf (T := "str") (typeIs_str _ _ _) (by decide) fun _ => wpAny_bind (wpAny_of_eq (a := some spec) rfl ?_))
  dsimp only
  rw [if_neg (by rw [hs]; decide)]
  exact wpAny_bind (special_format hn ha hp hs hc hg fun t' tk => wpAny_bind (wpAny_isInstance (typeIs_str _ _ _) isSubtype_str_str (wpAny_pure ⟨_, rfl, h t' tk⟩)))
end
end Mine
end
section
open PySem PySem.W PyProof.Rows PySem.Calls
set_option maxHeartbeats 8000000
namespace Mine
theorem offD2 : True := by
  w_top off
  trivial
theorem fillD2 (w : World) (x : OpenLaw) (h : PySem.Challenge.rw_ij0057_01 = x) : (Mine.frag.heap_1 w.params) = (Mine.frag.heap_1 w.params) ∧ PySem.Challenge.rw_ij0057_01 = x := by
  k_fill
  exact ⟨rfl, h⟩

section
variable {w : World} {A : Around} {p : Program} {loose : List Str} {mean : ExcName → Option Value} {mg mb : Str → Option Value} {s : Shared}
  {R : Result → Shared → Prop} {name qual : Str} {params : Arguments} {body : List Stmt} {scope : Scope} {dV kV doc pm cdv ct oc : Value}
  {an od : Option Addr} {osl : Array (Option Value)} {f : Addr} {args : Args} {binds : List (Str × Value)}

theorem callQ (X : (Mine.frag.heap_1 w.params).In s.heap) (T : Top p loose mean mg mb s.heap)
    (ho : (Mine.frag.heap_1 w.params).lookup f = some ⟨oc, od, .func (fnOf name qual params body scope dV kV doc pm an cdv ct), osl⟩) (hcd : codeIn (Mine.frag.heap_1 w.params) cdv qual = true) (hroom : A.depth < recursionLimit)
    (hbind : BindsTo s (fnOf name qual params body scope dV kV doc pm an cdv ct) args binds) (hloc : ∀ y ∈ binds, scope.names.lookup y.1 = some .local)
    (h : ∀ L' h₁, s.heap.objs.size ≤ L' → Fr s.heap L' h₁ (fun y => binds.reverse.lookup y) →
      wpAny (model PySem.Challenge.rw_ij0057_01.row.prog w) (A.deeper (envOf qual scope L' f cdv)) (execs body (envOf qual scope L' f cdv))
        (fun fl s' => ∃ m', Fr s.heap L' s'.heap m' ∧ ((∀ b o, s.heap.get? b = some o → s'.heap.get? b = some o) → R (.ok (.ret (match fl with | .ret v => v | _ => .none))) s'))
        (fun _ _ => False)
        { s with heap := h₁, toks := s.toks + binds.length })
    (hco : scope.isCoroutine = false) (hgen : scope.isGenerator = false) (hk : scope.kind = .function)
    (hcell : ∀ x ∈ scope.names, x.2 ≠ .cell) : codeAny (model PySem.Challenge.rw_ij0057_01.row.prog w) A (.call (.ref f) args) R s := by
  refine codeAny_call_def (fd := fnX name qual params body scope [] dV kV doc pm an cdv ct) (body := body) (binds := binds) hroom (X _ _ ho) rfl T.nolimit (codeRec_of X hcd) rfl hbind hcell hloc (fun h₁ hns hk₁ => ?_) hco hgen hk
  refine wpAny_mono (h s.heap.objs.size h₁ (Nat.le_refl _) ⟨hns, hk₁, Nat.le_refl _⟩) (fun fl s' hl => ?_) fun _ _ y => y.elim
  obtain ⟨m', F', k⟩ := hl
  exact k F'.keep
end

section
variable {w : World} {A : Around} {p : Program} {loose : List Str} {mean : ExcName → Option Value} {mg mb : Str → Option Value} {s : Shared}
  {R : Result → Shared → Prop} {name qual : Str} {params : Arguments} {body : Expr} {scope : Scope} {pm ctv : Value} {c' : Addr}
  {f : Addr} {args : Args} {binds : List (Str × Value)} {cl : List (Str × Addr)}
theorem callQ_lam (T : Top p loose mean mg mb s.heap)
    (ho : s.heap.get? f = some (kla_obj name qual params body scope cl pm c' ctv)) (hcd : s.heap.CodeRec (.ref c') qual) (hroom : A.depth < recursionLimit)
    (hbind : bindArgs (kla_fn name qual params body scope cl pm (.ref c') ctv) args = pure binds) (hloc : ∀ y ∈ binds, scope.names.lookup y.1 = some .local)
    (h : ∀ L' h₁, s.heap.objs.size ≤ L' → Fr s.heap L' h₁ (fun y => binds.reverse.lookup y) →
      wpAny (model PySem.Challenge.rw_ij0057_01.row.prog w) (A.deeper (envX qual scope L' f (.ref c') cl)) (eval body (envX qual scope L' f (.ref c') cl))
        (fun v s' => ∃ m', Fr s.heap L' s'.heap m' ∧ ((∀ b o, s.heap.get? b = some o → s'.heap.get? b = some o) → R (.ok (.ret v)) s'))
        (fun _ _ => False)
        { s with heap := h₁, toks := s.toks + binds.length })
    (hco : scope.isCoroutine = false) (hgen : scope.isGenerator = false) (hk : scope.kind = .function)
    (hcell : ∀ x ∈ scope.names, x.2 ≠ .cell) : codeAny (model PySem.Challenge.rw_ij0057_01.row.prog w) A (.call (.ref f) args) R s := by
  refine kla_callFunE hroom ho rfl hco hgen rfl hcd ?_
  rw [hbind]
  refine wpAny_pure (wpAny_newFunctionEnv hcell hloc (fun h₁ hns hsb => ⟨T.nolimit.fresh _ hsb, ?_⟩) hk)
  show codeAny _ _ (.expr body (envX qual scope s.heap.objs.size f (.ref c') cl)) _ _
  have hk₁ : ∀ b o, s.heap.get? b = some o → h₁.get? b = some o := fun b o e => hsb.extBut b o (Nat.ne_of_lt (Heap.lt_size e)) (Heap.get?_push_of_some _ e)
  refine kla_codeExpr (wpAny_mono (h s.heap.objs.size h₁ (Nat.le_refl _) ⟨hns, hk₁, Nat.le_refl _⟩) (fun v s' hl => ?_) fun _ _ y => y.elim)
  obtain ⟨m', F', k⟩ := hl
  exact k F'.keep
end

noncomputable def KeyOk (w : World) (hb : Heap) (kf v : Value) (r : Str) : Prop :=
  ∀ (A : Around) (Q : Value → Shared → Prop) (E : Value → Shared → Prop) (s' : Shared), A.depth + 10 < recursionLimit → A.units + 100 < cLine → (∀ b o, hb.get? b = some o → s'.heap.get? b = some o) →
    (∀ h'' tk t, (∀ b o, s'.heap.get? b = some o → h''.get? b = some o) → Q (.str r t) { s' with heap := h'', toks := tk }) → wpAny (model PySem.Challenge.rw_ij0057_01.row.prog w) A (call kf [v]) Q E s'

section
variable {w : World} {A : Around} {p : Program} {loose : List Str} {mean : ExcName → Option Value} {mg mb : Str → Option Value} {s : Shared}
theorem field_ok {Q : Value → Shared → Prop} {E : Value → Shared → Prop} {self : Value} (X : (Mine.frag.heap_1 w.params).In s.heap) (T : Top p loose mean mg mb s.heap) {a : Int} {t u : Tok} {spec : Str} {f : Builtin.Float.FormatSpec} (hroom : A.depth < recursionLimit)
    (hlt : a.natAbs < 10 ^ 4300)
    (hp : Builtin.Float.parseFormatSpec spec.cps.toList "int" 62 = .ok f)
    (hne : (spec.length == 0) = false)
    (hasc : ((spec.cps.toList.drop 1).any (· ≥ 128) || (spec.cps.getD 0 0 ≥ 128 && !([60, 62, 61, 94] : List Nat).contains (spec.cps.getD 1 0))) = false)
    (hg : intSpecGood spec f = true)
    (h : ∀ h'' tk t', (∀ b o, s.heap.get? b = some o → h''.get? b = some o) → Q (.str (intSpecText f a) t') { s with heap := h'', toks := tk }) :
    wpAny (model PySem.Challenge.rw_ij0057_01.row.prog w) A (call (.ref 78) [self, .int a t, .str spec u]) Q E s := by
  refine wpAny_call ?_
  refine' callQ (binds := [("self", self), ("value", .int a t), ("format_spec", .str spec u)]) X T ?ho ?hcd hroom ?hbind ?hloc ?h ?c2 ?c3 ?c4 ?c5
  case ho => k_is
  case hcd => k_is
  case hbind => exact BindsTo.of_eq rfl
  case hloc => exact locs rfl
  case c2 => exact rfl
  case c3 => exact rfl
  case c4 => exact rfl
  case c5 => decide
  case h =>
    intro L' h₁ hLL F'
    have N' : News s.heap L' h₁ [] := fun q hq => nomatch hq
    k_unmd
    k_fold
    dsimp only [List.length_cons, List.length_nil]
    (repeat' ((fail_if_success k_end); (fail_if_success (with_reducible show wpAny _ _ (call (Value.ref _) _ _) _ _ _)); (fail_if_success (with_reducible show wpAny _ _ (call (Value.builtin "format") _ _) _ _ _)); walk1))
    have hn : h₁.NoDigits := by
      obtain ⟨mc, h1, h2⟩ := T.nodigits
      exact ⟨mc, h1.keeps F'.keep, h2⟩
    refine call_format hn hlt hp hne hasc hg fun t' tk' => ?_
    exact ⟨_, F', fun hk => h _ _ _ hk⟩

noncomputable abbrev lamArgs : Arguments := { posonlyargs := [], args := [{ arg := "number", annotation := none, pos := ⟨271, 18, 271, 24⟩ }], vararg := none, kwonlyargs := [], kw_defaults := [], kwarg := none, defaults := [] }
noncomputable abbrev lamBody : Expr := Expr.Call (Expr.Attribute (Expr.Name "writer" ⟨271, 26, 271, 32⟩) "format_field" ⟨271, 26, 271, 45⟩) [Expr.Name "number" ⟨271, 46, 271, 52⟩, Expr.Name "spec" ⟨271, 54, 271, 58⟩] [] ⟨271, 26, 271, 59⟩
noncomputable abbrev lamScope : Scope := { kind := .function, names := [("number", .local), ("spec", .free), ("writer", .free)], isGenerator := false, isCoroutine := false }

structure LaidAt (h : Heap) (kf : Addr) (spec : Str) : Prop where
  it : ∃ qual pm ctv c' cs cw os ow tsp wr dx,
    h.get? kf = some (kla_obj "<lambda>" qual lamArgs lamBody lamScope [("writer", cw), ("spec", cs)] pm c' ctv) ∧ h.CodeRec (.ref c') qual ∧
    h.get? cs = some os ∧ os.data = .cell (some (.str spec tsp)) ∧ h.get? cw = some ow ∧ ow.data = .cell (some (.ref wr)) ∧
    h.get? wr = some (instObj 102 dx) ∧ h.get? dx = some (dictOf [] 0)

theorem LaidAt.keeps {h h' : Heap} {kf : Addr} {spec : Str} (x : LaidAt h kf spec) (k : ∀ b o, h.get? b = some o → h'.get? b = some o) : LaidAt h' kf spec :=
  let ⟨qual, pm, ctv, c', cs, cw, os, ow, tsp, wr, dx, a1, a2, a3, a4, a5, a6, a7, a8⟩ := x.it
  ⟨qual, pm, ctv, c', cs, cw, os, ow, tsp, wr, dx, k _ _ a1, a2.keeps k, k _ _ a3, a4, k _ _ a5, a6, k _ _ a7, k _ _ a8⟩

theorem laid_key {hb : Heap} (X : (Mine.frag.heap_1 w.params).In hb) (T : Top p loose mean mg mb hb) {kf : Addr} {spec : Str} {f : Builtin.Float.FormatSpec} (K : LaidAt hb kf spec)
    (hp : Builtin.Float.parseFormatSpec spec.cps.toList "int" 62 = .ok f)
    (hne : (spec.length == 0) = false)
    (hasc : ((spec.cps.toList.drop 1).any (· ≥ 128) || (spec.cps.getD 0 0 ≥ 128 && !([60, 62, 61, 94] : List Nat).contains (spec.cps.getD 1 0))) = false)
    (hg : intSpecGood spec f = true) {a : Int} {t : Tok} (hlt : a.natAbs < 10 ^ 4300) : KeyOk w hb (.ref kf) (.int a t) (intSpecText f a) := by
  intro A Q E s hd hu hk0 hQ
  obtain ⟨qual, pm, ctv, c', cs, cw, os, ow, tsp, wr, dx, a1, a2, a3, a4, a5, a6, a7, a8⟩ := (K.keeps hk0).it
  replace X := X.keeps hk0
  replace T := T.keeps hk0
  refine wpAny_call ?_
  refine' callQ_lam (binds := [("number", .int a t)]) T a1 a2 (by (first | lia | omega)) ?hbind ?hloc ?h ?c2 ?c3 ?c4 ?c5
  case hbind => exact rfl
  case hloc => exact locs rfl
  case c2 => exact rfl
  case c3 => exact rfl
  case c4 => exact rfl
  case c5 => decide
  case h =>
    intro L' h₁ hLL F'
    have N' : News s.heap L' h₁ [] := fun q hq => nomatch hq
    k_unmd
    k_fold
    dsimp only [List.length_cons, List.length_nil]
    walk1
    refine wpAny_Name (wpAny_loadName_free rfl rfl rfl ⟨ow, F'.keep _ _ a5, a6⟩ ?_)
    refine method_inst (K := (Mine.frag.heap_1 w.params)) (f := 78) F' X ⟨F'.keep _ _ a7, rfl, rfl, F'.keep _ _ a8⟩ ?m1 ?m2 ?m3 ?m4 ?_
    case m1 => k_is
    case m2 => k_is
    case m3 => k_is
    case m4 => k_get
    walk1
    walk1
    refine nameX_L F' rfl ?_
    walk1
    refine wpAny_Name (wpAny_loadName_free rfl rfl rfl ⟨os, F'.keep _ _ a3, a4⟩ ?_)
    walk1
    refine ⟨X.keeps F'.keep, ?_⟩
    refine field_ok (X.keeps F'.keep) (T.keeps F'.keep) (by show A.depth + 1 < recursionLimit; (first | lia | omega)) hlt hp hne hasc hg fun h2 tk2 t2 hk2 => ?_
    exact ⟨_, ⟨F'.ns.keeps hk2, fun b o e => hk2 b o (F'.keep b o e), F'.above⟩, fun hk => hQ h2 tk2 t2 hk⟩
end
end Mine
end
section
open PySem PySem.W PyProof.Rows PySem.Calls Mine
local macro_rules | `(tactic| walk_at "eval Name") => `(tactic| (k_here; k_dflt (refine' nameX_L ?F ?v ?_ ?a ?b; (case F => k_asm); (case a => rfl); (case b => rfl); (case v => first | with_reducible assumption | assumption); k_whole)))
local macro_rules | `(tactic| walk_at "unpackItems ref") => `(tactic| (k_here; k_dflt (refine' unpackItemsN_ ?k1 ?k2 ?k3 ?k4 ?k5 ?_; (case k1 => k_asm); (case k2 => k_asm); (case k3 => kun_tup); (case k4 => assumption); (case k5 => exact rfl); k_whole); intro h' F' N'; (try k_sweep)))
local macro_rules | `(tactic| walk_at "And") => `(tactic| ((with_reducible show Frag.In _ _ ∧ _); refine ⟨by k_in, ?_⟩; try dsimp only [List.nil_append, List.cons_append]))
section
open PySem PySem.W PyProof.Rows PySem.Calls
set_option maxHeartbeats 8000000
namespace Mine
theorem offH1 : True := by
  w_top off
  trivial
theorem fillH1 (w : World) (x : OpenLaw) (h : PySem.Challenge.rw_ij0057_01 = x) : (Mine.frag.heap_1 w.params) = (Mine.frag.heap_1 w.params) ∧ PySem.Challenge.rw_ij0057_01 = x := by
  k_fill
  exact ⟨rfl, h⟩

noncomputable def sdP {α : Type} (lt : α → α → Bool) (x : α) (sp : Nat) (pos : Nat) (xs : List α) : List α :=
  if h : sp < pos then
    match xs[(pos - 1) / 2]? with
    | some par => if lt x par then sdP lt x sp ((pos - 1) / 2) (xs.set pos par) else xs.set pos x
    | none => xs.set pos x
  else xs.set pos x
termination_by pos
decreasing_by (first | lia | omega)

theorem half_int {n : Nat} (h : 0 < n) : ((n : Int) - 1).fdiv (2 ^ Int.toNat 1) = (((n - 1) / 2 : Nat) : Int) := by
  have e : (2 : Int) ^ Int.toNat 1 = 2 := by decide
  rw [e, Int.fdiv_eq_ediv_of_nonneg _ (by (first | lia | omega))]
  (first | lia | omega)

section
variable {w : World} {A₀ A : Around} {base h₀ : Heap} {outer : List Env} {env : Env} {L : Addr} {m : Str → Option Value}
  {p : Program} {loose : List Str} {mean : ExcName → Option Value} {mg mb : Str → Option Value} {s : Shared}
  {R : Result → Shared → Prop}

theorem siftdown_ok (c : Cx w A₀ A base h₀ outer env L s.heap m p loose mean mg mb) {a : Addr} {xs : List Value} {e0 : Nat} (ha : s.heap.get? a = some (listOf xs.toArray e0)) (haL : a ≠ L) (ha0 : h₀.get? a = none)
    (hr : A.depth + 4 < recursionLimit) (hu : A.units + 80 < cLine) {sp pos : Nat} {t1 t2 : Tok} (hpos : pos < xs.length) (hlen : xs.length < 1000) {lt : Value → Value → Bool}
    (hlt : ∀ v ∈ xs, ∀ u ∈ xs, CmpX w s.heap a v u (lt v u)) {x : Value} (hx : xs[pos]? = some x)
    (k : ∀ h' tk e', Heap.ExtBut a s.heap h' → h'.get? a = some (listOf (sdP lt x sp pos xs).toArray e') → R (.ok (.ret .none)) { s with heap := h', toks := tk }) :
    codeAny (model PySem.Challenge.rw_ij0057_01.row.prog w) A (.call (.ref 148) ⟨[.ref a, .int sp t1, .int pos t2], []⟩) R s := by
  have N : News h₀ L s.heap [(a, listOf xs.toArray e0)] := by
    intro q hq; rw [List.mem_singleton.mp hq]; exact ⟨ha, haL, ha0⟩
  refine' callM (binds := [("heap", .ref a), ("startpos", .int sp t1), ("pos", .int pos t2)]) c N ?ho ?hcd ?hroom ?hbind ?hloc ?h ?c2 ?c3 ?c4 ?c5
  case ho => k_is
  case hcd => k_is
  case hroom => (first | lia | omega)
  case hbind => exact BindsTo.of_eq rfl
  case hloc => exact locs rfl
  case c2 => exact rfl
  case c3 => exact rfl
  case c4 => exact rfl
  case c5 => decide
  case h =>
    intro g L' h₁ hLL F' N' B' X' T' hg hgs hg0
    clear ha N
    have hlt' : ∀ v ∈ xs, ∀ u ∈ xs, ∀ (A : Around) (Q : Value → Shared → Prop) (E : Value → Shared → Prop) (s' : Shared), A.units + 64 < cLine → (∀ b o, g.get? b = some o → s'.heap.get? b = some o) → (∀ tk, Q (.bool (lt v u)) { s' with toks := tk }) → wpAny (model PySem.Challenge.rw_ij0057_01.row.prog w) A (compareOp .Lt v u) Q E s' := by
      intro v hv u hu' A Q E s' h1 h2 h3
      exact hlt v hv u hu' A Q E s' h1 (fun b o hb e => h2 b o (hg b o (by simpa using hb) e)) h3
    k_unmd
    k_fold
    dsimp only [List.length_cons, List.length_nil]
    walk1
    walk1
    (repeat' ((fail_if_success k_end); (fail_if_success (with_reducible show wpAny _ _ (exec (Stmt.While _ _ _ _) _) _ _ _)); (fail_if_success (with_reducible show wpAny _ _ (exec (Stmt.For _ _ _ _ _) _) _ _ _)); (fail_if_success (with_reducible show wpAny _ _ (call (Value.ref _) _ _) _ _ _)); walk1))
    refine itemL N' (.head _) rfl hx (by (first | lia | omega)) ?_
    (repeat' ((fail_if_success k_end); (fail_if_success (with_reducible show wpAny _ _ (exec (Stmt.While _ _ _ _) _) _ _ _)); (fail_if_success (with_reducible show wpAny _ _ (exec (Stmt.For _ _ _ _ _) _) _ _ _)); (fail_if_success (with_reducible show wpAny _ _ (call (Value.ref _) _ _) _ _ _)); walk1))
    rename_i h' F2 N2
    obtain ⟨Q1, hQ1⟩ : ∃ Q1 : Flow → Shared → Prop, ∀ f s', Q1 f s' ↔ (f = Flow.next ∧ E6 fun (xs' : List Value) (pos' : Nat) (h' : Heap) (tk : Nat) (m' : Str → Option Value) (t' : Tok) => A9 (s' = { s with heap := h', toks := tk }) (Fr g L' h' m') (News g L' h' [(a, listOf xs'.toArray e0)]) (m' "heap" = some (.ref a)) (m' "newitem" = some x) (m' "pos" = some (.int pos' t')) (pos' < xs'.length) (xs'.length = xs.length) (xs'.set pos' x = sdP lt x sp pos xs)) := ⟨_, fun _ _ => Iff.rfl⟩
    refine wpAny_mono (Q := Q1) ?loop ?after (fun _ _ x => x)
    case after =>
      intro f9 s9 hq9
      obtain ⟨rfl, xs', pos', h', tk, m', t', rfl, F3, N3, q1, q2, q3, q4, q5, q6⟩ := (hQ1 _ _).mp hq9
      clear hq9
      dsimp only
      (repeat' ((fail_if_success k_end); (fail_if_success (with_reducible show wpAny _ _ (exec (Stmt.While _ _ _ _) _) _ _ _)); (fail_if_success (with_reducible show wpAny _ _ (exec (Stmt.For _ _ _ _ _) _) _ _ _)); (fail_if_success (with_reducible show wpAny _ _ (call (Value.ref _) _ _) _ _ _)); walk1))
      refine setL F3 N3 (fun _ h => nomatch h) rfl q4 (by (first | lia | omega)) fun h4 F4 N4 hs4 => ?_
      (repeat' ((fail_if_success k_end); (fail_if_success (with_reducible show wpAny _ _ (exec (Stmt.While _ _ _ _) _) _ _ _)); (fail_if_success (with_reducible show wpAny _ _ (exec (Stmt.For _ _ _ _ _) _) _ _ _)); (fail_if_success (with_reducible show wpAny _ _ (call (Value.ref _) _ _) _ _ _)); walk1))
      refine ⟨_, F4, fun hk => k h4 _ e0 (fun b o hb e => hk b o (by simpa using hb) e) ?_⟩
      rw [← q6]; exact (N4 _ (.head _)).1
    case loop =>
      obtain ⟨J, hJ⟩ : ∃ J : Nat → Shared → Prop, ∀ n s', J n s' ↔ (E6 fun (xs' : List Value) (pos' : Nat) (h' : Heap) (tk : Nat) (m' : Str → Option Value) (t' : Tok) => A12 (s' = { s with heap := h', toks := tk }) (n = pos') (Fr g L' h' m') (News g L' h' [(a, listOf xs'.toArray e0)]) (m' "heap" = some (.ref a)) (m' "startpos" = some (.int sp t1)) (m' "newitem" = some x) (m' "pos" = some (.int pos' t')) (pos' < xs'.length) (xs'.length = xs.length) ((∀ v ∈ xs', v ∈ xs)) (sdP lt x sp pos' xs' = sdP lt x sp pos xs)) := ⟨_, fun _ _ => Iff.rfl⟩
      refine wpAny_While (codeAny_whileLoop J ?turn pos ?start)
      case start => exact (hJ _ _).mpr ⟨xs, pos, _, _, _, _, rfl, rfl, F2, N2, rfl, rfl, rfl, rfl, hpos, rfl, fun _ h => h, rfl⟩
      case turn =>
        intro n s9 hj9
        obtain ⟨xs', pos', h', tk, m', t', rfl, rfl, F3, N3, q1, q2, q3, q4, q5, q6, q7, q8⟩ := (hJ _ _).mp hj9
        clear hj9
        clear F2 N2
        have hpar : ∃ par, xs'[(n - 1) / 2]? = some par := ⟨_, List.getElem?_eq_getElem (by (first | lia | omega))⟩
        obtain ⟨par, hpar⟩ := hpar
        (repeat' ((fail_if_success k_end); (fail_if_success (with_reducible show wpAny _ _ (exec (Stmt.While _ _ _ _) _) _ _ _)); (fail_if_success (with_reducible show wpAny _ _ (exec (Stmt.For _ _ _ _ _) _) _ _ _)); (fail_if_success (with_reducible show wpAny _ _ (call (Value.ref _) _ _) _ _ _)); walk1))
        · rename_i hgt h4 F4 N4
          refine itemL N4 (.head _) (j := (n - 1) / 2) (half_int (by (first | lia | omega))) hpar (by (first | lia | omega)) ?_
          (repeat' ((fail_if_success k_end); (fail_if_success (with_reducible show wpAny _ _ (exec (Stmt.While _ _ _ _) _) _ _ _)); (fail_if_success (with_reducible show wpAny _ _ (exec (Stmt.For _ _ _ _ _) _) _ _ _)); (fail_if_success (with_reducible show wpAny _ _ (call (Value.ref _) _ _) _ _ _)); walk1))
          rename_i h5 F5 N5
          refine hlt' x (List.mem_of_getElem? hx) par (q7 _ (List.mem_of_getElem? hpar)) _ _ _ _ (by show A.units + 3 + 64 < cLine; (first | lia | omega)) F5.keep fun tk5 => ?_
          have hnn : sp < n := by (first | lia | omega)
          rw [sdP, dif_pos hnn, hpar] at q8
          dsimp only at q8
          cases hb : lt x par with
          | true =>
            rw [hb, if_pos rfl] at q8
            (repeat' ((fail_if_success k_end); (fail_if_success (with_reducible show wpAny _ _ (exec (Stmt.While _ _ _ _) _) _ _ _)); (fail_if_success (with_reducible show wpAny _ _ (exec (Stmt.For _ _ _ _ _) _) _ _ _)); (fail_if_success (with_reducible show wpAny _ _ (call (Value.ref _) _ _) _ _ _)); walk1))
            refine setL F5 N5 (fun _ h => nomatch h) rfl q5 (by (first | lia | omega)) fun h6 F6 N6 hs6 => ?_
            (repeat' ((fail_if_success k_end); (fail_if_success (with_reducible show wpAny _ _ (exec (Stmt.While _ _ _ _) _) _ _ _)); (fail_if_success (with_reducible show wpAny _ _ (exec (Stmt.For _ _ _ _ _) _) _ _ _)); (fail_if_success (with_reducible show wpAny _ _ (call (Value.ref _) _ _) _ _ _)); walk1))
            rename_i h7 F7 N7
            exact ⟨(n - 1) / 2, by (first | lia | omega), (hJ _ _).mpr ⟨_, (n - 1) / 2, _, _, _, _, rfl, rfl, F7, N7, q1, q2, q3, congrArg some (congrArg (Value.int · _) (half_int (by (first | lia | omega)))), by rw [List.length_set]; (first | lia | omega), by rw [List.length_set]; exact q6, fun v hv => (List.mem_or_eq_of_mem_set hv).elim (q7 v) (fun e => e ▸ q7 _ (List.mem_of_getElem? hpar)), q8⟩⟩
          | false =>
            rw [hb, if_neg Bool.false_ne_true] at q8
            (repeat' ((fail_if_success k_end); (fail_if_success (with_reducible show wpAny _ _ (exec (Stmt.While _ _ _ _) _) _ _ _)); (fail_if_success (with_reducible show wpAny _ _ (exec (Stmt.For _ _ _ _ _) _) _ _ _)); (fail_if_success (with_reducible show wpAny _ _ (call (Value.ref _) _ _) _ _ _)); walk1))
            exact (hQ1 _ _).mpr ⟨rfl, _, n, _, _, _, _, rfl, F5, N5, q1, q3, q4, q5, q6, q8⟩
        · have hnn : ¬ sp < n := by (first | lia | omega)
          rw [sdP, dif_neg hnn] at q8
          exact (hQ1 _ _).mpr ⟨rfl, _, n, _, _, _, _, rfl, F3, N3, q1, q3, q4, q5, q6, q8⟩
end
end Mine
end
section
open PySem PySem.W PyProof.Rows PySem.Calls
set_option maxHeartbeats 8000000
namespace Mine
theorem offH2 : True := by
  w_top off
  trivial
theorem fillH2 (w : World) (x : OpenLaw) (h : PySem.Challenge.rw_ij0057_01 = x) : (Mine.frag.heap_1 w.params) = (Mine.frag.heap_1 w.params) ∧ PySem.Challenge.rw_ij0057_01 = x := by
  k_fill
  exact ⟨rfl, h⟩

noncomputable def suC {α : Type} (lt : α → α → Bool) (xs : List α) (c : Nat) : Nat :=
  match xs[c]?, xs[c + 1]? with
  | some l, some r => if lt l r then c else c + 1
  | _, _ => c
theorem suC_ge {α : Type} (lt : α → α → Bool) (xs : List α) (c : Nat) : c ≤ suC lt xs c := by
  unfold suC
  split
  · split <;> (first | lia | omega)
  · (first | lia | omega)
theorem suC_lt {α : Type} (lt : α → α → Bool) (xs : List α) (c : Nat) (h : c < xs.length) : suC lt xs c < xs.length := by
  unfold suC
  split
  · rename_i hr
    have := (List.getElem?_eq_some_iff.mp hr).1
    split <;> (first | lia | omega)
  · exact h
noncomputable def suDown {α : Type} (lt : α → α → Bool) (pos : Nat) (xs : List α) : List α × Nat :=
  match h : xs[suC lt xs (2 * pos + 1)]? with
  | some ch => if 2 * pos + 1 < xs.length then suDown lt (suC lt xs (2 * pos + 1)) (xs.set pos ch) else (xs, pos)
  | none => (xs, pos)
termination_by xs.length - pos
decreasing_by
  have h1 := (List.getElem?_eq_some_iff.mp h).1
  have h2 := suC_ge lt xs (2 * pos + 1)
  rw [List.length_set]; (first | lia | omega)
noncomputable def suP {α : Type} (lt : α → α → Bool) (x : α) (pos : Nat) (xs : List α) : List α :=
  sdP lt x pos (suDown lt pos xs).2 ((suDown lt pos xs).1.set (suDown lt pos xs).2 x)

section
variable {w : World} {A₀ A : Around} {base h₀ : Heap} {outer : List Env} {env : Env} {L : Addr} {m : Str → Option Value}
  {p : Program} {loose : List Str} {mean : ExcName → Option Value} {mg mb : Str → Option Value} {s : Shared}
  {R : Result → Shared → Prop}

theorem siftup_ok (c : Cx w A₀ A base h₀ outer env L s.heap m p loose mean mg mb) {a : Addr} {xs : List Value} {e0 : Nat} (ha : s.heap.get? a = some (listOf xs.toArray e0)) (haL : a ≠ L) (ha0 : h₀.get? a = none)
    (hr : A.depth + 8 < recursionLimit) (hu : A.units + 90 < cLine) {pos : Nat} {t2 : Tok} (hpos : pos < xs.length) (hlen : xs.length < 1000) {lt : Value → Value → Bool}
    (hlt : ∀ v ∈ xs, ∀ u ∈ xs, CmpX w s.heap a v u (lt v u)) {x : Value} (hx : xs[pos]? = some x)
    (k : ∀ h' tk e', Heap.ExtBut a s.heap h' → h'.get? a = some (listOf (suP lt x pos xs).toArray e') → R (.ok (.ret .none)) { s with heap := h', toks := tk }) :
    codeAny (model PySem.Challenge.rw_ij0057_01.row.prog w) A (.call (.ref 155) ⟨[.ref a, .int pos t2], []⟩) R s := by
  have N : News h₀ L s.heap [(a, listOf xs.toArray e0)] := by
    intro q hq; rw [List.mem_singleton.mp hq]; exact ⟨ha, haL, ha0⟩
  refine' callM (binds := [("heap", .ref a), ("pos", .int pos t2)]) c N ?ho ?hcd ?hroom ?hbind ?hloc ?h ?c2 ?c3 ?c4 ?c5
  case ho => k_is
  case hcd => k_is
  case hroom => (first | lia | omega)
  case hbind => exact BindsTo.of_eq rfl
  case hloc => exact locs rfl
  case c2 => exact rfl
  case c3 => exact rfl
  case c4 => exact rfl
  case c5 => decide
  case h =>
    intro g L' h₁ hLL F' N' B' X' T' hg hgs hg0
    clear ha N
    have hlt' : ∀ v ∈ xs, ∀ u ∈ xs, ∀ (A : Around) (Q : Value → Shared → Prop) (E : Value → Shared → Prop) (s' : Shared), A.units + 64 < cLine → (∀ b o, g.get? b = some o → s'.heap.get? b = some o) → (∀ tk, Q (.bool (lt v u)) { s' with toks := tk }) → wpAny (model PySem.Challenge.rw_ij0057_01.row.prog w) A (compareOp .Lt v u) Q E s' := by
      intro v hv u hu' A Q E s' h1 h2 h3
      exact hlt v hv u hu' A Q E s' h1 (fun b o hb e => h2 b o (hg b o (by simpa using hb) e)) h3
    k_unmd
    k_fold
    dsimp only [List.length_cons, List.length_nil]
    (repeat' ((fail_if_success k_end); (fail_if_success (with_reducible show wpAny _ _ (exec (Stmt.While _ _ _ _) _) _ _ _)); (fail_if_success (with_reducible show wpAny _ _ (exec (Stmt.If _ _ _ _) _) _ _ _)); (fail_if_success (with_reducible show wpAny _ _ (exec (Stmt.For _ _ _ _ _) _) _ _ _)); (fail_if_success (with_reducible show wpAny _ _ (call (Value.ref _) _ _) _ _ _)); walk1))
    refine lenL N' (.head _) (by (first | lia | omega)) ?_
    (repeat' ((fail_if_success k_end); (fail_if_success (with_reducible show wpAny _ _ (exec (Stmt.While _ _ _ _) _) _ _ _)); (fail_if_success (with_reducible show wpAny _ _ (exec (Stmt.If _ _ _ _) _) _ _ _)); (fail_if_success (with_reducible show wpAny _ _ (exec (Stmt.For _ _ _ _ _) _) _ _ _)); (fail_if_success (with_reducible show wpAny _ _ (call (Value.ref _) _ _) _ _ _)); walk1))
    refine itemL (by assumption) (.head _) rfl hx (by (first | lia | omega)) ?_
    (repeat' ((fail_if_success k_end); (fail_if_success (with_reducible show wpAny _ _ (exec (Stmt.While _ _ _ _) _) _ _ _)); (fail_if_success (with_reducible show wpAny _ _ (exec (Stmt.If _ _ _ _) _) _ _ _)); (fail_if_success (with_reducible show wpAny _ _ (exec (Stmt.For _ _ _ _ _) _) _ _ _)); (fail_if_success (with_reducible show wpAny _ _ (call (Value.ref _) _ _) _ _ _)); walk1))
    rename_i h2 F2 N2
    obtain ⟨Q1, hQ1⟩ : ∃ Q1 : Flow → Shared → Prop, ∀ f s', Q1 f s' ↔ (f = Flow.next ∧ E4 fun (h' : Heap) (tk : Nat) (m' : Str → Option Value) (t' : Tok) => A10 (s' = { s with heap := h', toks := tk }) (Fr g L' h' m') (News g L' h' [(a, listOf (suDown lt pos xs).1.toArray e0)]) (m' "heap" = some (.ref a)) (m' "startpos" = some (.int pos t2)) (m' "newitem" = some x) (m' "pos" = some (.int (suDown lt pos xs).2 t')) ((suDown lt pos xs).2 < xs.length) ((suDown lt pos xs).1.length = xs.length) ((∀ v ∈ (suDown lt pos xs).1, v ∈ xs))) := ⟨_, fun _ _ => Iff.rfl⟩
    refine wpAny_mono (Q := Q1) ?loop ?after (fun _ _ x => x)
    case after =>
      intro f9 s9 hq9
      obtain ⟨rfl, h3, tk3, m3, t3, rfl, F3, N3, q1, q2, q3, q4, q5, q6, q7⟩ := (hQ1 _ _).mp hq9
      clear hq9
      dsimp only
      (repeat' ((fail_if_success k_end); (fail_if_success (with_reducible show wpAny _ _ (exec (Stmt.While _ _ _ _) _) _ _ _)); (fail_if_success (with_reducible show wpAny _ _ (exec (Stmt.If _ _ _ _) _) _ _ _)); (fail_if_success (with_reducible show wpAny _ _ (exec (Stmt.For _ _ _ _ _) _) _ _ _)); (fail_if_success (with_reducible show wpAny _ _ (call (Value.ref _) _ _) _ _ _)); walk1))
      refine setL F3 N3 (fun _ h => nomatch h) rfl (by (first | lia | omega)) (by (first | lia | omega)) fun h4 F4 N4 hs4 => ?_
      (repeat' ((fail_if_success k_end); (fail_if_success (with_reducible show wpAny _ _ (exec (Stmt.While _ _ _ _) _) _ _ _)); (fail_if_success (with_reducible show wpAny _ _ (exec (Stmt.If _ _ _ _) _) _ _ _)); (fail_if_success (with_reducible show wpAny _ _ (exec (Stmt.For _ _ _ _ _) _) _ _ _)); (fail_if_success (with_reducible show wpAny _ _ (call (Value.ref _) _ _) _ _ _)); walk1))
      refine ⟨X'.keeps F4.keep, ?_⟩
      have e9 : ([] ++ [Value.ref a, Value.int pos t2, Value.int (suDown lt pos xs).2 t3] : List Value) = [Value.ref a, Value.int pos t2, Value.int (suDown lt pos xs).2 t3] := rfl
      try rw [e9]
      refine wpAny_call (siftdown_ok (xs := (suDown lt pos xs).1.set (suDown lt pos xs).2 x) (x := x) (lt := lt) (c.inn B' F4 X' T') (N4 _ (.head _)).1 (N4 _ (.head _)).2.1 (N4 _ (.head _)).2.2
        (by show A.depth + 1 + 4 < recursionLimit; (first | lia | omega)) (by show A.units + 3 + 80 < cLine; (first | lia | omega)) (by rw [List.length_set]; (first | lia | omega)) (by rw [List.length_set]; (first | lia | omega)) ?_ (by rw [List.getElem?_set_self (by (first | lia | omega))]) fun h5 tk5 e5 hx5 hg5 => ?_)
      · have hm : ∀ v ∈ (suDown lt pos xs).1.set (suDown lt pos xs).2 x, v ∈ xs := fun v hv => (List.mem_or_eq_of_mem_set hv).elim (q7 v) (fun e => e ▸ List.mem_of_getElem? hx)
        exact fun v hv u hu' => (hlt v (hm v hv) u (hm u hu')).keeps fun b o hb e => F4.keep b o (hg b o (by simpa using hb) e)
      · have F5 : Fr g L' h5 m3 := ext_fr F4 hx5 (N4 _ (.head _)).2.1 (N4 _ (.head _)).2.2
        (repeat' ((fail_if_success k_end); (fail_if_success (with_reducible show wpAny _ _ (exec (Stmt.While _ _ _ _) _) _ _ _)); (fail_if_success (with_reducible show wpAny _ _ (exec (Stmt.If _ _ _ _) _) _ _ _)); (fail_if_success (with_reducible show wpAny _ _ (exec (Stmt.For _ _ _ _ _) _) _ _ _)); (fail_if_success (with_reducible show wpAny _ _ (call (Value.ref _) _ _) _ _ _)); walk1))
        exact ⟨_, F5, fun hk => k h5 _ e5 (fun b o hb e => hk b o (by simpa using hb) e) hg5⟩
    case loop =>
      obtain ⟨J, hJ⟩ : ∃ J : Nat → Shared → Prop, ∀ n s', J n s' ↔ (E8 fun (xs' : List Value) (pos' : Nat) (h' : Heap) (tk : Nat) (m' : Str → Option Value) (t' : Tok) (t'' : Tok) (t3 : Tok) => A14 (s' = { s with heap := h', toks := tk }) (n = xs.length - pos') (Fr g L' h' m') (News g L' h' [(a, listOf xs'.toArray e0)]) (m' "heap" = some (.ref a)) (m' "startpos" = some (.int pos t2)) (m' "newitem" = some x) (m' "pos" = some (.int pos' t')) (m' "childpos" = some (.int (2 * pos' + 1 : Nat) t'')) (m' "endpos" = some (.int xs.length t3)) (pos' < xs'.length) (xs'.length = xs.length) ((∀ v ∈ xs', v ∈ xs)) (suDown lt pos' xs' = suDown lt pos xs)) := ⟨_, fun _ _ => Iff.rfl⟩
      refine wpAny_While (codeAny_whileLoop J ?turn (xs.length - pos) ?start)
      case start => exact (hJ _ _).mpr ⟨xs, pos, _, _, _, _, _, _, rfl, rfl, F2, N2, rfl, rfl, rfl, rfl, rfl, rfl, hpos, rfl, fun _ h => h, rfl⟩
      case turn =>
        intro n s9 hj9
        obtain ⟨xs', pos', h', tk, m', t', t'', t3, rfl, rfl, F3, N3, q1, q2, q3, q4, q5, q6, q7, q8, q9, q10⟩ := (hJ _ _).mp hj9
        clear hj9
        clear F2 N2
        (repeat' ((fail_if_success k_end); (fail_if_success (with_reducible show wpAny _ _ (exec (Stmt.While _ _ _ _) _) _ _ _)); (fail_if_success (with_reducible show wpAny _ _ (exec (Stmt.If _ _ _ _) _) _ _ _)); (fail_if_success (with_reducible show wpAny _ _ (exec (Stmt.For _ _ _ _ _) _) _ _ _)); (fail_if_success (with_reducible show wpAny _ _ (call (Value.ref _) _ _) _ _ _)); walk1))
        · rename_i hc h4 F4 N4
          have hc' : 2 * pos' + 1 < xs'.length := by (first | lia | omega)
          have hC1 := suC_ge lt xs' (2 * pos' + 1)
          have hC2 := suC_lt lt xs' (2 * pos' + 1) hc'
          obtain ⟨ch, hch⟩ : ∃ ch, xs'[suC lt xs' (2 * pos' + 1)]? = some ch := ⟨_, List.getElem?_eq_getElem hC2⟩
          have hstep : suDown lt pos' xs' = suDown lt (suC lt xs' (2 * pos' + 1)) (xs'.set pos' ch) := by
            rw [suDown]
            split
            · rename_i c2 e2
              rw [hch] at e2
              cases e2
              rw [if_pos hc']
            · rename_i e2
              rw [hch] at e2
              cases e2
          obtain ⟨Q2, hQ2⟩ : ∃ Q2 : Flow → Shared → Prop, ∀ f s', Q2 f s' ↔ (f = Flow.next ∧ E4 fun (h5 : Heap) (tk5 : Nat) (m5 : Str → Option Value) (t5 : Tok) => A9 (s' = { s with heap := h5, toks := tk5 }) (Fr g L' h5 m5) (News g L' h5 [(a, listOf xs'.toArray e0)]) (m5 "heap" = some (.ref a)) (m5 "startpos" = some (.int pos t2)) (m5 "newitem" = some x) (m5 "pos" = some (.int pos' t')) (m5 "childpos" = some (.int (suC lt xs' (2 * pos' + 1) : Nat) t5)) (m5 "endpos" = some (.int xs.length t3))) := ⟨_, fun _ _ => Iff.rfl⟩
          refine wpAny_mono (Q := Q2) ?iff ?rest (fun _ _ x => x)
          case iff =>
            obtain ⟨l, hl⟩ : ∃ l, xs'[2 * pos' + 1]? = some l := ⟨_, List.getElem?_eq_getElem (by (first | lia | omega))⟩
            (repeat' ((fail_if_success k_end); (fail_if_success (with_reducible show wpAny _ _ (exec (Stmt.While _ _ _ _) _) _ _ _)); (fail_if_success (with_reducible show wpAny _ _ (exec (Stmt.For _ _ _ _ _) _) _ _ _)); (fail_if_success (with_reducible show wpAny _ _ (call (Value.ref _) _ _) _ _ _)); walk1))
            · rename_i hr
              obtain ⟨r, hrr⟩ : ∃ r, xs'[2 * pos' + 1 + 1]? = some r := ⟨_, List.getElem?_eq_getElem (by (first | lia | omega))⟩
              refine itemL N4 (.head _) rfl hl (by (first | lia | omega)) ?_
              (repeat' ((fail_if_success k_end); (fail_if_success (with_reducible show wpAny _ _ (exec (Stmt.While _ _ _ _) _) _ _ _)); (fail_if_success (with_reducible show wpAny _ _ (exec (Stmt.For _ _ _ _ _) _) _ _ _)); (fail_if_success (with_reducible show wpAny _ _ (call (Value.ref _) _ _) _ _ _)); walk1))
              refine itemL N4 (.head _) (j := 2 * pos' + 1 + 1) rfl hrr (by (first | lia | omega)) ?_
              (repeat' ((fail_if_success k_end); (fail_if_success (with_reducible show wpAny _ _ (exec (Stmt.While _ _ _ _) _) _ _ _)); (fail_if_success (with_reducible show wpAny _ _ (exec (Stmt.For _ _ _ _ _) _) _ _ _)); (fail_if_success (with_reducible show wpAny _ _ (call (Value.ref _) _ _) _ _ _)); walk1))
              refine hlt' l (q9 _ (List.mem_of_getElem? hl)) r (q9 _ (List.mem_of_getElem? hrr)) _ _ _ _ (by show A.units + 3 + 64 < cLine; (first | lia | omega)) F4.keep fun tk5 => ?_
              cases hb : lt l r with
              | true =>
                have e : suC lt xs' (2 * pos' + 1) = 2 * pos' + 1 := by unfold suC; rw [hl, hrr]; simp [hb]
                (repeat' ((fail_if_success k_end); (fail_if_success (with_reducible show wpAny _ _ (exec (Stmt.While _ _ _ _) _) _ _ _)); (fail_if_success (with_reducible show wpAny _ _ (exec (Stmt.For _ _ _ _ _) _) _ _ _)); (fail_if_success (with_reducible show wpAny _ _ (call (Value.ref _) _ _) _ _ _)); walk1))
                exact (hQ2 _ _).mpr ⟨rfl, _, _, _, t'', rfl, F4, N4, q1, q2, q3, q4, by rw [e]; exact q5, q6⟩
              | false =>
                have e : suC lt xs' (2 * pos' + 1) = 2 * pos' + 1 + 1 := by unfold suC; rw [hl, hrr]; simp [hb]
                (repeat' ((fail_if_success k_end); (fail_if_success (with_reducible show wpAny _ _ (exec (Stmt.While _ _ _ _) _) _ _ _)); (fail_if_success (with_reducible show wpAny _ _ (exec (Stmt.For _ _ _ _ _) _) _ _ _)); (fail_if_success (with_reducible show wpAny _ _ (call (Value.ref _) _ _) _ _ _)); walk1))
                rename_i h6 F6 N6
                exact (hQ2 _ _).mpr ⟨rfl, _, _, _, _, rfl, F6, N6, q1, q2, q3, q4, by rw [e]; rfl, q6⟩
            · have e : suC lt xs' (2 * pos' + 1) = 2 * pos' + 1 := by
                have hnone : xs'[2 * pos' + 1 + 1]? = none := List.getElem?_eq_none (by (first | lia | omega))
                unfold suC; rw [hl, hnone]
              exact (hQ2 _ _).mpr ⟨rfl, _, _, _, t'', rfl, F4, N4, q1, q2, q3, q4, by rw [e]; exact q5, q6⟩
          case rest =>
            intro f9 s9 hq9
            obtain ⟨rfl, h5, tk5, m5, t5, rfl, F5, N5, r1, r2, r3, r4, r5, r6⟩ := (hQ2 _ _).mp hq9
            clear hq9
            dsimp only
            (repeat' ((fail_if_success k_end); (fail_if_success (with_reducible show wpAny _ _ (exec (Stmt.While _ _ _ _) _) _ _ _)); (fail_if_success (with_reducible show wpAny _ _ (exec (Stmt.For _ _ _ _ _) _) _ _ _)); (fail_if_success (with_reducible show wpAny _ _ (call (Value.ref _) _ _) _ _ _)); walk1))
            refine itemL N5 (.head _) rfl hch (by (first | lia | omega)) ?_
            (repeat' ((fail_if_success k_end); (fail_if_success (with_reducible show wpAny _ _ (exec (Stmt.While _ _ _ _) _) _ _ _)); (fail_if_success (with_reducible show wpAny _ _ (exec (Stmt.For _ _ _ _ _) _) _ _ _)); (fail_if_success (with_reducible show wpAny _ _ (call (Value.ref _) _ _) _ _ _)); walk1))
            refine setL F5 N5 (fun _ h => nomatch h) rfl q7 (by (first | lia | omega)) fun h6 F6 N6 hs6 => ?_
            (repeat' ((fail_if_success k_end); (fail_if_success (with_reducible show wpAny _ _ (exec (Stmt.While _ _ _ _) _) _ _ _)); (fail_if_success (with_reducible show wpAny _ _ (exec (Stmt.For _ _ _ _ _) _) _ _ _)); (fail_if_success (with_reducible show wpAny _ _ (call (Value.ref _) _ _) _ _ _)); walk1))
            rename_i h7 h8 F8 N8
            exact ⟨xs.length - suC lt xs' (2 * pos' + 1), by (first | lia | omega), (hJ _ _).mpr ⟨xs'.set pos' ch, suC lt xs' (2 * pos' + 1), _, _, _, t5, _, _, rfl, rfl, F8, N8, r1, r2, r3, rfl, rfl, r6, by rw [List.length_set]; exact hC2, by rw [List.length_set]; exact q8, fun v hv => (List.mem_or_eq_of_mem_set hv).elim (q9 v) (fun e => e ▸ q9 _ (List.mem_of_getElem? hch)), by rw [← hstep]; exact q10⟩⟩
        · have hn : ¬ 2 * pos' + 1 < xs'.length := by (first | lia | omega)
          have hstep : suDown lt pos' xs' = (xs', pos') := by
            rw [suDown]
            split
            · rw [if_neg hn]
            · rfl
          rw [hstep] at q10
          refine (hQ1 _ _).mpr ?_
          rw [← q10]
          exact ⟨rfl, _, _, _, _, rfl, F3, N3, q1, q2, q3, q4, by (first | lia | omega), q8, q9⟩
end
end Mine
end
section
open PySem PySem.W PyProof.Rows PySem.Calls
set_option maxHeartbeats 8000000
namespace Mine
theorem offH3 : True := by
  w_top off
  trivial
theorem fillH3 (w : World) (x : OpenLaw) (h : PySem.Challenge.rw_ij0057_01 = x) : (Mine.frag.heap_1 w.params) = (Mine.frag.heap_1 w.params) ∧ PySem.Challenge.rw_ij0057_01 = x := by
  k_fill
  exact ⟨rfl, h⟩

section
variable {w : World} {A₀ A : Around} {base h₀ : Heap} {outer : List Env} {env : Env} {L : Addr} {m : Str → Option Value}
  {p : Program} {loose : List Str} {mean : ExcName → Option Value} {mg mb : Str → Option Value} {s : Shared}
  {R : Result → Shared → Prop}

theorem siftdown_max_ok (c : Cx w A₀ A base h₀ outer env L s.heap m p loose mean mg mb) {a : Addr} {xs : List Value} {e0 : Nat} (ha : s.heap.get? a = some (listOf xs.toArray e0)) (haL : a ≠ L) (ha0 : h₀.get? a = none)
    (hr : A.depth + 4 < recursionLimit) (hu : A.units + 80 < cLine) {sp pos : Nat} {t1 t2 : Tok} (hpos : pos < xs.length) (hlen : xs.length < 1000) {lt : Value → Value → Bool}
    (hlt : ∀ v ∈ xs, ∀ u ∈ xs, CmpX w s.heap a v u (lt u v)) {x : Value} (hx : xs[pos]? = some x)
    (k : ∀ h' tk e', Heap.ExtBut a s.heap h' → h'.get? a = some (listOf (sdP lt x sp pos xs).toArray e') → R (.ok (.ret .none)) { s with heap := h', toks := tk }) :
    codeAny (model PySem.Challenge.rw_ij0057_01.row.prog w) A (.call (.ref 162) ⟨[.ref a, .int sp t1, .int pos t2], []⟩) R s := by
  have N : News h₀ L s.heap [(a, listOf xs.toArray e0)] := by
    intro q hq; rw [List.mem_singleton.mp hq]; exact ⟨ha, haL, ha0⟩
  refine' callM (binds := [("heap", .ref a), ("startpos", .int sp t1), ("pos", .int pos t2)]) c N ?ho ?hcd ?hroom ?hbind ?hloc ?h ?c2 ?c3 ?c4 ?c5
  case ho => k_is
  case hcd => k_is
  case hroom => (first | lia | omega)
  case hbind => exact BindsTo.of_eq rfl
  case hloc => exact locs rfl
  case c2 => exact rfl
  case c3 => exact rfl
  case c4 => exact rfl
  case c5 => decide
  case h =>
    intro g L' h₁ hLL F' N' B' X' T' hg hgs hg0
    clear ha N
    have hlt' : ∀ v ∈ xs, ∀ u ∈ xs, ∀ (A : Around) (Q : Value → Shared → Prop) (E : Value → Shared → Prop) (s' : Shared), A.units + 64 < cLine → (∀ b o, g.get? b = some o → s'.heap.get? b = some o) → (∀ tk, Q (.bool (lt u v)) { s' with toks := tk }) → wpAny (model PySem.Challenge.rw_ij0057_01.row.prog w) A (compareOp .Lt v u) Q E s' := by
      intro v hv u hu' A Q E s' h1 h2 h3
      exact hlt v hv u hu' A Q E s' h1 (fun b o hb e => h2 b o (hg b o (by simpa using hb) e)) h3
    k_unmd
    k_fold
    dsimp only [List.length_cons, List.length_nil]
    walk1
    walk1
    (repeat' ((fail_if_success k_end); (fail_if_success (with_reducible show wpAny _ _ (exec (Stmt.While _ _ _ _) _) _ _ _)); (fail_if_success (with_reducible show wpAny _ _ (exec (Stmt.For _ _ _ _ _) _) _ _ _)); (fail_if_success (with_reducible show wpAny _ _ (call (Value.ref _) _ _) _ _ _)); walk1))
    refine itemL N' (.head _) rfl hx (by (first | lia | omega)) ?_
    (repeat' ((fail_if_success k_end); (fail_if_success (with_reducible show wpAny _ _ (exec (Stmt.While _ _ _ _) _) _ _ _)); (fail_if_success (with_reducible show wpAny _ _ (exec (Stmt.For _ _ _ _ _) _) _ _ _)); (fail_if_success (with_reducible show wpAny _ _ (call (Value.ref _) _ _) _ _ _)); walk1))
    rename_i h' F2 N2
    obtain ⟨Q1, hQ1⟩ : ∃ Q1 : Flow → Shared → Prop, ∀ f s', Q1 f s' ↔ (f = Flow.next ∧ E6 fun (xs' : List Value) (pos' : Nat) (h' : Heap) (tk : Nat) (m' : Str → Option Value) (t' : Tok) => A9 (s' = { s with heap := h', toks := tk }) (Fr g L' h' m') (News g L' h' [(a, listOf xs'.toArray e0)]) (m' "heap" = some (.ref a)) (m' "newitem" = some x) (m' "pos" = some (.int pos' t')) (pos' < xs'.length) (xs'.length = xs.length) (xs'.set pos' x = sdP lt x sp pos xs)) := ⟨_, fun _ _ => Iff.rfl⟩
    refine wpAny_mono (Q := Q1) ?loop ?after (fun _ _ x => x)
    case after =>
      intro f9 s9 hq9
      obtain ⟨rfl, xs', pos', h', tk, m', t', rfl, F3, N3, q1, q2, q3, q4, q5, q6⟩ := (hQ1 _ _).mp hq9
      clear hq9
      dsimp only
      (repeat' ((fail_if_success k_end); (fail_if_success (with_reducible show wpAny _ _ (exec (Stmt.While _ _ _ _) _) _ _ _)); (fail_if_success (with_reducible show wpAny _ _ (exec (Stmt.For _ _ _ _ _) _) _ _ _)); (fail_if_success (with_reducible show wpAny _ _ (call (Value.ref _) _ _) _ _ _)); walk1))
      refine setL F3 N3 (fun _ h => nomatch h) rfl q4 (by (first | lia | omega)) fun h4 F4 N4 hs4 => ?_
      (repeat' ((fail_if_success k_end); (fail_if_success (with_reducible show wpAny _ _ (exec (Stmt.While _ _ _ _) _) _ _ _)); (fail_if_success (with_reducible show wpAny _ _ (exec (Stmt.For _ _ _ _ _) _) _ _ _)); (fail_if_success (with_reducible show wpAny _ _ (call (Value.ref _) _ _) _ _ _)); walk1))
      refine ⟨_, F4, fun hk => k h4 _ e0 (fun b o hb e => hk b o (by simpa using hb) e) ?_⟩
      rw [← q6]; exact (N4 _ (.head _)).1
    case loop =>
      obtain ⟨J, hJ⟩ : ∃ J : Nat → Shared → Prop, ∀ n s', J n s' ↔ (E6 fun (xs' : List Value) (pos' : Nat) (h' : Heap) (tk : Nat) (m' : Str → Option Value) (t' : Tok) => A12 (s' = { s with heap := h', toks := tk }) (n = pos') (Fr g L' h' m') (News g L' h' [(a, listOf xs'.toArray e0)]) (m' "heap" = some (.ref a)) (m' "startpos" = some (.int sp t1)) (m' "newitem" = some x) (m' "pos" = some (.int pos' t')) (pos' < xs'.length) (xs'.length = xs.length) ((∀ v ∈ xs', v ∈ xs)) (sdP lt x sp pos' xs' = sdP lt x sp pos xs)) := ⟨_, fun _ _ => Iff.rfl⟩
      refine wpAny_While (codeAny_whileLoop J ?turn pos ?start)
      case start => exact (hJ _ _).mpr ⟨xs, pos, _, _, _, _, rfl, rfl, F2, N2, rfl, rfl, rfl, rfl, hpos, rfl, fun _ h => h, rfl⟩
      case turn =>
        intro n s9 hj9
        obtain ⟨xs', pos', h', tk, m', t', rfl, rfl, F3, N3, q1, q2, q3, q4, q5, q6, q7, q8⟩ := (hJ _ _).mp hj9
        clear hj9
        clear F2 N2
        have hpar : ∃ par, xs'[(n - 1) / 2]? = some par := ⟨_, List.getElem?_eq_getElem (by (first | lia | omega))⟩
        obtain ⟨par, hpar⟩ := hpar
        (repeat' ((fail_if_success k_end); (fail_if_success (with_reducible show wpAny _ _ (exec (Stmt.While _ _ _ _) _) _ _ _)); (fail_if_success (with_reducible show wpAny _ _ (exec (Stmt.For _ _ _ _ _) _) _ _ _)); (fail_if_success (with_reducible show wpAny _ _ (call (Value.ref _) _ _) _ _ _)); walk1))
        · rename_i hgt h4 F4 N4
          refine itemL N4 (.head _) (j := (n - 1) / 2) (half_int (by (first | lia | omega))) hpar (by (first | lia | omega)) ?_
          (repeat' ((fail_if_success k_end); (fail_if_success (with_reducible show wpAny _ _ (exec (Stmt.While _ _ _ _) _) _ _ _)); (fail_if_success (with_reducible show wpAny _ _ (exec (Stmt.For _ _ _ _ _) _) _ _ _)); (fail_if_success (with_reducible show wpAny _ _ (call (Value.ref _) _ _) _ _ _)); walk1))
          rename_i h5 F5 N5
          refine hlt' par (q7 _ (List.mem_of_getElem? hpar)) x (List.mem_of_getElem? hx) _ _ _ _ (by show A.units + 3 + 64 < cLine; (first | lia | omega)) F5.keep fun tk5 => ?_
          have hnn : sp < n := by (first | lia | omega)
          rw [sdP, dif_pos hnn, hpar] at q8
          dsimp only at q8
          cases hb : lt x par with
          | true =>
            rw [hb, if_pos rfl] at q8
            (repeat' ((fail_if_success k_end); (fail_if_success (with_reducible show wpAny _ _ (exec (Stmt.While _ _ _ _) _) _ _ _)); (fail_if_success (with_reducible show wpAny _ _ (exec (Stmt.For _ _ _ _ _) _) _ _ _)); (fail_if_success (with_reducible show wpAny _ _ (call (Value.ref _) _ _) _ _ _)); walk1))
            refine setL F5 N5 (fun _ h => nomatch h) rfl q5 (by (first | lia | omega)) fun h6 F6 N6 hs6 => ?_
            (repeat' ((fail_if_success k_end); (fail_if_success (with_reducible show wpAny _ _ (exec (Stmt.While _ _ _ _) _) _ _ _)); (fail_if_success (with_reducible show wpAny _ _ (exec (Stmt.For _ _ _ _ _) _) _ _ _)); (fail_if_success (with_reducible show wpAny _ _ (call (Value.ref _) _ _) _ _ _)); walk1))
            rename_i h7 F7 N7
            exact ⟨(n - 1) / 2, by (first | lia | omega), (hJ _ _).mpr ⟨_, (n - 1) / 2, _, _, _, _, rfl, rfl, F7, N7, q1, q2, q3, congrArg some (congrArg (Value.int · _) (half_int (by (first | lia | omega)))), by rw [List.length_set]; (first | lia | omega), by rw [List.length_set]; exact q6, fun v hv => (List.mem_or_eq_of_mem_set hv).elim (q7 v) (fun e => e ▸ q7 _ (List.mem_of_getElem? hpar)), q8⟩⟩
          | false =>
            rw [hb, if_neg Bool.false_ne_true] at q8
            (repeat' ((fail_if_success k_end); (fail_if_success (with_reducible show wpAny _ _ (exec (Stmt.While _ _ _ _) _) _ _ _)); (fail_if_success (with_reducible show wpAny _ _ (exec (Stmt.For _ _ _ _ _) _) _ _ _)); (fail_if_success (with_reducible show wpAny _ _ (call (Value.ref _) _ _) _ _ _)); walk1))
            exact (hQ1 _ _).mpr ⟨rfl, _, n, _, _, _, _, rfl, F5, N5, q1, q3, q4, q5, q6, q8⟩
        · have hnn : ¬ sp < n := by (first | lia | omega)
          rw [sdP, dif_neg hnn] at q8
          exact (hQ1 _ _).mpr ⟨rfl, _, n, _, _, _, _, rfl, F3, N3, q1, q3, q4, q5, q6, q8⟩
end

section
variable {w : World} {A₀ A : Around} {base h₀ : Heap} {outer : List Env} {env : Env} {L : Addr} {m : Str → Option Value}
  {p : Program} {loose : List Str} {mean : ExcName → Option Value} {mg mb : Str → Option Value} {s : Shared}
  {R : Result → Shared → Prop}

theorem siftup_max_ok (c : Cx w A₀ A base h₀ outer env L s.heap m p loose mean mg mb) {a : Addr} {xs : List Value} {e0 : Nat} (ha : s.heap.get? a = some (listOf xs.toArray e0)) (haL : a ≠ L) (ha0 : h₀.get? a = none)
    (hr : A.depth + 8 < recursionLimit) (hu : A.units + 90 < cLine) {pos : Nat} {t2 : Tok} (hpos : pos < xs.length) (hlen : xs.length < 1000) {lt : Value → Value → Bool}
    (hlt : ∀ v ∈ xs, ∀ u ∈ xs, CmpX w s.heap a v u (lt u v)) {x : Value} (hx : xs[pos]? = some x)
    (k : ∀ h' tk e', Heap.ExtBut a s.heap h' → h'.get? a = some (listOf (suP lt x pos xs).toArray e') → R (.ok (.ret .none)) { s with heap := h', toks := tk }) :
    codeAny (model PySem.Challenge.rw_ij0057_01.row.prog w) A (.call (.ref 169) ⟨[.ref a, .int pos t2], []⟩) R s := by
  have N : News h₀ L s.heap [(a, listOf xs.toArray e0)] := by
    intro q hq; rw [List.mem_singleton.mp hq]; exact ⟨ha, haL, ha0⟩
  refine' callM (binds := [("heap", .ref a), ("pos", .int pos t2)]) c N ?ho ?hcd ?hroom ?hbind ?hloc ?h ?c2 ?c3 ?c4 ?c5
  case ho => k_is
  case hcd => k_is
  case hroom => (first | lia | omega)
  case hbind => exact BindsTo.of_eq rfl
  case hloc => exact locs rfl
  case c2 => exact rfl
  case c3 => exact rfl
  case c4 => exact rfl
  case c5 => decide
  case h =>
    intro g L' h₁ hLL F' N' B' X' T' hg hgs hg0
    clear ha N
    have hlt' : ∀ v ∈ xs, ∀ u ∈ xs, ∀ (A : Around) (Q : Value → Shared → Prop) (E : Value → Shared → Prop) (s' : Shared), A.units + 64 < cLine → (∀ b o, g.get? b = some o → s'.heap.get? b = some o) → (∀ tk, Q (.bool (lt u v)) { s' with toks := tk }) → wpAny (model PySem.Challenge.rw_ij0057_01.row.prog w) A (compareOp .Lt v u) Q E s' := by
      intro v hv u hu' A Q E s' h1 h2 h3
      exact hlt v hv u hu' A Q E s' h1 (fun b o hb e => h2 b o (hg b o (by simpa using hb) e)) h3
    k_unmd
    k_fold
    dsimp only [List.length_cons, List.length_nil]
    (repeat' ((fail_if_success k_end); (fail_if_success (with_reducible show wpAny _ _ (exec (Stmt.While _ _ _ _) _) _ _ _)); (fail_if_success (with_reducible show wpAny _ _ (exec (Stmt.If _ _ _ _) _) _ _ _)); (fail_if_success (with_reducible show wpAny _ _ (exec (Stmt.For _ _ _ _ _) _) _ _ _)); (fail_if_success (with_reducible show wpAny _ _ (call (Value.ref _) _ _) _ _ _)); walk1))
    refine lenL N' (.head _) (by (first | lia | omega)) ?_
    (repeat' ((fail_if_success k_end); (fail_if_success (with_reducible show wpAny _ _ (exec (Stmt.While _ _ _ _) _) _ _ _)); (fail_if_success (with_reducible show wpAny _ _ (exec (Stmt.If _ _ _ _) _) _ _ _)); (fail_if_success (with_reducible show wpAny _ _ (exec (Stmt.For _ _ _ _ _) _) _ _ _)); (fail_if_success (with_reducible show wpAny _ _ (call (Value.ref _) _ _) _ _ _)); walk1))
    refine itemL (by assumption) (.head _) rfl hx (by (first | lia | omega)) ?_
    (repeat' ((fail_if_success k_end); (fail_if_success (with_reducible show wpAny _ _ (exec (Stmt.While _ _ _ _) _) _ _ _)); (fail_if_success (with_reducible show wpAny _ _ (exec (Stmt.If _ _ _ _) _) _ _ _)); (fail_if_success (with_reducible show wpAny _ _ (exec (Stmt.For _ _ _ _ _) _) _ _ _)); (fail_if_success (with_reducible show wpAny _ _ (call (Value.ref _) _ _) _ _ _)); walk1))
    rename_i h2 F2 N2
    obtain ⟨Q1, hQ1⟩ : ∃ Q1 : Flow → Shared → Prop, ∀ f s', Q1 f s' ↔ (f = Flow.next ∧ E4 fun (h' : Heap) (tk : Nat) (m' : Str → Option Value) (t' : Tok) => A10 (s' = { s with heap := h', toks := tk }) (Fr g L' h' m') (News g L' h' [(a, listOf (suDown lt pos xs).1.toArray e0)]) (m' "heap" = some (.ref a)) (m' "startpos" = some (.int pos t2)) (m' "newitem" = some x) (m' "pos" = some (.int (suDown lt pos xs).2 t')) ((suDown lt pos xs).2 < xs.length) ((suDown lt pos xs).1.length = xs.length) ((∀ v ∈ (suDown lt pos xs).1, v ∈ xs))) := ⟨_, fun _ _ => Iff.rfl⟩
    refine wpAny_mono (Q := Q1) ?loop ?after (fun _ _ x => x)
    case after =>
      intro f9 s9 hq9
      obtain ⟨rfl, h3, tk3, m3, t3, rfl, F3, N3, q1, q2, q3, q4, q5, q6, q7⟩ := (hQ1 _ _).mp hq9
      clear hq9
      dsimp only
      (repeat' ((fail_if_success k_end); (fail_if_success (with_reducible show wpAny _ _ (exec (Stmt.While _ _ _ _) _) _ _ _)); (fail_if_success (with_reducible show wpAny _ _ (exec (Stmt.If _ _ _ _) _) _ _ _)); (fail_if_success (with_reducible show wpAny _ _ (exec (Stmt.For _ _ _ _ _) _) _ _ _)); (fail_if_success (with_reducible show wpAny _ _ (call (Value.ref _) _ _) _ _ _)); walk1))
      refine setL F3 N3 (fun _ h => nomatch h) rfl (by (first | lia | omega)) (by (first | lia | omega)) fun h4 F4 N4 hs4 => ?_
      (repeat' ((fail_if_success k_end); (fail_if_success (with_reducible show wpAny _ _ (exec (Stmt.While _ _ _ _) _) _ _ _)); (fail_if_success (with_reducible show wpAny _ _ (exec (Stmt.If _ _ _ _) _) _ _ _)); (fail_if_success (with_reducible show wpAny _ _ (exec (Stmt.For _ _ _ _ _) _) _ _ _)); (fail_if_success (with_reducible show wpAny _ _ (call (Value.ref _) _ _) _ _ _)); walk1))
      refine ⟨X'.keeps F4.keep, ?_⟩
      have e9 : ([] ++ [Value.ref a, Value.int pos t2, Value.int (suDown lt pos xs).2 t3] : List Value) = [Value.ref a, Value.int pos t2, Value.int (suDown lt pos xs).2 t3] := rfl
      try rw [e9]
      refine wpAny_call (siftdown_max_ok (xs := (suDown lt pos xs).1.set (suDown lt pos xs).2 x) (x := x) (lt := lt) (c.inn B' F4 X' T') (N4 _ (.head _)).1 (N4 _ (.head _)).2.1 (N4 _ (.head _)).2.2
        (by show A.depth + 1 + 4 < recursionLimit; (first | lia | omega)) (by show A.units + 3 + 80 < cLine; (first | lia | omega)) (by rw [List.length_set]; (first | lia | omega)) (by rw [List.length_set]; (first | lia | omega)) ?_ (by rw [List.getElem?_set_self (by (first | lia | omega))]) fun h5 tk5 e5 hx5 hg5 => ?_)
      · have hm : ∀ v ∈ (suDown lt pos xs).1.set (suDown lt pos xs).2 x, v ∈ xs := fun v hv => (List.mem_or_eq_of_mem_set hv).elim (q7 v) (fun e => e ▸ List.mem_of_getElem? hx)
        exact fun v hv u hu' => (hlt v (hm v hv) u (hm u hu')).keeps fun b o hb e => F4.keep b o (hg b o (by simpa using hb) e)
      · have F5 : Fr g L' h5 m3 := ext_fr F4 hx5 (N4 _ (.head _)).2.1 (N4 _ (.head _)).2.2
        (repeat' ((fail_if_success k_end); (fail_if_success (with_reducible show wpAny _ _ (exec (Stmt.While _ _ _ _) _) _ _ _)); (fail_if_success (with_reducible show wpAny _ _ (exec (Stmt.If _ _ _ _) _) _ _ _)); (fail_if_success (with_reducible show wpAny _ _ (exec (Stmt.For _ _ _ _ _) _) _ _ _)); (fail_if_success (with_reducible show wpAny _ _ (call (Value.ref _) _ _) _ _ _)); walk1))
        exact ⟨_, F5, fun hk => k h5 _ e5 (fun b o hb e => hk b o (by simpa using hb) e) hg5⟩
    case loop =>
      obtain ⟨J, hJ⟩ : ∃ J : Nat → Shared → Prop, ∀ n s', J n s' ↔ (E8 fun (xs' : List Value) (pos' : Nat) (h' : Heap) (tk : Nat) (m' : Str → Option Value) (t' : Tok) (t'' : Tok) (t3 : Tok) => A14 (s' = { s with heap := h', toks := tk }) (n = xs.length - pos') (Fr g L' h' m') (News g L' h' [(a, listOf xs'.toArray e0)]) (m' "heap" = some (.ref a)) (m' "startpos" = some (.int pos t2)) (m' "newitem" = some x) (m' "pos" = some (.int pos' t')) (m' "childpos" = some (.int (2 * pos' + 1 : Nat) t'')) (m' "endpos" = some (.int xs.length t3)) (pos' < xs'.length) (xs'.length = xs.length) ((∀ v ∈ xs', v ∈ xs)) (suDown lt pos' xs' = suDown lt pos xs)) := ⟨_, fun _ _ => Iff.rfl⟩
      refine wpAny_While (codeAny_whileLoop J ?turn (xs.length - pos) ?start)
      case start => exact (hJ _ _).mpr ⟨xs, pos, _, _, _, _, _, _, rfl, rfl, F2, N2, rfl, rfl, rfl, rfl, rfl, rfl, hpos, rfl, fun _ h => h, rfl⟩
      case turn =>
        intro n s9 hj9
        obtain ⟨xs', pos', h', tk, m', t', t'', t3, rfl, rfl, F3, N3, q1, q2, q3, q4, q5, q6, q7, q8, q9, q10⟩ := (hJ _ _).mp hj9
        clear hj9
        clear F2 N2
        (repeat' ((fail_if_success k_end); (fail_if_success (with_reducible show wpAny _ _ (exec (Stmt.While _ _ _ _) _) _ _ _)); (fail_if_success (with_reducible show wpAny _ _ (exec (Stmt.If _ _ _ _) _) _ _ _)); (fail_if_success (with_reducible show wpAny _ _ (exec (Stmt.For _ _ _ _ _) _) _ _ _)); (fail_if_success (with_reducible show wpAny _ _ (call (Value.ref _) _ _) _ _ _)); walk1))
        · rename_i hc h4 F4 N4
          have hc' : 2 * pos' + 1 < xs'.length := by (first | lia | omega)
          have hC1 := suC_ge lt xs' (2 * pos' + 1)
          have hC2 := suC_lt lt xs' (2 * pos' + 1) hc'
          obtain ⟨ch, hch⟩ : ∃ ch, xs'[suC lt xs' (2 * pos' + 1)]? = some ch := ⟨_, List.getElem?_eq_getElem hC2⟩
          have hstep : suDown lt pos' xs' = suDown lt (suC lt xs' (2 * pos' + 1)) (xs'.set pos' ch) := by
            rw [suDown]
            split
            · rename_i c2 e2
              rw [hch] at e2
              cases e2
              rw [if_pos hc']
            · rename_i e2
              rw [hch] at e2
              cases e2
          obtain ⟨Q2, hQ2⟩ : ∃ Q2 : Flow → Shared → Prop, ∀ f s', Q2 f s' ↔ (f = Flow.next ∧ E4 fun (h5 : Heap) (tk5 : Nat) (m5 : Str → Option Value) (t5 : Tok) => A9 (s' = { s with heap := h5, toks := tk5 }) (Fr g L' h5 m5) (News g L' h5 [(a, listOf xs'.toArray e0)]) (m5 "heap" = some (.ref a)) (m5 "startpos" = some (.int pos t2)) (m5 "newitem" = some x) (m5 "pos" = some (.int pos' t')) (m5 "childpos" = some (.int (suC lt xs' (2 * pos' + 1) : Nat) t5)) (m5 "endpos" = some (.int xs.length t3))) := ⟨_, fun _ _ => Iff.rfl⟩
          refine wpAny_mono (Q := Q2) ?iff ?rest (fun _ _ x => x)
          case iff =>
            obtain ⟨l, hl⟩ : ∃ l, xs'[2 * pos' + 1]? = some l := ⟨_, List.getElem?_eq_getElem (by (first | lia | omega))⟩
            (repeat' ((fail_if_success k_end); (fail_if_success (with_reducible show wpAny _ _ (exec (Stmt.While _ _ _ _) _) _ _ _)); (fail_if_success (with_reducible show wpAny _ _ (exec (Stmt.For _ _ _ _ _) _) _ _ _)); (fail_if_success (with_reducible show wpAny _ _ (call (Value.ref _) _ _) _ _ _)); walk1))
            · rename_i hr
              obtain ⟨r, hrr⟩ : ∃ r, xs'[2 * pos' + 1 + 1]? = some r := ⟨_, List.getElem?_eq_getElem (by (first | lia | omega))⟩
              refine itemL N4 (.head _) (j := 2 * pos' + 1 + 1) rfl hrr (by (first | lia | omega)) ?_
              (repeat' ((fail_if_success k_end); (fail_if_success (with_reducible show wpAny _ _ (exec (Stmt.While _ _ _ _) _) _ _ _)); (fail_if_success (with_reducible show wpAny _ _ (exec (Stmt.For _ _ _ _ _) _) _ _ _)); (fail_if_success (with_reducible show wpAny _ _ (call (Value.ref _) _ _) _ _ _)); walk1))
              refine itemL N4 (.head _) rfl hl (by (first | lia | omega)) ?_
              (repeat' ((fail_if_success k_end); (fail_if_success (with_reducible show wpAny _ _ (exec (Stmt.While _ _ _ _) _) _ _ _)); (fail_if_success (with_reducible show wpAny _ _ (exec (Stmt.For _ _ _ _ _) _) _ _ _)); (fail_if_success (with_reducible show wpAny _ _ (call (Value.ref _) _ _) _ _ _)); walk1))
              refine hlt' r (q9 _ (List.mem_of_getElem? hrr)) l (q9 _ (List.mem_of_getElem? hl)) _ _ _ _ (by show A.units + 3 + 64 < cLine; (first | lia | omega)) F4.keep fun tk5 => ?_
              cases hb : lt l r with
              | true =>
                have e : suC lt xs' (2 * pos' + 1) = 2 * pos' + 1 := by unfold suC; rw [hl, hrr]; simp [hb]
                (repeat' ((fail_if_success k_end); (fail_if_success (with_reducible show wpAny _ _ (exec (Stmt.While _ _ _ _) _) _ _ _)); (fail_if_success (with_reducible show wpAny _ _ (exec (Stmt.For _ _ _ _ _) _) _ _ _)); (fail_if_success (with_reducible show wpAny _ _ (call (Value.ref _) _ _) _ _ _)); walk1))
                exact (hQ2 _ _).mpr ⟨rfl, _, _, _, t'', rfl, F4, N4, q1, q2, q3, q4, by rw [e]; exact q5, q6⟩
              | false =>
                have e : suC lt xs' (2 * pos' + 1) = 2 * pos' + 1 + 1 := by unfold suC; rw [hl, hrr]; simp [hb]
                (repeat' ((fail_if_success k_end); (fail_if_success (with_reducible show wpAny _ _ (exec (Stmt.While _ _ _ _) _) _ _ _)); (fail_if_success (with_reducible show wpAny _ _ (exec (Stmt.For _ _ _ _ _) _) _ _ _)); (fail_if_success (with_reducible show wpAny _ _ (call (Value.ref _) _ _) _ _ _)); walk1))
                rename_i h6 F6 N6
                exact (hQ2 _ _).mpr ⟨rfl, _, _, _, _, rfl, F6, N6, q1, q2, q3, q4, by rw [e]; rfl, q6⟩
            · have e : suC lt xs' (2 * pos' + 1) = 2 * pos' + 1 := by
                have hnone : xs'[2 * pos' + 1 + 1]? = none := List.getElem?_eq_none (by (first | lia | omega))
                unfold suC; rw [hl, hnone]
              exact (hQ2 _ _).mpr ⟨rfl, _, _, _, t'', rfl, F4, N4, q1, q2, q3, q4, by rw [e]; exact q5, q6⟩
          case rest =>
            intro f9 s9 hq9
            obtain ⟨rfl, h5, tk5, m5, t5, rfl, F5, N5, r1, r2, r3, r4, r5, r6⟩ := (hQ2 _ _).mp hq9
            clear hq9
            dsimp only
            (repeat' ((fail_if_success k_end); (fail_if_success (with_reducible show wpAny _ _ (exec (Stmt.While _ _ _ _) _) _ _ _)); (fail_if_success (with_reducible show wpAny _ _ (exec (Stmt.For _ _ _ _ _) _) _ _ _)); (fail_if_success (with_reducible show wpAny _ _ (call (Value.ref _) _ _) _ _ _)); walk1))
            refine itemL N5 (.head _) rfl hch (by (first | lia | omega)) ?_
            (repeat' ((fail_if_success k_end); (fail_if_success (with_reducible show wpAny _ _ (exec (Stmt.While _ _ _ _) _) _ _ _)); (fail_if_success (with_reducible show wpAny _ _ (exec (Stmt.For _ _ _ _ _) _) _ _ _)); (fail_if_success (with_reducible show wpAny _ _ (call (Value.ref _) _ _) _ _ _)); walk1))
            refine setL F5 N5 (fun _ h => nomatch h) rfl q7 (by (first | lia | omega)) fun h6 F6 N6 hs6 => ?_
            (repeat' ((fail_if_success k_end); (fail_if_success (with_reducible show wpAny _ _ (exec (Stmt.While _ _ _ _) _) _ _ _)); (fail_if_success (with_reducible show wpAny _ _ (exec (Stmt.For _ _ _ _ _) _) _ _ _)); (fail_if_success (with_reducible show wpAny _ _ (call (Value.ref _) _ _) _ _ _)); walk1))
            rename_i h7 h8 F8 N8
            exact ⟨xs.length - suC lt xs' (2 * pos' + 1), by (first | lia | omega), (hJ _ _).mpr ⟨xs'.set pos' ch, suC lt xs' (2 * pos' + 1), _, _, _, t5, _, _, rfl, rfl, F8, N8, r1, r2, r3, rfl, rfl, r6, by rw [List.length_set]; exact hC2, by rw [List.length_set]; exact q8, fun v hv => (List.mem_or_eq_of_mem_set hv).elim (q9 v) (fun e => e ▸ q9 _ (List.mem_of_getElem? hch)), by rw [← hstep]; exact q10⟩⟩
        · have hn : ¬ 2 * pos' + 1 < xs'.length := by (first | lia | omega)
          have hstep : suDown lt pos' xs' = (xs', pos') := by
            rw [suDown]
            split
            · rw [if_neg hn]
            · rfl
          rw [hstep] at q10
          refine (hQ1 _ _).mpr ?_
          rw [← q10]
          exact ⟨rfl, _, _, _, _, rfl, F3, N3, q1, q2, q3, q4, by (first | lia | omega), q8, q9⟩
end
end Mine
end
section
open PySem PySem.W PyProof.Rows PySem.Calls
set_option maxHeartbeats 8000000
namespace Mine
theorem offH4 : True := by
  w_top off
  trivial
theorem fillH4 (w : World) (x : OpenLaw) (h : PySem.Challenge.rw_ij0057_01 = x) : (Mine.frag.heap_1 w.params) = (Mine.frag.heap_1 w.params) ∧ PySem.Challenge.rw_ij0057_01 = x := by
  k_fill
  exact ⟨rfl, h⟩

noncomputable def suAt {α : Type} (lt : α → α → Bool) (xs : List α) (i : Nat) : List α := match xs[i]? with
  | some x => suP lt x i xs
  | none => xs
noncomputable def hfP {α : Type} (lt : α → α → Bool) : Nat → List α → List α
  | 0, xs => xs
  | k + 1, xs => hfP lt k (suAt lt xs k)
noncomputable def hrP {α : Type} (lt : α → α → Bool) (x : α) (xs : List α) : List α := suP lt x 0 (xs.set 0 x)
theorem sdP_length {α : Type} (lt : α → α → Bool) (x : α) (sp : Nat) : ∀ (n pos : Nat) (xs : List α), pos ≤ n → (sdP lt x sp pos xs).length = xs.length := by
  intro n
  induction n with
  | zero =>
    intro pos xs h
    rw [sdP]
    split
    · (first | lia | omega)
    · rw [List.length_set]
  | succ n ih =>
    intro pos xs h
    rw [sdP]
    split
    · split
      · split
        · rw [ih _ _ (by (first | lia | omega)), List.length_set]
        · rw [List.length_set]
      · rw [List.length_set]
    · rw [List.length_set]
theorem sdP_mem {α : Type} (lt : α → α → Bool) (x : α) (sp : Nat) : ∀ (n pos : Nat) (xs : List α), pos ≤ n → ∀ v ∈ sdP lt x sp pos xs, v = x ∨ v ∈ xs := by
  intro n
  induction n with
  | zero =>
    intro pos xs h v hv
    rw [sdP] at hv
    split at hv
    · (first | lia | omega)
    · exact (List.mem_or_eq_of_mem_set hv).symm
  | succ n ih =>
    intro pos xs h v hv
    rw [sdP] at hv
    split at hv
    · split at hv
      · rename_i par hpar
        split at hv
        · rcases ih _ _ (by (first | lia | omega)) v hv with h1 | h1
          · exact .inl h1
          · exact (List.mem_or_eq_of_mem_set h1).elim .inr fun e => .inr (e ▸ List.mem_of_getElem? hpar)
        · exact (List.mem_or_eq_of_mem_set hv).symm
      · exact (List.mem_or_eq_of_mem_set hv).symm
    · exact (List.mem_or_eq_of_mem_set hv).symm
theorem suDown_spec {α : Type} (lt : α → α → Bool) : ∀ (n pos : Nat) (xs : List α), xs.length - pos ≤ n → (suDown lt pos xs).1.length = xs.length ∧ (∀ v ∈ (suDown lt pos xs).1, v ∈ xs) ∧ (pos < xs.length → (suDown lt pos xs).2 < xs.length) ∧ pos ≤ (suDown lt pos xs).2 := by
  intro n
  induction n with
  | zero =>
    intro pos xs h
    rw [suDown]
    split
    · rename_i ch hch
      have h1 := (List.getElem?_eq_some_iff.mp hch).1
      have h2 := suC_ge lt xs (2 * pos + 1)
      (first | lia | omega)
    · exact ⟨rfl, fun _ h => h, fun h => h, Nat.le_refl _⟩
  | succ n ih =>
    intro pos xs h
    rw [suDown]
    split
    · rename_i ch hch
      have h1 := (List.getElem?_eq_some_iff.mp hch).1
      have h2 := suC_ge lt xs (2 * pos + 1)
      split
      · have q := ih (suC lt xs (2 * pos + 1)) (xs.set pos ch) (by rw [List.length_set]; (first | lia | omega))
        rw [List.length_set] at q
        exact ⟨q.1, fun v hv => (List.mem_or_eq_of_mem_set (q.2.1 v hv)).elim id fun e => e ▸ List.mem_of_getElem? hch, fun _ => q.2.2.1 h1, by (first | lia | omega)⟩
      · exact ⟨rfl, fun _ h => h, fun h => h, Nat.le_refl _⟩
    · exact ⟨rfl, fun _ h => h, fun h => h, Nat.le_refl _⟩
theorem suP_length {α : Type} (lt : α → α → Bool) (x : α) (pos : Nat) (xs : List α) : (suP lt x pos xs).length = xs.length := by
  unfold suP
  rw [sdP_length _ _ _ _ _ _ (Nat.le_refl _), List.length_set, (suDown_spec lt _ pos xs (Nat.le_refl _)).1]
theorem suP_mem {α : Type} (lt : α → α → Bool) (x : α) (pos : Nat) (xs : List α) : ∀ v ∈ suP lt x pos xs, v = x ∨ v ∈ xs := by
  intro v hv
  unfold suP at hv
  rcases sdP_mem _ _ _ _ _ _ (Nat.le_refl _) v hv with h | h
  · exact .inl h
  · exact (List.mem_or_eq_of_mem_set h).elim (fun h => .inr ((suDown_spec lt _ pos xs (Nat.le_refl _)).2.1 v h)) .inl
theorem suAt_length {α : Type} (lt : α → α → Bool) (xs : List α) (i : Nat) : (suAt lt xs i).length = xs.length := by
  unfold suAt; split
  · exact suP_length ..
  · rfl
theorem suAt_mem {α : Type} (lt : α → α → Bool) (xs : List α) (i : Nat) : ∀ v ∈ suAt lt xs i, v ∈ xs := by
  intro v hv
  unfold suAt at hv
  split at hv
  · rename_i x hx
    exact (suP_mem _ _ _ _ v hv).elim (fun e => e ▸ List.mem_of_getElem? hx) id
  · exact hv

section
variable {w : World} {A₀ A : Around} {base h₀ : Heap} {outer : List Env} {env : Env} {L : Addr} {m : Str → Option Value}
  {p : Program} {loose : List Str} {mean : ExcName → Option Value} {mg mb : Str → Option Value} {s : Shared}
  {R : Result → Shared → Prop}

theorem heapify_ok (c : Cx w A₀ A base h₀ outer env L s.heap m p loose mean mg mb) {a : Addr} {xs : List Value} {e0 : Nat} (ha : s.heap.get? a = some (listOf xs.toArray e0)) (haL : a ≠ L) (ha0 : h₀.get? a = none)
    (hr : A.depth + 12 < recursionLimit) (hu : A.units + 100 < cLine) (hlen : xs.length < 1000) {lt : Value → Value → Bool}
    (hlt : ∀ v ∈ xs, ∀ u ∈ xs, CmpX w s.heap a v u (lt v u))
    (k : ∀ h' tk e', Heap.ExtBut a s.heap h' → h'.get? a = some (listOf (hfP lt (xs.length / 2) xs).toArray e') → R (.ok (.ret .none)) { s with heap := h', toks := tk }) :
    codeAny (model PySem.Challenge.rw_ij0057_01.row.prog w) A (.call (.ref 127) ⟨[.ref a], []⟩) R s := by
  have N : News h₀ L s.heap [(a, listOf xs.toArray e0)] := by
    intro q hq; rw [List.mem_singleton.mp hq]; exact ⟨ha, haL, ha0⟩
  refine' callM (binds := [("x", .ref a)]) c N ?ho ?hcd ?hroom ?hbind ?hloc ?h ?c2 ?c3 ?c4 ?c5
  case ho => k_is
  case hcd => k_is
  case hroom => (first | lia | omega)
  case hbind => exact BindsTo.of_eq rfl
  case hloc => exact locs rfl
  case c2 => exact rfl
  case c3 => exact rfl
  case c4 => exact rfl
  case c5 => decide
  case h =>
    intro g L' h₁ hLL F' N' B' X' T' hg hgs hg0
    clear ha N
    k_unmd
    k_fold
    dsimp only [List.length_cons, List.length_nil]
    (repeat' ((fail_if_success k_end); (fail_if_success (with_reducible show wpAny _ _ (exec (Stmt.While _ _ _ _) _) _ _ _)); (fail_if_success (with_reducible show wpAny _ _ (exec (Stmt.If _ _ _ _) _) _ _ _)); (fail_if_success (with_reducible show wpAny _ _ (exec (Stmt.For _ _ _ _ _) _) _ _ _)); (fail_if_success (with_reducible show wpAny _ _ (call (Value.ref _) _ _) _ _ _)); walk1))
    refine lenL N' (.head _) (by (first | lia | omega)) ?_
    (repeat' ((fail_if_success k_end); (fail_if_success (with_reducible show wpAny _ _ (exec (Stmt.While _ _ _ _) _) _ _ _)); (fail_if_success (with_reducible show wpAny _ _ (exec (Stmt.If _ _ _ _) _) _ _ _)); (fail_if_success (with_reducible show wpAny _ _ (exec (Stmt.For _ _ _ _ _) _) _ _ _)); (fail_if_success (with_reducible show wpAny _ _ (call (Value.ref _) _ _) _ _ _)); walk1))
    refine wpAny_For ?_
    (repeat' ((fail_if_success k_end); (fail_if_success (with_reducible show wpAny _ _ (exec (Stmt.While _ _ _ _) _) _ _ _)); (fail_if_success (with_reducible show wpAny _ _ (exec (Stmt.If _ _ _ _) _) _ _ _)); (fail_if_success (with_reducible show wpAny _ _ (exec (Stmt.For _ _ _ _ _) _) _ _ _)); (fail_if_success (with_reducible show wpAny _ _ (call (Value.ref _) _ _) _ _ _)); walk1))
    rename_i h2 F2 N2 tk1 h3 tk3 r1 r2 r3 hR F3 N3 hk3
    have hfd : ((xs.length : Int).fdiv 2) = ((xs.length / 2 : Nat) : Int) := by rw [Int.fdiv_eq_ediv_of_nonneg _ (by (first | lia | omega))]; (first | lia | omega)
    rw [hfd] at hR
    have hsz : Builtin.Range.rangeSize 0 ((xs.length / 2 : Nat) : Int) 1 = ((xs.length / 2 : Nat) : Int) := by
      rw [rangeSize_one]; split <;> (first | lia | omega)
    refine call_reversed_range hR (by rw [hsz]; simp only [Builtin.Range.rangeFitsLong, Bool.and_eq_true, decide_eq_true_eq]; (first | lia | omega)) ?_
    rw [hsz]
    have hI : IsRangeIter (h3.push { cls := .type "range_iterator", data := .fields #[rawInt (0 + (((xs.length / 2 : Nat) : Int) - 1) * 1), rawInt ((xs.length / 2 : Nat) : Int), rawInt (-1)] }) h3.objs.size (0 + (((xs.length / 2 : Nat) : Int) - 1) * 1) ((xs.length / 2 : Nat) : Int) (-1) := Heap.get?_push_size _ rfl
    refine wpAny_pyIter_rangeiter hI ?_
    have F4 := F3.push { cls := .type "range_iterator", data := .fields #[rawInt (0 + (((xs.length / 2 : Nat) : Int) - 1) * 1), rawInt ((xs.length / 2 : Nat) : Int), rawInt (-1)] }
    have N4 := News.push F3 N3 { cls := .type "range_iterator", data := .fields #[rawInt (0 + (((xs.length / 2 : Nat) : Int) - 1) * 1), rawInt ((xs.length / 2 : Nat) : Int), rawInt (-1)] }
    have hIL : h3.objs.size ≠ L' := Nat.ne_of_gt F3.ns.lt
    have hIa : a ≠ h3.objs.size := Nat.ne_of_lt (Heap.lt_size (N3 _ (.head _)).1)
    have hIg : g.get? h3.objs.size = none := Heap.get?_none_of_le (Nat.le_trans F3.above (Nat.le_of_lt F3.ns.lt))
    have e0' : (0 + (((xs.length / 2 : Nat) : Int) - 1) * 1) = ((xs.length / 2 : Nat) : Int) - 1 := by (first | lia | omega)
    rw [e0'] at hI F4 N4 ⊢
    generalize h3.push { cls := .type "range_iterator", data := .fields #[rawInt (((xs.length / 2 : Nat) : Int) - 1), rawInt ((xs.length / 2 : Nat) : Int), rawInt (-1)] } = h4 at hI F4 N4 ⊢
    generalize h3.objs.size = I at hI N4 hIL hIa hIg ⊢
    obtain ⟨J, hJ⟩ : ∃ J : Nat → Shared → Prop, ∀ i s', J i s' ↔ (E5 fun (h' : Heap) (tk : Nat) (m' : Str → Option Value) (xs' : List Value) (e' : Nat) => A7 (s' = { s with heap := h', toks := tk }) (Fr g L' h' m') (News g L' h' [(a, listOf xs'.toArray e')]) (m' "x" = some (.ref a)) (xs'.length = xs.length) ((∀ v ∈ xs', v ∈ xs)) (hfP lt (xs.length / 2 - i) xs' = hfP lt (xs.length / 2) xs)) := ⟨_, fun _ _ => Iff.rfl⟩
    refine for_walk (Walks.range (by exact c.hh) I (((xs.length / 2 : Nat) : Int) - 1) (-1) (xs.length / 2))
      J
      ((hJ _ _).mpr ⟨h4, tk3, _, xs, e0, rfl, F4, fun q hq => N4 q (.tail _ hq), rfl, rfl, fun _ h => h, rfl⟩) ?hst ?step ?turn ?done
    case hst => simpa using hI
    case step =>
      intro i s9 h' tk' hj9 hk
      obtain ⟨h5, tk5, m5, xs', e5, rfl, F5, N5, q1, q2, q3, q4⟩ := (hJ _ _).mp hj9
      clear hj9
      exact (hJ _ _).mpr ⟨h', tk', m5, xs', e5, rfl, fr_wr F5 hk (by simpa using fun e => hIL e.symm) (by simpa using hIg), news_wr N5 hk (by simpa using hIa), q1, q2, q3, q4⟩
    case done =>
      intro s9 hj9
      obtain ⟨h5, tk5, m5, xs', e5, rfl, F5, N5, q1, q2, q3, q4⟩ := (hJ _ _).mp hj9
      clear hj9
      dsimp only
      (repeat' ((fail_if_success k_end); (fail_if_success (with_reducible show wpAny _ _ (exec (Stmt.While _ _ _ _) _) _ _ _)); (fail_if_success (with_reducible show wpAny _ _ (exec (Stmt.If _ _ _ _) _) _ _ _)); (fail_if_success (with_reducible show wpAny _ _ (exec (Stmt.For _ _ _ _ _) _) _ _ _)); (fail_if_success (with_reducible show wpAny _ _ (call (Value.ref _) _ _) _ _ _)); walk1))
      rw [Nat.sub_self, hfP] at q4
      refine ⟨_, F5, fun hk => k h5 _ e5 (fun b o hb e => hk b o (by simpa using hb) e) ?_⟩
      rw [← q4]; exact (N5 _ (.head _)).1
    case turn =>
      rintro i v s9 E' hi ⟨tv, rfl⟩ hj9 hS
      obtain ⟨h5, tk5, m5, xs', e5, rfl, F5, N5, q1, q2, q3, q4⟩ := (hJ _ _).mp hj9
      clear hj9
      obtain ⟨oI, hoI⟩ : ∃ o, h5.get? I = some o := ⟨_, hS⟩
      have N6 : News g L' h5 [(a, listOf xs'.toArray e5), (I, oI)] := by
        intro q hq
        rcases List.mem_cons.mp hq with rfl | hq
        · exact N5 _ (.head _)
        · rw [List.mem_singleton.mp hq]; exact ⟨hoI, hIL, hIg⟩
      clear N5 N4 N3 tk1 F4 F3 N2
      (repeat' ((fail_if_success k_end); (fail_if_success (with_reducible show wpAny _ _ (exec (Stmt.While _ _ _ _) _) _ _ _)); (fail_if_success (with_reducible show wpAny _ _ (exec (Stmt.If _ _ _ _) _) _ _ _)); (fail_if_success (with_reducible show wpAny _ _ (exec (Stmt.For _ _ _ _ _) _) _ _ _)); (fail_if_success (with_reducible show wpAny _ _ (call (Value.ref _) _ _) _ _ _)); walk1))
      rename_i h7 F7 N7
      refine ⟨X'.keeps F7.keep, ?_⟩
      have ei : ((xs.length / 2 : Nat) : Int) - 1 + (i : Int) * -1 = ((xs.length / 2 - 1 - i : Nat) : Int) := by (first | lia | omega)
      obtain ⟨x0, hx0⟩ : ∃ x0, xs'[xs.length / 2 - 1 - i]? = some x0 := ⟨_, List.getElem?_eq_getElem (by (first | lia | omega))⟩
      rw [ei]
      refine wpAny_call (siftup_ok (xs := xs') (x := x0) (lt := lt) (c.inn B' F7 X' T') (N7 _ (.head _)).1 (N7 _ (.head _)).2.1 (N7 _ (.head _)).2.2
        (by show A.depth + 1 + 8 < recursionLimit; (first | lia | omega)) (by show A.units + 3 + 90 < cLine; (first | lia | omega)) (by (first | lia | omega)) (by (first | lia | omega)) ?_ hx0 fun h8 tk8 e8 hx8 hg8 => ?_)
      · exact fun v hv u hu' => (hlt v (q3 v hv) u (q3 u hu')).keeps fun b o hb e => F7.keep b o (hg b o (by simpa using hb) e)
      · have F8 : Fr g L' h8 _ := ext_fr F7 hx8 (N7 _ (.head _)).2.1 (N7 _ (.head _)).2.2
        have N8 := news_ext N7 hx8 hg8 (fun q hq => by rw [List.mem_singleton.mp hq]; exact hIa.symm)
        (repeat' ((fail_if_success k_end); (fail_if_success (with_reducible show wpAny _ _ (exec (Stmt.While _ _ _ _) _) _ _ _)); (fail_if_success (with_reducible show wpAny _ _ (exec (Stmt.If _ _ _ _) _) _ _ _)); (fail_if_success (with_reducible show wpAny _ _ (exec (Stmt.For _ _ _ _ _) _) _ _ _)); (fail_if_success (with_reducible show wpAny _ _ (call (Value.ref _) _ _) _ _ _)); walk1))
        have hsu : suAt lt xs' (xs.length / 2 - 1 - i) = suP lt x0 (xs.length / 2 - 1 - i) xs' := by unfold suAt; rw [hx0]
        refine ⟨(hJ _ _).mpr ⟨h8, _, _, suP lt x0 (xs.length / 2 - 1 - i) xs', e8, rfl, F8, fun q hq => N8 q (by rw [List.mem_singleton.mp hq]; exact .head _), q1, by rw [suP_length]; exact q2, fun v hv => q3 v (suAt_mem lt xs' (xs.length / 2 - 1 - i) v (by rw [hsu]; exact hv)), ?_⟩, (N8 _ (.tail _ (.head _))).1.trans (hoI.symm.trans hS)⟩
        rw [← q4, show xs.length / 2 - i = (xs.length / 2 - 1 - i) + 1 by (first | lia | omega), hfP, hsu, show xs.length / 2 - (i + 1) = xs.length / 2 - 1 - i by (first | lia | omega)]
end
end Mine
end
section
open PySem PySem.W PyProof.Rows PySem.Calls
set_option maxHeartbeats 8000000
namespace Mine
theorem offH5 : True := by
  w_top off
  trivial
theorem fillH5 (w : World) (x : OpenLaw) (h : PySem.Challenge.rw_ij0057_01 = x) : (Mine.frag.heap_1 w.params) = (Mine.frag.heap_1 w.params) ∧ PySem.Challenge.rw_ij0057_01 = x := by
  k_fill
  exact ⟨rfl, h⟩

section
variable {w : World} {A₀ A : Around} {base h₀ : Heap} {outer : List Env} {env : Env} {L : Addr} {m : Str → Option Value}
  {p : Program} {loose : List Str} {mean : ExcName → Option Value} {mg mb : Str → Option Value} {s : Shared}
  {R : Result → Shared → Prop}

theorem heapify_max_ok (c : Cx w A₀ A base h₀ outer env L s.heap m p loose mean mg mb) {a : Addr} {xs : List Value} {e0 : Nat} (ha : s.heap.get? a = some (listOf xs.toArray e0)) (haL : a ≠ L) (ha0 : h₀.get? a = none)
    (hr : A.depth + 12 < recursionLimit) (hu : A.units + 100 < cLine) (hlen : xs.length < 1000) {lt : Value → Value → Bool}
    (hlt : ∀ v ∈ xs, ∀ u ∈ xs, CmpX w s.heap a v u (lt u v))
    (k : ∀ h' tk e', Heap.ExtBut a s.heap h' → h'.get? a = some (listOf (hfP lt (xs.length / 2) xs).toArray e') → R (.ok (.ret .none)) { s with heap := h', toks := tk }) :
    codeAny (model PySem.Challenge.rw_ij0057_01.row.prog w) A (.call (.ref 141) ⟨[.ref a], []⟩) R s := by
  have N : News h₀ L s.heap [(a, listOf xs.toArray e0)] := by
    intro q hq; rw [List.mem_singleton.mp hq]; exact ⟨ha, haL, ha0⟩
  refine' callM (binds := [("x", .ref a)]) c N ?ho ?hcd ?hroom ?hbind ?hloc ?h ?c2 ?c3 ?c4 ?c5
  case ho => k_is
  case hcd => k_is
  case hroom => (first | lia | omega)
  case hbind => exact BindsTo.of_eq rfl
  case hloc => exact locs rfl
  case c2 => exact rfl
  case c3 => exact rfl
  case c4 => exact rfl
  case c5 => decide
  case h =>
    intro g L' h₁ hLL F' N' B' X' T' hg hgs hg0
    clear ha N
    k_unmd
    k_fold
    dsimp only [List.length_cons, List.length_nil]
    (repeat' ((fail_if_success k_end); (fail_if_success (with_reducible show wpAny _ _ (exec (Stmt.While _ _ _ _) _) _ _ _)); (fail_if_success (with_reducible show wpAny _ _ (exec (Stmt.If _ _ _ _) _) _ _ _)); (fail_if_success (with_reducible show wpAny _ _ (exec (Stmt.For _ _ _ _ _) _) _ _ _)); (fail_if_success (with_reducible show wpAny _ _ (call (Value.ref _) _ _) _ _ _)); walk1))
    refine lenL N' (.head _) (by (first | lia | omega)) ?_
    (repeat' ((fail_if_success k_end); (fail_if_success (with_reducible show wpAny _ _ (exec (Stmt.While _ _ _ _) _) _ _ _)); (fail_if_success (with_reducible show wpAny _ _ (exec (Stmt.If _ _ _ _) _) _ _ _)); (fail_if_success (with_reducible show wpAny _ _ (exec (Stmt.For _ _ _ _ _) _) _ _ _)); (fail_if_success (with_reducible show wpAny _ _ (call (Value.ref _) _ _) _ _ _)); walk1))
    refine wpAny_For ?_
    (repeat' ((fail_if_success k_end); (fail_if_success (with_reducible show wpAny _ _ (exec (Stmt.While _ _ _ _) _) _ _ _)); (fail_if_success (with_reducible show wpAny _ _ (exec (Stmt.If _ _ _ _) _) _ _ _)); (fail_if_success (with_reducible show wpAny _ _ (exec (Stmt.For _ _ _ _ _) _) _ _ _)); (fail_if_success (with_reducible show wpAny _ _ (call (Value.ref _) _ _) _ _ _)); walk1))
    rename_i h2 F2 N2 tk1 h3 tk3 r1 r2 r3 hR F3 N3 hk3
    have hfd : ((xs.length : Int).fdiv 2) = ((xs.length / 2 : Nat) : Int) := by rw [Int.fdiv_eq_ediv_of_nonneg _ (by (first | lia | omega))]; (first | lia | omega)
    rw [hfd] at hR
    have hsz : Builtin.Range.rangeSize 0 ((xs.length / 2 : Nat) : Int) 1 = ((xs.length / 2 : Nat) : Int) := by
      rw [rangeSize_one]; split <;> (first | lia | omega)
    refine call_reversed_range hR (by rw [hsz]; simp only [Builtin.Range.rangeFitsLong, Bool.and_eq_true, decide_eq_true_eq]; (first | lia | omega)) ?_
    rw [hsz]
    have hI : IsRangeIter (h3.push { cls := .type "range_iterator", data := .fields #[rawInt (0 + (((xs.length / 2 : Nat) : Int) - 1) * 1), rawInt ((xs.length / 2 : Nat) : Int), rawInt (-1)] }) h3.objs.size (0 + (((xs.length / 2 : Nat) : Int) - 1) * 1) ((xs.length / 2 : Nat) : Int) (-1) := Heap.get?_push_size _ rfl
    refine wpAny_pyIter_rangeiter hI ?_
    have F4 := F3.push { cls := .type "range_iterator", data := .fields #[rawInt (0 + (((xs.length / 2 : Nat) : Int) - 1) * 1), rawInt ((xs.length / 2 : Nat) : Int), rawInt (-1)] }
    have N4 := News.push F3 N3 { cls := .type "range_iterator", data := .fields #[rawInt (0 + (((xs.length / 2 : Nat) : Int) - 1) * 1), rawInt ((xs.length / 2 : Nat) : Int), rawInt (-1)] }
    have hIL : h3.objs.size ≠ L' := Nat.ne_of_gt F3.ns.lt
    have hIa : a ≠ h3.objs.size := Nat.ne_of_lt (Heap.lt_size (N3 _ (.head _)).1)
    have hIg : g.get? h3.objs.size = none := Heap.get?_none_of_le (Nat.le_trans F3.above (Nat.le_of_lt F3.ns.lt))
    have e0' : (0 + (((xs.length / 2 : Nat) : Int) - 1) * 1) = ((xs.length / 2 : Nat) : Int) - 1 := by (first | lia | omega)
    rw [e0'] at hI F4 N4 ⊢
    generalize h3.push { cls := .type "range_iterator", data := .fields #[rawInt (((xs.length / 2 : Nat) : Int) - 1), rawInt ((xs.length / 2 : Nat) : Int), rawInt (-1)] } = h4 at hI F4 N4 ⊢
    generalize h3.objs.size = I at hI N4 hIL hIa hIg ⊢
    obtain ⟨J, hJ⟩ : ∃ J : Nat → Shared → Prop, ∀ i s', J i s' ↔ (E5 fun (h' : Heap) (tk : Nat) (m' : Str → Option Value) (xs' : List Value) (e' : Nat) => A7 (s' = { s with heap := h', toks := tk }) (Fr g L' h' m') (News g L' h' [(a, listOf xs'.toArray e')]) (m' "x" = some (.ref a)) (xs'.length = xs.length) ((∀ v ∈ xs', v ∈ xs)) (hfP lt (xs.length / 2 - i) xs' = hfP lt (xs.length / 2) xs)) := ⟨_, fun _ _ => Iff.rfl⟩
    refine for_walk (Walks.range (by exact c.hh) I (((xs.length / 2 : Nat) : Int) - 1) (-1) (xs.length / 2))
      J
      ((hJ _ _).mpr ⟨h4, tk3, _, xs, e0, rfl, F4, fun q hq => N4 q (.tail _ hq), rfl, rfl, fun _ h => h, rfl⟩) ?hst ?step ?turn ?done
    case hst => simpa using hI
    case step =>
      intro i s9 h' tk' hj9 hk
      obtain ⟨h5, tk5, m5, xs', e5, rfl, F5, N5, q1, q2, q3, q4⟩ := (hJ _ _).mp hj9
      clear hj9
      exact (hJ _ _).mpr ⟨h', tk', m5, xs', e5, rfl, fr_wr F5 hk (by simpa using fun e => hIL e.symm) (by simpa using hIg), news_wr N5 hk (by simpa using hIa), q1, q2, q3, q4⟩
    case done =>
      intro s9 hj9
      obtain ⟨h5, tk5, m5, xs', e5, rfl, F5, N5, q1, q2, q3, q4⟩ := (hJ _ _).mp hj9
      clear hj9
      dsimp only
      (repeat' ((fail_if_success k_end); (fail_if_success (with_reducible show wpAny _ _ (exec (Stmt.While _ _ _ _) _) _ _ _)); (fail_if_success (with_reducible show wpAny _ _ (exec (Stmt.If _ _ _ _) _) _ _ _)); (fail_if_success (with_reducible show wpAny _ _ (exec (Stmt.For _ _ _ _ _) _) _ _ _)); (fail_if_success (with_reducible show wpAny _ _ (call (Value.ref _) _ _) _ _ _)); walk1))
      rw [Nat.sub_self, hfP] at q4
      refine ⟨_, F5, fun hk => k h5 _ e5 (fun b o hb e => hk b o (by simpa using hb) e) ?_⟩
      rw [← q4]; exact (N5 _ (.head _)).1
    case turn =>
      rintro i v s9 E' hi ⟨tv, rfl⟩ hj9 hS
      obtain ⟨h5, tk5, m5, xs', e5, rfl, F5, N5, q1, q2, q3, q4⟩ := (hJ _ _).mp hj9
      clear hj9
      obtain ⟨oI, hoI⟩ : ∃ o, h5.get? I = some o := ⟨_, hS⟩
      have N6 : News g L' h5 [(a, listOf xs'.toArray e5), (I, oI)] := by
        intro q hq
        rcases List.mem_cons.mp hq with rfl | hq
        · exact N5 _ (.head _)
        · rw [List.mem_singleton.mp hq]; exact ⟨hoI, hIL, hIg⟩
      clear N5 N4 N3 tk1 F4 F3 N2
      (repeat' ((fail_if_success k_end); (fail_if_success (with_reducible show wpAny _ _ (exec (Stmt.While _ _ _ _) _) _ _ _)); (fail_if_success (with_reducible show wpAny _ _ (exec (Stmt.If _ _ _ _) _) _ _ _)); (fail_if_success (with_reducible show wpAny _ _ (exec (Stmt.For _ _ _ _ _) _) _ _ _)); (fail_if_success (with_reducible show wpAny _ _ (call (Value.ref _) _ _) _ _ _)); walk1))
      rename_i h7 F7 N7
      refine ⟨X'.keeps F7.keep, ?_⟩
      have ei : ((xs.length / 2 : Nat) : Int) - 1 + (i : Int) * -1 = ((xs.length / 2 - 1 - i : Nat) : Int) := by (first | lia | omega)
      obtain ⟨x0, hx0⟩ : ∃ x0, xs'[xs.length / 2 - 1 - i]? = some x0 := ⟨_, List.getElem?_eq_getElem (by (first | lia | omega))⟩
      rw [ei]
      refine wpAny_call (siftup_max_ok (xs := xs') (x := x0) (lt := lt) (c.inn B' F7 X' T') (N7 _ (.head _)).1 (N7 _ (.head _)).2.1 (N7 _ (.head _)).2.2
        (by show A.depth + 1 + 8 < recursionLimit; (first | lia | omega)) (by show A.units + 3 + 90 < cLine; (first | lia | omega)) (by (first | lia | omega)) (by (first | lia | omega)) ?_ hx0 fun h8 tk8 e8 hx8 hg8 => ?_)
      · exact fun v hv u hu' => (hlt v (q3 v hv) u (q3 u hu')).keeps fun b o hb e => F7.keep b o (hg b o (by simpa using hb) e)
      · have F8 : Fr g L' h8 _ := ext_fr F7 hx8 (N7 _ (.head _)).2.1 (N7 _ (.head _)).2.2
        have N8 := news_ext N7 hx8 hg8 (fun q hq => by rw [List.mem_singleton.mp hq]; exact hIa.symm)
        (repeat' ((fail_if_success k_end); (fail_if_success (with_reducible show wpAny _ _ (exec (Stmt.While _ _ _ _) _) _ _ _)); (fail_if_success (with_reducible show wpAny _ _ (exec (Stmt.If _ _ _ _) _) _ _ _)); (fail_if_success (with_reducible show wpAny _ _ (exec (Stmt.For _ _ _ _ _) _) _ _ _)); (fail_if_success (with_reducible show wpAny _ _ (call (Value.ref _) _ _) _ _ _)); walk1))
        have hsu : suAt lt xs' (xs.length / 2 - 1 - i) = suP lt x0 (xs.length / 2 - 1 - i) xs' := by unfold suAt; rw [hx0]
        refine ⟨(hJ _ _).mpr ⟨h8, _, _, suP lt x0 (xs.length / 2 - 1 - i) xs', e8, rfl, F8, fun q hq => N8 q (by rw [List.mem_singleton.mp hq]; exact .head _), q1, by rw [suP_length]; exact q2, fun v hv => q3 v (suAt_mem lt xs' (xs.length / 2 - 1 - i) v (by rw [hsu]; exact hv)), ?_⟩, (N8 _ (.tail _ (.head _))).1.trans (hoI.symm.trans hS)⟩
        rw [← q4, show xs.length / 2 - i = (xs.length / 2 - 1 - i) + 1 by (first | lia | omega), hfP, hsu, show xs.length / 2 - (i + 1) = xs.length / 2 - 1 - i by (first | lia | omega)]

theorem heappop_ok (c : Cx w A₀ A base h₀ outer env L s.heap m p loose mean mg mb) {a : Addr} {ys : List Value} {v : Value} {e0 : Nat} (ha : s.heap.get? a = some (listOf (ys ++ [v]).toArray e0)) (haL : a ≠ L) (ha0 : h₀.get? a = none)
    (hr : A.depth + 12 < recursionLimit) (hu : A.units + 100 < cLine) (hlen : ys.length < 999) {lt : Value → Value → Bool}
    (hlt : ∀ v' ∈ ys ++ [v], ∀ u ∈ ys ++ [v], CmpX w s.heap a v' u (lt v' u))
    (k : ∀ h' tk e', Heap.ExtBut a s.heap h' → h'.get? a = some (listOf (hrP lt v ys).toArray e') → R (.ok (.ret (ys.head?.getD v))) { s with heap := h', toks := tk }) :
    codeAny (model PySem.Challenge.rw_ij0057_01.row.prog w) A (.call (.ref 113) ⟨[.ref a], []⟩) R s := by
  have N : News h₀ L s.heap [(a, listOf (ys ++ [v]).toArray e0)] := by
    intro q hq; rw [List.mem_singleton.mp hq]; exact ⟨ha, haL, ha0⟩
  refine' callM (binds := [("heap", .ref a)]) c N ?ho ?hcd ?hroom ?hbind ?hloc ?h ?c2 ?c3 ?c4 ?c5
  case ho => k_is
  case hcd => k_is
  case hroom => (first | lia | omega)
  case hbind => exact BindsTo.of_eq rfl
  case hloc => exact locs rfl
  case c2 => exact rfl
  case c3 => exact rfl
  case c4 => exact rfl
  case c5 => decide
  case h =>
    intro g L' h₁ hLL F' N' B' X' T' hg hgs hg0
    clear ha N
    k_unmd
    k_fold
    dsimp only [List.length_cons, List.length_nil]
    (repeat' ((fail_if_success k_end); (fail_if_success (with_reducible show wpAny _ _ (exec (Stmt.While _ _ _ _) _) _ _ _)); (fail_if_success (with_reducible show wpAny _ _ (exec (Stmt.If _ _ _ _) _) _ _ _)); (fail_if_success (with_reducible show wpAny _ _ (exec (Stmt.For _ _ _ _ _) _) _ _ _)); (fail_if_success (with_reducible show wpAny _ _ (call (Value.ref _) _ _) _ _ _)); walk1))
    refine popL F' N' (fun _ h => nomatch h) (by (first | lia | omega)) fun h2 F2 N2 => ?_
    (repeat' ((fail_if_success k_end); (fail_if_success (with_reducible show wpAny _ _ (exec (Stmt.While _ _ _ _) _) _ _ _)); (fail_if_success (with_reducible show wpAny _ _ (exec (Stmt.For _ _ _ _ _) _) _ _ _)); (fail_if_success (with_reducible show wpAny _ _ (call (Value.ref _) _ _) _ _ _)); walk1))
    · rename_i h3 F3 N3 hem
      have e : ys = [] := List.isEmpty_iff.mp hem
      subst e
      have e1 : hrP lt v [] = [] := List.eq_nil_of_length_eq_zero (by unfold hrP; rw [suP_length]; rfl)
      refine ⟨_, F3, fun hk => k h3 _ (e0 + 1) (fun b o hb e => hk b o (by simpa using hb) e) ?_⟩
      rw [e1]; exact (N3 _ (.head _)).1
    · rename_i h3 F3 N3 hem
      obtain ⟨y0, ys', rfl⟩ : ∃ y0 ys', ys = y0 :: ys' := by
        cases ys with
        | nil => simp at hem
        | cons y r => exact ⟨y, r, rfl⟩
      refine itemL N3 (.head _) (j := 0) rfl rfl (by (first | lia | omega)) ?_
      (repeat' ((fail_if_success k_end); (fail_if_success (with_reducible show wpAny _ _ (exec (Stmt.While _ _ _ _) _) _ _ _)); (fail_if_success (with_reducible show wpAny _ _ (exec (Stmt.For _ _ _ _ _) _) _ _ _)); (fail_if_success (with_reducible show wpAny _ _ (call (Value.ref _) _ _) _ _ _)); walk1))
      rename_i h5 F5 N5
      refine ⟨X'.keeps F5.keep, ?_⟩
      have hmem : ∀ u ∈ (y0 :: ys').set 0 v, u ∈ (y0 :: ys') ++ [v] := fun u hu' => (List.mem_or_eq_of_mem_set hu').elim (fun h => List.mem_append_left _ h) fun e => e ▸ List.mem_append_right _ (.head _)
      refine wpAny_call (siftup_ok (xs := (y0 :: ys').set 0 v) (x := v) (pos := 0) (lt := lt) (c.inn B' F5 X' T') (N5 _ (.head _)).1 (N5 _ (.head _)).2.1 (N5 _ (.head _)).2.2
        (by show A.depth + 1 + 8 < recursionLimit; (first | lia | omega)) (by show A.units + 3 + 90 < cLine; (first | lia | omega)) (by simp) (by rw [List.length_set]; (first | lia | omega)) ?_ rfl fun h8 tk8 e8 hx8 hg8 => ?_)
      · exact fun v' hv u hu' => (hlt v' (hmem v' hv) u (hmem u hu')).keeps fun b o hb e => F5.keep b o (hg b o (by simpa using hb) e)
      · have F8 : Fr g L' h8 _ := ext_fr F5 hx8 (N5 _ (.head _)).2.1 (N5 _ (.head _)).2.2
        (repeat' ((fail_if_success k_end); (fail_if_success (with_reducible show wpAny _ _ (exec (Stmt.While _ _ _ _) _) _ _ _)); (fail_if_success (with_reducible show wpAny _ _ (exec (Stmt.For _ _ _ _ _) _) _ _ _)); (fail_if_success (with_reducible show wpAny _ _ (call (Value.ref _) _ _) _ _ _)); walk1))
        exact ⟨_, F8, fun hk => k h8 _ e8 (fun b o hb e => hk b o (by simpa using hb) e) hg8⟩

theorem heapreplace_ok (c : Cx w A₀ A base h₀ outer env L s.heap m p loose mean mg mb) {a : Addr} {ys : List Value} {y0 v : Value} {e0 : Nat} (ha : s.heap.get? a = some (listOf (y0 :: ys).toArray e0)) (haL : a ≠ L) (ha0 : h₀.get? a = none)
    (hr : A.depth + 12 < recursionLimit) (hu : A.units + 100 < cLine) (hlen : ys.length < 998) {lt : Value → Value → Bool}
    (hlt : ∀ v' ∈ v :: y0 :: ys, ∀ u ∈ v :: y0 :: ys, CmpX w s.heap a v' u (lt v' u))
    (k : ∀ h' tk e', Heap.ExtBut a s.heap h' → h'.get? a = some (listOf (hrP lt v (y0 :: ys)).toArray e') → R (.ok (.ret y0)) { s with heap := h', toks := tk }) :
    codeAny (model PySem.Challenge.rw_ij0057_01.row.prog w) A (.call (.ref 120) ⟨[.ref a, v], []⟩) R s := by
  have N : News h₀ L s.heap [(a, listOf (y0 :: ys).toArray e0)] := by
    intro q hq; rw [List.mem_singleton.mp hq]; exact ⟨ha, haL, ha0⟩
  refine' callM (binds := [("heap", .ref a), ("item", v)]) c N ?ho ?hcd ?hroom ?hbind ?hloc ?h ?c2 ?c3 ?c4 ?c5
  case ho => k_is
  case hcd => k_is
  case hroom => (first | lia | omega)
  case hbind => exact BindsTo.of_eq rfl
  case hloc => exact locs rfl
  case c2 => exact rfl
  case c3 => exact rfl
  case c4 => exact rfl
  case c5 => decide
  case h =>
    intro g L' h₁ hLL F' N' B' X' T' hg hgs hg0
    clear ha N
    k_unmd
    k_fold
    dsimp only [List.length_cons, List.length_nil]
    (repeat' ((fail_if_success k_end); (fail_if_success (with_reducible show wpAny _ _ (exec (Stmt.While _ _ _ _) _) _ _ _)); (fail_if_success (with_reducible show wpAny _ _ (exec (Stmt.For _ _ _ _ _) _) _ _ _)); (fail_if_success (with_reducible show wpAny _ _ (call (Value.ref _) _ _) _ _ _)); walk1))
    rename_i h4 F4 N4 h5 F5 N5
    refine ⟨X'.keeps F5.keep, ?_⟩
    have hmem : ∀ u ∈ (y0 :: ys).set 0 v, u ∈ v :: y0 :: ys := fun u hu' => (List.mem_or_eq_of_mem_set hu').elim (fun h => .tail _ h) fun e => e ▸ .head _
    refine wpAny_call (siftup_ok (xs := (y0 :: ys).set 0 v) (x := v) (pos := 0) (lt := lt) (c.inn B' F5 X' T') (N5 _ (.head _)).1 (N5 _ (.head _)).2.1 (N5 _ (.head _)).2.2
      (by show A.depth + 1 + 8 < recursionLimit; (first | lia | omega)) (by show A.units + 3 + 90 < cLine; (first | lia | omega)) (by simp) (by rw [List.length_set, List.length_cons]; (first | lia | omega)) ?_ rfl fun h8 tk8 e8 hx8 hg8 => ?_)
    · exact fun v' hv u hu' => (hlt v' (hmem v' hv) u (hmem u hu')).keeps fun b o hb e => F5.keep b o (hg b o (by simpa using hb) e)
    · have F8 : Fr g L' h8 _ := ext_fr F5 hx8 (N5 _ (.head _)).2.1 (N5 _ (.head _)).2.2
      (repeat' ((fail_if_success k_end); (fail_if_success (with_reducible show wpAny _ _ (exec (Stmt.While _ _ _ _) _) _ _ _)); (fail_if_success (with_reducible show wpAny _ _ (exec (Stmt.For _ _ _ _ _) _) _ _ _)); (fail_if_success (with_reducible show wpAny _ _ (call (Value.ref _) _ _) _ _ _)); walk1))
      exact ⟨_, F8, fun hk => k h8 _ e8 (fun b o hb e => hk b o (by simpa using hb) e) hg8⟩

theorem heapreplace_max_ok (c : Cx w A₀ A base h₀ outer env L s.heap m p loose mean mg mb) {a : Addr} {ys : List Value} {y0 v : Value} {e0 : Nat} (ha : s.heap.get? a = some (listOf (y0 :: ys).toArray e0)) (haL : a ≠ L) (ha0 : h₀.get? a = none)
    (hr : A.depth + 12 < recursionLimit) (hu : A.units + 100 < cLine) (hlen : ys.length < 998) {lt : Value → Value → Bool}
    (hlt : ∀ v' ∈ v :: y0 :: ys, ∀ u ∈ v :: y0 :: ys, CmpX w s.heap a v' u (lt u v'))
    (k : ∀ h' tk e', Heap.ExtBut a s.heap h' → h'.get? a = some (listOf (hrP lt v (y0 :: ys)).toArray e') → R (.ok (.ret y0)) { s with heap := h', toks := tk }) :
    codeAny (model PySem.Challenge.rw_ij0057_01.row.prog w) A (.call (.ref 134) ⟨[.ref a, v], []⟩) R s := by
  have N : News h₀ L s.heap [(a, listOf (y0 :: ys).toArray e0)] := by
    intro q hq; rw [List.mem_singleton.mp hq]; exact ⟨ha, haL, ha0⟩
  refine' callM (binds := [("heap", .ref a), ("item", v)]) c N ?ho ?hcd ?hroom ?hbind ?hloc ?h ?c2 ?c3 ?c4 ?c5
  case ho => k_is
  case hcd => k_is
  case hroom => (first | lia | omega)
  case hbind => exact BindsTo.of_eq rfl
  case hloc => exact locs rfl
  case c2 => exact rfl
  case c3 => exact rfl
  case c4 => exact rfl
  case c5 => decide
  case h =>
    intro g L' h₁ hLL F' N' B' X' T' hg hgs hg0
    clear ha N
    k_unmd
    k_fold
    dsimp only [List.length_cons, List.length_nil]
    (repeat' ((fail_if_success k_end); (fail_if_success (with_reducible show wpAny _ _ (exec (Stmt.While _ _ _ _) _) _ _ _)); (fail_if_success (with_reducible show wpAny _ _ (exec (Stmt.For _ _ _ _ _) _) _ _ _)); (fail_if_success (with_reducible show wpAny _ _ (call (Value.ref _) _ _) _ _ _)); walk1))
    rename_i h4 F4 N4 h5 F5 N5
    refine ⟨X'.keeps F5.keep, ?_⟩
    have hmem : ∀ u ∈ (y0 :: ys).set 0 v, u ∈ v :: y0 :: ys := fun u hu' => (List.mem_or_eq_of_mem_set hu').elim (fun h => .tail _ h) fun e => e ▸ .head _
    refine wpAny_call (siftup_max_ok (xs := (y0 :: ys).set 0 v) (x := v) (pos := 0) (lt := lt) (c.inn B' F5 X' T') (N5 _ (.head _)).1 (N5 _ (.head _)).2.1 (N5 _ (.head _)).2.2
      (by show A.depth + 1 + 8 < recursionLimit; (first | lia | omega)) (by show A.units + 3 + 90 < cLine; (first | lia | omega)) (by simp) (by rw [List.length_set, List.length_cons]; (first | lia | omega)) ?_ rfl fun h8 tk8 e8 hx8 hg8 => ?_)
    · exact fun v' hv u hu' => (hlt v' (hmem v' hv) u (hmem u hu')).keeps fun b o hb e => F5.keep b o (hg b o (by simpa using hb) e)
    · have F8 : Fr g L' h8 _ := ext_fr F5 hx8 (N5 _ (.head _)).2.1 (N5 _ (.head _)).2.2
      (repeat' ((fail_if_success k_end); (fail_if_success (with_reducible show wpAny _ _ (exec (Stmt.While _ _ _ _) _) _ _ _)); (fail_if_success (with_reducible show wpAny _ _ (exec (Stmt.For _ _ _ _ _) _) _ _ _)); (fail_if_success (with_reducible show wpAny _ _ (call (Value.ref _) _ _) _ _ _)); walk1))
      exact ⟨_, F8, fun hk => k h8 _ e8 (fun b o hb e => hk b o (by simpa using hb) e) hg8⟩
end
end Mine
end
section
open PySem PySem.W PyProof.Rows PySem.Calls
set_option maxHeartbeats 8000000
namespace Mine
theorem offD3 : True := by
  w_top off
  trivial
theorem fillD3 (w : World) (x : OpenLaw) (h : PySem.Challenge.rw_ij0057_01 = x) : (Mine.frag.heap_1 w.params) = (Mine.frag.heap_1 w.params) ∧ PySem.Challenge.rw_ij0057_01 = x := by
  k_fill
  exact ⟨rfl, h⟩

noncomputable def lawNum (c : Int) : Int := if c.fmod 10 < 5 then (c.fdiv 10).fmod (10 ^ (c.fmod 5 + 1).toNat) else -((c.fdiv 10).fmod (10 ^ (c.fmod 5 + 1).toNat))

section
variable {w : World} {A : Around} {p : Program} {loose : List Str} {mean : ExcName → Option Value} {mg mb : Str → Option Value} {s : Shared}
theorem number_ok {Q : Value → Shared → Prop} {E : Value → Shared → Prop} (X : (Mine.frag.heap_1 w.params).In s.heap) (T : Top p loose mean mg mb s.heap) {c : Int} {t : Tok} (hroom : A.depth < recursionLimit) (hc : 0 ≤ c) (hc2 : c < 1000000)
    (h : ∀ h'' tk t', (∀ b o, s.heap.get? b = some o → h''.get? b = some o) → Q (.int (lawNum c) t') { s with heap := h'', toks := tk }) :
    wpAny (model PySem.Challenge.rw_ij0057_01.row.prog w) A (call (.ref 188) [.int c t]) Q E s := by
  refine wpAny_call ?_
  refine' callQ (binds := [("cell", .int c t)]) X T ?ho ?hcd hroom ?hbind ?hloc ?h ?c2 ?c3 ?c4 ?c5
  case ho => k_is
  case hcd => k_is
  case hbind => exact BindsTo.of_eq rfl
  case hloc => exact locs rfl
  case c2 => exact rfl
  case c3 => exact rfl
  case c4 => exact rfl
  case c5 => decide
  case h =>
    intro L' h₁ hLL F'
    have N' : News s.heap L' h₁ [] := fun q hq => nomatch hq
    k_unmd
    k_fold
    dsimp only [List.length_cons, List.length_nil]
    (repeat' ((fail_if_success k_end); (fail_if_success (with_reducible show wpAny _ _ (exec (Stmt.While _ _ _ _) _) _ _ _)); (fail_if_success (with_reducible show wpAny _ _ (call (Value.ref _) _ _) _ _ _)); (fail_if_success (with_reducible show wpAny _ _ (call (Value.builtin "format") _ _) _ _ _)); walk1))
    · rename_i F2 N2 ht
      refine ⟨_, F2, fun hk => ?_⟩
      rw [lawNum, if_pos ht] at h
      exact h _ _ _ hk
    · rename_i F2 N2 ht
      refine ⟨_, F2, fun hk => ?_⟩
      rw [lawNum, if_neg ht] at h
      exact h _ _ _ hk

noncomputable def figR (n : Nat) : List Nat := if h : n < 10 then [4 + n] else figR (n / 10) ++ [4 + n % 10]
termination_by n
decreasing_by (first | lia | omega)

theorem figR_len : ∀ (k n : Nat), n < 10 ^ (k + 1) → (figR n).length ≤ k + 1
  | 0, n, h => by
    have : n < 10 := by simpa using h
    rw [figR, dif_pos this]; simp
  | k + 1, n, h => by
    rw [figR]
    split
    · simp
    · rw [List.length_append]
      have := figR_len k (n / 10) (by rw [Nat.pow_succ] at h; (first | lia | omega))
      simp only [List.length_cons, List.length_nil]
      (first | lia | omega)
theorem figR_pos (n : Nat) : 1 ≤ (figR n).length := by
  rw [figR]; split <;> simp
theorem nat_fdiv (n : Nat) : (n : Int).fdiv 10 = ((n / 10 : Nat) : Int) := by
  rw [Int.fdiv_eq_ediv_of_nonneg _ (by (first | lia | omega))]; (first | lia | omega)
theorem nat_fmod (n : Nat) : (n : Int).fmod 10 = ((n % 10 : Nat) : Int) := by
  rw [Int.fmod_eq_emod_of_nonneg _ (by (first | lia | omega))]; (first | lia | omega)
theorem fig_ints {ws : List Value} {rest : Nat} {rs : List Nat} (h : IntsAre ws ([4 + (rest : Int).fmod 10] ++ List.map Int.ofNat rs)) : IntsAre ws (List.map Int.ofNat ((4 + rest % 10) :: rs)) := by
  rw [nat_fmod] at h
  exact h
theorem fig_step {rest : Nat} {rs N : List Nat} (h : figR rest ++ rs = N) : (0 < rest / 10 ∨ ((4 + rest % 10) :: rs) = [] → figR (rest / 10) ++ ((4 + rest % 10) :: rs) = N) ∧ (rest / 10 = 0 → ((4 + rest % 10) :: rs) ≠ [] → ((4 + rest % 10) :: rs) = N) := by
  rw [figR] at h
  split at h
  · rename_i hlt
    refine ⟨fun q => ?_, fun _ _ => ?_⟩
    · rcases q with q | q
      · (first | lia | omega)
      · cases q
    · rw [← h, Nat.mod_eq_of_lt hlt]; rfl
  · rename_i hge
    refine ⟨fun _ => ?_, fun q => ?_⟩
    · rw [← h]; simp
    · (first | lia | omega)
noncomputable def rkP (n : Int) : List Nat := (if n < 0 then [3] else []) ++ figR n.natAbs
theorem rkP_len {n : Int} (h : n.natAbs < 100000) : (rkP n).length ≤ 6 := by
  have := figR_len 4 n.natAbs (by (first | lia | omega))
  unfold rkP
  rw [List.length_append]
  split <;> simp <;> (first | lia | omega)
noncomputable def aheadP (side free : Nat) : Nat := match side with
  | 0 => 0
  | 1 => free
  | _ => free / 2
noncomputable def layP (fill side width : Nat) (n : Int) : List Nat :=
  List.replicate (aheadP side (width - (rkP n).length)) fill ++ rkP n ++ List.replicate (width - (rkP n).length - aheadP side (width - (rkP n).length)) fill

theorem ranks_ok {Q : Value → Shared → Prop} {E : Value → Shared → Prop} (X : (Mine.frag.heap_1 w.params).In s.heap) (T : Top p loose mean mg mb s.heap) {n : Int} {fill side width : Nat} {t1 t2 t3 t4 : Tok} (hroom : A.depth + 3 < recursionLimit) (hu : A.units + 100 < cLine) (hh : A.handled = none)
    (hn : n.natAbs < 100000) (hs : side < 3) (hw : width < 10)
    (h : ∀ h'' tk D vs e', (∀ b o, s.heap.get? b = some o → h''.get? b = some o) → s.heap.get? D = none → h''.get? D = some (listOf (List.toArray vs) e') → IntsAre vs ((layP fill side width n).map Int.ofNat) → Q (.ref D) { s with heap := h'', toks := tk }) :
    wpAny (model PySem.Challenge.rw_ij0057_01.row.prog w) A (call (.ref 195) [.int n t1, .int fill t2, .int side t3, .int width t4]) Q E s := by
  refine wpAny_call ?_
  refine' callQ (binds := [("number", .int n t1), ("fill", .int fill t2), ("side", .int side t3), ("width", .int width t4)]) X T ?ho ?hcd (by (first | lia | omega)) ?hbind ?hloc ?h ?c2 ?c3 ?c4 ?c5
  case ho => k_is
  case hcd => k_is
  case hbind => exact BindsTo.of_eq rfl
  case hloc => exact locs rfl
  case c2 => exact rfl
  case c3 => exact rfl
  case c4 => exact rfl
  case c5 => decide
  case h =>
    intro L' h₁ hLL F'
    have N' : News s.heap L' h₁ [] := fun q hq => nomatch hq
    k_unmd
    k_fold
    dsimp only [List.length_cons, List.length_nil]
    (repeat' ((fail_if_success k_end); (fail_if_success (with_reducible show wpAny _ _ (exec (Stmt.While _ _ _ _) _) _ _ _)); (fail_if_success (with_reducible show wpAny _ _ (call (Value.ref _) _ _) _ _ _)); (fail_if_success (with_reducible show wpAny _ _ (call (Value.builtin "format") _ _) _ _ _)); walk1))
    rename_i h2 F2 N2
    obtain ⟨Q1, hQ1⟩ : ∃ Q1 : Flow → Shared → Prop, ∀ f s', Q1 f s' ↔ (f = Flow.next ∧ E6 fun (vs : List Value) (l : Nat) (e : Nat) (h' : Heap) (tk : Nat) (m' : Str → Option Value) => A9 (s' = { s with heap := h', toks := tk }) (Fr s.heap L' h' m') (News s.heap L' h' [(l, listOf vs.toArray e)]) (IntsAre vs ((figR n.natAbs).map Int.ofNat)) (m' "ranks" = some (.ref l)) (m' "number" = some (.int n t1)) (m' "fill" = some (.int fill t2)) (m' "side" = some (.int side t3)) (m' "width" = some (.int width t4))) := ⟨_, fun _ _ => Iff.rfl⟩
    refine wpAny_mono (Q := Q1) ?loop ?after (fun _ _ x => x)
    case after =>
      intro f9 s9 hq9
      obtain ⟨rfl, vs, l, e, h3, tk3, m3, rfl, F3, N3, hI, q1, q2, q3, q4, q5⟩ := (hQ1 _ _).mp hq9
      clear hq9
      dsimp only
      (repeat' ((fail_if_success k_end); (fail_if_success (with_reducible show wpAny _ _ (exec (Stmt.While _ _ _ _) _) _ _ _)); (fail_if_success (with_reducible show wpAny _ _ (exec (Stmt.If _ _ _ _) _) _ _ _)); (fail_if_success (with_reducible show wpAny _ _ (call (Value.ref _) _ _) _ _ _)); (fail_if_success (with_reducible show wpAny _ _ (binaryOp _ (Value.ref _) _) _ _ _)); walk1))
      obtain ⟨Q2, hQ2⟩ : ∃ Q2 : Flow → Shared → Prop, ∀ f s', Q2 f s' ↔ (f = Flow.next ∧ E6 fun (vs : List Value) (l : Nat) (e : Nat) (h' : Heap) (tk : Nat) (m' : Str → Option Value) => A8 (s' = { s with heap := h', toks := tk }) (Fr s.heap L' h' m') (News s.heap L' h' [(l, listOf vs.toArray e)]) (IntsAre vs ((rkP n).map Int.ofNat)) (m' "ranks" = some (.ref l)) (m' "fill" = some (.int fill t2)) (m' "side" = some (.int side t3)) (m' "width" = some (.int width t4))) := ⟨_, fun _ _ => Iff.rfl⟩
      refine wpAny_mono (Q := Q2) ?iff ?rest (fun _ _ x => x)
      case iff =>
        refine wpAny_If ?_
        (repeat' ((fail_if_success k_end); (fail_if_success (with_reducible show wpAny _ _ (exec (Stmt.While _ _ _ _) _) _ _ _)); (fail_if_success (with_reducible show wpAny _ _ (exec (Stmt.If _ _ _ _) _) _ _ _)); (fail_if_success (with_reducible show wpAny _ _ (call (Value.ref _) _ _) _ _ _)); (fail_if_success (with_reducible show wpAny _ _ (binaryOp _ (Value.ref _) _) _ _ _)); walk1))
        · rename_i hneg l2 h4 F4 N4 hl2
          refine addL F4 N4 (.head _) (.tail _ (.head _)) (by have := hI.length; simp at this; have := figR_len 4 n.natAbs (by (first | lia | omega)); simp; (first | lia | omega)) fun D h5 F5 N5 hD => ?_
          (repeat' ((fail_if_success k_end); (fail_if_success (with_reducible show wpAny _ _ (exec (Stmt.While _ _ _ _) _) _ _ _)); (fail_if_success (with_reducible show wpAny _ _ (exec (Stmt.If _ _ _ _) _) _ _ _)); (fail_if_success (with_reducible show wpAny _ _ (call (Value.ref _) _ _) _ _ _)); (fail_if_success (with_reducible show wpAny _ _ (binaryOp _ (Value.ref _) _) _ _ _)); walk1))
          rename_i h6 F6 N6
          refine (hQ2 _ _).mpr ⟨rfl, _, D, 0, _, _, _, rfl, F6, fun q hq => N6 q (by rw [List.mem_singleton.mp hq]; exact .head _), ?_, rfl, q3, q4, q5⟩
          rw [rkP, if_pos hneg]
          exact .cons 3 _ hI
        · rename_i hneg
          refine (hQ2 _ _).mpr ⟨rfl, _, l, e, _, _, _, rfl, F3, N3, ?_, q1, q3, q4, q5⟩
          rw [rkP, if_neg hneg]
          exact hI
      case rest =>
        intro f9 s9 hq9
        obtain ⟨rfl, vs, l, e, h4, tk4, m4, rfl, F4, N4, hI, q1, q3, q4, q5⟩ := (hQ2 _ _).mp hq9
        clear hq9
        dsimp only
        (repeat' ((fail_if_success k_end); (fail_if_success (with_reducible show wpAny _ _ (exec (Stmt.While _ _ _ _) _) _ _ _)); (fail_if_success (with_reducible show wpAny _ _ (exec (Stmt.If _ _ _ _) _) _ _ _)); (fail_if_success (with_reducible show wpAny _ _ (call (Value.ref _) _ _) _ _ _)); (fail_if_success (with_reducible show wpAny _ _ (binaryOp _ (Value.ref _) _) _ _ _)); walk1))
        have hvl : vs.length = (rkP n).length := by have := hI.length; rwa [List.length_map] at this
        have hrl := rkP_len hn
        refine lenL N4 (.head _) (by (first | lia | omega)) ?_
        (repeat' ((fail_if_success k_end); (fail_if_success (with_reducible show wpAny _ _ (exec (Stmt.While _ _ _ _) _) _ _ _)); (fail_if_success (with_reducible show wpAny _ _ (exec (Stmt.If _ _ _ _) _) _ _ _)); (fail_if_success (with_reducible show wpAny _ _ (call (Value.ref _) _ _) _ _ _)); (fail_if_success (with_reducible show wpAny _ _ (binaryOp _ (Value.ref _) _) _ _ _)); walk1))
        refine max_two_N (by exact hh) F4 N4 fun h5 tk5 F5 N5 => ?_
        generalize htk : (if (0 : Int) > (width : Int) - (vs.length : Int) then _ else _ : Tok) = tq
        have hfree : (if (0 : Int) > (width : Int) - (vs.length : Int) then (0 : Int) else (width : Int) - (vs.length : Int)) = ((width - (rkP n).length : Nat) : Int) := by split <;> (first | lia | omega)
        rw [hfree]
        generalize hfr : width - (rkP n).length = free
        (repeat' ((fail_if_success k_end); (fail_if_success (with_reducible show wpAny _ _ (exec (Stmt.While _ _ _ _) _) _ _ _)); (fail_if_success (with_reducible show wpAny _ _ (exec (Stmt.If _ _ _ _) _) _ _ _)); (fail_if_success (with_reducible show wpAny _ _ (call (Value.ref _) _ _) _ _ _)); (fail_if_success (with_reducible show wpAny _ _ (binaryOp _ (Value.ref _) _) _ _ _)); walk1))
        rename_i h6 D1 h7 hD1 t9 h8 l1 h9 F9 N9 hl1
        have hah : ([0, ((free : Nat) : Int), ((free : Nat) : Int).fdiv 2] : List Int).getD (side : Int).toNat 0 = ((aheadP side free : Nat) : Int) := by
          have hf2 : ((free : Nat) : Int).fdiv 2 = ((free / 2 : Nat) : Int) := by rw [Int.fdiv_eq_ediv_of_nonneg _ (by (first | lia | omega))]; (first | lia | omega)
          rw [hf2]
          rcases (by (first | lia | omega) : side = 0 ∨ side = 1 ∨ side = 2) with rfl | rfl | rfl <;> rfl
        have hale : aheadP side free ≤ free := by unfold aheadP; split <;> (first | lia | omega)
        refine mul1L F9 N9 (.head _) (by rw [hah]; (first | lia | omega)) (by rw [hah]; (first | lia | omega)) fun D2 h10 F10 N10 hD2 => ?_
        rw [hah] at F10 N10
        simp only [Int.toNat_natCast] at N10
        clear F9 N9
        (repeat' ((fail_if_success k_end); (fail_if_success (with_reducible show wpAny _ _ (exec (Stmt.While _ _ _ _) _) _ _ _)); (fail_if_success (with_reducible show wpAny _ _ (exec (Stmt.If _ _ _ _) _) _ _ _)); (fail_if_success (with_reducible show wpAny _ _ (call (Value.ref _) _ _) _ _ _)); (fail_if_success (with_reducible show wpAny _ _ (binaryOp _ (Value.ref _) _) _ _ _)); walk1))
        refine addL F10 N10 (.head _) (.tail _ (.tail _ (.tail _ (.head _)))) (by rw [List.length_replicate]; (first | lia | omega)) fun D3 h11 F11 N11 hD3 => ?_
        clear F10
        (repeat' ((fail_if_success k_end); (fail_if_success (with_reducible show wpAny _ _ (exec (Stmt.While _ _ _ _) _) _ _ _)); (fail_if_success (with_reducible show wpAny _ _ (exec (Stmt.If _ _ _ _) _) _ _ _)); (fail_if_success (with_reducible show wpAny _ _ (call (Value.ref _) _ _) _ _ _)); (fail_if_success (with_reducible show wpAny _ _ (binaryOp _ (Value.ref _) _) _ _ _)); walk1))
        rename_i l3 h12 F12 N12 hl3
        refine mul1L F12 N12 (.head _) (by (first | lia | omega)) (by (first | lia | omega)) fun D4 h13 F13 N13 hD4 => ?_
        have e13 : (((free : Nat) : Int) - ((aheadP side free : Nat) : Int)).toNat = free - aheadP side free := by (first | lia | omega)
        rw [e13] at N13
        clear F12
        (repeat' ((fail_if_success k_end); (fail_if_success (with_reducible show wpAny _ _ (exec (Stmt.While _ _ _ _) _) _ _ _)); (fail_if_success (with_reducible show wpAny _ _ (exec (Stmt.If _ _ _ _) _) _ _ _)); (fail_if_success (with_reducible show wpAny _ _ (call (Value.ref _) _ _) _ _ _)); (fail_if_success (with_reducible show wpAny _ _ (binaryOp _ (Value.ref _) _) _ _ _)); walk1))
        refine addL F13 N13 (.tail _ (.tail _ (.head _))) (.head _) (by simp only [List.length_append, List.length_replicate]; (first | lia | omega)) fun D5 h14 F14 N14 hD5 => ?_
        (repeat' ((fail_if_success k_end); (fail_if_success (with_reducible show wpAny _ _ (exec (Stmt.While _ _ _ _) _) _ _ _)); (fail_if_success (with_reducible show wpAny _ _ (exec (Stmt.If _ _ _ _) _) _ _ _)); (fail_if_success (with_reducible show wpAny _ _ (call (Value.ref _) _ _) _ _ _)); (fail_if_success (with_reducible show wpAny _ _ (binaryOp _ (Value.ref _) _) _ _ _)); walk1))
        refine ⟨_, F14, fun hk => h h14 _ D5 _ 0 hk (N14 _ (.head _)).2.2 (N14 _ (.head _)).1 ?_⟩
        rw [layP, hfr, List.map_append, List.map_append, List.map_replicate, List.map_replicate]
        exact ints_app (ints_app (ints_rep _ _ _) hI) (ints_rep _ _ _)
    case loop =>
      obtain ⟨J, hJ⟩ : ∃ J : Nat → Shared → Prop, ∀ k s', J k s' ↔ (E9 fun (rest : Nat) (rs : List Nat) (vs : List Value) (l : Nat) (e : Nat) (h' : Heap) (tk : Nat) (m' : Str → Option Value) (t' : Tok) => A15 (s' = { s with heap := h', toks := tk }) (k = rest * 2 + (if rs = [] then 1 else 0)) (Fr s.heap L' h' m') (News s.heap L' h' [(l, listOf vs.toArray e)]) (IntsAre vs (rs.map Int.ofNat)) (m' "ranks" = some (.ref l)) (m' "rest" = some (.int rest t')) (m' "number" = some (.int n t1)) (m' "fill" = some (.int fill t2)) (m' "side" = some (.int side t3)) (m' "width" = some (.int width t4)) ((0 < rest ∨ rs = [] → figR rest ++ rs = figR n.natAbs)) ((rest = 0 → rs ≠ [] → rs = figR n.natAbs)) (rest < 100000) (rs.length < 10000)) := ⟨_, fun _ _ => Iff.rfl⟩
      refine wpAny_While (codeAny_whileLoop J ?turn (n.natAbs * 2 + 1) ?start)
      case start =>
        have en : (if n < 0 then -n else n) = (n.natAbs : Int) := by split <;> (first | lia | omega)
        refine (hJ _ _).mpr ⟨n.natAbs, [], [], _, _, h2, _, _, _, rfl, rfl, F2, fun q hq => N2 q (by rw [List.mem_singleton.mp hq]; exact .tail _ (.head _)), .nil, rfl, congrArg some (congrArg (Value.int · _) en), rfl, rfl, rfl, rfl, fun _ => List.append_nil _, fun _ h => absurd rfl h, hn, by simp⟩
      case turn =>
        intro k s9 hj9
        obtain ⟨rest, rs, vs, l, e, h3, tk3, m3, t', rfl, rfl, F3, N3, hI, q1, q2, q3, q4, q5, q6, r1, r2, r3, r4⟩ := (hJ _ _).mp hj9
        clear hj9
        clear F2 N2
        have hlen5 := figR_len 4 n.natAbs (by (first | lia | omega))
        (repeat' ((fail_if_success k_end); (fail_if_success (with_reducible show wpAny _ _ (exec (Stmt.While _ _ _ _) _) _ _ _)); (fail_if_success (with_reducible show wpAny _ _ (call (Value.ref _) _ _) _ _ _)); (fail_if_success (with_reducible show wpAny _ _ (call (Value.builtin "format") _ _) _ _ _)); walk1))
        · rename_i hpos tk0 l1 h6 hl1 D ws h7 hI2 hD h8 h9 F9 N9
          have hr1 := r1 (.inl (by (first | lia | omega)))
          have st := fig_step hr1
          have hb : rs.length + 1 ≤ 5 := by
            have e := congrArg List.length hr1
            rw [List.length_append] at e
            have := figR_pos rest
            (first | lia | omega)
          exact ⟨rest / 10 * 2 + 0, by split <;> (first | lia | omega), (hJ _ _).mpr ⟨rest / 10, (4 + rest % 10) :: rs, ws, D, 0, _, _, _, _, rfl, rfl, F9, fun q hq => N9 q (by rw [List.mem_singleton.mp hq]; exact .head _), fig_ints hI2, rfl, congrArg some (congrArg (Value.int · _) (nat_fdiv rest)), q3, q4, q5, q6, st.1, st.2, by (first | lia | omega), by rw [List.length_cons]; (first | lia | omega)⟩⟩
        · rename_i hpos tk0 l0 h6 hl0 hnil l1 h7 hl1 D ws h8 hI2 hD h9 h10 F9 N9
          have hrs : rs = [] := by
            cases rs with
            | nil => rfl
            | cons a r => simp at hl0
          have hr1 := r1 (.inr hrs)
          have st := fig_step hr1
          have hb : rs.length + 1 ≤ 5 := by rw [hrs]; simp
          exact ⟨rest / 10 * 2 + 0, by rw [hrs, if_pos rfl]; (first | lia | omega), (hJ _ _).mpr ⟨rest / 10, (4 + rest % 10) :: rs, ws, D, 0, _, _, _, _, rfl, rfl, F9, fun q hq => N9 q (by rw [List.mem_singleton.mp hq]; exact .head _), fig_ints hI2, rfl, congrArg some (congrArg (Value.int · _) (nat_fdiv rest)), q3, q4, q5, q6, st.1, st.2, by (first | lia | omega), by rw [List.length_cons]; (first | lia | omega)⟩⟩
        · rename_i hpos l0 h6 F6 N6 hl0 hnil
          have hrs : rs ≠ [] := by
            intro e
            rw [e] at hnil
            simp at hnil
          have hN := r2 (by (first | lia | omega)) hrs
          exact (hQ1 _ _).mpr ⟨rfl, vs, l, e, h6, _, _, rfl, F6, fun q hq => N6 q (by rw [List.mem_singleton.mp hq]; exact .tail _ (.head _)), by rw [← hN]; exact hI, q1, q3, q4, q5, q6⟩
end
end Mine
end
end
section
open PySem PySem.W PyProof.Rows PySem.Calls
set_option maxHeartbeats 8000000
namespace Mine
theorem offC2 : True := by
  w_top off
  trivial

structure Src (prog : Program) (w : World) (A : Around) (target : Expr) (I : Addr) (fp wr : List Addr) (n : Nat) (P : Nat → Value → Heap → Prop) (St : Nat → Heap → Prop) : Prop where
  sub : ∀ b ∈ wr, b ∈ fp
  frame : ∀ i h h', St i h → (∀ b ∈ fp, ∀ o, h.get? b = some o → h'.get? b = some o) → St i h'
  live : ∀ i h, i ≤ n → St i h → ∀ b ∈ wr, ∃ o, h.get? b = some o
  item : ∀ i (s : Shared) (Q : Value → Shared → Prop) (E : Value → Shared → Prop), i < n → St i s.heap →
    (∀ v h' tk, P i v h' → St (i + 1) h' → (∀ b o, b ∉ wr → s.heap.get? b = some o → h'.get? b = some o) → Q v { s with heap := h', toks := tk }) →
    wpAny (model prog w) A (pyNext (.ref I)) (fun r s₁ => match r with
      | none => False
      | some v => wpAny (model prog w) A (letOwnedTupleGo target (.ref I) v) (fun _ s₂ => Q v s₂) E s₁) E s
  done : ∀ (s : Shared) (Q : Option Value → Shared → Prop) (E : Value → Shared → Prop), St n s.heap →
    (∀ h' tk, St (n + 1) h' → (∀ b o, b ∉ wr → s.heap.get? b = some o → h'.get? b = some o) → Q none { s with heap := h', toks := tk }) → wpAny (model prog w) A (pyNext (.ref I)) Q E s
  self : ∀ i (s : Shared) (Q : Value → Shared → Prop) (E : Value → Shared → Prop), i ≤ n → St i s.heap → Q (.ref I) s → wpAny (model prog w) A (pyIter (.ref I)) Q E s

theorem Src.ofWalks {prog : Program} {w : World} {A : Around} {target : Expr} {I : Addr} {fp wr : List Addr} {n : Nat} {P : Nat → Value → Prop} {St : Nat → Heap → Prop} (W : Walks prog w A I fp wr n P St)
    (hl : ∀ i h, St i h → ∀ b ∈ wr, ∃ o, h.get? b = some o) (ht : ∀ v, letOwnedTupleGo target (.ref I) v = pure ()) : Src prog w A target I fp wr n (fun i v _ => P i v) (fun i h => i ≤ n → St i h) where
  sub := W.sub
  frame := fun i h h' st hk hi => W.frame i h h' (st hi) hk
  live := fun i h hi st => hl i h (st hi)
  item := fun i s Q E hi hs hQ => W.item i s _ E hi (hs (Nat.le_of_lt hi)) fun v h' tk hP hS hk => by
    dsimp only
    rw [ht]
    exact wpAny_pure (hQ v h' tk hP (fun _ => hS) hk)
  done := fun s Q E st hQ => W.done s Q E (st (Nat.le_refl _)) fun h' tk hk => hQ h' tk (fun h => absurd h (Nat.not_succ_le_self _)) hk
  self := fun i s Q E hi st hQ => W.self i s Q E (st hi) hQ

theorem Src.ofWalksT {prog : Program} {w : World} {A : Around} {elts : List Expr} {k : Nat} {tp : Pos} {I : Addr} {fp wr : List Addr} {n : Nat} {Pt : Nat → Array Value → Prop} {St : Nat → Heap → Prop} {Mid : Nat → Addr → Heap → Prop} (W : WalksT prog w A I fp wr n Pt St Mid)
    (hl : ∀ i h, St i h → ∀ b ∈ wr, ∃ o, h.get? b = some o) : Src prog w A (.Tuple elts k tp) I fp wr n (fun i v h => ∃ T vals, v = .ref T ∧ Pt i vals ∧ h.IsTuple T vals) (fun i h => i ≤ n → St i h) where
  sub := W.sub
  frame := fun i h h' st hk hi => W.frame i h h' (st hi) hk
  live := fun i h hi st => hl i h (st hi)
  item := fun i s Q E hi hs hQ => W.item i s _ E hi (hs (Nat.le_of_lt hi)) fun T vals h' tk hP hT hIs hM hk => by
    dsimp only
    refine W.go elts k tp i T _ _ E hM fun h2 hS hk2 => ?_
    have hap := W.apart i T h' hM
    obtain ⟨o, ho, r⟩ := hIs
    exact hQ _ h2 tk ⟨T, vals, rfl, hP, ⟨o, hk2 T o hap ho, r⟩⟩ (fun _ => hS) fun b o hb e => hk2 b o hb (hk b o hb e)
  done := fun s Q E st hQ => W.done s Q E (st (Nat.le_refl _)) fun h' tk hk => hQ h' tk (fun h => absurd h (Nat.not_succ_le_self _)) hk
  self := fun i s Q E hi st hQ => W.self i s Q E (st hi) hQ

section
variable {prog : Program} {w : World} {A : Around} {R : Result → Shared → Prop} {s : Shared}

theorem comp_loop {elt target iter : Expr} {scope : Scope} {pos : Pos} {I D : Addr} {cenv : Env} {fp wr : List Addr} {n : Nat} {P : Nat → Value → Heap → Prop} {St : Nat → Heap → Prop} {m : Str → Option Value}
    (W : Src prog w A target I fp wr n P St) (hn : n < 10000) (hDC : D ≠ cenv.locals) (hDf : D ∉ fp) (hCf : cenv.locals ∉ fp)
    (J : Nat → List Value → Heap → Prop) (hst : St 0 s.heap) (hacc : s.heap.PlainList D #[]) (hns : s.heap.Ns cenv.locals m) (hJ0 : J 0 [] s.heap)
    (stepJ : ∀ i ys h h', J i ys h → (∀ b o, b ∉ D :: cenv.locals :: wr → h.get? b = some o → h'.get? b = some o) → J i ys h')
    (turn : ∀ i ys v s₃ m₃ (E' : Value → Shared → Prop), i < n → ys.length = i → J i ys s₃.heap → P i v s₃.heap → s₃.heap.Ns cenv.locals m₃ → (∀ b ∈ D :: cenv.locals :: wr, ∃ o, s₃.heap.get? b = some o) → (∀ b o, b ∉ D :: cenv.locals :: wr → s.heap.get? b = some o → s₃.heap.get? b = some o) →
      wpAny (model prog w) A (assign target cenv v) (fun _ s₄ => wpAny (model prog w) A (eval elt cenv) (fun y s₅ => ∃ h₅ tk₅ m₅, s₅ = { s₃ with heap := h₅, toks := tk₅ } ∧ h₅.Ns cenv.locals m₅ ∧ (∀ b o, b ≠ cenv.locals → s₃.heap.get? b = some o → h₅.get? b = some o) ∧ J (i + 1) (ys ++ [y]) h₅) E' s₄) E' s₃)
    (hR : ∀ h' tk m' ys, h'.Ns cenv.locals m' → h'.PlainList D (List.toArray ys) → ys.length = n → J n ys h' → St (n + 1) h' → (∀ b o, b ∉ D :: cenv.locals :: wr → s.heap.get? b = some o → h'.get? b = some o) → R (.ok .next) { s with heap := h', toks := tk }) :
    codeAny (model prog w) A (.compLoop (.ListComp elt [⟨target, iter, [], 0⟩] scope pos) 0 (.ref I) (.ref D) cenv) R s := by
  have hCw : cenv.locals ∉ wr := fun h => hCf (W.sub _ h)
  have hDw : D ∉ wr := fun h => hDf (W.sub _ h)
  refine kcp_loop (fun k s' => ∃ h' tk m' ys, s' = { s with heap := h', toks := tk } ∧ k = n - ys.length ∧ ys.length ≤ n ∧ St ys.length h' ∧ h'.PlainList D (List.toArray ys) ∧ h'.Ns cenv.locals m' ∧ J ys.length ys h' ∧ (∀ b o, b ∉ D :: cenv.locals :: wr → s.heap.get? b = some o → h'.get? b = some o)) ?_ n
    ⟨s.heap, s.toks, m, [], rfl, by simp, by simp, hst, hacc, hns, hJ0, fun _ _ _ e => e⟩
  rintro k _ ⟨h', tk, m', ys, rfl, rfl, hle, hS, hL, hN, hJ, hk⟩
  by_cases hlt : ys.length < n
  · refine wpAny_mono (W.item ys.length _ (fun v s₁ => wpAny (model prog w) A (assign target cenv v) (fun _ s₂ => wpAny (model prog w) A (eval elt cenv) (fun x s₃ =>
          wpAny (model prog w) A (call (.builtin "list.append") [.ref D, x]) (fun _ s₄ => ∃ m, m < n - ys.length ∧ ∃ h' tk m' ys, s₄ = { s with heap := h', toks := tk } ∧ m = n - ys.length ∧ ys.length ≤ n ∧ St ys.length h' ∧ h'.PlainList D (List.toArray ys) ∧ h'.Ns cenv.locals m' ∧ J ys.length ys h' ∧ (∀ b o, b ∉ D :: cenv.locals :: wr → s.heap.get? b = some o → h'.get? b = some o)) (notedBy (model prog w) A cenv fun e s' => R (.error e) s') s₃)
          (notedBy (model prog w) A cenv fun e s' => R (.error e) s') s₂) (notedBy (model prog w) A cenv fun e s' => R (.error e) s') s₁) (notedBy (model prog w) A cenv fun e s' => R (.error e) s') hlt hS ?_) (fun r s₁ h₁ => ?_) fun _ _ e => e
    · intro v h₁ tk₁ hP hS₁ hk₁
      have hN₁ := hN.at' (h' := h₁) fun o e => hk₁ _ o hCw e
      have hL₁ : h₁.PlainList D (List.toArray ys) := hL.at fun o e => hk₁ D o hDw e
      have hJ₁ := stepJ _ _ h' h₁ hJ fun b o hb e => hk₁ b o (fun h => hb (.tail _ (.tail _ h))) e
      have hk₁' : ∀ b o, b ∉ D :: cenv.locals :: wr → s.heap.get? b = some o → h₁.get? b = some o := fun b o hb e => hk₁ b o (fun h => hb (.tail _ (.tail _ h))) (hk b o hb e)
      have hlive : ∀ b ∈ D :: cenv.locals :: wr, ∃ o, h₁.get? b = some o := fun b hb => by
        rcases List.mem_cons.mp hb with rfl | hb
        · obtain ⟨_, e⟩ := hL₁; exact ⟨_, e⟩
        · rcases List.mem_cons.mp hb with rfl | hb
          · obtain ⟨o, _, _, e, _⟩ := hN₁; exact ⟨o, e⟩
          · exact W.live _ _ hlt hS₁ b hb
      refine wpAny_mono (turn ys.length ys v { s with heap := h₁, toks := tk₁ } m' _ hlt rfl hJ₁ hP hN₁ hlive hk₁') (fun _ s₄ h₄ => wpAny_mono h₄ (fun y s₅ h₅ => ?_) fun _ _ e => e) fun _ _ e => e
      obtain ⟨h₅, tk₅, m₅, rfl, hN₅, hk₅, hJ₅⟩ := h₅
      have hL₅ : h₅.PlainList D (List.toArray ys) := hL₁.at fun o e => hk₅ D o hDC e
      have hS₅ : St (ys.length + 1) h₅ := W.frame _ _ _ hS₁ fun b hb o e => hk₅ b o (fun h => hCf (h ▸ hb)) e
      refine wpAny_list_append_plain (hsz := by rw [sizeLine_eq, List.size_toArray]; (first | lia | omega)) hL₅ fun h₆ hl₆ hs₆ => ?_
      have hpush : (List.toArray ys).push y = List.toArray (ys ++ [y]) := by simp
      rw [hpush] at hl₆
      refine ⟨n - (ys.length + 1), by (first | lia | omega), h₆, tk₅, m₅, ys ++ [y], rfl, by simp, by simp; (first | lia | omega), ?_, hl₆, hN₅.sameBut hs₆ (Ne.symm hDC), ?_, fun b o hb e => hs₆.extBut b o (fun h => hb (h ▸ .head _)) (hk₅ b o (fun h => hb (h ▸ .tail _ (.head _))) (hk₁' b o hb e))⟩
      · have := W.frame _ _ h₆ hS₅ fun b hb o e => hs₆.extBut b o (fun h => hDf (h ▸ hb)) e
        simpa using this
      · have := stepJ _ _ h₅ h₆ hJ₅ fun b o hb e => hs₆.extBut b o (fun h => hb (h ▸ .head _)) e
        simpa using this
    · cases r with
      | none => exact h₁.elim
      | some v => exact h₁
  · have hin : ys.length = n := by (first | lia | omega)
    refine W.done _ _ _ (hin ▸ hS) fun h₁ tk₁ hSn hk₁ => ?_
    have hkb : ∀ b o, b ∉ D :: cenv.locals :: wr → h'.get? b = some o → h₁.get? b = some o := fun b o hb e => hk₁ b o (fun h => hb (.tail _ (.tail _ h))) e
    exact hR h₁ tk₁ m' ys (hN.at' fun o e => hk₁ _ o hCw e) (hL.at fun o e => hk₁ D o hDw e) hin (stepJ _ _ h' h₁ (hin ▸ hJ) hkb) hSn fun b o hb e => hkb b o hb (hk b o hb e)
end
end Mine
end
section
open PySem PySem.W PyProof.Rows PySem.Calls
set_option maxHeartbeats 8000000
namespace Mine
theorem offC3 : True := by
  w_top off
  trivial

noncomputable def objAt (h : Heap) : Value → Option Obj
  | .ref T => h.get? T
  | _ => none

section
variable {prog : Program} {w : World} {A : Around} {E : Value → Shared → Prop} {env : Env}

noncomputable def TurnsG (prog : Program) (w : World) (A : Around) (env : Env) (scope : Scope) (cl : List (Str × Addr)) (target elt : Expr) (wr : List Addr) (n : Nat) (P : Nat → Value → Heap → Prop) (G : Nat → Value → Option Obj → Prop) (s₂ : Shared) : Prop :=
  ∀ C i v s₃ m₃ (E' : Value → Shared → Prop), i < n → s₂.heap.objs.size ≤ C → P i v s₃.heap → s₃.heap.Ns C m₃ → (∀ b o, b ∉ wr → s₂.heap.get? b = some o → s₃.heap.get? b = some o) →
    wpAny (model prog w) A (assign target (compEnvC scope cl C env) v) (fun _ s₄ => wpAny (model prog w) A (eval elt (compEnvC scope cl C env)) (fun y s₅ =>
      ∃ h₅ tk₅ m₅, s₅ = { s₃ with heap := h₅, toks := tk₅ } ∧ h₅.Ns C m₅ ∧ (∀ b o, b ≠ C → s₃.heap.get? b = some o → h₅.get? b = some o) ∧ (∀ T, y = .ref T → s₃.heap.get? T = none ∧ ∃ o, h₅.get? T = some o) ∧ G i y (objAt h₅ y)) E' s₄) E' s₃

noncomputable def ItemsN (h h' : Heap) (N : Addr → Prop) (n : Nat) (G : Nat → Value → Option Obj → Prop) (ys : List Value) : Prop :=
  ys.length = n ∧ ∀ j y, ys[j]? = some y → (∀ T, y = .ref T → ¬ N T ∧ h.get? T = none ∧ ∃ o, h'.get? T = some o) ∧ G j y (objAt h' y)
theorem ItemsN.to {h h' h'' : Heap} {N N' : Addr → Prop} {n : Nat} {G : Nat → Value → Option Obj → Prop} {ys : List Value} (x : ItemsN h h' N n G ys) (sub : ∀ T, N' T → N T)
    (k : ∀ T o, h.get? T = none → ¬ N T → h'.get? T = some o → h''.get? T = some o) : ItemsN h h'' N' n G ys := by
  refine ⟨x.1, fun j y hy => ?_⟩
  obtain ⟨q1, q2⟩ := x.2 j y hy
  cases y with
  | ref T =>
    obtain ⟨a1, a2, o, a3⟩ := q1 T rfl
    have e : objAt h'' (.ref T) = objAt h' (.ref T) := (k T o a2 a1 a3).trans a3.symm
    exact ⟨fun T' q => by cases q; exact ⟨fun c => a1 (sub _ c), a2, o, k T o a2 a1 a3⟩, by rw [e]; exact q2⟩
  | _ => exact ⟨fun T' q => (nomatch q), q2⟩
theorem ItemsN.snoc {h h' : Heap} {N : Addr → Prop} {n : Nat} {G : Nat → Value → Option Obj → Prop} {ys : List Value} {y : Value} (x : ItemsN h h' N n G ys) (hT : ∀ T, y = .ref T → ¬ N T ∧ h.get? T = none ∧ ∃ o, h'.get? T = some o) (hG : G n y (objAt h' y)) :
    ItemsN h h' N (n + 1) G (ys ++ [y]) := by
  refine ⟨by rw [List.length_append, x.1]; rfl, fun j z hz => ?_⟩
  rw [List.getElem?_append] at hz
  split at hz
  · exact x.2 j z hz
  · rename_i hj
    obtain ⟨e1, e2⟩ := List.getElem?_eq_some_iff.mp hz
    have e3 : j = n := by
      have := x.1
      simp only [List.length_cons, List.length_nil] at e1
      omega
    have e4 : z = y := by rw [← e2]; simp
    rw [e3, e4]
    exact ⟨hT, hG⟩

structure Two (h h₁ : Heap) (D C : Addr) : Prop where
  d : h.get? D = none
  c : h.get? C = none
  ne : D ≠ C
  le : h.objs.size ≤ C
  old : ∀ b, b < h.objs.size → b ≠ D ∧ b ≠ C
  keep : ∀ b o, h.get? b = some o → h₁.get? b = some o
  list : h₁.PlainList D #[]
theorem two_laid {h h₁ : Heap} {o : Obj} (k : Heap.SameBut (h.push { cls := .type "list", data := .seq #[] }).objs.size ((h.push { cls := .type "list", data := .seq #[] }).push o) h₁) :
    Two h h₁ h.objs.size (h.push { cls := .type "list", data := .seq #[] }).objs.size := by
  rw [Heap.size_push] at k ⊢
  have lt : ∀ b, b < h.objs.size → b ≠ h.objs.size ∧ b ≠ h.objs.size + 1 := fun b hb => ⟨Nat.ne_of_lt hb, Nat.ne_of_lt (Nat.lt_succ_of_lt hb)⟩
  exact ⟨Heap.get?_none_of_le (Nat.le_refl _), Heap.get?_none_of_le (Nat.le_succ _), Nat.ne_of_lt (Nat.lt_succ_self _), Nat.le_succ _, lt,
    fun b o' q => k.extBut _ _ (lt b (Heap.lt_size q)).2 (Heap.get?_push_of_some _ (Heap.get?_push_of_some _ q)), ⟨_, k.extBut _ _ (Nat.ne_of_lt (Nat.lt_succ_self _)) (Heap.get?_push_of_some _ (Heap.get?_push_size _ rfl))⟩⟩

theorem comp_turns {elt target iter : Expr} {scope : Scope} {cl : List (Str × Addr)} {pos : Pos} {s₂ : Shared} {I D C : Addr} {fp wr : List Addr} {n tk : Nat} {P : Nat → Value → Heap → Prop} {St : Nat → Heap → Prop} {h₁ : Heap} {m₁ : Str → Option Value}
    {R : Result → Shared → Prop} (W : Src prog w A target I fp wr n P St) (hsz : n < 10000) (G : Nat → Value → Option Obj → Prop) (hst : St 0 s₂.heap) (hfp : ∀ b ∈ fp, b < s₂.heap.objs.size) (hq : TurnsG prog w A env scope cl target elt wr n P G s₂)
    (B : Two s₂.heap h₁ D C) (ns : h₁.Ns C m₁)
    (hR : ∀ h' tk m' ys, h'.Ns C m' → h'.PlainList D (List.toArray ys) → ItemsN s₂.heap h' (fun T => T = D ∨ T = C) n G ys → St (n + 1) h' → (∀ b o, b ∉ wr → s₂.heap.get? b = some o → h'.get? b = some o) → R (.ok .next) { s₂ with heap := h', toks := tk }) :
    codeAny (model prog w) A (.compLoop (.ListComp elt [⟨target, iter, [], 0⟩] scope pos) 0 (.ref I) (.ref D) (compEnvC scope cl C env)) R { s₂ with heap := h₁, toks := tk } := by
  have hD : D ∉ fp := fun q => (B.old _ (hfp _ q)).1 rfl
  have hC : C ∉ fp := fun q => (B.old _ (hfp _ q)).2 rfl
  have off : ∀ b o, b ∉ wr → s₂.heap.get? b = some o → b ∉ D :: C :: wr := fun b o hb q hm => by
    have := B.old b (Heap.lt_size q)
    simp only [List.mem_cons] at hm
    exact hm.elim this.1 fun z => z.elim this.2 hb
  refine comp_loop W hsz B.ne hD hC (fun i ys h => ItemsN s₂.heap h (· ∈ D :: C :: wr) i G ys) (W.frame _ _ _ hst fun b _ => B.keep b) B.list ns ⟨rfl, fun j y h => (nomatch h)⟩ (fun i ys h h' x k => x.to (fun _ q => q) fun T o _ hT => k T o hT) ?_ ?_
  · intro i ys v s₃ m₃ E' hi hlen x hP hn live k
    have up : ∀ b o, b ∉ wr → s₂.heap.get? b = some o → s₃.heap.get? b = some o := fun b o hb q => k b o (off b o hb q) (B.keep b o q)
    refine wpAny_mono (hq C i v s₃ m₃ E' hi B.le hP hn up) (fun _ s₄ x₄ => wpAny_mono x₄ (fun y s₅ x₅ => ?_) fun _ _ e => e) fun _ _ e => e
    obtain ⟨h₅, tk₅, m₅, e, n₅, k₅, new, g⟩ := x₅
    refine ⟨h₅, tk₅, m₅, e, n₅, k₅, ItemsN.snoc (x.to (fun _ q => q) fun T o _ hT => k₅ T o fun q => hT (q ▸ .tail _ (.head _))) (fun T hT => ?_) g⟩
    obtain ⟨f, o, ho⟩ := new T hT
    have hN : T ∉ D :: C :: wr := fun q => by
      obtain ⟨o', q'⟩ := live T q
      rw [f] at q'
      cases q'
    refine ⟨hN, ?_, o, ho⟩
    cases q : s₂.heap.get? T with
    | none => rfl
    | some o' =>
      have := up T o' (fun z => hN (.tail _ (.tail _ z))) q
      rw [f] at this
      cases this
  · intro h' tk' m' ys hn pl hlen x st k
    exact hR h' tk' m' ys hn pl (x.to (fun T q => q.elim (fun z => z ▸ .head _) fun z => z ▸ .tail _ (.head _)) fun _ _ _ _ q => q) st fun b o hb q => k b o (off b o hb q) (B.keep b o q)

theorem comp_run {elt target iter : Expr} {scope : Scope} {cl : List (Str × Addr)} {pos pos' : Pos} {s : Shared} {use : Option (Value → Sem Unit)} {Q : Value → Shared → Prop} (G : Nat → Value → Option Obj → Prop)
    (hs : ∀ x, foldedSetIterable iter env x = pure x) (hclos : closureFor scope env = pure cl) (hcell : ∀ y ∈ scope.names, y.2 ≠ .cell) (hkind : scope.kind = .function)
    (hnames : ∀ y ∈ scope.names, y.2 = .local → scope.names.lookup y.1 = some .local)
    (h : wpAny (model prog w) A (eval iter env) (fun xv s₁ => wpAny (model prog w) A (pyIter xv) (fun it s₂ => ∃ I fp wr n P St, it = .ref I ∧ Src prog w A target I fp wr n P St ∧ n < 10000 ∧ St 0 s₂.heap ∧ (∀ b ∈ fp, b < s₂.heap.objs.size) ∧
      TurnsG prog w A env scope cl target elt wr n P G s₂ ∧
      (∀ D C h' tk m' ys, s₂.heap.get? D = none → s₂.heap.get? C = none → D ≠ C → h'.Ns C m' → h'.PlainList D (List.toArray ys) → ItemsN s₂.heap h' (fun T => T = D ∨ T = C) n G ys → St (n + 1) h' →
        (∀ b o, b ∉ wr → s₂.heap.get? b = some o → h'.get? b = some o) → compPost (model prog w) A E use Q (.ref D) C (.ok .next) { s₂ with heap := h', toks := tk })) E s₁) E s) :
    wpAny (model prog w) A (comprehension (.ListComp elt [⟨target, iter, [], 0⟩] scope pos) scope env pos' (newList []) false (eval iter env) use) Q E s := by
  refine wpAny_comprehension_free rfl hs hclos hkind hnames (wpAny_mono h (fun xv s₁ x => wpAny_mono x (fun it s₂ y => ?_) fun _ _ e => e) fun _ _ e => e)
  obtain ⟨I, fp, wr, n, P, St, rfl, W, hsz, hst, hfp, hq, hQ⟩ := y
  refine wpAny_newObj_type (wpAny_newFunctionEnv hcell (fun y hy => by cases hy) (fun h₁ ns k => ?_) hkind)
  have B := two_laid k
  have run : ∀ tk, codeAny (model prog w) A (.compLoop (.ListComp elt [⟨target, iter, [], 0⟩] scope pos) 0 (.ref I) (.ref s₂.heap.objs.size) (compEnvC scope cl (s₂.heap.push { cls := .type "list", data := .seq #[] }).objs.size env))
      (compPost (model prog w) A E use Q (.ref s₂.heap.objs.size) (s₂.heap.push { cls := .type "list", data := .seq #[] }).objs.size) { s₂ with heap := h₁, toks := tk } :=
    fun tk => comp_turns W hsz G hst hfp hq B ns fun h' tk m' ys => hQ _ _ h' tk m' ys B.d B.c B.ne
  exact codeAny_compStart_list (run _) (W.self 0 _ _ _ (Nat.zero_le _) (W.frame _ _ _ hst fun b _ => B.keep b) (run _))

noncomputable def ItemsG (h h' : Heap) (D : Addr) (n : Nat) (G : Nat → Value → Option Obj → Prop) (ys : List Value) : Prop := ItemsN h h' (· = D) n G ys
theorem ItemsG.keeps {h h' h'' : Heap} {D : Addr} {n : Nat} {G : Nat → Value → Option Obj → Prop} {ys : List Value} (x : ItemsG h h' D n G ys) (k : ∀ b o, h.get? b = none → b ≠ D → h'.get? b = some o → h''.get? b = some o) : ItemsG h h'' D n G ys :=
  ItemsN.to x (fun _ q => q) k

theorem eval_comp {s : Shared} {elt target iter : Expr} {scope : Scope} {cl : List (Str × Addr)} {pos : Pos} {Q : Value → Shared → Prop} (G : Nat → Value → Option Obj → Prop)
    (hclos : closureFor scope env = pure cl) (hcell : ∀ y ∈ scope.names, y.2 ≠ .cell) (hkind : scope.kind = .function)
    (hnames : ∀ y ∈ scope.names, y.2 = .local → scope.names.lookup y.1 = some .local)
    (h : wpAny (model prog w) A (eval iter env) (fun xv s₁ => wpAny (model prog w) A (pyIter xv) (fun it s₂ => ∃ I fp wr n P St, it = .ref I ∧ Src prog w A target I fp wr n P St ∧ n < 10000 ∧ St 0 s₂.heap ∧ (∀ b ∈ fp, b < s₂.heap.objs.size) ∧ (∀ b ∈ fp, s₂.heap.get? b ≠ none) ∧
      TurnsG prog w A env scope cl target elt wr n P G s₂ ∧
      (∀ D h' tk ys, s₂.heap.get? D = none → h'.PlainList D (List.toArray ys) → ItemsG s₂.heap h' D n G ys → St (n + 1) h' →
        (∀ b o, b ∉ wr → s₂.heap.get? b = some o → h'.get? b = some o) → Q (.ref D) { s₂ with heap := h', toks := tk })) E s₁) E s)
    (hs : ∀ x, foldedSetIterable iter env x = pure x := by intro _; rfl) :
    wpAny (model prog w) A (eval (.ListComp elt [⟨target, iter, [], 0⟩] scope pos) env) Q E s := by
  rw [eval_ListComp]
  refine comp_run G hs hclos hcell hkind hnames (wpAny_mono h (fun xv s₁ x => wpAny_mono x (fun it s₂ y => ?_) fun _ _ e => e) fun _ _ e => e)
  obtain ⟨I, fp, wr, n, P, St, e, W, hsz, hst, hfp, live, hq, hQ⟩ := y
  refine ⟨I, fp, wr, n, P, St, e, W, hsz, hst, hfp, hq, fun D C h' tk m' ys d c dc ns pl it st k => ⟨m', ns, fun h2 k2 => ?_⟩⟩
  have off : ∀ b o, b ≠ C → h'.get? b = some o → h2.get? b = some o := k2.extBut
  exact hQ D h2 tk ys d (pl.at fun o => off D o dc) (it.to (fun _ => .inl) fun T o _ hT => off T o fun q => hT (.inr q)) (W.frame _ _ _ st fun b hb o => off b o fun q => live b hb (q ▸ c))
    fun b o hb q => off b o (fun z => by rw [z, c] at q; cases q) (k b o hb q)

theorem assign_comp {s : Shared} {elt target iter : Expr} {y : Str} {py : Pos} {scope : Scope} {cl : List (Str × Addr)} {pos spos : Pos} {Q : Flow → Shared → Prop} (G : Nat → Value → Option Obj → Prop)
    (hsw : swapsWith (.ListComp elt [⟨target, iter, [], 0⟩] scope pos) (some (.Name y py)) spos.line env = pure true)
    (hclos : closureFor scope env = pure cl) (hcell : ∀ z ∈ scope.names, z.2 ≠ .cell) (hkind : scope.kind = .function)
    (hnames : ∀ z ∈ scope.names, z.2 = .local → scope.names.lookup z.1 = some .local)
    (hy : env.kindOf y = some .local) (hp : (env.scope.kind == .class || (env.scope.kind == .module && env.locals != env.globals)) = false)
    (h : wpAny (model prog w) A (eval iter env) (fun xv s₁ => wpAny (model prog w) A (pyIter xv) (fun it s₂ => ∃ I fp wr n P St m, it = .ref I ∧ Src prog w A target I fp wr n P St ∧ n < 10000 ∧ St 0 s₂.heap ∧ (∀ b ∈ fp, b < s₂.heap.objs.size) ∧ (∀ b ∈ fp, s₂.heap.get? b ≠ none) ∧
      env.locals ∉ fp ∧ s₂.heap.Ns env.locals m ∧ TurnsG prog w A env scope cl target elt wr n P G s₂ ∧
      (∀ D h' tk ys, s₂.heap.get? D = none → h'.PlainList D (List.toArray ys) → ItemsG s₂.heap h' D n G ys → St (n + 1) h' →
        h'.Ns env.locals (fun z => if z = y then some (.ref D) else m z) → (∀ b o, b ≠ env.locals → b ∉ wr → s₂.heap.get? b = some o → h'.get? b = some o) → Q .next { s₂ with heap := h', toks := tk })) E s₁) E s)
    (hs : ∀ x, foldedSetIterable iter env x = pure x := by intro _; rfl) :
    wpAny (model prog w) A (exec (.Assign [.Name y py] (.ListComp elt [⟨target, iter, [], 0⟩] scope pos) spos) env) Q E s := by
  rw [exec_Assign_Name_used _ _ _ _ hsw]
  refine wpAny_bind (wpAny_standAt (wpAny_bind (wpAny_bind ?_)))
  refine wpAny_mono (comp_run (use := some (assign (.Name y py) env)) (Q := fun _ => Q .next) G hs hclos hcell hkind hnames (wpAny_mono h (fun xv s₁ x => wpAny_mono x (fun it s₂ y => ?_) fun _ _ e => e) fun _ _ e => e)) (fun _ _ q => wpAny_pure (wpAny_pure q)) fun _ _ e => e
  obtain ⟨I, fp, wr, n, P, St, m, e, W, hsz, hst, hfp, live, hL, hn, hq, hQ⟩ := y
  refine ⟨I, fp, wr, n, P, St, e, W, hsz, hst, hfp, hq, fun D C h' tk m' ys d c dc ns pl it st k => ?_⟩
  have L0 : s₂.heap.get? env.locals ≠ none := fun q => by
    obtain ⟨o, _, _, ho, _⟩ := hn
    rw [q] at ho
    cases ho
  have LC : env.locals ≠ C := fun q => L0 (q ▸ c)
  refine wpAny_assign_Name (wpAny_storeName_local hy (hn.at' fun o => k _ o fun q => hL (W.sub _ q)) (fun h2 n2 k2 => ⟨m', ns.sameBut k2 (Ne.symm LC), fun h3 k3 => ?_⟩) hp)
  have off : ∀ b o, b ≠ C → b ≠ env.locals → h'.get? b = some o → h3.get? b = some o := fun b o c1 c2 q => k3.extBut b o c1 (k2.extBut b o c2 q)
  refine hQ D h3 _ ys d (pl.at fun o => off D o dc fun q => L0 (q ▸ d)) (it.to (fun _ => .inl) fun T o f hT => off T o (fun q => hT (.inr q)) fun q => L0 (q ▸ f)) (W.frame _ _ _ st fun b hb o => off b o (fun q => live b hb (q ▸ c)) fun q => hL (q ▸ hb)) (n2.sameBut k3 LC)
    fun b o bL hb q => off b o (fun z => by rw [z, c] at q; cases q) bL (k b o hb q)

theorem Src.list (hh : A.handled = none) (target : Expr) (I ax : Addr) (hne : ax ≠ I) (items : Array Value) (ht : ∀ v, letOwnedTupleGo target (.ref I) v = pure () ∨ ∃ elts k p, target = .Tuple elts k p) :
    Src prog w A target I [I, ax] [I] items.size (fun i v _ => items[i]? = some v) (fun i h => i ≤ items.size → h.IsListIter I ax i ∧ h.IsList ax items) where
  sub := (Walks.list (prog := prog) (w := w) hh I ax hne items).sub
  frame := fun i h h' st hk hi => (Walks.list (prog := prog) (w := w) hh I ax hne items).frame i h h' (st hi) hk
  live := fun i h hi st b hb => by
    rw [List.mem_singleton] at hb
    subst hb
    obtain ⟨⟨o, e, _⟩, _⟩ := st hi
    exact ⟨o, e⟩
  item := fun i s Q E hi hs hQ => (Walks.list hh I ax hne items).item i s _ E hi (hs (Nat.le_of_lt hi)) fun v h' tk hP hS hk => by
    dsimp only
    rcases ht v with e | ⟨elts, k, p, rfl⟩
    · rw [e]; exact wpAny_pure (hQ v h' tk hP (fun _ => hS) hk)
    · cases v with
      | ref T => exact wpAny_letOwnedTupleGo_listiter hS.1 (hQ _ h' tk hP (fun _ => hS) hk)
      | _ => exact wpAny_pure (hQ _ h' tk hP (fun _ => hS) hk)
  done := fun s Q E st hQ => (Walks.list hh I ax hne items).done s Q E (st (Nat.le_refl _)) fun h' tk hk => hQ h' tk (fun h => absurd h (Nat.not_succ_le_self _)) hk
  self := fun i s Q E hi st hQ => (Walks.list hh I ax hne items).self i s Q E (st hi) hQ
end
end Mine
end
section
open PySem PySem.W PyProof.Rows PySem.Calls
set_option maxHeartbeats 8000000
namespace Mine
theorem offC4 : True := by
  w_top off
  trivial

section
variable {prog : Program} {w : World} {A : Around} {E : Value → Shared → Prop} {env : Env} {g : Heap} {L : Addr} {m : Str → Option Value} {s : Shared}

theorem assign1 {cenv : Env} {x : Str} {px : Pos} {v : Value} {Q : Unit → Shared → Prop} (F : Fr g cenv.locals s.heap m) (hx : cenv.kindOf x = some .local)
    (hp : (cenv.scope.kind == .class || (cenv.scope.kind == .module && cenv.locals != cenv.globals)) = false)
    (h : ∀ h', Fr g cenv.locals h' (fun z => if z = x then some v else m z) → Heap.SameBut cenv.locals s.heap h' → Q () { s with heap := h', toks := s.toks + 1 }) :
    wpAny (model prog w) A (assign (.Name x px) cenv v) Q E s :=
  wpAny_assign_Name (wpAny_storeName_local hx F.ns (fun h' hn hs => h h' (F.set hn hs) hs) hp)

theorem News.same {h h' : Heap} {news : List (Addr × Obj)} (N : News g L h news) (hs : Heap.SameBut L h h') : News g L h' news :=
  fun q hq => ⟨hs.extBut _ _ (N q hq).2.1 (N q hq).1, (N q hq).2⟩
theorem News.keep {h h' : Heap} {news : List (Addr × Obj)} (N : News g L h news) (hk : ∀ b o, h.get? b = some o → h'.get? b = some o) : News g L h' news :=
  fun q hq => ⟨hk _ _ (N q hq).1, (N q hq).2⟩

theorem assign2 {cenv : Env} {x y : Str} {px py pt : Pos} {k : Nat} {a b : Value} {T : Addr} {news : List (Addr × Obj)} {Q : Unit → Shared → Prop} (hh : A.handled = none) (F : Fr g cenv.locals s.heap m) (N : News g cenv.locals s.heap news) (ht : IsTup s.heap T #[a, b]) (hx : cenv.kindOf x = some .local) (hy : cenv.kindOf y = some .local)
    (hp : (cenv.scope.kind == .class || (cenv.scope.kind == .module && cenv.locals != cenv.globals)) = false)
    (h : ∀ h' tk, Fr g cenv.locals h' (fun z => if z = y then some b else if z = x then some a else m z) → News g cenv.locals h' news → (∀ b o, b ≠ cenv.locals → s.heap.get? b = some o → h'.get? b = some o) → Q () { s with heap := h', toks := tk }) :
    wpAny (model prog w) A (assign (.Tuple [.Name x px, .Name y py] k pt) cenv (.ref T)) Q E s := by
  refine assign_Tuple_tuple hh ht rfl rfl fun h₅ he => ?_
  have he' : ∀ b o, s.heap.get? b = some o → h₅.get? b = some o := fun b o e => he b o (Nat.ne_of_lt (Heap.lt_size e)) e
  refine assignInOrder_cons (assign1 (F.keeps he') hx hp fun h₆ F₆ hs₆ => ?_)
  refine assignInOrder_cons (assign1 F₆ hy hp fun h₇ F₇ hs₇ => ?_)
  refine assignInOrder_nil ?_
  exact h _ _ F₇ (News.same (News.same (News.keep N he') hs₆) hs₇) fun b o hb e => hs₇.extBut b o hb (hs₆.extBut b o hb (he' b o e))

theorem assign3 {cenv : Env} {x y z : Str} {px py pz pt : Pos} {k : Nat} {a b c : Value} {T : Addr} {news : List (Addr × Obj)} {Q : Unit → Shared → Prop} (hh : A.handled = none) (F : Fr g cenv.locals s.heap m) (N : News g cenv.locals s.heap news) (ht : IsTup s.heap T #[a, b, c]) (hx : cenv.kindOf x = some .local) (hy : cenv.kindOf y = some .local) (hz : cenv.kindOf z = some .local)
    (hp : (cenv.scope.kind == .class || (cenv.scope.kind == .module && cenv.locals != cenv.globals)) = false)
    (h : ∀ h' tk, Fr g cenv.locals h' (fun q => if q = z then some c else if q = y then some b else if q = x then some a else m q) → News g cenv.locals h' news → (∀ b o, b ≠ cenv.locals → s.heap.get? b = some o → h'.get? b = some o) → Q () { s with heap := h', toks := tk }) :
    wpAny (model prog w) A (assign (.Tuple [.Name x px, .Name y py, .Name z pz] k pt) cenv (.ref T)) Q E s := by
  refine assign_Tuple_tuple hh ht rfl rfl fun h₅ he => ?_
  have he' : ∀ b o, s.heap.get? b = some o → h₅.get? b = some o := fun b o e => he b o (Nat.ne_of_lt (Heap.lt_size e)) e
  refine assignInOrder_cons (assign1 (F.keeps he') hx hp fun h₆ F₆ hs₆ => ?_)
  refine assignInOrder_cons (assign1 F₆ hy hp fun h₇ F₇ hs₇ => ?_)
  refine assignInOrder_cons (assign1 F₇ hz hp fun h₈ F₈ hs₈ => ?_)
  refine assignInOrder_nil ?_
  exact h _ _ F₈ (News.same (News.same (News.same (News.keep N he') hs₆) hs₇) hs₈) fun b o hb e => hs₈.extBut b o hb (hs₇.extBut b o hb (hs₆.extBut b o hb (he' b o e)))

noncomputable def restOf (g h : Heap) (C : Addr) : List (Addr × Obj) :=
  (List.range h.objs.size).filterMap fun b => if b = C ∨ (g.get? b).isSome then none else (h.get? b).map fun o => (b, o)

theorem restOf_news {g h : Heap} {C : Addr} : News g C h (restOf g h C) := by
  intro q hq
  obtain ⟨b, _, hb⟩ := List.mem_filterMap.mp hq
  by_cases hc : b = C ∨ (g.get? b).isSome = true
  · rw [if_pos hc] at hb; cases hb
  · rw [if_neg hc] at hb
    obtain ⟨o, ho, rfl⟩ := Option.map_eq_some_iff.mp hb
    refine ⟨ho, fun e => hc (.inl e), ?_⟩
    cases e : g.get? b with
    | none => rfl
    | some o' => exact absurd (.inr (by rw [e]; rfl)) hc

theorem restOf_mem {g h : Heap} {C b : Addr} {o : Obj} (e : h.get? b = some o) (hb : b ≠ C) (hg : g.get? b = none) : (b, o) ∈ restOf g h C := by
  refine List.mem_filterMap.mpr ⟨b, List.mem_range.mpr (Heap.lt_size e), ?_⟩
  rw [if_neg (by rintro (h | h); exact hb h; rw [hg] at h; cases h), e]
  rfl

theorem turns_of {scope : Scope} {cl : List (Str × Addr)} {target elt : Expr} {wr : List Addr} {n : Nat} {P : Nat → Value → Heap → Prop} {G : Nat → Value → Option Obj → Prop} {s₂ : Shared}
    (h : ∀ C i v s₃ m₃ rest (E' : Value → Shared → Prop), i < n → P i v s₃.heap → s₂.heap.objs.size ≤ C → (∀ b o, b ∉ wr → s₂.heap.get? b = some o → s₃.heap.get? b = some o) → Fr (hideAll s₂.heap wr) C s₃.heap m₃ → News (hideAll s₂.heap wr) C s₃.heap rest →
      wpAny (model prog w) A (assign target (compEnvC scope cl C env) v) (fun _ s₄ => wpAny (model prog w) A (eval elt (compEnvC scope cl C env)) (fun y s₅ =>
        ∃ h₅ tk₅ m₅ news, s₅ = { s₃ with heap := h₅, toks := tk₅ } ∧ Fr (hideAll s₂.heap wr) C h₅ m₅ ∧ News (hideAll s₂.heap wr) C h₅ news ∧ (∀ q ∈ rest, q ∈ news) ∧
          (((∀ T, y ≠ .ref T) ∧ G i y none) ∨ ∃ T o, y = .ref T ∧ (T, o) ∈ news ∧ (∀ q ∈ rest, q.1 ≠ T) ∧ G i y (some o))) E' s₄) E' s₃) :
    TurnsG prog w A env scope cl target elt wr n P G s₂ := by
  intro C i v s₃ m₃ E' hi hC hP hn hk
  have up : ∀ b o, (hideAll s₂.heap wr).get? b = some o → s₃.heap.get? b = some o := fun b o e => hk b o (fun hb => by rw [hideAll_none _ hb] at e; cases e) (of_hideAll _ e)
  refine wpAny_mono (h C i v s₃ m₃ (restOf (hideAll s₂.heap wr) s₃.heap C) E' hi hP hC hk ⟨hn, up, by rw [hideAll_size]; exact hC⟩ restOf_news) (fun _ s₄ h₄ => wpAny_mono h₄ (fun y s₅ h₅ => ?_) fun _ _ e => e) fun _ _ e => e
  obtain ⟨h₅, tk₅, m₅, news, rfl, F₅, N₅, hsub, hy⟩ := h₅
  have keep : ∀ b o, b ≠ C → s₃.heap.get? b = some o → h₅.get? b = some o := fun b o hb e => by
    cases eg : (hideAll s₂.heap wr).get? b with
    | none => exact (N₅ _ (hsub _ (restOf_mem e hb eg))).1
    | some o' =>
      have e1 := up b o' eg
      rw [e] at e1
      cases e1
      exact F₅.keep b o eg
  refine ⟨h₅, tk₅, m₅, rfl, F₅.ns, keep, fun T hT => ?_, ?_⟩
  · rcases hy with ⟨h1, _⟩ | ⟨T', o, rfl, hm, hf, _⟩
    · exact absurd hT (h1 T)
    · cases hT
      obtain ⟨a1, a2, a3⟩ := N₅ _ hm
      refine ⟨?_, o, a1⟩
      cases e : s₃.heap.get? T with
      | none => rfl
      | some o' => exact absurd rfl (hf _ (restOf_mem e a2 a3))
  · rcases hy with ⟨h1, hG⟩ | ⟨T, o, rfl, hm, hf, hG⟩
    · have : objAt h₅ y = none := by
        cases y with
        | ref T => exact absurd rfl (h1 T)
        | _ => rfl
      rw [this]; exact hG
    · show G i _ (h₅.get? T)
      rw [(N₅ _ hm).1]; exact hG

noncomputable def enumP (items : Array Value) (i : Nat) (v : Value) (h : Heap) : Prop := ∃ T t x, v = .ref T ∧ items[i]? = some x ∧ IsTup h T #[.int i t, x]
noncomputable def enumSt (e it l : Addr) (items : Array Value) (i : Nat) (h : Heap) : Prop := (∃ old, IsEnum h e it i old) ∧ h.IsListIter it l i ∧ h.IsList l items

theorem Src.enum {elts : List Expr} {k : Nat} {tp : Pos} (hh : A.handled = none) (e it l : Addr) (hei : e ≠ it) (hle : l ≠ e) (hli : l ≠ it) (items : Array Value) :
    Src prog w A (.Tuple elts k tp) e [e, it, l] [e, it] items.size (enumP items) (fun i h => i ≤ items.size → enumSt e it l items i h) := by
  have W := Src.ofWalksT (elts := elts) (k := k) (tp := tp) (WalksT.enumerate (prog := prog) (w := w) (A := A) hh e it l hei hle hli items) (by
      rintro i h ⟨⟨old, h1⟩, ⟨o, h2, _⟩, _⟩ b hb
      simp only [List.mem_cons, List.not_mem_nil, or_false] at hb
      rcases hb with rfl | rfl
      · exact ⟨_, h1⟩
      · exact ⟨_, h2⟩)
  exact ⟨W.sub, W.frame, W.live, fun i s Q E hi hs hQ => W.item i s Q E hi hs fun v h' tk ⟨T, vals, e1, ⟨t, x, e2, e3⟩, e4⟩ => hQ v h' tk ⟨T, t, x, e1, e2, e3 ▸ e4⟩, W.done, W.self⟩

theorem comp_enum {l e : Addr} {items : Array Value} {E' E'' : Value → Shared → Prop} (hh : A.handled = none) (hl : s.heap.get? l = some (listOf items e))
    (h : ∀ (h2 : Heap) (I it : Addr), (∀ b o, s.heap.get? b = some o → h2.get? b = some o) → s.heap.get? I = none → s.heap.get? it = none → (∃ St : Nat → Heap → Prop, (∀ elts k tp, Src prog w A (.Tuple elts k tp) I [I, it, l] [I, it] items.size (enumP items) St) ∧ St 0 h2) → (∀ b ∈ [I, it, l], b < h2.objs.size) → (∀ b ∈ [I, it, l], h2.get? b ≠ none) → E'' (.ref I) { s with heap := h2 }) :
    wpAny (model prog w) A (call (.type "enumerate") [.ref l]) (fun xv s₁ => wpAny (model prog w) A (pyIter xv) (fun it s₂ => E'' it s₂) E' s₁) E s := by
  refine call_enumerate_1 hl fun h2 he hit hsz hk2 => ?_
  refine wpAny_pyIter_enum he ?_
  have hlt : l < s.heap.objs.size := Heap.lt_size hl
  have fresh : ∀ a, s.heap.objs.size ≤ a → s.heap.get? a = none := fun a ha => by
    cases e : s.heap.get? a with
    | none => rfl
    | some o' => exact absurd (Heap.lt_size e) (Nat.not_lt.mpr ha)
  refine h h2 _ _ hk2 (fresh _ (Nat.le_succ _)) (fresh _ (Nat.le_refl _)) ⟨_, fun _ _ _ => Src.enum hh (s.heap.objs.size + 1) s.heap.objs.size l (Nat.succ_ne_self _) (Nat.ne_of_lt (Nat.lt_succ_of_lt hlt)) (Nat.ne_of_lt hlt) items, fun _ => ⟨⟨_, he⟩, hit, ⟨_, hk2 _ _ hl, rfl, _, rfl⟩⟩⟩ ?_ ?_
  · intro b hb
    simp only [List.mem_cons, List.not_mem_nil, or_false] at hb
    rw [hsz]
    rcases hb with rfl | rfl | rfl
    · exact Nat.lt_succ_self _
    · exact Nat.lt_succ_of_lt (Nat.lt_succ_self _)
    · exact Nat.lt_succ_of_lt (Nat.lt_succ_of_lt hlt)
  · intro b hb q
    simp only [List.mem_cons, List.not_mem_nil, or_false] at hb
    rcases hb with rfl | rfl | rfl
    · rw [he] at q; cases q
    · obtain ⟨o, e1, _⟩ := hit
      rw [e1] at q; cases q
    · rw [hk2 _ _ hl] at q; cases q

theorem nameC_L {C : Addr} {scope : Scope} {cl : List (Str × Addr)} {x : Str} {px : Pos} {v : Value} {Q : Value → Shared → Prop} (F : Fr g C s.heap m) (hv : m x = some v) (h : Q v s)
    (hk : (compEnvC scope cl C env).scope.kind = .function := by rfl) (hx : (compEnvC scope cl C env).kindOf x = some .local := by rfl) (hd : (x == ("__debug__" : Str)) = false := by decide) :
    wpAny (model prog w) A (eval (.Name x px) (compEnvC scope cl C env)) Q E s := ldVarK F.ns hv h hk hx hd

theorem ground_hide {wr : List Addr} (F : Fr g L s.heap m) (hw : ∀ b ∈ wr, g.get? b = none) : ∀ b o, g.get? b = some o → (hideAll s.heap wr).get? b = some o :=
  fun b o e => hideAll_get _ (F.keep b o e) fun hb => by rw [hw b hb] at e; cases e
theorem none_of {h : Heap} {b : Addr} (F : Fr g L h m) (e : h.get? b = none) : g.get? b = none := by
  cases q : g.get? b with
  | none => rfl
  | some o => rw [F.keep b o q] at e; cases e
end
end Mine
end
section
open PySem PySem.W PyProof.Rows PySem.Calls
set_option maxHeartbeats 8000000
namespace Mine
theorem offS1 : True := by
  w_top off
  trivial

noncomputable def KGood (n : Nat) (lt : Nat → Nat → Bool) {α : Type} (Q : α → Prop) : KasT α → Prop
  | .ret a => Q a
  | .ask i j k => i < n ∧ j < n ∧ KGood n lt Q (k (lt i j))

theorem KGood.mono {n : Nat} {lt : Nat → Nat → Bool} {α : Type} {Q Q' : α → Prop} (h : ∀ a, Q a → Q' a) : ∀ {t : KasT α}, KGood n lt Q t → KGood n lt Q' t
  | .ret a, g => h a g
  | .ask _ _ _, g => ⟨g.1, g.2.1, KGood.mono h g.2.2⟩
theorem KGood.bind {n : Nat} {lt : Nat → Nat → Bool} {α β : Type} {Q : β → Prop} {f : α → KasT β} : ∀ {t : KasT α}, KGood n lt (fun a => KGood n lt Q (f a)) t → KGood n lt Q (t.bind f)
  | .ret _, g => g
  | .ask _ _ _, g => ⟨g.1, g.2.1, KGood.bind g.2.2⟩

theorem KGood.wp {n : Nat} {lt : Nat → Nat → Bool} {α : Type} {cmp : Nat → Nat → (Bool → Shared → Prop) → Shared → Prop} {Q : α → Prop} {R : α → Shared → Prop} (I : Shared → Prop)
    (hc : ∀ i j C s, i < n → j < n → I s → (∀ s', I s' → C (lt i j) s') → cmp i j C s) (hR : ∀ a s, Q a → I s → R a s) : ∀ {t : KasT α} {s : Shared}, KGood n lt Q t → I s → t.kasWp cmp R s
  | .ret a, s, g, hs => hR a s g hs
  | .ask i j k, s, g, hs => hc i j _ s g.1 g.2.1 hs fun s' hs' => KGood.wp I hc hR g.2.2 hs'

section
variable (N : Nat) (r : Nat → Nat)
noncomputable def pg (p : Array Nat) (x : Nat) : Nat := p.getD x 0
noncomputable def kst (a b : Nat) : Prop := r a < r b ∨ (r a = r b ∧ a < b)
noncomputable def kAsc (p : Array Nat) (n : Nat) : Prop := ∀ i j, i < j → j < n → kst r (pg p i) (pg p j)
structure kBase (p : Array Nat) (n : Nat) : Prop where
  size : p.size = N
  tail : ∀ x, n ≤ x → x < N → pg p x = x
  head : ∀ x, x < n → pg p x < n
  perm : p.Perm (List.toArray (List.range N))
  le : n ≤ N
end
section
variable {N : Nat} {r : Nat → Nat} {p : Array Nat} {n : Nat}
theorem pg_eq (p : Array Nat) (x : Nat) : pg p x = (p[x]?).getD 0 := by
  unfold pg; rw [Array.getD_eq_getD_getElem?]
theorem pg_rev {i j : Nat} (hj : j ≤ p.size) (x : Nat) : pg (kas_rev p i j) x = if i ≤ x ∧ x < j then pg p (i + j - 1 - x) else pg p x := by
  rw [pg_eq, pg_eq, pg_eq]
  show ((mirror p i j ((j - i) / 2))[x]?).getD 0 = _
  rw [getElem?_mirror_all hj]
  split <;> rfl
theorem pg_bubble {src d : Nat} (hs : src < p.size) (hd : d ≤ src) (x : Nat) : pg (bubble p src d) x = if x = src - d then pg p src else if src - d < x ∧ x ≤ src then pg p (x - 1) else pg p x := by
  rw [pg_eq, pg_eq, pg_eq, pg_eq, getElem?_bubble hs d hd]
  repeat' split
  all_goals rfl
theorem kBase.up (b : kBase N p n) (h : n < N) : kBase N p (n + 1) where
  size := b.size
  tail := fun x h1 h2 => b.tail x (by (first | lia | omega)) h2
  head := fun x hx => by
    rcases Nat.lt_or_ge x n with h1 | h1
    · have := b.head x h1; (first | lia | omega)
    · have e : x = n := by (first | lia | omega)
      rw [e, b.tail n (Nat.le_refl _) h]; (first | lia | omega)
  perm := b.perm
  le := h
theorem kBase.rev (b : kBase N p n) {i j : Nat} (hj : j ≤ n) : kBase N (kas_rev p i j) n where
  size := (kas_rev_size i j).trans b.size
  tail := fun x h1 h2 => by
    rw [pg_rev (by rw [b.size]; have := b.le; (first | lia | omega)), if_neg (by (first | lia | omega))]
    exact b.tail x h1 h2
  head := fun x hx => by
    rw [pg_rev (by rw [b.size]; have := b.le; (first | lia | omega))]
    split
    · exact b.head _ (by (first | lia | omega))
    · exact b.head _ hx
  perm := (mirror_perm _ _ _ _).trans b.perm
  le := b.le

theorem kasc_good : ∀ (f n : Nat), 1 ≤ n → n + f ≤ N → kBase N p n → kAsc r p n →
    KGood N (fun a b => decide (r a < r b)) (fun m => n ≤ m ∧ m ≤ n + f ∧ kBase N p m ∧ kAsc r p m ∧ (m = n + f ∨ r (pg p m) < r (pg p (m - 1)))) (kas_asc p f n)
  | 0, n, h1, hf, b, ha => ⟨Nat.le_refl _, by (first | lia | omega), b, ha, .inl rfl⟩
  | f + 1, n, h1, hf, b, ha => by
    have hn : pg p n = n := b.tail n (Nat.le_refl _) (by (first | lia | omega))
    have hm : pg p (n - 1) < n := b.head _ (by (first | lia | omega))
    refine ⟨by show pg p n < N; (first | lia | omega), by show pg p (n - 1) < N; (first | lia | omega), ?_⟩
    show KGood N _ _ (if decide (r (pg p n) < r (pg p (n - 1))) = true then _ else _)
    by_cases hc : r (pg p n) < r (pg p (n - 1))
    · rw [if_pos (decide_eq_true hc)]
      exact ⟨Nat.le_refl _, by (first | lia | omega), b, ha, .inr hc⟩
    · rw [if_neg (by simpa using hc)]
      have ha' : kAsc r p (n + 1) := fun i j hij hj => by
        rcases Nat.lt_or_ge j n with h | h
        · exact ha i j hij h
        · have e : j = n := by (first | lia | omega)
          subst e
          unfold kst
          rcases Nat.lt_or_ge i (j - 1) with h2 | h2
          · have := ha i (j - 1) h2 (by (first | lia | omega))
            unfold kst at this
            have := b.head i (by (first | lia | omega))
            (first | lia | omega)
          · have e : i = j - 1 := by (first | lia | omega)
            subst e
            (first | lia | omega)
      refine KGood.mono (fun m hm => ?_) (kasc_good f (n + 1) (by (first | lia | omega)) (by (first | lia | omega)) (b.up (by (first | lia | omega))) ha')
      obtain ⟨m1, m2, m3, m4, m5⟩ := hm
      exact ⟨by (first | lia | omega), by (first | lia | omega), m3, m4, m5.imp (fun e => by (first | lia | omega)) id⟩

structure kDesc (N : Nat) (r : Nat → Nat) (p : Array Nat) (n q : Nat) : Prop where
  hq : q + 1 ≤ n
  b : kBase N p n
  inn : ∀ i j, n - (q + 1) ≤ i → i < j → j < n → r (pg p i) = r (pg p j) ∧ pg p i < pg p j
  out : ∀ i j, i < n - (q + 1) → n - (q + 1) ≤ j → j < n → r (pg p j) < r (pg p i)
  old : ∀ i j, i < j → j < n - (q + 1) → kst r (pg p j) (pg p i)

noncomputable def kAnti (r : Nat → Nat) (p : Array Nat) (n : Nat) : Prop := ∀ i j, i < j → j < n → kst r (pg p j) (pg p i)

theorem kDesc.flip {q : Nat} (d : kDesc N r p n q) : kBase N (kas_rev p (n - (q + 1)) n) n ∧ kAnti r (kas_rev p (n - (q + 1)) n) n := by
  refine ⟨d.b.rev (Nat.le_refl _), fun i j hij hj => ?_⟩
  have hz : n ≤ p.size := by rw [d.b.size]; exact d.b.le
  have hq := d.hq
  rw [pg_rev hz, pg_rev hz]
  unfold kst
  by_cases h1 : n - (q + 1) ≤ i
  · rw [if_pos (by (first | lia | omega)), if_pos (by (first | lia | omega))]
    have := d.inn (n - (q + 1) + n - 1 - j) (n - (q + 1) + n - 1 - i) (by (first | lia | omega)) (by (first | lia | omega)) (by (first | lia | omega))
    (first | lia | omega)
  · rw [if_neg (c := n - (q + 1) ≤ i ∧ i < n) (by (first | lia | omega))]
    by_cases h2 : n - (q + 1) ≤ j
    · rw [if_pos (by (first | lia | omega))]
      have := d.out i (n - (q + 1) + n - 1 - j) (by (first | lia | omega)) (by (first | lia | omega)) (by (first | lia | omega))
      (first | lia | omega)
    · rw [if_neg (by (first | lia | omega))]
      have := d.old i j hij (by (first | lia | omega))
      unfold kst at this
      (first | lia | omega)
theorem kDesc.anti (d : kDesc N r p n 0) : kAnti r p n := fun i j hij hj => by
  have hq := d.hq
  unfold kst
  by_cases h2 : n - 1 ≤ j
  · have := d.out i j (by (first | lia | omega)) (by (first | lia | omega)) hj
    (first | lia | omega)
  · have := d.old i j hij (by (first | lia | omega))
    unfold kst at this
    (first | lia | omega)
theorem kAnti.desc (b : kBase N p n) (ha : kAnti r p n) (hn : n < N) (h : ∀ i, i < n → r (pg p n) < r (pg p i)) : kDesc N r p (n + 1) 0 where
  hq := by (first | lia | omega)
  b := b.up hn
  inn := fun i j h1 h2 h3 => by (first | lia | omega)
  out := fun i j h1 h2 h3 => by
    have : j = n := by (first | lia | omega)
    subst this
    exact h i (by (first | lia | omega))
  old := fun i j h1 h2 => ha i j h1 (by (first | lia | omega))

theorem kdesc_good : ∀ (f : Nat) (p : Array Nat) (n q : Nat), n + f ≤ N → kDesc N r p n q →
    KGood N (fun a b => decide (r a < r b)) (fun m => n ≤ m.2.1 ∧ m.2.1 ≤ n + f ∧ kDesc N r m.1 m.2.1 m.2.2) (kas_desc f p n q)
  | 0, p, n, q, hf, d => ⟨Nat.le_refl _, by show n ≤ n + 0; (first | lia | omega), d⟩
  | f + 1, p, n, q, hf, d => by
    have hq := d.hq
    have b := d.b
    have hn : pg p n = n := b.tail n (Nat.le_refl _) (by (first | lia | omega))
    have hm : pg p (n - 1) < n := b.head _ (by (first | lia | omega))
    have low : r (pg p n) < r (pg p (n - 1)) → ∀ i, i < n → r (pg p n) < r (pg p i) := fun hc i hi => by
      rcases Nat.lt_or_ge i (n - (q + 1)) with h | h
      · have := d.out i (n - 1) h (by (first | lia | omega)) (by (first | lia | omega)); (first | lia | omega)
      · rcases Nat.lt_or_ge i (n - 1) with h2 | h2
        · have := d.inn i (n - 1) h h2 (by (first | lia | omega)); (first | lia | omega)
        · have e : i = n - 1 := by (first | lia | omega)
          rw [e]; exact hc
    refine ⟨by show pg p n < N; (first | lia | omega), by show pg p (n - 1) < N; (first | lia | omega), ?_⟩
    show KGood N _ _ (if decide (r (pg p n) < r (pg p (n - 1))) = true then _ else _)
    by_cases hc : r (pg p n) < r (pg p (n - 1))
    · rw [if_pos (decide_eq_true hc)]
      by_cases h0 : q > 0
      · rw [if_pos h0]
        have fl := d.flip
        have hz : n ≤ p.size := by rw [b.size]; exact b.le
        refine KGood.mono (fun m hm => ⟨by (first | lia | omega), by (first | lia | omega), hm.2.2⟩) (kdesc_good f _ (n + 1) 0 (by (first | lia | omega)) (fl.2.desc fl.1 (by (first | lia | omega)) fun i hi => ?_))
        rw [pg_rev hz, pg_rev hz, if_neg (by (first | lia | omega))]
        split
        · exact low hc _ (by (first | lia | omega))
        · exact low hc _ hi
      · rw [if_neg h0]
        have e : q = 0 := by (first | lia | omega)
        subst e
        exact KGood.mono (fun m hm => ⟨by (first | lia | omega), by (first | lia | omega), hm.2.2⟩) (kdesc_good f _ (n + 1) 0 (by (first | lia | omega)) (d.anti.desc b (by (first | lia | omega)) (low hc)))
    · rw [if_neg (by simpa using hc)]
      refine ⟨by show pg p (n - 1) < N; (first | lia | omega), by show pg p n < N; (first | lia | omega), ?_⟩
      show KGood N _ _ (if decide (r (pg p (n - 1)) < r (pg p n)) = true then _ else _)
      by_cases hc2 : r (pg p (n - 1)) < r (pg p n)
      · rw [if_pos (decide_eq_true hc2)]
        exact ⟨Nat.le_refl _, by show n ≤ n + (f + 1); (first | lia | omega), d⟩
      · rw [if_neg (by simpa using hc2)]
        refine KGood.mono (fun m hm => ⟨by (first | lia | omega), by (first | lia | omega), hm.2.2⟩) (kdesc_good f p (n + 1) (q + 1) (by (first | lia | omega)) ⟨by (first | lia | omega), b.up (by (first | lia | omega)), fun i j h1 h2 h3 => ?_, fun i j h1 h2 h3 => ?_, fun i j h1 h2 => d.old i j h1 (by (first | lia | omega))⟩)
        · rcases Nat.lt_or_ge j n with h | h
          · exact d.inn i j (by (first | lia | omega)) h2 h
          · have e : j = n := by (first | lia | omega)
            subst e
            have hi := b.head i (by (first | lia | omega))
            rcases Nat.lt_or_ge i (j - 1) with h4 | h4
            · have := d.inn i (j - 1) (by (first | lia | omega)) h4 (by (first | lia | omega)); (first | lia | omega)
            · have e : i = j - 1 := by (first | lia | omega)
              subst e; (first | lia | omega)
        · rcases Nat.lt_or_ge j n with h | h
          · exact d.out i j (by (first | lia | omega)) (by (first | lia | omega)) h
          · have e : j = n := by (first | lia | omega)
            subst e
            have := d.out i (j - 1) (by (first | lia | omega)) (by (first | lia | omega)) (by (first | lia | omega))
            (first | lia | omega)

noncomputable def kRun (N : Nat) (r : Nat → Nat) (nrem : Nat) (m : Nat × Array Nat) : Prop := 1 ≤ m.1 ∧ m.1 ≤ nrem ∧ kBase N m.2 m.1 ∧ kAsc r m.2 m.1

theorem ktail_good {n : Nat} (h1 : 1 ≤ n) (b : kBase N p n) (ha : kAnti r p n) : KGood N (fun a b => decide (r a < r b)) (kRun N r N) (kas_tail3 n N p) := by
  have hz : n ≤ p.size := by rw [b.size]; exact b.le
  have hle := b.le
  refine KGood.bind (KGood.mono (fun m hm => ?_) (kasc_good (N - n) n h1 (by (first | lia | omega)) (b.rev (i := 0) (Nat.le_refl _)) fun i j hij hj => ?_))
  · exact ⟨by show 1 ≤ m; (first | lia | omega), by show m ≤ N; (first | lia | omega), hm.2.2.1, hm.2.2.2.1⟩
  · rw [pg_rev hz, pg_rev hz, if_pos (by (first | lia | omega)), if_pos (by (first | lia | omega))]
    exact ha _ _ (by (first | lia | omega)) (by (first | lia | omega))

theorem kdescPart_good {n : Nat} (h1 : 1 ≤ n) (hn : n < N) (d : kDesc N r p (n + 1) 0) : KGood N (fun a b => decide (r a < r b)) (kRun N r N) (kas_descPart n N p) := by
  refine KGood.bind (KGood.mono (fun m hm => ?_) (kdesc_good (N - (n + 1)) p (n + 1) 0 (by (first | lia | omega)) d))
  obtain ⟨p', m, q⟩ := m
  obtain ⟨m1, m2, d'⟩ := hm
  dsimp only at m1 m2 d' ⊢
  by_cases h0 : q > 0
  · rw [if_pos h0]
    exact ktail_good (by (first | lia | omega)) d'.flip.1 d'.flip.2
  · rw [if_neg h0]
    have e : q = 0 := by (first | lia | omega)
    subst e
    exact ktail_good (by (first | lia | omega)) d'.b d'.anti

theorem kcount_good (h1 : 1 ≤ N) (b : kBase N p 1) : KGood N (fun a b => decide (r a < r b)) (kRun N r N) (kas_count N p) := by
  refine KGood.bind (KGood.mono (fun n hn => ?_) (kasc_good (N - 1) 1 (Nat.le_refl _) (by (first | lia | omega)) b fun i j hij hj => by (first | lia | omega)))
  obtain ⟨n1, n2, b', ha, hend⟩ := hn
  by_cases he : n = N
  · rw [if_pos (by simpa using he)]
    exact ⟨n1, by show n ≤ N; (first | lia | omega), b', ha⟩
  · rw [if_neg (by simpa using he)]
    have hlt : r (pg p n) < r (pg p (n - 1)) := by
      rcases hend with h | h
      · (first | lia | omega)
      · exact h
    have hz : n ≤ p.size := by rw [b'.size]; exact b'.le
    by_cases hg : n > 1
    · rw [if_pos hg]
      have h0 := b'.head 0 (by (first | lia | omega))
      have hm := b'.head (n - 1) (by (first | lia | omega))
      refine ⟨by show pg p 0 < N; (first | lia | omega), by show pg p (n - 1) < N; (first | lia | omega), ?_⟩
      show KGood N _ _ (if decide (r (pg p 0) < r (pg p (n - 1))) = true then _ else _)
      by_cases hc : r (pg p 0) < r (pg p (n - 1))
      · rw [if_pos (decide_eq_true hc)]
        exact ⟨n1, by show n ≤ N; (first | lia | omega), b', ha⟩
      · rw [if_neg (by simpa using hc)]
        have all : ∀ i, i < n → r (pg p i) = r (pg p (n - 1)) := fun i hi => by
          have a1 : i = n - 1 ∨ kst r (pg p i) (pg p (n - 1)) := by
            rcases Nat.lt_or_ge i (n - 1) with h | h
            · exact .inr (ha i (n - 1) h (by (first | lia | omega)))
            · exact .inl (by (first | lia | omega))
          have a2 : i = 0 ∨ kst r (pg p 0) (pg p i) := by
            rcases Nat.lt_or_ge 0 i with h | h
            · exact .inr (ha 0 i h hi)
            · exact .inl (by (first | lia | omega))
          unfold kst at a1 a2
          rcases a1 with rfl | a1
          · rfl
          · rcases a2 with rfl | a2 <;> (first | lia | omega)
        refine kdescPart_good n1 (by (first | lia | omega)) (kAnti.desc (b'.rev (Nat.le_refl _)) (fun i j hij hj => ?_) (by (first | lia | omega)) fun i hi => ?_)
        · rw [pg_rev hz, pg_rev hz, if_pos (by (first | lia | omega)), if_pos (by (first | lia | omega))]
          exact ha _ _ (by (first | lia | omega)) (by (first | lia | omega))
        · rw [pg_rev hz, pg_rev hz, if_neg (by (first | lia | omega)), if_pos (by (first | lia | omega))]
          have := all (0 + n - 1 - i) (by (first | lia | omega))
          (first | lia | omega)
    · rw [if_neg hg]
      have e : n = 1 := by (first | lia | omega)
      subst e
      refine kdescPart_good n1 (by (first | lia | omega)) (kAnti.desc b' (fun i j hij hj => by (first | lia | omega)) (by (first | lia | omega)) fun i hi => ?_)
      have e : i = 0 := by (first | lia | omega)
      subst e
      exact hlt

theorem kplace_good {k : Nat} (hk : k < N) (b : kBase N p k) (ha : kAsc r p k) : ∀ (f l u : Nat), l ≤ u → u ≤ k → u ≤ l + f → (∀ x, x < l → r (pg p x) ≤ r (pg p k)) → (∀ x, u ≤ x → x < k → r (pg p k) < r (pg p x)) →
    KGood N (fun a b => decide (r a < r b)) (fun l => l ≤ k ∧ (∀ x, x < l → r (pg p x) ≤ r (pg p k)) ∧ ∀ x, l ≤ x → x < k → r (pg p k) < r (pg p x)) (kas_place p k f l u)
  | 0, l, u, h1, h2, h3, h4, h5 => ⟨by (first | lia | omega), h4, fun x hx hk => h5 x (by (first | lia | omega)) hk⟩
  | f + 1, l, u, h1, h2, h3, h4, h5 => by
    unfold kas_place
    by_cases hlu : l ≥ u
    · rw [if_pos hlu]
      exact ⟨by (first | lia | omega), h4, fun x hx hk => h5 x (by (first | lia | omega)) hk⟩
    · rw [if_neg hlu]
      have hkk : pg p k = k := b.tail k (Nat.le_refl _) hk
      have hm := b.head ((l + u) / 2) (by (first | lia | omega))
      refine ⟨by show pg p k < N; (first | lia | omega), by show pg p ((l + u) / 2) < N; (first | lia | omega), ?_⟩
      show KGood N _ _ (if decide (r (pg p k) < r (pg p ((l + u) / 2))) = true then _ else _)
      by_cases hc : r (pg p k) < r (pg p ((l + u) / 2))
      · rw [if_pos (decide_eq_true hc)]
        refine kplace_good hk b ha f l ((l + u) / 2) (by (first | lia | omega)) (by (first | lia | omega)) (by (first | lia | omega)) h4 fun x hx hxk => ?_
        rcases Nat.lt_or_ge ((l + u) / 2) x with h | h
        · have := ha _ x h hxk; unfold kst at this; (first | lia | omega)
        · have e : x = (l + u) / 2 := by (first | lia | omega)
          subst e; exact hc
      · rw [if_neg (by simpa using hc)]
        refine kplace_good hk b ha f ((l + u) / 2 + 1) u (by (first | lia | omega)) (by (first | lia | omega)) (by (first | lia | omega)) (fun x hx => ?_) h5
        rcases Nat.lt_or_ge x ((l + u) / 2) with h | h
        · have := ha x _ h (by (first | lia | omega)); unfold kst at this; (first | lia | omega)
        · have e : x = (l + u) / 2 := by (first | lia | omega)
          subst e; (first | lia | omega)

theorem kbin_good : ∀ (f : Nat) (p : Array Nat) (k : Nat), k + f = N → kBase N p k → kAsc r p k →
    KGood N (fun a b => decide (r a < r b)) (fun p' => kBase N p' N ∧ kAsc r p' N) (kas_bin f p k)
  | 0, p, k, hf, b, ha => by
    have e : k = N := by (first | lia | omega)
    subst e
    exact ⟨b, ha⟩
  | f + 1, p, k, hf, b, ha => by
    refine KGood.bind (KGood.mono (fun l hl => ?_) (kplace_good (by (first | lia | omega)) b ha k 0 k (by (first | lia | omega)) (by (first | lia | omega)) (by (first | lia | omega)) (fun x h => by (first | lia | omega)) fun x h1 h2 => by (first | lia | omega)))
    obtain ⟨l1, l2, l3⟩ := hl
    have hkN : k < N := by (first | lia | omega)
    have hkk : pg p k = k := b.tail k (Nat.le_refl _) hkN
    have hz : k < p.size := by rw [b.size]; exact hkN
    have hg := fun x => pg_bubble (p := p) hz (d := k - l) (by (first | lia | omega)) x
    refine kbin_good f _ (k + 1) (by (first | lia | omega)) ⟨(bubble_size _ _ _).trans b.size, fun x h1 h2 => ?_, fun x hx => ?_, (bubble_perm _ _ _).trans b.perm, by (first | lia | omega)⟩ fun i j hij hj => ?_
    · rw [hg, if_neg (by (first | lia | omega)), if_neg (by (first | lia | omega))]
      exact b.tail x (by (first | lia | omega)) h2
    · rw [hg]
      split
      · (first | lia | omega)
      · split
        · have := b.head (x - 1) (by (first | lia | omega)); (first | lia | omega)
        · have := b.head x (by (first | lia | omega)); (first | lia | omega)
    · rw [hg, hg]
      have e : k - (k - l) = l := by (first | lia | omega)
      rw [e]
      unfold kst
      by_cases hil : i = l
      · rw [if_pos hil, if_neg (by (first | lia | omega)), if_pos (by (first | lia | omega))]
        have := l3 (j - 1) (by (first | lia | omega)) (by (first | lia | omega))
        (first | lia | omega)
      · rw [if_neg hil]
        by_cases hjl : j = l
        · rw [if_neg (by (first | lia | omega)), if_pos hjl]
          have := l2 i (by (first | lia | omega))
          have := b.head i (by (first | lia | omega))
          (first | lia | omega)
        · rw [if_neg hjl]
          by_cases hi2 : l < i ∧ i ≤ k
          · rw [if_pos hi2, if_pos (by (first | lia | omega))]
            have := ha (i - 1) (j - 1) (by (first | lia | omega)) (by (first | lia | omega))
            unfold kst at this
            (first | lia | omega)
          · rw [if_neg hi2]
            by_cases hj2 : l < j ∧ j ≤ k
            · rw [if_pos hj2]
              have := ha i (j - 1) (by (first | lia | omega)) (by (first | lia | omega))
              unfold kst at this
              (first | lia | omega)
            · rw [if_neg hj2]
              have := ha i j hij (by (first | lia | omega))
              unfold kst at this
              (first | lia | omega)

theorem ksort_good (h1 : 1 ≤ N) : KGood N (fun a b => decide (r a < r b)) (fun p => p.size = N ∧ p.Perm (List.toArray (List.range N)) ∧ kAsc r p N) (kas_sort N) := by
  have hp : ∀ x, x < N → pg (List.toArray (List.range N)) x = x := fun x hx => by
    rw [pg_eq]
    simp [hx]
  refine KGood.bind (KGood.mono (fun m hm => ?_) (kcount_good h1 ⟨by simp, fun x _ h2 => hp x h2, fun x hx => ?_, Array.Perm.refl _, h1⟩))
  · obtain ⟨n, p⟩ := m
    obtain ⟨n1, n2, b, ha⟩ := hm
    dsimp only at n1 n2 b ha ⊢
    by_cases hlt : n < N
    · rw [if_pos hlt]
      have e : max n 1 = n := by (first | lia | omega)
      rw [e]
      exact KGood.mono (fun p' hp' => ⟨hp'.1.size, hp'.1.perm, hp'.2⟩) (kbin_good (N - n) p n (by (first | lia | omega)) b ha)
    · rw [if_neg hlt]
      have e : n = N := by (first | lia | omega)
      subst e
      exact ⟨b.size, b.perm, ha⟩
  · rw [hp x (by (first | lia | omega))]; (first | lia | omega)
end
end Mine
end
section
open PySem PySem.W PyProof.Rows PySem.Calls PySem.SeqAt
set_option maxHeartbeats 8000000
namespace Mine
theorem offS2 : True := by
  w_top off
  trivial

theorem count_lt {p q : Nat → Bool} : ∀ {l : List Nat} {x : Nat}, (∀ c ∈ l, p c = true → q c = true) → x ∈ l → q x = true → p x = false → l.countP p < l.countP q
  | c :: l, x, h, hx, h1, h2 => by
    rw [List.countP_cons, List.countP_cons]
    have hl : l.countP p ≤ l.countP q := List.countP_mono_left fun c hc => h c (.tail _ hc)
    rcases List.mem_cons.mp hx with rfl | hx
    · rw [h1, h2]; simp; (first | lia | omega)
    · have := count_lt (fun c hc => h c (.tail _ hc)) hx h1 h2
      have h3 := h c (.head _)
      cases hp : p c with
      | false => simp; (first | lia | omega)
      | true => rw [h3 hp]; simp; (first | lia | omega)

theorem rank_ex (n : Nat) (lt : Nat → Nat → Bool) (irr : ∀ a, a < n → lt a a = false) (tr : ∀ a b c, a < n → b < n → c < n → lt a b = true → lt b c = true → lt a c = true) (ntr : ∀ a b c, a < n → b < n → c < n → lt a c = true → lt a b = true ∨ lt b c = true) :
    ∃ r : Nat → Nat, ∀ a b, a < n → b < n → lt a b = decide (r a < r b) := by
  refine ⟨fun a => (List.range n).countP fun b => lt b a, fun a b ha hb => ?_⟩
  cases h : lt a b with
  | true =>
    refine (decide_eq_true (count_lt (x := a) (fun c hc e => tr c a b (List.mem_range.mp hc) ha hb e h) (List.mem_range.mpr ha) h (irr a ha))).symm
  | false =>
    refine (decide_eq_false (Nat.not_lt.mpr (List.countP_mono_left fun c hc e => ?_))).symm
    rcases ntr c a b (List.mem_range.mp hc) ha hb e with e | e
    · exact e
    · rw [h] at e; cases e

theorem kd_irr : ∀ k : KD, k.lt k = false
  | .i a => by simp [KD.lt]
  | .s a => by simp [KD.lt, List.lt_irrefl]
theorem kd_tri : ∀ {a b : KD}, a.like b = true → a = b ∨ a.lt b = true ∨ b.lt a = true
  | .i a, .i b, _ => by
    rcases Int.lt_trichotomy a b with h | h | h
    · exact .inr (.inl (by simp [KD.lt, h]))
    · exact .inl (by rw [h])
    · exact .inr (.inr (by simp [KD.lt, h]))
  | .s a, .s b, _ => by
    rcases Decidable.em (a.cps.toList < b.cps.toList) with h | h
    · exact .inr (.inl (by simp [KD.lt, h]))
    · rcases Decidable.em (b.cps.toList < a.cps.toList) with h2 | h2
      · exact .inr (.inr (by simp [KD.lt, h2]))
      · refine .inl ?_
        have e := List.le_antisymm h2 h
        have e2 : a.cps = b.cps := Array.toList_inj.mp e
        cases a; cases b
        cases e2
        rfl
theorem kd_tr : ∀ {a b c : KD}, a.lt b = true → b.lt c = true → a.lt c = true
  | .i a, .i b, .i c, h, h' => by simp [KD.lt] at *; (first | lia | omega)
  | .s a, .s b, .s c, h, h' => by
    simp only [KD.lt, decide_eq_true_eq] at *
    exact List.lt_trans h h'
  | .i _, .s _, _, h, _ => by cases h
  | .s _, .i _, _, h, _ => by cases h
  | .i _, .i _, .s _, _, h => by cases h
  | .s _, .s _, .i _, _, h => by cases h
theorem kd_as {a b : KD} (h : a.lt b = true) : b.lt a = false := by
  cases e : b.lt a with
  | false => rfl
  | true => have := kd_tr h e; rw [kd_irr] at this; cases this
theorem kd_ne {a b : KD} (h : a.lt b = true) : a ≠ b := fun e => by rw [e, kd_irr] at h; cases h
theorem kd_like_tr : ∀ {a b c : KD}, a.like b = true → b.like c = true → a.like c = true
  | .i _, .i _, .i _, _, _ => rfl
  | .s _, .s _, .s _, _, _ => rfl

theorem lex_irr : ∀ ks : List KD, lexKD ks ks = false
  | [] => rfl
  | a :: r => by rw [lexKD, if_pos rfl]; exact lex_irr r
theorem lex_tri : ∀ {ks ls : List KD}, likeKD ks ls = true → ks = ls ∨ lexKD ks ls = true ∨ lexKD ls ks = true
  | [], [], _ => .inl rfl
  | a :: r, b :: q, h => by
    rw [likeKD, Bool.and_eq_true] at h
    rw [lexKD, lexKD]
    rcases kd_tri h.1 with e | e | e
    · subst e
      rw [if_pos rfl, if_pos rfl]
      rcases lex_tri h.2 with e | e | e
      · exact .inl (by rw [e])
      · exact .inr (.inl e)
      · exact .inr (.inr e)
    · rw [if_neg (kd_ne e)]; exact .inr (.inl e)
    · rw [if_neg (kd_ne e)]; exact .inr (.inr e)
theorem lex_tr : ∀ {ks ls ms : List KD}, lexKD ks ls = true → lexKD ls ms = true → lexKD ks ms = true
  | a :: r, b :: q, c :: t, h, h' => by
    rw [lexKD] at *
    by_cases e1 : a = b
    · subst e1
      rw [if_pos rfl] at h
      by_cases e2 : a = c
      · rw [if_pos e2] at h' ⊢; exact lex_tr h h'
      · rw [if_neg e2] at h' ⊢; exact h'
    · rw [if_neg e1] at h
      by_cases e2 : b = c
      · subst e2
        rw [if_neg e1]; exact h
      · rw [if_neg e2] at h'
        have := kd_tr h h'
        rw [if_neg (kd_ne this)]; exact this
  | [], _, _, h, _ => by simp [lexKD] at h
  | _ :: _, [], _, h, _ => by simp [lexKD] at h
  | _ :: _, _ :: _, [], _, h => by simp [lexKD] at h
theorem lex_as {ks ls : List KD} (h : lexKD ks ls = true) : lexKD ls ks = false := by
  cases e : lexKD ls ks with
  | false => rfl
  | true => have := lex_tr h e; rw [lex_irr] at this; cases this

theorem lex_rank (n : Nat) (ks : Nat → List KD) (hl : ∀ i j, i < n → j < n → likeKD (ks i) (ks j) = true) : ∃ r : Nat → Nat, ∀ a b, a < n → b < n → lexKD (ks a) (ks b) = decide (r a < r b) := by
  refine rank_ex n (fun a b => lexKD (ks a) (ks b)) (fun a _ => lex_irr _) (fun a b c _ _ _ h h' => lex_tr h h') fun a b c ha hb hc h => ?_
  rcases lex_tri (hl a b ha hb) with e | e | e
  · exact .inr (e ▸ h)
  · exact .inl e
  · exact .inr (lex_tr e h)

section
variable {prog : Program} {w : World} {A : Around} {E : Value → Shared → Prop} {s : Shared}
theorem kat_lex_kd {Q : Bool → Shared → Prop} : ∀ {ks ls : List KD} {vs us : List Value} (i : Nat), KDs ks vs → KDs ls us → likeKD ks ls = true → Q (lexKD ks ls) s → KatLex prog w A true false Q (vs.zip us) i s
  | [], [], _, _, _, .nil, .nil, _, hq => kat_nil hq
  | k :: ks, l :: ls, _, _, i, .cons hk hks, .cons hl hls, hlike, hq => by
    rw [likeKD, Bool.and_eq_true] at hlike
    refine kat_cons (kd_eqAt hk hl hlike.1 prog w _ _ ?_)
    rw [lexKD] at hq
    by_cases e : k = l
    · rw [decide_eq_true e]
      rw [if_pos e] at hq
      exact kat_yes (kat_lex_kd (i + 1) hks hls hlike.2 hq)
    · rw [decide_eq_false e]
      rw [if_neg e] at hq
      refine kat_no ?_
      cases i with
      | zero =>
        show wpAny (model prog w) A (oneLt' true _ _) Q _ s
        cases k with
        | i a =>
          cases l with
          | i b =>
            obtain ⟨t, rfl⟩ := hk
            obtain ⟨t', rfl⟩ := hl
            exact oneLt_int hq
          | s y => cases hlike.1
        | s x =>
          cases l with
          | i b => cases hlike.1
          | s y =>
            obtain ⟨t, rfl⟩ := hk
            obtain ⟨t', rfl⟩ := hl
            exact oneLt_str hq
      | succ i =>
        show wpAny (model prog w) A (oneLt' false _ _) Q _ s
        exact kat_one _ _ (show wpAny (model prog w) A (richCompare .Lt _ _) (PySem.W.BoolBack Q) _ s from kd_ltAt hk hl hlike.1 hq)

theorem keyLt_KT {Q : Bool → Shared → Prop} {v u : Value} {ks ls : List KD} (hv : IsKT s.heap v ks) (hu : IsKT s.heap u ls) (hl : likeKD ks ls = true) (hq : Q (lexKD ks ls) s) : wpAny (model prog w) A (keyLt' (tuples' true) v u) Q E s := by
  obtain ⟨a, vs, n, rfl, ha, hk⟩ := hv
  obtain ⟨b, us, n', rfl, hb, hk'⟩ := hu
  have e1 := hk.length
  have e2 := hk'.length
  have e3 := likeKD_length hl
  refine kat_lt ha rfl hb rfl ?_
  have hd : decide (vs.toArray.size < us.toArray.size) = false := by simp only [List.size_toArray, decide_eq_false_iff_not]; (first | lia | omega)
  rw [hd]
  exact kat_lex_kd 0 hk hk' hl hq

theorem kats {h : Heap} {ks : Nat → List KD} : ∀ (vs : List Value) (o : Nat), (∀ j v, vs[j]? = some v → IsKT h v (ks (o + j))) → (∀ j, j < vs.length → ks (o + j) ≠ []) → ∃ fs : List Value, KatTups h vs fs ∧ fs.length = vs.length ∧ ∀ j f, fs[j]? = some f → ∃ k, (ks (o + j)).head? = some k ∧ k.Is f
  | [], o, _, _ => ⟨[], .nil, rfl, fun j f h => by simp at h⟩
  | v :: vs, o, hk, hne => by
    obtain ⟨fs, h1, h2, h3⟩ := kats vs (o + 1) (fun j v hv => by have := hk (j + 1) v hv; rwa [show o + (j + 1) = o + 1 + j by (first | lia | omega)] at this) fun j hj => by have := hne (j + 1) (by simpa using hj); rwa [show o + (j + 1) = o + 1 + j by (first | lia | omega)] at this
    obtain ⟨a, us, n, rfl, ha, hkd⟩ := hk 0 v rfl
    have hn0 := hne 0 (by simp)
    rw [Nat.add_zero] at hkd hn0
    generalize hks : ks o = kk at hkd hn0
    cases hkd with
    | nil => exact absurd rfl hn0
    | @cons k kr f fr hf hr =>
      refine ⟨f :: fs, KatTups.cons ha rfl rfl (by simp) h1, by simp [h2], fun j f' hj => ?_⟩
      cases j with
      | zero =>
        simp only [List.getElem?_cons_zero, Option.some.injEq] at hj
        subst hj
        exact ⟨k, by rw [Nat.add_zero, hks]; rfl, hf⟩
      | succ j =>
        have := h3 j f' (by simpa using hj)
        rwa [show o + 1 + j = o + (j + 1) by (first | lia | omega)] at this

theorem kind_KT {vs : List Value} {ks : Nat → List KD} {Q : SortKind → Shared → Prop} (h2 : 2 ≤ vs.length) (hk : ∀ j v, vs[j]? = some v → IsKT s.heap v (ks j)) (hne : ∀ j, j < vs.length → ks j ≠ []) (hl : ∀ i j, i < vs.length → j < vs.length → likeKD (ks i) (ks j) = true)
    (h : Q (tuples' true) s) : wpAny (model prog w) A (keyKind' vs.toArray) Q E s := by
  obtain ⟨fs, k1, k2, k3⟩ := kats vs 0 (fun j v hv => by rw [Nat.zero_add]; exact hk j v hv) fun j hj => by rw [Nat.zero_add]; exact hne j hj
  have h0 : 0 < fs.length := by (first | lia | omega)
  obtain ⟨k, hk0, hf0⟩ := k3 0 _ (List.getElem?_eq_getElem h0)
  have like0 : ∀ j f, fs[j]? = some f → ∃ k', k.like k' = true ∧ k'.Is f := fun j f hj => by
    obtain ⟨k', e1, e2⟩ := k3 j f hj
    have hjl : j < fs.length := (List.getElem?_eq_some_iff.mp hj).1
    have := hl 0 j (by (first | lia | omega)) (by (first | lia | omega))
    rw [Nat.zero_add] at hk0 e1
    cases e : ks 0 with
    | nil => rw [e] at hk0; cases hk0
    | cons a r =>
      cases e' : ks j with
      | nil => rw [e'] at e1; cases e1
      | cons b q =>
        rw [e] at hk0 this
        rw [e'] at e1 this
        simp only [List.head?_cons, Option.some.injEq] at hk0 e1
        subst hk0 e1
        rw [likeKD, Bool.and_eq_true] at this
        exact ⟨_, this.1, e2⟩
  cases k with
  | i n =>
    refine kat_kind (T := .type "int") k1 h0 (fun v hv => ?_) (by decide) (by rw [show (Value.type "int" != Value.type "tuple") = true by decide]; exact h)
    obtain ⟨j, hj, rfl⟩ := List.getElem_of_mem hv
    obtain ⟨k', e1, e2⟩ := like0 j _ (List.getElem?_eq_getElem hj)
    cases k' with
    | i n =>
      obtain ⟨t, e⟩ := e2
      rw [e]
      exact Looks.of_pure rfl
    | s x => cases e1
  | s x =>
    refine kat_kind (T := .type "str") k1 h0 (fun v hv => ?_) (by decide) (by rw [show (Value.type "str" != Value.type "tuple") = true by decide]; exact h)
    obtain ⟨j, hj, rfl⟩ := List.getElem_of_mem hv
    obtain ⟨k', e1, e2⟩ := like0 j _ (List.getElem?_eq_getElem hj)
    cases k' with
    | i n => cases e1
    | s x =>
      obtain ⟨t, e⟩ := e2
      rw [e]
      exact Looks.of_pure rfl

noncomputable def SortedBy (ks : Nat → List KD) (n : Nat) (p : List Nat) : Prop := p.Perm (List.range n) ∧ p.Pairwise fun x y => lexKD (ks y) (ks x) = false

theorem pair_of {r : Nat → Nat} {ks : Nat → List KD} {n : Nat} {p : Array Nat} (hr : ∀ a b, a < n → b < n → lexKD (ks a) (ks b) = decide (r a < r b)) (h1 : p.size = n) (h2 : p.Perm (List.toArray (List.range n))) (h3 : kAsc r p n) : SortedBy ks n p.toList := by
  have hp : p.toList.Perm (List.range n) := Array.perm_iff_toList_perm.mp h2
  refine ⟨hp, List.pairwise_iff_getElem.mpr fun i j hi hj hij => ?_⟩
  have hi' : i < p.size := by simpa using hi
  have hj' : j < p.size := by simpa using hj
  have e1 : pg p i = p[i] := by rw [pg_eq]; simp [hi']
  have e2 : pg p j = p[j] := by rw [pg_eq]; simp [hj']
  have mem : ∀ k (hk : k < p.toList.length), p.toList[k] < n := fun k hk => List.mem_range.mp (hp.mem_iff.mp (List.getElem_mem hk))
  have := h3 i j hij (by (first | lia | omega))
  unfold kst at this
  rw [e1, e2] at this
  rw [hr _ _ (mem j hj) (mem i hi)]
  simp only [Array.getElem_toList, decide_eq_false_iff_not]
  (first | lia | omega)
end
end Mine
end
section
open PySem PySem.W PyProof.Rows PySem.Calls PySem.SeqAt
set_option maxHeartbeats 8000000
namespace Mine
theorem offS3 : True := by
  w_top off
  trivial

noncomputable def nilHeap : Heap := { (default : Heap) with objs := #[] }
theorem nil_get (b : Addr) : nilHeap.get? b = none := rfl

section
variable {prog : Program} {w : World} {A : Around} {E : Value → Shared → Prop} {s : Shared} {L a : Addr} {m : Str → Option Value} {vs : List Value} {e : Nat} {ks : Nat → List KD}

noncomputable def othersOf (h : Heap) (L a : Addr) : List (Addr × Obj) := (restOf nilHeap h L).filter fun q => decide (q.1 ≠ a)
theorem others_news {h : Heap} : News nilHeap L h (othersOf h L a) := fun q hq => restOf_news q (List.mem_filter.mp hq).1
theorem others_ne {h : Heap} : ∀ q ∈ othersOf h L a, q.1 ≠ a := fun q hq => by simpa using (List.mem_filter.mp hq).2
theorem others_mem {h : Heap} {b : Addr} {o : Obj} (ho : h.get? b = some o) (h1 : b ≠ L) (h2 : b ≠ a) : (b, o) ∈ othersOf h L a :=
  List.mem_filter.mpr ⟨restOf_mem ho h1 (nil_get b), by simpa using h2⟩
theorem nil_fr {h : Heap} (hn : h.Ns L m) : Fr nilHeap L h m := ⟨hn, (fun b o e => by rw [nil_get] at e; cases e), Nat.zero_le _⟩

theorem ns_not_tup {h : Heap} (hn : h.Ns L m) {b : Addr} {us : List Value} {n : Nat} (ho : h.get? b = some (seqObj "tuple" (List.toArray us) n)) : b ≠ L := fun q => by
  obtain ⟨o, es, ep, h1, h2, _⟩ := hn
  rw [← q, ho] at h1
  cases h1
  cases h2

theorem IsKT.moved {h h' : Heap} {v : Value} {ks : List KD} {e : Nat} {us : List Value} (hn : h.Ns L m) (ha : h.get? a = some (listOf (List.toArray us) e)) (x : IsKT h v ks) (k : ∀ b o, b ≠ a → b ≠ L → h.get? b = some o → h'.get? b = some o) : IsKT h' v ks := by
  obtain ⟨b, us', n, rfl, ho, r⟩ := x
  refine ⟨b, us', n, rfl, k b _ (fun q => ?_) (ns_not_tup hn ho) ho, r⟩
  rw [q, ha] at ho
  exact absurd (Value.type.inj (congrArg Obj.cls (Option.some.inj ho))) (by decide)

theorem kas_run_KT {s' : Shared} {h' : Heap} {R : Array Nat → Shared → Prop} (hs : s' = { s with heap := h' }) (h2 : 2 ≤ vs.length) (hk : ∀ j v, vs[j]? = some v → IsKT h' v (ks j)) (hl : ∀ i j, i < vs.length → j < vs.length → likeKD (ks i) (ks j) = true)
    (h : ∀ p : Array Nat, SortedBy ks vs.length p.toList → R p { s with heap := h' }) : (kas_sort vs.length).kasWp (kas_ask prog w A (tuples' true) vs) R s' := by
  obtain ⟨r, hr⟩ := lex_rank vs.length ks hl
  refine KGood.wp (I := fun s' => s' = { s with heap := h' }) (fun i j C s1 hi hj hs1 hC => ?_) (fun p s1 hp hs1 => ?_) (ksort_good (N := vs.length) (r := r) (by (first | lia | omega))) hs
  · subst hs1
    have e1 : vs.getD i Value.none = vs[i] := by simp [hi]
    have e2 : vs.getD j Value.none = vs[j] := by simp [hj]
    show wpAny (model prog w) A (keyLt' (tuples' true) (vs.getD i Value.none) (vs.getD j Value.none)) C _ _
    rw [e1, e2]
    refine keyLt_KT (hk i _ (List.getElem?_eq_getElem hi)) (hk j _ (List.getElem?_eq_getElem hj)) (hl i j hi hj) ?_
    have := hC { s with heap := h' } rfl
    rwa [← hr i j hi hj] at this
  · subst hs1
    exact h p (pair_of hr hp.1 hp.2.1 hp.2.2)

theorem lsort_ok {Q : Value → Shared → Prop} (hn : s.heap.Ns L m) (ho : s.heap.get? a = some (listOf vs.toArray e)) (haL : a ≠ L) (h2 : 2 ≤ vs.length) (h64 : vs.length < 64)
    (hk : ∀ j v, vs[j]? = some v → IsKT s.heap v (ks j)) (hne : ∀ j, j < vs.length → ks j ≠ []) (hl : ∀ i j, i < vs.length → j < vs.length → likeKD (ks i) (ks j) = true)
    (h : ∀ p c h', SortedBy ks vs.length p → h'.Ns L m → h'.get? a = some (listOf (List.toArray (p.map fun i => vs.getD i Value.none)) c) → (∀ b o, b ≠ a → b ≠ L → s.heap.get? b = some o → h'.get? b = some o) → Q .none { s with heap := h' }) :
    wpAny (model prog w) A (call (.builtin "list.sort") [.ref a]) Q E s := by
  refine wpAny_call_entry slot_list_sort ⟨_, ho, rfl⟩ entry_list_sort (kat_list_sort (news := othersOf s.heap L a) (nil_fr hn) others_news ho haL (nil_get a) others_ne h2 h64 fun e1 h' F' N' => ?_) (args_list_sort _)
  have up : ∀ b o, b ≠ a → b ≠ L → s.heap.get? b = some o → h'.get? b = some o := fun b o h1 h2 e => (N' _ (.tail _ (others_mem e h2 h1))).1
  have hk' : ∀ j v, vs[j]? = some v → IsKT h' v (ks j) := fun j v hv => (hk j v hv).moved hn ho up
  refine kind_KT (s := { s with heap := h' }) h2 hk' hne hl ?_
  refine kas_run_KT (s := s) rfl h2 hk' hl fun p hp => ?_
  refine KasFin.intro F' N' (.head others_ne) fun h3 c F3 N3 => ?_
  exact ⟨_, rfl, h p.toList c h3 hp F3.ns (N3 _ (.head _)).1 fun b o h1 h2 e => (N3 _ (.tail _ (others_mem e h2 h1))).1⟩

theorem sorted_ok {Q : Value → Shared → Prop} (hn : s.heap.Ns L m) (ho : s.heap.get? a = some (listOf vs.toArray e)) (h2 : 2 ≤ vs.length) (h64 : vs.length < 64)
    (hk : ∀ j v, vs[j]? = some v → IsKT s.heap v (ks j)) (hne : ∀ j, j < vs.length → ks j ≠ []) (hl : ∀ i j, i < vs.length → j < vs.length → likeKD (ks i) (ks j) = true)
    (h : ∀ p D c h', SortedBy ks vs.length p → h'.Ns L m → s.heap.get? D = none → h'.get? D = some (listOf (List.toArray (p.map fun i => vs.getD i Value.none)) c) → (∀ b o, b ≠ L → s.heap.get? b = some o → h'.get? b = some o) → Q (.ref D) { s with heap := h' }) :
    wpAny (model prog w) A (call (.builtin "sorted") [.ref a]) Q E s := by
  refine kat_sorted (news := restOf nilHeap s.heap L) (nil_fr hn) restOf_news ⟨_, ho, rfl, _, rfl⟩ h2 h64 fun D e1 h' F' N' hD => ?_
  have mem : ∀ {b o}, s.heap.get? b = some o → b ≠ L → (b, o) ∈ restOf nilHeap s.heap L := fun e h1 => restOf_mem e h1 (nil_get _)
  have up : ∀ b o, b ≠ L → s.heap.get? b = some o → h'.get? b = some o := fun b o h1 e => (N' _ (.tail _ (mem e h1))).1
  have hk' : ∀ j v, vs[j]? = some v → IsKT h' v (ks j) := fun j v hv => (hk j v hv).moved hn ho fun b o _ h2 e => up b o h2 e
  refine kind_KT (s := { s with heap := h' }) h2 hk' hne hl ?_
  refine kas_run_KT (s := s) rfl h2 hk' hl fun p hp => ?_
  refine KasFin.intro F' N' (.head fun q hq => Nat.ne_of_lt (hD q hq)) fun h3 c F3 N3 => ?_
  refine h p.toList D c h3 hp F3.ns ?_ (N3 _ (.head _)).1 fun b o h1 e => (N3 _ (.tail _ (mem e h1))).1
  cases q : s.heap.get? D with
  | none => rfl
  | some o => exact absurd (hD _ (mem q (N' _ (.head _)).2.1)) (Nat.lt_irrefl _)

theorem rev_sort {P : PySem.Fin → Shared → Prop} (ho : s.heap.get? a = some (listOf vs.toArray e)) (h2 : 2 ≤ vs.length) (h64 : vs.length < 64)
    (h : ∀ h1 e1, h1.get? a = some (listOf #[] e1) → (∀ b o, b ≠ a → s.heap.get? b = some o → h1.get? b = some o) →
      wpAny (model prog w) A (keyKind' vs.toArray) (fun κ s' => (kas_sort vs.reverse.length).kasWp (kas_ask prog w A κ vs.reverse) (fun p s'' => s'' = { s with heap := h1 } ∧
        ∀ h3 c, h3.get? a = some (listOf (List.toArray (p.toList.map fun i => vs.reverse.getD i Value.none).reverse) c) → Heap.SameBut a h1 h3 → P (.done (.ret .none)) { s with heap := h3 }) s') (fun _ _ => False) { s with heap := h1 }) :
    wpAny (model prog w) A (Builtin.«list.sort» ⟨[.ref a], [(Str.ofString "reverse", .bool true)]⟩) P E s := by
  have big : ∀ k, k < 64 → k ≤ sizeLine := fun k hk => by rw [sizeLine_eq]; (first | lia | omega)
  have hv : vs.reverse.length = vs.length := List.length_reverse
  obtain ⟨e1, g1⟩ : ∃ e1, (s.heap.update a (Obj.mapSeq fun _ => (#[] : Array Value))).get? a = some (listOf #[] e1) := ⟨_, get?_update_seq ho fun _ => #[]⟩
  have ask := h (((s.heap.update a (Obj.mapSeq fun _ => (#[] : Array Value))).push (seqObj "tuple" vs.toArray 0)).push (seqObj "list" #[] 0)) e1 (Heap.get?_push_of_some _ (Heap.get?_push_of_some _ g1))
    fun b o hb q => Heap.get?_push_of_some _ (Heap.get?_push_of_some _ ((Heap.SameBut.update s.heap a _).extBut b o hb q))
  have gh := Heap.get?_push_of_some (seqObj "list" #[] 0) (Heap.get?_push_of_some (seqObj "tuple" vs.toArray 0) g1)
  rw [list_sort_rev a true]
  refine wpAny_bind (listItems_at ho rfl (wpAny_bind (listUpdate_at ho rfl (wpAny_bind (seqEpoch_at g1 rfl (wpAny_bind (wpAny_newTuple (wpAny_bind (wpAny_newList (wpAny_holding ?_) (Nat.zero_le _))) (big _ h64))))) (big _ h64) (Nat.zero_le _))))
  dsimp only
  have nlt : ¬ vs.toArray.size < 2 := Nat.not_lt.mpr h2
  rw [if_neg nlt, if_neg nlt]
  rw [if_pos rfl]
  refine wpAny_bind (wpAny_rule (wpAny_bind (wpAny_mono ask (fun κ s0 hk => ?_) fun _ _ x => x.elim)))
  rw [show (if true = true then (vs.toArray.zip vs.toArray).reverse else vs.toArray.zip vs.toArray) = (List.toArray vs.reverse).zip (List.toArray vs.reverse) from kat_pairs (ks := vs) (vs := vs) true rfl]
  refine wpAny_bind (wpAny_mono (kat_run (ks := vs.reverse) (vs := vs.reverse) (Q := fun st s'' => ∃ p : Array Nat, p.size = vs.length ∧ (arrOf st).map (·.2) = List.toArray (p.toList.map fun i => vs.reverse.getD i Value.none) ∧ failedOf st = none ∧ _)
    rfl (by (first | lia | omega)) (by (first | lia | omega)) (fun p st s'' q1 q2 q3 q4 => ⟨p, q1.trans hv, kat_snds rfl q2, q3, q4⟩) hk) ?_ fun _ _ x => x)
  rintro ⟨⟨⟩, st⟩ s'' ⟨p, hp, out, nf, rfl, fin⟩
  dsimp only
  have outR : (if true = true then (Array.map (fun x => x.2) (arrOf st)).reverse else Array.map (fun x => x.2) (arrOf st)) = List.toArray (p.toList.map fun i => vs.reverse.getD i Value.none).reverse := by rw [if_pos rfl, out, List.reverse_toArray]
  rw [outR]
  refine wpAny_bind (seqEpoch_at gh rfl (wpAny_bind (listUpdate_at gh rfl ?_ (Nat.zero_le _) (Nat.le_succ_of_le (big _ (by rw [List.size_toArray, List.length_reverse, List.length_map, Array.length_toList, hp]; exact h64))))))
  rw [nf]
  simp only [bne_self_eq_false, Bool.false_eq_true, if_false]
  exact wpAny_pure (fin _ _ (get?_update_seq gh _) (Heap.SameBut.update ..))

noncomputable def FallsBy (ks : Nat → List KD) (n : Nat) (p : List Nat) : Prop := p.Perm (List.range n) ∧ p.Pairwise fun x y => lexKD (ks x) (ks y) = false

theorem flip_perm {n : Nat} : ((List.range n).map fun x => n - 1 - x).Perm (List.range n) := by
  rw [List.perm_iff_count]
  intro b
  have e : (List.range n).map (fun x => n - 1 - x) = (List.range n).reverse := by
    apply List.ext_getElem
    · simp
    · intro i h1 h2
      simp only [List.getElem_map, List.getElem_range, List.getElem_reverse, List.length_range]
  rw [e, List.count_reverse]

theorem falls_of {n : Nat} {p : List Nat} (h : SortedBy (fun j => ks (n - 1 - j)) n p) : FallsBy ks n (p.map fun x => n - 1 - x).reverse := by
  refine ⟨(List.reverse_perm _).trans ((h.1.map _).trans flip_perm), ?_⟩
  rw [List.pairwise_reverse, List.pairwise_map]
  exact h.2

theorem lsort_rev_ok {Q : Value → Shared → Prop} (hn : s.heap.Ns L m) (ho : s.heap.get? a = some (listOf vs.toArray e)) (haL : a ≠ L) (h2 : 2 ≤ vs.length) (h64 : vs.length < 64)
    (hk : ∀ j v, vs[j]? = some v → IsKT s.heap v (ks j)) (hne : ∀ j, j < vs.length → ks j ≠ []) (hl : ∀ i j, i < vs.length → j < vs.length → likeKD (ks i) (ks j) = true)
    (h : ∀ p c h', FallsBy ks vs.length p → h'.Ns L m → h'.get? a = some (listOf (List.toArray (p.map fun i => vs.getD i Value.none)) c) → (∀ b o, b ≠ a → b ≠ L → s.heap.get? b = some o → h'.get? b = some o) → Q .none { s with heap := h' }) :
    wpAny (model prog w) A (call (.builtin "list.sort") [.ref a] [(Str.ofString "reverse", .bool true)]) Q E s := by
  refine wpAny_call_entry_kw slot_list_sort ⟨_, ho, rfl⟩ entry_list_sort (rev_sort ho h2 h64 fun h' e1 ge k' => ?_) (args_list_sort_rev _ _)
  have up : ∀ b o, b ≠ a → b ≠ L → s.heap.get? b = some o → h'.get? b = some o := fun b o h1 _ e => k' b o h1 e
  have hk' : ∀ j v, vs[j]? = some v → IsKT h' v (ks j) := fun j v hv => (hk j v hv).moved hn ho up
  refine kind_KT (s := { s with heap := h' }) h2 hk' hne hl ?_
  have hlr : vs.reverse.length = vs.length := List.length_reverse
  have hget : ∀ j, j < vs.length → vs.reverse.getD j Value.none = vs.getD (vs.length - 1 - j) Value.none := fun j hj => by
    rw [List.getD_eq_getElem?_getD, List.getD_eq_getElem?_getD, List.getElem?_reverse hj]
  refine kas_run_KT (s := s) (ks := fun j => ks (vs.length - 1 - j)) rfl (by (first | lia | omega)) (fun j v hv => ?_) (fun i j hi hj => hl _ _ (by (first | lia | omega)) (by (first | lia | omega))) fun p hp => ?_
  · have hj : j < vs.length := by
      have := (List.getElem?_eq_some_iff.mp hv).1
      (first | lia | omega)
    rw [List.getElem?_reverse hj] at hv
    exact hk' _ v hv
  · rw [hlr] at hp
    refine ⟨rfl, fun h3 c e0 k3 => ⟨_, rfl, h _ c h3 (falls_of hp) (hn.at' fun o q => k3.extBut _ _ (Ne.symm haL) (k' _ o (Ne.symm haL) q)) ?_ fun b o h1 _ q => k3.extBut _ _ h1 (k' b o h1 q)⟩⟩
    rw [e0]
    have e1 : (p.toList.map fun i => vs.reverse.getD i Value.none).reverse = ((p.toList.map fun x => vs.length - 1 - x).reverse).map fun i => vs.getD i Value.none := by
      rw [List.map_reverse, List.map_map]
      congr 1
      refine List.map_congr_left fun x hx => ?_
      exact hget x (List.mem_range.mp (hp.1.mem_iff.mp hx))
    rw [e1]
end
end Mine
end
section
open PySem PySem.W PyProof.Rows PySem.Calls Mine
local macro_rules | `(tactic| walk_at "eval Name") => `(tactic| (k_here; (with_reducible show wpAny _ _ (eval (Expr.Name _ _) (compEnvC _ _ _ _)) _ _ _); k_dflt (refine' nameC_L ?F ?v ?_ ?a ?b; (case F => k_asm); (case a => rfl); (case b => rfl); (case v => first | exact rfl | with_reducible assumption | assumption); k_whole)))
local macro_rules | `(tactic| walk_at "eval Name") => `(tactic| (k_here; (fail_if_success (with_reducible show wpAny _ _ (eval (Expr.Name _ _) (compEnvC _ _ _ _)) _ _ _)); k_dflt (refine' nameX_L ?F ?v ?_ ?a ?b; (case F => k_asm); (case a => rfl); (case b => rfl); (case v => first | with_reducible assumption | assumption); k_whole)))
section
open PySem PySem.W PyProof.Rows PySem.Calls
set_option maxHeartbeats 8000000
namespace Mine
theorem offD4 : True := by
  w_top off
  trivial
theorem fillD4 (w : World) (x : OpenLaw) (h : PySem.Challenge.rw_ij0057_01 = x) : (Mine.frag.heap_1 w.params) = (Mine.frag.heap_1 w.params) ∧ PySem.Challenge.rw_ij0057_01 = x := by
  k_fill
  exact ⟨rfl, h⟩

noncomputable def lawRead (rs : List Nat) : Int := (rs.zipIdx.map fun p => (p.1 : Int) * 16 ^ (5 - p.2)).sum

theorem ints_get : ∀ {vs : List Value} {ns : List Int} {i : Nat} {x : Value}, IntsAre vs ns → vs[i]? = some x → ∃ n t, ns[i]? = some n ∧ x = .int n t
  | _, _, _, _, .nil, h => by simp at h
  | _, _, 0, _, .cons k t _, h => by
    simp at h
    exact ⟨k, t, rfl, h.symm⟩
  | _, _, i + 1, _, .cons k t r, h => by
    simp at h
    obtain ⟨n, u, h1, h2⟩ := ints_get r h
    exact ⟨n, u, by simpa using h1, h2⟩
theorem ints_at {vs : List Value} {rs : List Nat} {i : Nat} {x : Value} (hI : IntsAre vs (rs.map Int.ofNat)) (hx : vs[i]? = some x) : ∃ t', x = .int ((rs.getD i 0 : Nat) : Int) t' := by
  obtain ⟨n, t, h1, h2⟩ := ints_get hI hx
  refine ⟨t, ?_⟩
  rw [List.getElem?_map] at h1
  obtain ⟨r, h3, h4⟩ := Option.map_eq_some_iff.mp h1
  rw [h2, List.getD_eq_getElem?_getD, h3, ← h4]
  rfl
theorem ints_of : ∀ {vs : List Value} {ns : List Int}, vs.length = ns.length → (∀ (j : Nat) y, vs[j]? = some y → ∃ t, y = .int (ns.getD j 0) t) → IntsAre vs ns
  | [], [], _, _ => .nil
  | v :: vs, n :: ns, hl, h => by
    obtain ⟨t, e⟩ := h 0 v rfl
    subst e
    refine .cons n t (ints_of (by simpa using hl) fun j y hy => ?_)
    exact h (j + 1) y hy
  | [], _ :: _, hl, _ => by simp at hl
  | _ :: _, [], hl, _ => by simp at hl

section
variable {w : World} {A : Around} {p : Program} {loose : List Str} {mean : ExcName → Option Value} {mg mb : Str → Option Value} {s : Shared}
theorem read_ok {Q : Value → Shared → Prop} {E : Value → Shared → Prop} (X : (Mine.frag.heap_1 w.params).In s.heap) (T : Top p loose mean mg mb s.heap) (hh : A.handled = none) {rs : List Nat} {vs : List Value} {D e : Nat} (hD : s.heap.get? D = some (listOf vs.toArray e)) (hI : IntsAre vs (rs.map Int.ofNat)) (hl : rs.length ≤ 6) (hr : ∀ r ∈ rs, r < 100) (hroom : A.depth + 3 < recursionLimit) (hu : A.units + 100 < cLine)
    (h : ∀ h'' tk t', (∀ b o, s.heap.get? b = some o → h''.get? b = some o) → Q (.int (lawRead rs) t') { s with heap := h'', toks := tk }) :
    wpAny (model PySem.Challenge.rw_ij0057_01.row.prog w) A (call (.ref 200) [.ref D]) Q E s := by
  refine wpAny_call ?_
  refine' callQ (binds := [("ranks", .ref D)]) X T ?ho ?hcd (by (first | lia | omega)) ?hbind ?hloc ?h ?c2 ?c3 ?c4 ?c5
  case ho => k_is
  case hcd => k_is
  case hbind => exact BindsTo.of_eq rfl
  case hloc => exact locs rfl
  case c2 => exact rfl
  case c3 => exact rfl
  case c4 => exact rfl
  case c5 => decide
  case h =>
    intro L' h₁ hLL F'
    have N' : News s.heap L' h₁ [] := fun q hq => nomatch hq
    k_unmd
    k_fold
    dsimp only [List.length_cons, List.length_nil]
    (repeat' ((fail_if_success k_end); (fail_if_success (with_reducible show wpAny _ _ (exec (Stmt.While _ _ _ _) _) _ _ _)); (fail_if_success (with_reducible show wpAny _ _ (call (Value.ref _) _ _) _ _ _)); (fail_if_success (with_reducible show wpAny _ _ (eval (Expr.ListComp _ _ _ _) _) _ _ _)); first | walk1 | (dsimp only; walk1)))
    have hhd : (A.deeper (envOf (Str.ofString "_law_read") { kind := .function, names := [], isGenerator := false, isCoroutine := false } L' 200 (Value.ref 199))).handled = none := hh
    have hlen := hI.length
    rw [List.length_map] at hlen
    refine' eval_comp (cl := []) (G := fun j y _ => ∃ t, y = .int ((rs.getD j 0 : Int) * 16 ^ (5 - j)) t) ?k1 ?k2 ?k3 ?k4 ?_
    case k1 => exact rfl
    case k2 => decide
    case k3 => exact rfl
    case k4 => decide
    (repeat' ((fail_if_success k_end); (fail_if_success (with_reducible show wpAny _ _ (exec (Stmt.While _ _ _ _) _) _ _ _)); (fail_if_success (with_reducible show wpAny _ _ (call (Value.ref _) _ _) _ _ _)); (fail_if_success (with_reducible show wpAny _ _ (eval (Expr.ListComp _ _ _ _) _) _ _ _)); first | walk1 | (dsimp only; walk1)))
    refine comp_enum hh (F'.keep _ _ hD) fun h2 I it hk2 hI0 hit0 ⟨St, W, hSt⟩ hfp hfp2 => ?_
    refine ⟨_, _, _, _, _, _, rfl, W _ _ _, ?n, hSt, hfp, hfp2, turns_of ?turn, ?done⟩
    case n => rw [List.size_toArray]; (first | lia | omega)
    case turn =>
      rintro C i v ⟨h3, gs3, dr3, tk3, os3⟩ m3 rest E' hi ⟨T', t, x, rfl, hx, hT⟩ hC hk F3 N3
      dsimp only at hT F3 N3 hk
      rw [List.size_toArray] at hi
      obtain ⟨t', rfl⟩ := ints_at hI (by simpa using hx)
      refine assign2 hh F3 N3 hT rfl rfl rfl fun h4 tk4 F4 N4 hk4 => ?_
      dsimp only
      clear F' N'
      (repeat' ((fail_if_success k_end); (fail_if_success (with_reducible show wpAny _ _ (exec (Stmt.While _ _ _ _) _) _ _ _)); (fail_if_success (with_reducible show wpAny _ _ (call (Value.ref _) _ _) _ _ _)); (fail_if_success (with_reducible show wpAny _ _ (eval (Expr.ListComp _ _ _ _) _) _ _ _)); first | walk1 | (dsimp only; walk1)))
      have hrg : ((rs.getD i 0 : Nat) : Int) < 100 := by
        have := hr _ (List.getElem_mem (l := rs) (n := i) (by (first | lia | omega)))
        rw [List.getD_eq_getElem?_getD, List.getElem?_eq_getElem (by (first | lia | omega))]
        simp only [Option.getD_some]
        (first | lia | omega)
      refine mul_int ?_ (.of_left (intBits_le_64 (by (first | lia | omega)) (by (first | lia | omega))))
      dsimp only
      refine ⟨_, _, _, _, rfl, F4, N4, fun q hq => hq, .inl ⟨(fun T h => nomatch h), ?_⟩⟩
      have e5 : ((5 : Int) - i).toNat = 5 - i := by (first | lia | omega)
      rw [e5]
      exact ⟨_, rfl⟩
    case done =>
      intro E2 h3 tk3 ys hE hpl hG _ hk3
      obtain ⟨e3, hpl⟩ := hpl
      obtain ⟨hyl, hys⟩ := hG
      rw [List.size_toArray] at hyl
      have hLI : L' ≠ I ∧ L' ≠ it := by
        obtain ⟨o, _, _, ho, _⟩ := F'.ns
        exact ⟨(fun q => by rw [q] at ho; rw [hI0] at ho; cases ho), (fun q => by rw [q] at ho; rw [hit0] at ho; cases ho)⟩
      have F2 := F'.keeps hk2
      have F3 := fr_wr F2 hk3 (by simp only [List.mem_cons, List.not_mem_nil, or_false, not_or]; exact hLI) (by
        simp only [List.mem_cons, List.not_mem_nil, or_false]
        rintro b (rfl | rfl)
        · exact none_of F' hI0
        · exact none_of F' hit0)
      have hE1 : h₁.get? E2 = none := by
        cases q : h₁.get? E2 with
        | none => rfl
        | some o => rw [hk2 _ _ q] at hE; cases hE
      have N3 : News s.heap L' h3 [(E2, listOf ys.toArray e3)] := fun q hq => by
        rw [List.mem_singleton.mp hq]
        refine ⟨hpl, fun q => ?_, none_of F' hE1⟩
        obtain ⟨o, _, _, ho, _⟩ := F'.ns
        rw [← q, hE1] at ho; cases ho
      have hIy : IntsAre ys (rs.zipIdx.map fun p => (p.1 : Int) * 16 ^ (5 - p.2)) := by
        refine ints_of (by rw [hyl, List.length_map, List.length_zipIdx, hlen]) fun j y hy => ?_
        obtain ⟨_, t, hj⟩ := hys j y hy
        refine ⟨t, ?_⟩
        rw [hj, List.getD_eq_getElem?_getD, List.getD_eq_getElem?_getD, List.getElem?_map, List.getElem?_zipIdx]
        have : j < rs.length := by
          rw [← hlen, ← hyl]
          exact (List.getElem?_eq_some_iff.mp hy).1
        rw [List.getElem?_eq_getElem this]
        simp
      clear F' N' F2 hys
      dsimp only
      (repeat' ((fail_if_success k_end); (fail_if_success (with_reducible show wpAny _ _ (exec (Stmt.While _ _ _ _) _) _ _ _)); (fail_if_success (with_reducible show wpAny _ _ (call (Value.ref _) _ _) _ _ _)); (fail_if_success (with_reducible show wpAny _ _ (eval (Expr.ListComp _ _ _ _) _) _ _ _)); first | walk1 | (dsimp only; walk1)))
      refine sumK hh F3 N3 ⟨_, hpl, rfl, _, rfl⟩ hIy fun h4 tk4 t4 F4 N4 => ?_
      exact ⟨_, F4, fun hk => h _ _ _ hk⟩
end
end Mine
end
end
section
open PySem PySem.W PyProof.Rows PySem.Calls
set_option maxHeartbeats 8000000
namespace Mine
theorem offN1 : True := by
  w_top off
  trivial
section
variable {w : World} {A₀ A : Around} {base h₀ : Heap} {outer : List Env} {env : Env} {L : Addr} {m : Str → Option Value}
  {p : Program} {loose : List Str} {mean : ExcName → Option Value} {mg mb : Str → Option Value} {s : Shared}
  {R : Result → Shared → Prop} {name qual : Str} {params : Arguments} {body : List Stmt} {scope : Scope} {dV kV doc pm cdv ct oc : Value}
  {an od : Option Addr} {osl : Array (Option Value)} {f : Addr} {args : Args} {binds : List (Str × Value)} {muts : List (Addr × Obj)}

theorem hide_none {h : Heap} {xs : List Addr} {b : Addr} (e : h.get? b = none) : (hideAll h xs).get? b = none :=
  Option.eq_none_iff_forall_ne_some.mpr fun o q => by rw [of_hideAll _ q] at e; cases e

theorem callMC2 (c : Cx w A₀ A base h₀ outer env L s.heap m p loose mean mg mb) (N : News h₀ L s.heap muts)
    (ho : (Mine.frag.heap_1 w.params).lookup f = some ⟨oc, od, .func (fnOf name qual params body scope dV kV doc pm an cdv ct), osl⟩) (hcd : codeIn (Mine.frag.heap_1 w.params) cdv qual = true) (hroom : A.depth < recursionLimit)
    (hbind : BindsTo s (fnOf name qual params body scope dV kV doc pm an cdv ct) args binds) (hkind : (binds.all fun y => scope.names.lookup y.1 == some .local || scope.names.lookup y.1 == some .cell) = true)
    (hnd : ((cellsFrom 0 scope.names []).map (·.1)).Nodup)
    (h : ∀ g L' h₁ tk cells, s.heap.objs.size ≤ L' → Fr g L' h₁ (bindL (envOfC qual scope L' f cdv).kindOf binds fun _ => none) → News g L' h₁ (cells ++ muts) →
      CellsAre (bindC (envOfC qual scope L' f cdv).kindOf binds fun _ => none) (cellsFrom (L' + 1) scope.names []) cells → Below A base (env :: outer) g → (Mine.frag.heap_1 w.params).In g → Top p loose mean mg mb g →
      (∀ b o, b ∉ muts.map (·.1) → s.heap.get? b = some o → g.get? b = some o) → (∀ b o, g.get? b = some o → s.heap.get? b = some o) → (∀ q ∈ muts, q.1 < L') →
      wpAny (model PySem.Challenge.rw_ij0057_01.row.prog w) (A.deeper (envOfC qual scope L' f cdv)) (execs body (envOfC qual scope L' f cdv))
        (fun fl s' => R (.ok (.ret (match fl with | .ret v => v | _ => .none))) s')
        (fun _ _ => False)
        { s with heap := h₁, toks := tk })
    (hco : scope.isCoroutine = false) (hgen : scope.isGenerator = false) (hk : scope.kind = .function) : codeAny (model PySem.Challenge.rw_ij0057_01.row.prog w) A (.call (.ref f) args) R s := by
  obtain ⟨-, BG, st, -⟩ := groundX (R := R) c.B c.F N c.hA c.hf c.hk
  have X0 := c.X.keeps c.F.keep
  refine codeAny_call_function hroom (X0 _ _ ho) rfl hco hgen rfl (codeRec_of X0 hcd) (hbind _ _ _ _ (wpAny_newFunctionEnv_cells hk (kindsX hkind _) fun env' he s' x => ?_))
  subst he
  have up := x.toInCall.keep
  refine ⟨(c.T.nolimit.keeps c.F.keep).keeps up, codeAny_func ?_⟩
  obtain ⟨h₁, tk, rfl, -⟩ := x.done
  have nd : (List.map Prod.fst (cellsFrom (s.heap.objs.size + 1) scope.names [])).Nodup := cellsFrom_names scope.names 0 (s.heap.objs.size + 1) [] [] rfl ▸ hnd
  obtain ⟨cells, new, Y⟩ := Cl.news (h₀ := s.heap) (Nat.le_refl _) fun n c hm => ⟨x.cell n c (lookup_of_mem_nodup nd hm), x.above n c hm⟩
  exact wpAny_mono (h _ s.heap.objs.size h₁ tk cells (Nat.le_refl _) ⟨x.toInCall.ns, fun b o e => up b o (of_hideAll _ e), Nat.le_of_eq (hideAll_size _ _)⟩
    (fun p hp => (List.mem_append.mp hp).elim (fun q => ⟨(new p q).1, (new p q).2.1, hide_none (new p q).2.2⟩) fun q => ⟨up _ _ (N p q).1, Nat.ne_of_lt (Heap.lt_size (N p q).1), hideAll_none _ (List.mem_map_of_mem q)⟩)
    Y BG (c.X.keeps st) (c.T.keeps st) (fun b o hb e => hideAll_get _ e hb) (fun b o e => of_hideAll _ e) fun p hp => Heap.lt_size (N p hp).1) (fun _ _ q => q) fun _ _ q => q.elim

theorem callMC (c : Cx w A₀ A base h₀ outer env L s.heap m p loose mean mg mb) (N : News h₀ L s.heap muts)
    (ho : (Mine.frag.heap_1 w.params).lookup f = some ⟨oc, od, .func (fnOf name qual params body scope dV kV doc pm an cdv ct), osl⟩) (hcd : codeIn (Mine.frag.heap_1 w.params) cdv qual = true) (hroom : A.depth < recursionLimit)
    (hbind : BindsTo s (fnOf name qual params body scope dV kV doc pm an cdv ct) args binds) (hkind : (binds.all fun y => scope.names.lookup y.1 == some .local || scope.names.lookup y.1 == some .cell) = true)
    (hnd : ((cellsFrom 0 scope.names []).map (·.1)).Nodup)
    (h : ∀ g L' h₁ tk cells, s.heap.objs.size ≤ L' → Fr g L' h₁ (bindL (envOfC qual scope L' f cdv).kindOf binds fun _ => none) → News g L' h₁ (cells ++ muts) →
      CellsAre (bindC (envOfC qual scope L' f cdv).kindOf binds fun _ => none) (cellsFrom (L' + 1) scope.names []) cells → Below A base (env :: outer) g → (Mine.frag.heap_1 w.params).In g → Top p loose mean mg mb g →
      (∀ b o, b ∉ muts.map (·.1) → s.heap.get? b = some o → g.get? b = some o) → (∀ b o, g.get? b = some o → s.heap.get? b = some o) → (∀ q ∈ muts, q.1 < L') →
      wpAny (model PySem.Challenge.rw_ij0057_01.row.prog w) (A.deeper (envOfC qual scope L' f cdv)) (execs body (envOfC qual scope L' f cdv))
        (fun fl s' => ∃ m', Fr g L' s'.heap m' ∧ ((∀ b o, b ∉ muts.map (·.1) → s.heap.get? b = some o → s'.heap.get? b = some o) → R (.ok (.ret (match fl with | .ret v => v | _ => .none))) s'))
        (fun _ _ => False)
        { s with heap := h₁, toks := tk })
    (hco : scope.isCoroutine = false) (hgen : scope.isGenerator = false) (hk : scope.kind = .function) : codeAny (model PySem.Challenge.rw_ij0057_01.row.prog w) A (.call (.ref f) args) R s := by
  exact callMC2 c N ho hcd hroom hbind hkind hnd (fun g L' h₁ tk cells q1 q2 q3 q4 q5 q6 q7 q8 q9 q10 => wpAny_mono (h g L' h₁ tk cells q1 q2 q3 q4 q5 q6 q7 q8 q9 q10) (fun fl s' ⟨m', F', k⟩ => k fun b o hb e => F'.keep b o (q8 b o hb e)) fun _ _ y => y) hco hgen hk
end
end Mine
end
section
open PySem PySem.W PyProof.Rows PySem.Calls
set_option maxHeartbeats 8000000
namespace Mine
theorem offM1 : True := by
  w_top off
  trivial

noncomputable def slt (a b : Str) : Bool := decide (a.cps.toList < b.cps.toList)

noncomputable abbrev Bst := Value × Str × Tok
noncomputable def bstL : Option Bst → Array Value
  | none => #[]
  | some o => #[o.1, .str o.2.1 o.2.2]
noncomputable def bstN (bt : Str → Str → Bool) : Option Bst → Bst → Bst
  | none, n => n
  | some o, n => if bt n.2.1 o.2.1 then n else o

theorem bstL_size : ∀ o, (bstL o).size ≤ sizeLine
  | none => Nat.zero_le _
  | some _ => by show 2 ≤ sizeLine; rw [sizeLine_eq]; omega

theorem best_turn : ∃ F : String → CmpOp → Builtin, Builtin.«min.loop» = F "min" .Lt ∧ Builtin.«max.loop» = F "max" .Gt ∧
    ∀ (nm : String) (op : CmpOp) (bt : Str → Str → Bool) (prog : Program) (w : World) (A : Around) (E : Value → Shared → Prop) (P : PySem.Fin → Shared → Prop) (s : Shared) (I q S : Addr) (d : Value) (c : Nat) (old : Option Bst),
      (∀ a b t u (Q E : Value → Shared → Prop) s', Q (.bool (bt a b)) s' → wpAny (model prog w) A (richCompare op (.str a t) (.str b u)) Q E s') →
      s.heap.get? S = some (seqObj "list" (bstL old) c) →
      wpAny (model prog w) A (pyNext (.ref I)) (fun r s1 => s1.heap.get? S = some (seqObj "list" (bstL old) c) ∧ match r with
        | none => ∃ o, old = some o ∧ ∀ h2, Heap.SameBut S s1.heap h2 → P (.done (.ret o.1)) { s1 with heap := h2 }
        | some v => wpAny (model prog w) A (call (.ref q) [v]) (fun x s2 => ∃ k t, x = .str k t ∧ s2.heap.get? S = some (seqObj "list" (bstL old) c) ∧
            ∀ h3 c3, Heap.SameBut S s2.heap h3 → h3.get? S = some (seqObj "list" (bstL (some (bstN bt old (v, k, t)))) c3) →
              P (.again (.builtin (toString nm ++ toString ".loop") ⟨[.ref I, .ref q, .ref S], [(Str.ofString "default", d)]⟩)) { s2 with heap := h3 }) (fun _ _ => False) s1) (fun _ _ => False) s →
      wpAny (model prog w) A (F nm op ⟨[.ref I, .ref q, .ref S], [(Str.ofString "default", d)]⟩) P E s := by
  refine ⟨_, rfl, rfl, fun nm op bt prog w A E P s I q S d c old cmp hS H => ?_⟩
  show wpAny _ _ (seqItems? (.ref S) >>= _) _ _ _
  refine wpAny_bind (wpAny_seqItems hS rfl ?_)
  show wpAny _ _ (tryCatch (pyNext (.ref I)) _ >>= _) _ _ _
  refine wpAny_bind (wpAny_tryCatch (wpAny_mono H (fun r s1 x => ?_) fun _ _ f => f.elim))
  obtain ⟨g1, x⟩ := x
  cases r with
  | none =>
    obtain ⟨o, rfl, fin⟩ := x
    show wpAny _ _ (updateSeq S (fun _ => #[]) >>= _) _ _ _
    exact wpAny_bind (wpAny_updateSeq (hz := bstL_size _) g1 rfl (wpAny_bind (wpAny_letGo (wpAny_pure (fin _ (Heap.SameBut.update ..))))))
  | some v =>
    show wpAny _ _ (tryCatch (holding [v] (call (.ref q) [v])) _ >>= _) _ _ _
    refine wpAny_bind (wpAny_tryCatch (wpAny_holding (wpAny_mono x (fun kv s2 y => ?_) fun _ _ f => f.elim)))
    obtain ⟨k, t, rfl, g2, fin⟩ := y
    cases old with
    | none =>
      show wpAny _ _ (updateSeq S (fun _ => #[v, .str k t]) >>= _) _ _ _
      exact wpAny_bind (wpAny_updateSeq g2 rfl (wpAny_pure (fin _ _ (Heap.SameBut.update ..) (get?_update_seq g2 _))))
    | some o =>
      show wpAny _ _ (tryCatch (holding [v, .str k t] (richCompare op (.str k t) (.str o.2.1 o.2.2) >>= _)) _ >>= _) _ _ _
      refine wpAny_bind (wpAny_tryCatch (wpAny_holding (wpAny_bind (cmp _ _ _ _ _ _ _ (wpAny_bind (wpAny_holding (wpAny_truthy_bool (wpAny_bind (wpAny_letGo (wpAny_pure ?_))))))))))
      by_cases b : bt k o.2.1 = true
      · rw [if_pos b]
        have e : bstN bt (some o) (v, k, t) = (v, k, t) := if_pos b
        rw [e] at fin
        exact wpAny_bind (wpAny_updateSeq (hz := bstL_size _) g2 rfl (wpAny_bind (wpAny_letGo (wpAny_pure (fin _ _ (Heap.SameBut.update ..) (get?_update_seq g2 _))))))
      · rw [if_neg b]
        have e : bstN bt (some o) (v, k, t) = o := if_neg b
        rw [e] at fin
        exact wpAny_bind (wpAny_letGo (wpAny_pure (fin _ _ (Heap.SameBut.refl ..) g2)))

theorem best_enter : ∃ F : String → Builtin, Builtin.«min» = F "min" ∧ Builtin.«max» = F "max" ∧
    ∀ (nm : String) (prog : Program) (w : World) (A : Around) (E : Value → Shared → Prop) (P : PySem.Fin → Shared → Prop) (s : Shared) (I q l : Addr) (i : Nat) (d : Value), s.heap.IsListIter I l i →
      P (.again (.builtin (toString nm ++ toString ".loop") ⟨[.ref I, .ref q, .ref s.heap.objs.size], [(Str.ofString "default", d)]⟩)) { s with heap := s.heap.push (seqObj "list" #[] 0) } →
      wpAny (model prog w) A (F nm ⟨[.ref I], [(Str.ofString "default", d), (Str.ofString "key", .ref q)]⟩) P E s := by
  refine ⟨_, rfl, rfl, fun nm prog w A E P s I q l i d hI h => ?_⟩
  show wpAny _ _ (Builtin.Builtins.bindParams nm ["key", "default"] 0 ⟨[], [(Str.ofString "default", d), (Str.ofString "key", .ref q)]⟩ >>= _) _ _ s
  refine wpAny_bind (wpAny_of_eq (a := [some (.ref q), some d]) rfl (wpAny_bind (wpAny_pure (wpAny_bind (wpAny_pyIter_listiter hI (wpAny_bind (wpAny_newList (wpAny_pure ?_) (Nat.zero_le _))))))))
  exact h

structure Best (w : World) (id lid : String) (bt : Str → Str → Bool) : Prop where
  kind : builtinKind id = none
  plain : plainId id = true
  quiet : ∀ a, (Code.builtin lid a).quiet = true
  args : ∀ a v u, argsOk id ⟨[a], [(Str.ofString "default", v), (Str.ofString "key", u)]⟩
  enter : ∃ b, entryFor table id = some b ∧ ∀ (A : Around) (E : Value → Shared → Prop) (P : PySem.Fin → Shared → Prop) (s : Shared) (I q l : Addr) (i : Nat) (d : Value), s.heap.IsListIter I l i →
      P (.again (.builtin lid ⟨[.ref I, .ref q, .ref s.heap.objs.size], [(Str.ofString "default", d)]⟩)) { s with heap := s.heap.push (seqObj "list" #[] 0) } → wpAny (model PySem.Challenge.rw_ij0057_01.row.prog w) A (b ⟨[.ref I], [(Str.ofString "default", d), (Str.ofString "key", .ref q)]⟩) P E s
  turn : ∀ (A : Around) (R : Result → Shared → Prop) (s : Shared) (I q S : Addr) (d : Value) (c : Nat) (old : Option Bst), s.heap.get? S = some (seqObj "list" (bstL old) c) →
      wpAny (model PySem.Challenge.rw_ij0057_01.row.prog w) A.in1 (pyNext (.ref I)) (fun r s1 => s1.heap.get? S = some (seqObj "list" (bstL old) c) ∧ match r with
        | none => ∃ o, old = some o ∧ ∀ h2, Heap.SameBut S s1.heap h2 → R (.ok (.ret o.1)) { s1 with heap := h2 }
        | some v => wpAny (model PySem.Challenge.rw_ij0057_01.row.prog w) A.in1 (call (.ref q) [v]) (fun x s2 => ∃ k t, x = .str k t ∧ s2.heap.get? S = some (seqObj "list" (bstL old) c) ∧
            ∀ h3 c3, Heap.SameBut S s2.heap h3 → h3.get? S = some (seqObj "list" (bstL (some (bstN bt old (v, k, t)))) c3) →
              codeAny (model PySem.Challenge.rw_ij0057_01.row.prog w) A (.builtin lid ⟨[.ref I, .ref q, .ref S], [(Str.ofString "default", d)]⟩) R { s2 with heap := h3 }) (fun _ _ => False) s1) (fun _ _ => False) s →
      codeAny (model PySem.Challenge.rw_ij0057_01.row.prog w) A (.builtin lid ⟨[.ref I, .ref q, .ref S], [(Str.ofString "default", d)]⟩) R s
  as : ∀ {a b}, bt a b = true → bt b a = false
  tr : ∀ {a b x}, bt b a = true → bt x a = false → bt b x = true

theorem best_min (w : World) : Best w "min" "min.loop" slt where
  kind := PySem.F.kind_min
  plain := PySem.F.plain_min
  quiet := plainId_quiet PySem.F.plain_min_loop
  args := fun a v u => by unfold argsOk; kernel_rfl
  enter := by
    obtain ⟨F, e, -, h⟩ := best_enter
    exact ⟨_, PySem.F.entry_min, fun A E P s I q l i d hI hP => by rw [e]; exact h "min" _ w A E P s I q l i d hI hP⟩
  turn := fun A R s I q S d c old hS H => by
    obtain ⟨F, e, -, h⟩ := best_turn
    refine codeAny_builtin PySem.F.entry_min_loop ?_
    rw [Around.under_plainId PySem.F.plain_min_loop _, e]
    exact h "min" .Lt slt _ w _ _ _ s I q S d c old (fun a b t u Q E s' x => lt_str x) hS (wpAny_mono H (fun r s1 x => ⟨x.1, by
      obtain ⟨x1, x2⟩ := x
      cases r with
      | none => exact x2
      | some v => exact wpAny_mono x2 (fun kv s2 ⟨k, t, y1, y2, y3⟩ => ⟨k, t, y1, y2, fun h3 c3 z1 z2 => ⟨plainId_quiet PySem.F.plain_min_loop _, y3 h3 c3 z1 z2⟩⟩) fun _ _ f => f⟩) fun _ _ f => f)
  as := fun h => kd_as (a := .s _) (b := .s _) h
  tr := fun {a b x} h hx => by
    rcases kd_tri (a := .s x) (b := .s a) rfl with e | e | e
    · rw [KD.s.inj e]; exact h
    · exact absurd e (by rw [show (KD.s x).lt (.s a) = false from hx]; decide)
    · exact kd_tr (a := .s b) (b := .s a) (c := .s x) h e

noncomputable def BestAt (bt : Str → Str → Bool) (K : Nat → Str) (vs : List Value) (k : Nat) : Option Bst → Prop
  | none => k = 0
  | some o => ∃ i, vs[i]? = some o.1 ∧ o.2.1 = K i ∧ i < k ∧ ∀ j, j < k → (j < i → bt (K i) (K j) = true) ∧ bt (K j) (K i) = false

section
variable {w : World} {id lid : String} {bt : Str → Str → Bool} {A : Around} {E : Value → Shared → Prop} {s : Shared} {l I S : Addr} {q : Addr} {d : Value} {vs : List Value} {R : Result → Shared → Prop} {Q : Value → Shared → Prop} {hb : Heap} {K : Nat → Str}

theorem Best.next (T : Best w id lid bt) {k : Nat} {v : Value} {t : Tok} {old : Option Bst} (h : BestAt bt K vs k old) (hv : vs[k]? = some v) : BestAt bt K vs (k + 1) (some (bstN bt old (v, K k, t))) := by
  have irr : ∀ a, bt a a = false := fun a => by
    cases e : bt a a with
    | false => rfl
    | true => exact (T.as e).symm.trans e |>.symm
  cases old with
  | none =>
    have h0 : k = 0 := h
    refine ⟨k, hv, rfl, Nat.lt_succ_self _, fun j hj => ⟨fun x => absurd x (by omega), ?_⟩⟩
    rw [show j = k by omega]
    exact irr _
  | some o =>
    obtain ⟨i, h1, h2, h3, h4⟩ := h
    by_cases b : bt (K k) o.2.1 = true
    · rw [show bstN bt (some o) (v, K k, t) = (v, K k, t) from if_pos b]
      rw [h2] at b
      refine ⟨k, hv, rfl, Nat.lt_succ_self _, fun j hj => ?_⟩
      rcases Nat.lt_or_ge j k with x | x
      · have y := T.tr b (h4 j x).2
        exact ⟨fun _ => y, T.as y⟩
      · rw [show j = k by omega]
        exact ⟨fun z => absurd z (Nat.lt_irrefl _), irr _⟩
    · rw [show bstN bt (some o) (v, K k, t) = o from if_neg b]
      rw [h2] at b
      refine ⟨i, h1, h2, Nat.lt_succ_of_lt h3, fun j hj => ?_⟩
      rcases Nat.lt_or_ge j k with x | x
      · exact h4 j x
      · rw [show j = k by omega]
        exact ⟨fun z => absurd z (by omega), by simpa using b⟩

theorem Best.loop (T : Best w id lid bt) (hh : A.handled = none) (hlI : l ≠ I) (hSI : S ≠ I) (hbI : hb.get? I = none) (hbS : hb.get? S = none) (hl : hb.IsList l vs.toArray) (h0 : 0 < vs.length)
    (hd : A.in1.depth + 10 < recursionLimit) (hu : A.in1.units + 100 < cLine) (hK : ∀ j v, vs[j]? = some v → KeyOk w hb (.ref q) v (K j))
    (hR : ∀ i v h' tk', vs[i]? = some v → (∀ j, j < vs.length → (j < i → bt (K i) (K j) = true) ∧ bt (K j) (K i) = false) → (∀ b o, hb.get? b = some o → h'.get? b = some o) → R (.ok (.ret v)) { s with heap := h', toks := tk' }) :
    ∀ (r k : Nat) (h : Heap) (tk c : Nat) (old : Option Bst), vs.length - k = r → k ≤ vs.length → (∀ b o, hb.get? b = some o → h.get? b = some o) → h.get? S = some (seqObj "list" (bstL old) c) → h.IsListIter I l k → BestAt bt K vs k old →
      codeAny (model PySem.Challenge.rw_ij0057_01.row.prog w) A (.builtin lid ⟨[.ref I, .ref q, .ref S], [(Str.ofString "default", d)]⟩) R { s with heap := h, toks := tk } := by
  have W := Walks.list (prog := PySem.Challenge.rw_ij0057_01.row.prog) (w := w) (A := A.in1) hh I l hlI vs.toArray
  have nI : ∀ {b o}, hb.get? b = some o → b ≠ I := fun e q => by rw [q, hbI] at e; cases e
  have nS : ∀ {b o}, hb.get? b = some o → b ≠ S := fun e q => by rw [q, hbS] at e; cases e
  intro r
  induction r with
  | zero =>
    intro k h tk c old hr hk up hS hit hbest
    have e : k = vs.length := by omega
    subst e
    refine T.turn A R _ I q S d c old hS (W.done _ _ _ ⟨by rw [List.size_toArray]; exact hit, hl.at fun o e => up _ o e⟩ fun h2 tk2 k2 => ⟨k2 S _ (by simpa using hSI) hS, ?_⟩)
    cases old with
    | none => exact absurd (show vs.length = 0 from hbest) (by omega)
    | some o =>
      obtain ⟨i, h1, -, -, h4⟩ := hbest
      exact ⟨o, rfl, fun h3 k3 => hR i _ _ _ h1 h4 fun b x e => k3.extBut b x (nS e) (k2 b x (by simpa using nI e) (up b x e))⟩
  | succ r ih =>
    intro k h tk c old hr hk up hS hit hbest
    have lt : k < vs.length := by omega
    refine T.turn A R _ I q S d c old hS (W.item k _ _ _ (by rw [List.size_toArray]; exact lt) ⟨hit, hl.at fun o e => up _ o e⟩ fun v h2 tk2 hP hst k2 => ⟨k2 S _ (by simpa using hSI) hS, ?_⟩)
    have hv : vs[k]? = some v := by simpa using hP
    have up2 : ∀ b o, hb.get? b = some o → h2.get? b = some o := fun b o e => k2 b o (by simpa using nI e) (up b o e)
    refine hK k v hv A.in1 _ _ _ hd hu up2 fun h3 tk3 t3 k3 => ⟨K k, t3, rfl, k3 _ _ (k2 S _ (by simpa using hSI) hS), fun h4 c4 s4 g4 => ?_⟩
    exact ih (k + 1) h4 tk3 c4 _ (by omega) lt (fun b o e => s4.extBut b o (nS e) (k3 b o (up2 b o e))) g4 (hst.1.at fun o e => s4.extBut _ _ (Ne.symm hSI) (k3 _ o e)) (T.next hbest hv)

theorem Best.ok (T : Best w id lid bt) (hh : A.handled = none) (hI : s.heap.IsListIter I l 0) (hl : s.heap.IsList l vs.toArray) (hne : 0 < vs.length)
    (hd : A.in1.depth + 10 < recursionLimit) (hu : A.in1.units + 100 < cLine) (hK : ∀ j v, vs[j]? = some v → KeyOk w (hideAll s.heap [I]) (.ref q) v (K j))
    (hQ : ∀ i v h' tk', vs[i]? = some v → (∀ j, j < vs.length → (j < i → bt (K i) (K j) = true) ∧ bt (K j) (K i) = false) → (∀ b o, b ≠ I → s.heap.get? b = some o → h'.get? b = some o) → Q v { s with heap := h', toks := tk' }) :
    wpAny (model PySem.Challenge.rw_ij0057_01.row.prog w) A (call (.builtin id) [.ref I] [(Str.ofString "default", d), (Str.ofString "key", .ref q)]) Q E s := by
  have hlI : l ≠ I := fun e => by
    obtain ⟨o, h1, h2, _⟩ := hI
    obtain ⟨o', h3, h4, _⟩ := hl
    rw [e, h1] at h3
    cases h3
    rw [h2] at h4
    exact absurd (Value.type.inj h4) (by decide)
  have hlt : I < s.heap.objs.size := by
    obtain ⟨o, h1, _⟩ := hI
    exact Heap.lt_size h1
  have hbS : (hideAll s.heap [I]).get? s.heap.objs.size = none := by
    cases e : (hideAll s.heap [I]).get? s.heap.objs.size with
    | none => rfl
    | some o => exact absurd (Heap.lt_size (of_hideAll _ e)) (Nat.lt_irrefl _)
  obtain ⟨b, eb, en⟩ := T.enter
  have up : ∀ b o, s.heap.get? b = some o → (s.heap.push (seqObj "list" #[] 0)).get? b = some o := fun b o => Heap.get?_push_of_some _
  exact kmk_tree T.kind T.plain eb (T.args _ _ _) (en A.in1 _ _ s I q l 0 d hI ⟨T.quiet _, T.loop hh hlI (Nat.ne_of_gt hlt) (hideAll_none _ (.head _)) hbS (hl.at fun o e => hideAll_get _ e (by simpa using hlI)) hne hd hu hK
    (fun i v h' tk' h1 h2 h3 => hQ i v h' tk' h1 h2 fun b o hb e => h3 b o (hideAll_get _ e (by simpa using hb))) vs.length 0 _ _ 0 none rfl (Nat.zero_le _) (fun b o e => up b o (of_hideAll _ e)) (Heap.get?_push_size _ rfl) (hI.at fun o e => up _ o e) rfl⟩)

theorem min_ok (hh : A.handled = none) (hI : s.heap.IsListIter I l 0) (hl : s.heap.IsList l vs.toArray) (hne : 0 < vs.length)
    (hd : A.in1.depth + 10 < recursionLimit) (hu : A.in1.units + 100 < cLine) (hK : ∀ j v, vs[j]? = some v → KeyOk w (hideAll s.heap [I]) (.ref q) v (K j))
    (hQ : ∀ i v h' tk', vs[i]? = some v → (∀ j, j < vs.length → (j < i → slt (K i) (K j) = true) ∧ slt (K j) (K i) = false) → (∀ b o, b ≠ I → s.heap.get? b = some o → h'.get? b = some o) → Q v { s with heap := h', toks := tk' }) :
    wpAny (model PySem.Challenge.rw_ij0057_01.row.prog w) A (call (.builtin "min") [.ref I] [(Str.ofString "default", d), (Str.ofString "key", .ref q)]) Q E s := (best_min w).ok hh hI hl hne hd hu hK hQ
end
end Mine
end
section
open PySem PySem.W PyProof.Rows PySem.Calls
set_option maxHeartbeats 8000000
namespace Mine
theorem offM2 : True := by
  w_top off
  trivial

theorem best_max (w : World) : Best w "max" "max.loop" (fun a b => slt b a) where
  kind := PySem.F.kind_max
  plain := PySem.F.plain_max
  quiet := plainId_quiet PySem.F.plain_max_loop
  args := fun a v u => by unfold argsOk; kernel_rfl
  enter := by
    obtain ⟨F, -, e, h⟩ := best_enter
    exact ⟨_, PySem.F.entry_max, fun A E P s I q l i d hI hP => by rw [e]; exact h "max" _ w A E P s I q l i d hI hP⟩
  turn := fun A R s I q S d c old hS H => by
    obtain ⟨F, -, e, h⟩ := best_turn
    refine codeAny_builtin PySem.F.entry_max_loop ?_
    rw [Around.under_plainId PySem.F.plain_max_loop _, e]
    exact h "max" .Gt (fun a b => slt b a) _ w _ _ _ s I q S d c old (fun a b t u Q E s' x => PySem.P.gt_str x) hS (wpAny_mono H (fun r s1 x => ⟨x.1, by
      obtain ⟨x1, x2⟩ := x
      cases r with
      | none => exact x2
      | some v => exact wpAny_mono x2 (fun kv s2 ⟨k, t, y1, y2, y3⟩ => ⟨k, t, y1, y2, fun h3 c3 z1 z2 => ⟨plainId_quiet PySem.F.plain_max_loop _, y3 h3 c3 z1 z2⟩⟩) fun _ _ f => f⟩) fun _ _ f => f)
  as := fun h => kd_as (a := .s _) (b := .s _) h
  tr := fun {a b x} h hx => by
    rcases kd_tri (a := .s x) (b := .s a) rfl with e | e | e
    · rw [KD.s.inj e]; exact h
    · exact kd_tr (a := .s x) (b := .s a) (c := .s b) e h
    · exact absurd e (by rw [show (KD.s a).lt (.s x) = false from hx]; decide)

section
variable {w : World} {A : Around} {E : Value → Shared → Prop} {s : Shared} {l I S : Addr} {q : Addr} {d : Value} {vs : List Value} {R : Result → Shared → Prop} {Q : Value → Shared → Prop} {hb : Heap} {K : Nat → Str}
theorem max_ok (hh : A.handled = none) (hI : s.heap.IsListIter I l 0) (hl : s.heap.IsList l vs.toArray) (hne : 0 < vs.length)
    (hd : A.in1.depth + 10 < recursionLimit) (hu : A.in1.units + 100 < cLine) (hK : ∀ j v, vs[j]? = some v → KeyOk w (hideAll s.heap [I]) (.ref q) v (K j))
    (hQ : ∀ i v h' tk', vs[i]? = some v → (∀ j, j < vs.length → (j < i → slt (K j) (K i) = true) ∧ slt (K i) (K j) = false) → (∀ b o, b ≠ I → s.heap.get? b = some o → h'.get? b = some o) → Q v { s with heap := h', toks := tk' }) :
    wpAny (model PySem.Challenge.rw_ij0057_01.row.prog w) A (call (.builtin "max") [.ref I] [(Str.ofString "default", d), (Str.ofString "key", .ref q)]) Q E s := (best_max w).ok hh hI hl hne hd hu hK hQ
end
end Mine
end
section
open PySem PySem.W PyProof.Rows PySem.Calls
set_option maxHeartbeats 8000000
namespace Mine
theorem offS4 : True := by
  w_top off
  trivial

theorem lex_one (a b : Str) : lexKD [.s a] [.s b] = slt a b := by
  rw [lexKD]
  by_cases e : KD.s a = KD.s b
  · rw [if_pos e, KD.s.inj e]
    exact (kd_irr (.s b)).symm
  · rw [if_neg e]; rfl

noncomputable def StableBy (K : Nat → Str) (n : Nat) (p : List Nat) : Prop := p.Perm (List.range n) ∧ p.Pairwise fun x y => slt (K x) (K y) = true ∨ (slt (K y) (K x) = false ∧ x < y)

noncomputable def TextsOf (K : Nat → Str) (ks : List Value) : Prop := ∀ j k, ks[j]? = some k → ∃ t, k = Value.str (K j) t

theorem KeyOk.grow {w : World} {h h' : Heap} {kf v : Value} {r : Str} (x : KeyOk w h kf v r) (k : ∀ b o, h.get? b = some o → h'.get? b = some o) : KeyOk w h' kf v r :=
  fun A Q E s' hd hu hk hQ => x A Q E s' hd hu (fun b o e => hk b o (k b o e)) hQ

section
variable {w : World} {A : Around} {E : Value → Shared → Prop} {s : Shared} {L l q : Addr} {m : Str → Option Value} {vs : List Value} {e : Nat} {K : Nat → Str} {hb h₀ : Heap} {kS D : Addr}

theorem keys_go {rest : List (Addr × Obj)} {Fin : List Value → Nat → Shared → Prop} (hd : A.depth + 10 < recursionLimit) (hu : A.units + 100 < cLine) (hK : ∀ j v, vs[j]? = some v → KeyOk w hb (.ref q) v (K j))
    (hne : ∀ p ∈ rest, p.1 ≠ kS) (hkb : ∀ h, Fr h₀ L h m → News h₀ L h rest → ∀ b o, hb.get? b = some o → h.get? b = some o)
    (fin : ∀ ks e h tk, ks.length = vs.length → TextsOf K ks → Fr h₀ L h m → News h₀ L h ((kS, seqObj "list" (List.toArray ks) e) :: rest) → Fin ks e { s with heap := h, toks := tk }) :
    ∀ (r ks : List Value) (e : Nat) (h : Heap) (tk : Nat), (∀ j, r[j]? = vs[ks.length + j]?) → ks.length + r.length = vs.length → TextsOf K ks → Fr h₀ L h m → News h₀ L h ((kS, seqObj "list" (List.toArray ks) e) :: rest) →
      KatKeys PySem.Challenge.rw_ij0057_01.row.prog w A h₀ L m kS (.ref q) Fin r ks e { s with heap := h, toks := tk }
  | [], ks, e, h, tk, hr, hlen, ht, F, N => KatKeys.nil (fin ks e h tk (by simpa using hlen) ht F N)
  | v :: r, ks, e, h, tk, hr, hlen, ht, F, N => by
    have hv : vs[ks.length]? = some v := by
      have := hr 0
      simpa using this.symm
    refine KatKeys.cons (hK ks.length v hv A _ _ _ hd hu (hkb h F fun p hp => N p (.tail _ hp)) fun h2 tk2 t2 hk2 => ?_)
    refine KatBack.intro (F.keeps hk2) (News.keep N hk2) (.head hne) fun h3 c F3 N3 => ?_
    refine keys_go hd hu hK hne hkb fin r (ks ++ [.str (K ks.length) t2]) c h3 _ (fun j => ?_) (by simp at hlen ⊢; omega) (fun j k hj => ?_) F3 N3
    · have := hr (j + 1)
      rw [List.length_append, List.length_singleton, show ks.length + 1 + j = ks.length + (j + 1) by omega]
      simpa using this
    · rcases Nat.lt_trichotomy j ks.length with h1 | h1 | h1
      · rw [List.getElem?_append_left h1] at hj
        exact ht j k hj
      · subst h1
        simp at hj
        exact ⟨t2, hj.symm⟩
      · rw [List.getElem?_eq_none (by simp; omega)] at hj
        cases hj

theorem sortedK_ok {Q : Value → Shared → Prop} (hn : s.heap.Ns L m) (ho : s.heap.get? l = some (listOf vs.toArray e)) (h2 : 2 ≤ vs.length) (h64 : vs.length < 64)
    (hd : A.depth + 10 < recursionLimit) (hu : A.units + 110 < cLine) (hK : ∀ j v, vs[j]? = some v → KeyOk w hb (.ref q) v (K j)) (hkb : ∀ b o, hb.get? b = some o → b ≠ L ∧ s.heap.get? b = some o)
    (h : ∀ p D c h' tk, StableBy K vs.length p → h'.Ns L m → s.heap.get? D = none → h'.get? D = some (listOf (List.toArray (p.map fun i => vs.getD i Value.none)) c) → (∀ b o, b ≠ L → s.heap.get? b = some o → h'.get? b = some o) → Q (.ref D) { s with heap := h', toks := tk }) :
    wpAny (model PySem.Challenge.rw_ij0057_01.row.prog w) A (call (.builtin "sorted") [.ref l] [(Str.ofString "key", .ref q)]) Q E s := by
  have mem : ∀ {b o}, s.heap.get? b = some o → b ≠ L → (b, o) ∈ restOf nilHeap s.heap L := fun e h1 => restOf_mem e h1 (nil_get _)
  refine kat_sortedK (b := false) (f := .ref q) (news := restOf nilHeap s.heap L) (nil_fr hn) restOf_news ⟨_, ho, rfl, _, rfl⟩ h2 h64 (ksk_s1 _ _) (fun x => ksk_l1 _ _) (fun x => ksk_t1 _ _) fun D kS e1 h' F' N' hDk hD => ?_
  have hfr : s.heap.get? D = none := by
    cases q : s.heap.get? D with
    | none => rfl
    | some o => exact absurd (hD _ (mem q (N' _ (.tail _ (.head _))).2.1)) (Nat.lt_irrefl _)
  refine keys_go (s := s) (A := A.in1.in1) (rest := (D, seqObj "list" #[] e1) :: restOf nilHeap s.heap L) hd (by show A.units + 1 + 1 + 100 < cLine; omega) hK ?_ ?_ ?_ vs [] 0 h' s.toks (fun j => by simp) (by simp) (fun j k hj => by simp at hj) F' N'
  · intro p hp
    rcases List.mem_cons.mp hp with rfl | hp
    · exact Nat.ne_of_lt hDk
    · exact Nat.ne_of_lt (Nat.lt_trans (hD p hp) hDk)
  · intro h F N b o eb
    obtain ⟨h1, h2⟩ := hkb b o eb
    exact (N _ (.tail _ (mem h2 h1))).1
  · intro ks e h6 tk hlen ht F N
    have hget : ∀ i, i < vs.length → ∃ t, ks.getD i Value.none = .str (K i) t := fun i hi => by
      have hi' : i < ks.length := by omega
      obtain ⟨t, et⟩ := ht i _ (List.getElem?_eq_getElem hi')
      exact ⟨t, by simp [hi', et]⟩
    refine kas_kind (T := .type "str") (by omega) (fun v hv => ?_) (by decide) (by decide) ?_
    · obtain ⟨j, hj, rfl⟩ := List.getElem_of_mem hv
      obtain ⟨t, et⟩ := ht j _ (List.getElem?_eq_getElem hj)
      rw [et]
      exact Looks.of_pure rfl
    · obtain ⟨r, hr⟩ := lex_rank vs.length (fun i => [KD.s (K i)]) fun i j _ _ => rfl
      refine KGood.wp (I := fun s' => s' = { s with heap := h6, toks := tk }) (fun i j C s1 hi hj hs1 hC => ?_) (fun p s1 hp hs1 => ?_) (ksort_good (N := vs.length) (r := r) (by omega)) rfl
      · subst hs1
        obtain ⟨t1, e1⟩ := hget i hi
        obtain ⟨t2, e2⟩ := hget j hj
        show wpAny _ _ (keyLt' oneType' (ks.getD i Value.none) (ks.getD j Value.none)) C _ _
        rw [e1, e2]
        refine kas_lt_str ?_
        have := hC _ rfl
        rw [← hr i j hi hj, lex_one] at this
        exact this
      · subst hs1
        refine KatFin.intro F N (.head fun p hp => ?_) fun h3 c F3 N3 => KasFin.intro F3 N3 (.tail (Ne.symm (Nat.ne_of_lt hDk)) (.head fun p hp => Nat.ne_of_lt (hD p hp))) fun h4 c4 F4 N4 => ?_
        · rcases List.mem_cons.mp hp with rfl | hp
          · exact Nat.ne_of_lt hDk
          · exact Nat.ne_of_lt (Nat.lt_trans (hD p hp) hDk)
        · obtain ⟨p1, p2, p3⟩ := hp
          have hpl : p.toList.Perm (List.range vs.length) := Array.perm_iff_toList_perm.mp p2
          refine h p.toList D c4 h4 tk ⟨hpl, List.pairwise_iff_getElem.mpr fun i j hi hj hij => ?_⟩ F4.ns hfr (N4 _ (.tail _ (.head _))).1 fun b o h1 e => (N4 _ (.tail _ (.tail _ (mem e h1)))).1
          have mem' : ∀ k (hk : k < p.toList.length), p.toList[k] < vs.length := fun k hk => List.mem_range.mp (hpl.mem_iff.mp (List.getElem_mem hk))
          have hi' : i < p.size := by simpa using hi
          have hj' : j < p.size := by simpa using hj
          have e1 : pg p i = p.toList[i] := by rw [pg_eq]; simp [hi']
          have e2 : pg p j = p.toList[j] := by rw [pg_eq]; simp [hj']
          have := p3 i j hij (by omega)
          unfold kst at this
          rw [e1, e2] at this
          have r1 := hr _ _ (mem' i hi) (mem' j hj)
          have r2 := hr _ _ (mem' j hj) (mem' i hi)
          rw [lex_one] at r1 r2
          rw [r1, r2]
          simp only [decide_eq_true_eq, decide_eq_false_iff_not]
          omega
end
end Mine
end
section
open PySem PySem.W PyProof.Rows PySem.Calls
set_option maxHeartbeats 8000000
namespace Mine
theorem offZ1 : True := by
  w_top off
  trivial

noncomputable def Spent (h : Heap) (it : Addr) : Prop := ∃ o i, h.get? it = some o ∧ o.cls = .type "list_iterator" ∧ o.data = .fields #[.none, .int i 0]
theorem Spent.at {h h' : Heap} {it : Addr} (x : Spent h it) (e : ∀ o, h.get? it = some o → h'.get? it = some o) : Spent h' it := let ⟨o, i, h1, r⟩ := x; ⟨o, i, e _ h1, r⟩

section
variable {prog : Program} {w : World} {A : Around} {E : Value → Shared → Prop} {s : Shared}

theorem pyIter_spent {it : Addr} {Q : Value → Shared → Prop} (x : Spent s.heap it) (h : Q (.ref it) s) : wpAny (model prog w) A (pyIter (.ref it)) Q E s := by
  obtain ⟨o, i, ho, hc, -⟩ := x
  have hT : s.TypeIs (.ref it) "list_iterator" := ⟨o, ho, hc⟩
  exact wpAny_pyIter_slot hT slot_listiter_iter (wpAny_call_entry slot_listiter_iter hT entry_listiter_iter (wpAny_pure ⟨_, rfl, "list_iterator", _, hT, slot_listiter_next.lookup, h⟩) (args_listiter_iter _))

noncomputable def Stops (wr : Addr → Prop) (s : Shared) (E : Value → Shared → Prop) : Prop :=
  ∀ h' e, (∀ b o, ¬ wr b → s.heap.get? b = some o → h'.get? b = some o) → (∃ o, h'.get? e = some o ∧ o.cls = .type "StopIteration") → E (.ref e) { s with heap := h' }

theorem stop_throw {α : Type} {Q : α → Shared → Prop} (hh : A.handled = none) (h : Stops (fun _ => False) s E) : wpAny (model prog w) A (Builtin.SmallTypes.stopIteration : Sem α) Q E s := by
  obtain ⟨hp, g, d, tk, os⟩ := s
  unfold Builtin.SmallTypes.stopIteration
  wp_walk
  exact wpAny_raiseNew_none hh (h _ _ (fun b o _ e => Heap.get?_push_of_some _ (Heap.get?_push_of_some _ e)) ⟨_, Heap.get?_push_size _ rfl, rfl⟩)

theorem nextOf_of {it : Addr} {T id : String} {b : Builtin} {Q : Value → Shared → Prop} (hT : s.TypeIs (.ref it) T) (sl : Slot T "__next__" id) (en : entryFor table id = some b) (ar : argsOk id ⟨[.ref it], []⟩)
    (h : wpAny (model prog w) A.in1 (b ⟨[.ref it], []⟩) (fun f s' => ∃ v, f = .done (.ret v) ∧ Q v s') E s) : wpAny (model prog w) A (Builtin.SmallTypes.nextOf (.ref it)) Q E s := by
  unfold Builtin.SmallTypes.nextOf
  refine wpAny_bind (wpAny_callSpecial?_slot (name := Str.ofString "__next__") hT sl (wpAny_call_entry sl hT en ?_ ar))
  exact wpAny_mono h (fun f s' ⟨v, e, q⟩ => ⟨v, e, wpAny_pure q⟩) fun _ _ e => e

theorem pyNext_of {it : Addr} {T id : String} {b : Builtin} {Q : Option Value → Shared → Prop} (hT : s.TypeIs (.ref it) T) (sl : Slot T "__next__" id) (en : entryFor table id = some b) (ar : argsOk id ⟨[.ref it], []⟩)
    (h : wpAny (model prog w) A.in1 (b ⟨[.ref it], []⟩) (fun f s' => ∃ v, f = .done (.ret v) ∧ Q (some v) s') (fun e s' => (∃ a o, e = .ref a ∧ s'.heap.get? a = some o ∧ o.cls = .type "StopIteration") ∧ Q none s') s) : wpAny (model prog w) A (pyNext (.ref it)) Q E s := by
  unfold pyNext
  refine wpAny_bind (wpAny_attempt (wpAny_callSpecial?_slot (name := Str.ofString "__next__") hT sl (wpAny_call_entry sl hT en ?_ ar)))
  refine wpAny_mono h (fun f s' ⟨v, e, q⟩ => ⟨v, e, wpAny_pure q⟩) ?_
  rintro _ s' ⟨⟨a, o, rfl, ho, hc⟩, q⟩
  exact wpAny_bind (wpAny_isInstance (T := "StopIteration") (b := true) ⟨o, ho, hc⟩ isSubtype_stop (wpAny_pure q))

theorem pyNext_spent {it : Addr} {Q : Option Value → Shared → Prop} (hh : A.handled = none) (x : Spent s.heap it) (hQ : ∀ h', (∀ b o, s.heap.get? b = some o → h'.get? b = some o) → Q none { s with heap := h' }) : wpAny (model prog w) A (pyNext (.ref it)) Q E s := by
  obtain ⟨o, i, ho, hc, hd⟩ := x
  refine pyNext_of ⟨o, ho, hc⟩ slot_listiter_next entry_listiter_next (args_listiter_next _) ?_
  show wpAny _ _ (field (.ref it) 0 >>= _) _ _ s
  refine wpAny_bind (wpAny_field ho hd (x := .none) rfl ?_)
  show wpAny _ _ (rule _ >>= _) _ _ s
  exact wpAny_bind (wpAny_rule (wpAny_bind (stop_throw hh fun h' e hk ⟨oe, h1, h2⟩ => ⟨⟨e, oe, rfl, h1, h2⟩, hQ h' fun b o q => hk b o id q⟩)))

theorem nextOf_range_item {it : Addr} {x left step : Int} {Q : Value → Shared → Prop} (hit : IsRangeIter s.heap it x left step) (hleft : 0 < left)
    (hQ : ∀ h', IsRangeIter h' it (x + step) (left - 1) step → Heap.SameBut it s.heap h' → Q (.int x s.toks) { s with heap := h', toks := s.toks + 1 }) :
    wpAny (model prog w) A (Builtin.SmallTypes.nextOf (.ref it)) Q E s := by
  obtain ⟨hp, g, d, tk, os⟩ := s
  refine nextOf_of (T := "range_iterator") ⟨_, hit, rfl⟩ F.slot_range_iterator_next F.entry_range_iterator_next (F.args_range_iterator_next_1 _) ?_
  have hr : IsRangeIter hp it x left step := hit
  have h0 : ¬ left ≤ 0 := by omega
  unfold Builtin.«range_iterator.__next__»
  wp_walk
  exact ⟨_, rfl, hQ _ (Heap.get?_update_self _ (Heap.get?_update_self _ hit rfl) rfl) ((Heap.SameBut.update ..).trans (Heap.SameBut.update ..))⟩

theorem nextOf_range_end {it : Addr} {x left step : Int} {Q : Value → Shared → Prop} (hh : A.handled = none) (hit : IsRangeIter s.heap it x left step) (hleft : left ≤ 0) (h : Stops (fun _ => False) s E) :
    wpAny (model prog w) A (Builtin.SmallTypes.nextOf (.ref it)) Q E s := by
  obtain ⟨hp, g, d, tk, os⟩ := s
  refine nextOf_of (T := "range_iterator") ⟨_, hit, rfl⟩ F.slot_range_iterator_next F.entry_range_iterator_next (F.args_range_iterator_next_1 _) ?_
  have hr : IsRangeIter hp it x left step := hit
  unfold Builtin.«range_iterator.__next__»
  wp_walk
  exact wpAny_raiseNew_none hh (h _ _ (fun b o _ e => Heap.get?_push_of_some _ (Heap.get?_push_of_some _ e)) ⟨_, Heap.get?_push_size _ rfl, rfl⟩)

theorem nextOf_list_end {it l : Addr} {i : Nat} {items} {Q : Value → Shared → Prop} (hh : A.handled = none) (hit : s.heap.IsListIter it l i) (hl : s.heap.IsList l items) (hx : items[i]? = none)
    (hE : ∀ h' e, (∀ b o, b ≠ it → s.heap.get? b = some o → h'.get? b = some o) → Spent h' it → (∃ o, h'.get? e = some o ∧ o.cls = .type "StopIteration") → E (.ref e) { s with heap := h' }) :
    wpAny (model prog w) A (Builtin.SmallTypes.nextOf (.ref it)) Q E s := by
  refine nextOf_of hit.typeIs slot_listiter_next entry_listiter_next (args_listiter_next _) ?_
  obtain ⟨o, ho, hc, hd⟩ := hit
  obtain ⟨ol, hol, _, nl, hdl⟩ := hl
  refine wpAny_bind (wpAny_of_eq (a := (Value.ref it, [])) rfl (wpAny_bind (wpAny_field ho hd (x := .ref l) rfl ?_)))
  show wpAny _ _ (field (.ref it) 1 >>= _) _ _ s
  refine wpAny_bind (wpAny_field ho hd (x := .int i 0) rfl (wpAny_bind (wpAny_seqItems hol hdl ?_)))
  simp only [Int.toNat_natCast, hx]
  refine wpAny_bind (wpAny_rule (wpAny_bind (wpAny_setField ho hd (by simp) (stop_throw hh fun h' e hk he => ?_))))
  have hi := hk _ _ id (Heap.get?_update_self _ ho (Obj.isFreed_of_fields (Obj.data_mapFields hd _)))
  exact hE h' e (fun b o' hb x => hk b o' id ((Heap.SameBut.update ..).extBut b o' hb x)) ⟨_, i, hi, (Obj.cls_mapFields ..).trans hc, by rw [Obj.data_mapFields hd]; simp⟩ he

structure ZA (z TI TO i1 i2 l : Addr) : Prop where
  TIz : TI ≠ z
  TOz : TO ≠ z
  i1z : i1 ≠ z
  i2z : i2 ≠ z
  lz : l ≠ z
  TITO : TI ≠ TO
  TIi1 : TI ≠ i1
  TIi2 : TI ≠ i2
  TOi1 : TO ≠ i1
  TOi2 : TO ≠ i2
  i12 : i1 ≠ i2
  lTO : l ≠ TO
  li1 : l ≠ i1
  li2 : l ≠ i2

theorem zip_draw {z TI TO i : Addr} {f : Value} {Q : Option Value → Shared → Prop}
    (h : wpAny (model prog w) A (Builtin.SmallTypes.nextOf (.ref i)) (fun x s' => Q (some x) s') (fun e s' => IsZip s'.heap z TI TO f ∧ ∀ h', Heap.SameBut z s'.heap h' → E e { s' with heap := h' }) s) :
    wpAny (model prog w) A (Sem.onRaise (do return some (← Builtin.SmallTypes.nextOf (.ref i))) fun _ => setField (.ref z) 0 .none) Q E s :=
  wpAny_onRaise (wpAny_bind (wpAny_mono h (fun _ _ q => wpAny_pure q) fun _ _ q => wpAny_setField_rec q.1 (by simp) fun h' _ k => q.2 h' k))

theorem zip_next {z TI TO i1 i2 : Addr} {a b : Value} {P : PySem.Fin → Shared → Prop} (hz : IsZip s.heap z TI TO .none) (hTI : IsPair s.heap TI (.ref i1) (.ref i2)) (zT : TO ≠ z)
    (h : ∀ h1, IsZip h1 z TI TO .ellipsis → Heap.SameBut z s.heap h1 →
      wpAny (model prog w) A (Builtin.SmallTypes.nextOf (.ref i1)) (fun x s2 => IsPair s2.heap TO a b ∧ ∀ h3, IsPair h3 TO x b → Heap.SameBut TO s2.heap h3 →
        wpAny (model prog w) A (Builtin.SmallTypes.nextOf (.ref i2)) (fun y s4 => IsPair s4.heap TO x b ∧ IsZip s4.heap z TI TO .ellipsis ∧ ∀ h5, IsZip h5 z TI TO (rawInt s4.heap.objs.size) → IsPair h5 TO x y → IsPair h5 s4.heap.objs.size x y →
            (∀ c o, c ≠ z → c ≠ TO → s4.heap.get? c = some o → h5.get? c = some o) → h5.objs.size = s4.heap.objs.size + 1 → P (.done (.ret (.ref s4.heap.objs.size))) { s4 with heap := h5 })
          (fun e s4 => IsZip s4.heap z TI TO .ellipsis ∧ ∀ h', Heap.SameBut z s4.heap h' → E e { s4 with heap := h' }) { s2 with heap := h3 })
        (fun e s2 => IsZip s2.heap z TI TO .ellipsis ∧ ∀ h', Heap.SameBut z s2.heap h' → E e { s2 with heap := h' }) { s with heap := h1 }) :
    wpAny (model prog w) A (Builtin.«zip.__next__» ⟨[.ref z], []⟩) P E s := by
  unfold Builtin.«zip.__next__»
  refine wpAny_bind (wpAny_of_eq (a := (Value.ref z, [])) rfl (wpAny_bind (wpAny_field hz rfl (x := .bool false) rfl (wpAny_bind (wpAny_field hz rfl (x := .ref TI) rfl (wpAny_bind (wpAny_seqItems hTI rfl ?_)))))))
  dsimp only
  show wpAny _ _ (Builtin.SmallTypes.ownedTupleIsFree (.ref z) >>= _) _ _ s
  unfold Builtin.SmallTypes.ownedTupleIsFree
  refine wpAny_bind (wpAny_bind (wpAny_field hz rfl (x := .none) rfl (wpAny_pure ?_)))
  rw [if_pos rfl]
  refine wpAny_bind (wpAny_rule (wpAny_bind (wpAny_field hz rfl (x := .ref TO) rfl (wpAny_bind (wpAny_setField_rec hz (by simp) fun h1 z1 k1 => ?_)))))
  dsimp only [List.zipIdx]
  refine wpAny_bind ?_
  rw [List.forIn_cons]
  refine wpAny_bind (wpAny_bind (zip_draw (wpAny_mono (h h1 z1 k1) (fun x s2 c2 => ?_) fun _ _ q => q)))
  obtain ⟨p2, c2⟩ := c2
  refine wpAny_bind (wpAny_seqItems p2 rfl (wpAny_bind (wpAny_updateSeq_pair p2 fun h3 p3 k3 => wpAny_bind (wpAny_letGo (wpAny_pure ?_)))))
  dsimp only
  rw [List.forIn_cons]
  refine wpAny_bind (wpAny_bind (zip_draw (wpAny_mono (c2 h3 p3 k3) (fun y s4 c4 => ?_) fun _ _ q => q)))
  obtain ⟨p4, z4, c4⟩ := c4
  refine wpAny_bind (wpAny_seqItems p4 rfl (wpAny_bind (wpAny_updateSeq_pair p4 fun h5 p5 k5 => wpAny_bind (wpAny_letGo (wpAny_pure (wpAny_pure ?_))))))
  dsimp only
  have q5 : IsPair h5 TO x y := p5
  refine wpAny_bind (wpAny_seqItems q5 rfl (wpAny_bind (wpAny_newTuple (wpAny_bind ?_))))
  have z5 : IsZip h5 z TI TO .ellipsis := k5.extBut _ _ (Ne.symm zT) z4
  unfold Builtin.SmallTypes.ownedTupleHandOut
  refine wpAny_bind (wpAny_setField_rec (Heap.get?_push_of_some _ z5) (by simp) fun h7 z7 k7 => ?_)
  refine wpAny_setField_rec z7 (by simp) fun h8 z8 k8 => wpAny_pure ?_
  have n5 : h5.objs.size = s4.heap.objs.size := k5.1
  have lt : z < h5.objs.size := Heap.lt_size z5
  have up : ∀ c o, c ≠ z → (h5.push { cls := .type "tuple", data := .seq #[x, y] }).get? c = some o → h8.get? c = some o := fun c o hc e => k8.extBut _ _ hc (k7.extBut _ _ hc e)
  have sz : h8.objs.size = h5.objs.size + 1 := by rw [k8.1, k7.1, Heap.size_push]
  have new : IsPair h8 h5.objs.size x y := up _ _ (Nat.ne_of_gt lt) (Heap.get?_push_size _ rfl)
  have z9 : IsZip h8 z TI TO (rawInt h5.objs.size) := z8
  show P (.done (.ret (.ref h5.objs.size))) { s4 with heap := h8 }
  rw [n5] at sz new z9 ⊢
  exact c4 h8 z9 (up _ _ zT (Heap.get?_push_of_some _ q5)) new (fun c o h1 h2 e => up c o h1 (Heap.get?_push_of_some _ (k5.extBut _ _ h2 e))) sz
end
end Mine
end
section
open PySem PySem.W PyProof.Rows PySem.Calls
set_option maxHeartbeats 8000000
namespace Mine
theorem offZ2 : True := by
  w_top off
  trivial

structure ZrOn (z TI TO i1 i2 l : Addr) (a c : Int) (n : Nat) (xs : Array Value) (i : Nat) (h : Heap) : Prop where
  z : IsZip h z TI TO .none
  ti : IsPair h TI (.ref i1) (.ref i2)
  to : ∃ p q, IsPair h TO p q
  r : IsRangeIter h i1 (a + i * c) ((n : Int) - i) c
  it : h.IsListIter i2 l i
  l : h.IsList l xs

noncomputable def zrSt (z TI TO i1 i2 l : Addr) (a c : Int) (n : Nat) (xs : Array Value) (i : Nat) (h : Heap) : Prop :=
  (i ≤ min n xs.size → ZrOn z TI TO i1 i2 l a c n xs i h) ∧ (i = min n xs.size + 1 → (n ≤ xs.size → h.IsListIter i2 l (min n xs.size)) ∧ (xs.size < n → Spent h i2))

section
variable {prog : Program} {w : World} {A : Around} {E : Value → Shared → Prop} {s : Shared}

theorem Src.zipR {elts : List Expr} {k : Nat} {tp : Pos} (hh : A.handled = none) (z TI TO i1 i2 l : Addr) (D : ZA z TI TO i1 i2 l) (a c : Int) (n : Nat) (xs : Array Value) :
    Src prog w A (.Tuple elts k tp) z [z, TI, TO, i1, i2, l] [z, TO, i1, i2] (min n xs.size) (fun i v h => ∃ T t x, v = .ref T ∧ xs[i]? = some x ∧ IsTup h T #[.int (a + i * c) t, x]) (zrSt z TI TO i1 i2 l a c n xs) where
  sub := fun b hb => by simp at hb ⊢; rcases hb with rfl | rfl | rfl | rfl <;> simp
  frame := fun i h h' st hk => by
    refine ⟨fun hi => ?_, fun hi => ?_⟩
    · obtain ⟨x1, x2, ⟨p, q, x3⟩, x4, x5, x6⟩ := st.1 hi
      exact ⟨hk z (by simp) _ x1, hk TI (by simp) _ x2, ⟨p, q, hk TO (by simp) _ x3⟩, hk i1 (by simp) _ x4, x5.at fun o e => hk i2 (by simp) o e, x6.at fun o e => hk l (by simp) o e⟩
    · obtain ⟨x1, x2⟩ := st.2 hi
      exact ⟨fun h => (x1 h).at fun o e => hk i2 (by simp) o e, fun h => (x2 h).at fun o e => hk i2 (by simp) o e⟩
  live := fun i h hi st b hb => by
    obtain ⟨x1, x2, ⟨p, q, x3⟩, x4, x5, x6⟩ := st.1 hi
    simp at hb
    rcases hb with rfl | rfl | rfl | rfl
    · exact ⟨_, x1⟩
    · exact ⟨_, x3⟩
    · exact ⟨_, x4⟩
    · obtain ⟨o, e, _⟩ := x5; exact ⟨o, e⟩
  item := fun i s Q E hi st hQ => by
    obtain ⟨x1, x2, ⟨p, q, x3⟩, x4, x5, x6⟩ := st.1 (Nat.le_of_lt hi)
    have hix : i < xs.size := Nat.lt_of_lt_of_le hi (Nat.min_le_right ..)
    have hin : i < n := Nat.lt_of_lt_of_le hi (Nat.min_le_left ..)
    refine pyNext_of (T := "zip") ⟨_, x1, rfl⟩ F.slot_zip_next F.entry_zip_next (F.args_zip_next_1 _) (zip_next (a := p) (b := q) x1 x2 D.TOz fun h1 z1 k1 => ?_)
    refine nextOf_range_item (k1.extBut _ _ D.i1z x4) (by (first | lia | omega)) fun h2 r2 k2 => ⟨k2.extBut _ _ D.TOi1 (k1.extBut _ _ D.TOz x3), fun h3 p3 k3 => ?_⟩
    refine wpAny_nextOf_list_item (x5.at fun o e => k3.extBut _ _ D.TOi2.symm (k2.extBut _ _ D.i12.symm (k1.extBut _ _ D.i2z e)))
      (x6.at fun o e => k3.extBut _ _ D.lTO (k2.extBut _ _ D.li1 (k1.extBut _ _ D.lz e))) (Array.getElem?_eq_getElem hix) fun h4 a4 k4 => ?_
    have n4 : h4.objs.size = s.heap.objs.size := by rw [k4.1, k3.1, k2.1, k1.1]
    refine ⟨k4.extBut _ _ D.TOi2 p3, k4.extBut _ _ D.i2z.symm (k3.extBut _ _ D.TOz.symm (k2.extBut _ _ D.i1z.symm z1)), fun h' a1 a2 a5 k5 n5 => ⟨_, rfl, ?_⟩⟩
    dsimp only at a1 a5 n5 ⊢
    rw [n4] at a1 a5 n5 ⊢
    have hk : ∀ b o, b ≠ z → b ≠ TO → b ≠ i1 → b ≠ i2 → s.heap.get? b = some o → h'.get? b = some o := fun b o c1 c2 c3 c4 e => k5 b o c1 c2 (k4.extBut _ _ c4 (k3.extBut _ _ c2 (k2.extBut _ _ c3 (k1.extBut _ _ c1 e))))
    have a3 : IsRangeIter h' i1 (a + i * c + c) ((n : Int) - i - 1) c := k5 _ _ D.i1z D.TOi1.symm (k4.extBut _ _ D.i12 (k3.extBut _ _ D.TOi1.symm r2))
    replace a4 : h'.IsListIter i2 l (i + 1) := a4.at fun o e => k5 _ _ D.i2z D.TOi2.symm e
    refine wpAny_letOwnedTupleGo_zip a1 fun h2 hz2 hs2 => ?_
    have lt : ∀ {c o}, s.heap.get? c = some o → s.heap.objs.size ≠ c := fun e => Nat.ne_of_gt (Heap.lt_size e)
    have e1 : a + ((i + 1 : Nat) : Int) * c = a + i * c + c := by rw [Int.natCast_add, Int.add_mul]; simp [Int.add_assoc]
    have e2 : (n : Int) - ((i + 1 : Nat) : Int) = (n : Int) - i - 1 := by (first | lia | omega)
    refine hQ (.ref s.heap.objs.size) h2 (s.toks + 1) ⟨_, _, _, rfl, Array.getElem?_eq_getElem hix, ⟨_, hs2.extBut _ _ (lt x1) a5, rfl, _, rfl⟩⟩ ⟨fun hi' => ?_, fun he => ?_⟩ fun b o hb e => ?_
    · refine ⟨hz2, hs2.extBut _ _ D.TIz (hk _ _ D.TIz D.TITO D.TIi1 D.TIi2 x2), ⟨_, _, hs2.extBut _ _ D.TOz a2⟩, ?_, a4.extBut hs2.extBut D.i2z, (x6.at fun o e => hk _ o D.lz D.lTO D.li1 D.li2 e).extBut hs2.extBut D.lz⟩
      rw [e1, e2]
      exact hs2.extBut _ _ D.i1z a3
    · (first | lia | omega)
    · simp at hb
      exact hs2.extBut _ _ hb.1 (hk b o hb.1 hb.2.1 hb.2.2.1 hb.2.2.2 e)
  done := fun s Q E st hQ => by
    obtain ⟨x1, x2, ⟨p, q, x3⟩, x4, x5, x6⟩ := st.1 (Nat.le_refl _)
    have last : ∀ h' tk, (n ≤ xs.size → h'.IsListIter i2 l (min n xs.size)) → (xs.size < n → Spent h' i2) → (∀ b o, b ≠ z → b ≠ TO → b ≠ i1 → b ≠ i2 → s.heap.get? b = some o → h'.get? b = some o) → Q none { s with heap := h', toks := tk } :=
      fun h' tk q1 q2 k => hQ h' tk ⟨fun h => absurd h (Nat.not_succ_le_self _), fun _ => ⟨q1, q2⟩⟩ fun b o hb e => by
        simp only [List.mem_cons, List.not_mem_nil, or_false, not_or] at hb
        exact k b o hb.1 hb.2.1 hb.2.2.1 hb.2.2.2 e
    refine pyNext_of (T := "zip") ⟨_, x1, rfl⟩ F.slot_zip_next F.entry_zip_next (F.args_zip_next_1 _) (zip_next (a := p) (b := q) x1 x2 D.TOz fun h1 z1 k1 => ?_)
    rcases Nat.lt_or_ge xs.size n with hlt | hge
    · refine nextOf_range_item (k1.extBut _ _ D.i1z x4) (by (first | lia | omega)) fun h2 r2 k2 => ⟨k2.extBut _ _ D.TOi1 (k1.extBut _ _ D.TOz x3), fun h3 p3 k3 => ?_⟩
      refine nextOf_list_end hh (x5.at fun o e => k3.extBut _ _ D.TOi2.symm (k2.extBut _ _ D.i12.symm (k1.extBut _ _ D.i2z e)))
        (x6.at fun o e => k3.extBut _ _ D.lTO (k2.extBut _ _ D.li1 (k1.extBut _ _ D.lz e))) (Array.getElem?_eq_none (by (first | lia | omega))) fun h4 e k4 sp he => ?_
      have z4 : IsZip h4 z TI TO .ellipsis := k4 _ _ D.i2z.symm (k3.extBut _ _ D.TOz.symm (k2.extBut _ _ D.i1z.symm z1))
      obtain ⟨oe, e1, e2⟩ := he
      have ez : e ≠ z := fun q => by rw [q, z4] at e1; cases e1; simp at e2
      exact ⟨z4, fun h5 k5 => ⟨⟨e, oe, rfl, k5.extBut _ _ ez e1, e2⟩, last h5 _ (fun q => absurd hlt (Nat.not_lt.mpr q)) (fun _ => sp.at fun o q => k5.extBut _ _ D.i2z q) fun b o c1 c2 c3 c4 q => k5.extBut _ _ c1 (k4 b o c4 (k3.extBut _ _ c2 (k2.extBut _ _ c3 (k1.extBut _ _ c1 q))))⟩⟩
    · refine nextOf_range_end hh (k1.extBut _ _ D.i1z x4) (by (first | lia | omega)) fun h2 e k2 he => ?_
      have z2 : IsZip h2 z TI TO .ellipsis := k2 _ _ id z1
      obtain ⟨oe, e1, e2⟩ := he
      have ez : e ≠ z := fun q => by rw [q, z2] at e1; cases e1; simp at e2
      exact ⟨z2, fun h3 k3 => ⟨⟨e, oe, rfl, k3.extBut _ _ ez e1, e2⟩, last h3 _ (fun _ => x5.at fun o q => k3.extBut _ _ D.i2z (k2 _ _ id (k1.extBut _ _ D.i2z q))) (fun q => absurd q (Nat.not_lt.mpr hge)) fun b o c1 _ _ _ q => k3.extBut _ _ c1 (k2 b o id (k1.extBut _ _ c1 q))⟩⟩
  self := fun i s Q E hi st hQ => wpAny_pyIter_zip (st.1 hi).z hQ

noncomputable abbrev zr1 (h : Heap) (a b c : Int) : Heap := h.push { cls := .type "range_iterator", data := .fields #[rawInt a, rawInt (Builtin.Range.rangeSize a b c), rawInt c] }
noncomputable abbrev zr2 (h : Heap) (a b c : Int) (it : Addr) : Heap := (zr1 h a b c).push { cls := .type "tuple", data := .seq #[.ref h.objs.size, .ref it] }
noncomputable abbrev zr3 (h : Heap) (a b c : Int) (it : Addr) : Heap := (zr2 h a b c it).push { cls := .type "tuple", data := .seq #[.none, .none] }
noncomputable abbrev zr4 (h : Heap) (a b c : Int) (it : Addr) : Heap := (zr3 h a b c it).push { cls := .type "zip", data := .fields #[.none, .bool false, .bool false, .ref (zr1 h a b c).objs.size, .ref (zr2 h a b c it).objs.size] }

theorem meets_zip_ri (r it l : Addr) (k : Nat) (a b c : Int) (t u v : Tok) (hsmall : Builtin.Range.small a b c = true) :
    Meets (Builtin.«zip.__new__» ⟨[.type "zip", .ref r, .ref it], []⟩) (fun _ R s => IsRange s.heap r a b c t u v ∧ s.heap.IsListIter it l k ∧
      R (.ok (.ret (.ref (zr3 s.heap a b c it).objs.size))) { s with heap := zr4 s.heap a b c it }) :=
  .of_wp fun prog w A R s h => by
    obtain ⟨hp, g, d, tk, os⟩ := s; obtain ⟨hr, hit, h⟩ := h
    have hsub := sub_zip
    have hL1 : IsRange (Shared.heap ⟨hp, g, d, tk, os⟩) r a b c t u v := hr
    have hL2 : Heap.IsListIter (Shared.heap ⟨zr1 hp a b c, g, d, tk, os⟩) it l k := by
      obtain ⟨o, h1, h2⟩ := hit
      exact ⟨o, Heap.get?_push_of_some _ h1, h2⟩
    wp_walk using wpAny_pyIter_range hL1 hsmall, wpAny_pyIter_listiter hL2
    exact ⟨_, rfl, h⟩

theorem call_zip_ri {r it l : Addr} {k : Nat} {a b c : Int} {t u v : Tok} {Q : Value → Shared → Prop} (hsmall : Builtin.Range.small a b c = true) (hr : IsRange s.heap r a b c t u v) (hit : s.heap.IsListIter it l k)
    (h : ∀ h', IsZip h' (s.heap.objs.size + 3) (s.heap.objs.size + 1) (s.heap.objs.size + 2) .none → IsPair h' (s.heap.objs.size + 1) (.ref s.heap.objs.size) (.ref it) → IsPair h' (s.heap.objs.size + 2) .none .none →
      IsRangeIter h' s.heap.objs.size a (Builtin.Range.rangeSize a b c) c → h'.objs.size = s.heap.objs.size + 4 → (∀ c o, s.heap.get? c = some o → h'.get? c = some o) → Q (.ref (s.heap.objs.size + 3)) { s with heap := h' }) :
    wpAny (model prog w) A (call (.type "zip") [.ref r, .ref it]) Q E s := by
  refine callType_new F.called_zip (by decide) (F.typeCall_zip_2 _ _) (F.newCall_zip_2 _ _) (fun obj => F.args_object_init_3 obj _ _) F.entry_zip_new
    (meets_zip_ri r it l k a b c t u v hsmall) ⟨hr, hit, ?_⟩
  have z1 : (zr1 s.heap a b c).objs.size = s.heap.objs.size + 1 := Heap.size_push ..
  have z2 : (zr2 s.heap a b c it).objs.size = s.heap.objs.size + 2 := by rw [Heap.size_push, z1]
  have z3 : (zr3 s.heap a b c it).objs.size = s.heap.objs.size + 3 := by rw [Heap.size_push, z2]
  have z4 : (zr4 s.heap a b c it).objs.size = s.heap.objs.size + 4 := by rw [Heap.size_push, z3]
  have g4 : (zr4 s.heap a b c it).get? (zr3 s.heap a b c it).objs.size = some _ := Heap.get?_push_size _ rfl
  have g3 : (zr4 s.heap a b c it).get? (zr2 s.heap a b c it).objs.size = some _ := Heap.get?_push_of_some _ (Heap.get?_push_size _ rfl)
  have g2 : (zr4 s.heap a b c it).get? (zr1 s.heap a b c).objs.size = some _ := Heap.get?_push_of_some _ (Heap.get?_push_of_some _ (Heap.get?_push_size _ rfl))
  have g1 : (zr4 s.heap a b c it).get? s.heap.objs.size = some _ := Heap.get?_push_of_some _ (Heap.get?_push_of_some _ (Heap.get?_push_of_some _ (Heap.get?_push_size _ rfl)))
  show _ ∧ _
  rw [z1, z2, z3] at g4
  rw [z2] at g3
  rw [z1] at g2
  rw [z3]
  exact ⟨⟨_, g4, rfl⟩, h _ g4 g2 g3 g1 z4 fun c o x => Heap.get?_push_of_some _ (Heap.get?_push_of_some _ (Heap.get?_push_of_some _ (Heap.get?_push_of_some _ x)))⟩

theorem ZA_of {z I l : Nat} (h1 : I < z) (h2 : l < z) (h3 : l ≠ I) : ZA (z + 3) (z + 1) (z + 2) z I l := by
  constructor
  all_goals (try show @Ne Nat _ _)
  all_goals first | exact h3 | (first | lia | omega)
theorem fp_of {z I l L : Nat} {h : Heap} (h1 : I < z) (h2 : l < z) (hL : L < z) (hIL : I ≠ L) (hlL : l ≠ L) (hz : h.objs.size = z + 4) (g0 : h.get? z ≠ none) (g1 : h.get? (z + 1) ≠ none) (g2 : h.get? (z + 2) ≠ none) (g3 : h.get? (z + 3) ≠ none) (gI : h.get? I ≠ none) (gl : h.get? l ≠ none) :
    ∀ b ∈ ([z + 3, z + 1, z + 2, z, I, l] : List Addr), b < h.objs.size ∧ b ≠ L ∧ h.get? b ≠ none := by
  intro b hb
  simp only [List.mem_cons, List.not_mem_nil, or_false] at hb
  rw [hz]
  rcases hb with rfl | rfl | rfl | rfl | rfl | rfl
  · exact ⟨Nat.lt_succ_self _, Nat.ne_of_gt (Nat.lt_of_lt_of_le hL (Nat.le_add_right _ _)), g3⟩
  · exact ⟨Nat.add_lt_add_left (by decide) z, Nat.ne_of_gt (Nat.lt_of_lt_of_le hL (Nat.le_add_right _ _)), g1⟩
  · exact ⟨Nat.add_lt_add_left (by decide) z, Nat.ne_of_gt (Nat.lt_of_lt_of_le hL (Nat.le_add_right _ _)), g2⟩
  · exact ⟨Nat.lt_add_of_pos_right (by decide), Nat.ne_of_gt hL, g0⟩
  · exact ⟨Nat.lt_of_lt_of_le h1 (Nat.le_add_right _ _), hIL, gI⟩
  · exact ⟨Nat.lt_of_lt_of_le h2 (Nat.le_add_right _ _), hlL, gl⟩
end
end Mine
end
section
set_option maxHeartbeats 8000000
namespace Mine
theorem offP1 : True := by
  w_top off
  trivial

section
variable {α : Type} {lt : α → α → Bool}

noncomputable def HF (lt : α → α → Bool) (k : Nat) (xs : List α) : Prop := ∀ j a b, 0 < j → k ≤ (j - 1) / 2 → xs[j]? = some a → xs[(j - 1) / 2]? = some b → lt a b = false

inductive Dsc (sp : Nat) : Nat → Prop
  | refl : Dsc sp sp
  | step {c : Nat} : 0 < c → Dsc sp ((c - 1) / 2) → Dsc sp c
theorem Dsc.le {sp p : Nat} (h : Dsc sp p) : sp ≤ p := by
  induction h with
  | refl => exact Nat.le_refl _
  | step h _ ih => (first | lia | omega)
theorem Dsc.up {sp p : Nat} (h : Dsc sp p) (hp : sp < p) : Dsc sp ((p - 1) / 2) := by
  cases h with
  | refl => exact absurd hp (Nat.lt_irrefl _)
  | step _ h => exact h

theorem set_swap_perm {xs : List α} {i j : Nat} {a b : α} (hij : i ≠ j) (hi : i < xs.length) (hj : xs[j]? = some a) : ((xs.set i a).set j b).Perm (xs.set i b) := by
  have hjl := (List.getElem?_eq_some_iff.mp hj).1
  have hja := (List.getElem?_eq_some_iff.mp hj).2
  have h := Array.swap_perm (xs := (xs.set i b).toArray) (i := i) (j := j) (h₁ := by simp; (first | lia | omega)) (h₂ := by simp; (first | lia | omega))
  have h2 := Array.perm_iff_toList_perm.mp h
  have e : (((xs.set i b).toArray.swap i j (by simp; (first | lia | omega)) (by simp; (first | lia | omega)))).toList = (xs.set i a).set j b := by
    apply List.ext_getElem?
    intro k
    simp only [List.swap_toArray, List.getElem?_set, List.getElem_set, List.length_set]
    by_cases h1 : j = k
    · subst h1
      simp [hjl]
    · by_cases h2 : i = k
      · subst h2
        simp [h1, hi, hij, hja]
      · simp [h1, h2]
  rw [e] at h2
  exact h2

theorem sdP_perm (x : α) (sp : Nat) : ∀ (n pos : Nat) (xs : List α), pos ≤ n → pos < xs.length → (sdP lt x sp pos xs).Perm (xs.set pos x) := by
  intro n
  induction n with
  | zero =>
    intro pos xs h hp
    rw [sdP]
    split
    · (first | lia | omega)
    · exact List.Perm.refl _
  | succ n ih =>
    intro pos xs h hp
    rw [sdP]
    split
    · split
      · rename_i par hpar
        split
        · refine (ih _ _ (by (first | lia | omega)) (by rw [List.length_set]; (first | lia | omega))).trans (set_swap_perm (by (first | lia | omega)) hp hpar)
        · exact List.Perm.refl _
      · exact List.Perm.refl _
    · exact List.Perm.refl _

theorem suC_or (xs : List α) (c : Nat) : suC lt xs c = c ∨ suC lt xs c = c + 1 := by
  unfold suC
  split
  · split <;> simp
  · simp

theorem suDown_perm (x : α) : ∀ (n pos : Nat) (xs : List α), xs.length - pos ≤ n → pos < xs.length → ((suDown lt pos xs).1.set (suDown lt pos xs).2 x).Perm (xs.set pos x) := by
  intro n
  induction n with
  | zero => intro pos xs h hp; (first | lia | omega)
  | succ n ih =>
    intro pos xs h hp
    rw [suDown]
    split
    · rename_i ch hch
      split
      · rename_i hlt
        have h1 := (List.getElem?_eq_some_iff.mp hch).1
        have h2 := suC_ge lt xs (2 * pos + 1)
        refine (ih _ _ (by rw [List.length_set]; (first | lia | omega)) (by rw [List.length_set]; (first | lia | omega))).trans (set_swap_perm (by (first | lia | omega)) hp hch)
      · exact List.Perm.refl _
    · exact List.Perm.refl _
theorem suP_perm (x : α) (pos : Nat) (xs : List α) (hp : pos < xs.length) : (suP lt x pos xs).Perm (xs.set pos x) := by
  unfold suP
  have sp := suDown_spec lt _ pos xs (Nat.le_refl _)
  have h1 := sdP_perm (lt := lt) x pos _ (suDown lt pos xs).2 ((suDown lt pos xs).1.set (suDown lt pos xs).2 x) (Nat.le_refl _) (by rw [List.length_set, sp.1]; exact sp.2.2.1 hp)
  rw [List.set_set] at h1
  exact h1.trans (suDown_perm x _ pos xs (Nat.le_refl _) hp)
theorem suAt_perm (xs : List α) (i : Nat) : (suAt lt xs i).Perm xs := by
  unfold suAt
  split
  · rename_i x hx
    have h1 := (List.getElem?_eq_some_iff.mp hx)
    refine (suP_perm x i xs h1.1).trans ?_
    rw [← h1.2, List.set_getElem_self]
  · exact List.Perm.refl _
theorem hfP_perm : ∀ (k : Nat) (xs : List α), (hfP lt k xs).Perm xs
  | 0, _ => List.Perm.refl _
  | k + 1, xs => (hfP_perm k _).trans (suAt_perm xs k)
theorem hrP_perm (x : α) (xs : List α) (h : 0 < xs.length) : (hrP lt x xs).Perm (xs.set 0 x) := by
  unfold hrP
  have := suP_perm (lt := lt) x 0 (xs.set 0 x) (by rw [List.length_set]; exact h)
  rwa [List.set_set] at this

section
variable (as : ∀ a b, lt a b = true → lt b a = false) (nt : ∀ a b c, lt b a = false → lt c b = false → lt c a = false)
include as nt

structure Hole (lt : α → α → Bool) (sp pos : Nat) (x : α) (xs : List α) : Prop where
  a : ∀ j a b, 0 < j → sp ≤ (j - 1) / 2 → j ≠ pos → (j - 1) / 2 ≠ pos → xs[j]? = some a → xs[(j - 1) / 2]? = some b → lt a b = false
  b : ∀ j a b, 0 < j → (j - 1) / 2 = pos → sp < pos → xs[j]? = some a → xs[(pos - 1) / 2]? = some b → lt a b = false
  c : ∀ j a, 0 < j → (j - 1) / 2 = pos → xs[j]? = some a → lt a x = false

omit nt as in
theorem hole_end {sp pos : Nat} {x : α} {xs : List α} (hp : pos < xs.length) (h : Hole lt sp pos x xs) (hpar : sp < pos → ∀ b, xs[(pos - 1) / 2]? = some b → lt x b = false) (hd : Dsc sp pos) : HF lt sp (xs.set pos x) := by
  intro j a b hj hk ha hb
  rw [List.getElem?_set] at ha hb
  by_cases e1 : pos = j
  · subst e1
    rw [if_pos rfl, if_pos hp] at ha
    cases ha
    rw [if_neg (by (first | lia | omega))] at hb
    exact hpar (by (first | lia | omega)) b hb
  · rw [if_neg e1] at ha
    by_cases e2 : pos = (j - 1) / 2
    · rw [if_pos e2, if_pos hp] at hb
      cases hb
      exact h.c j a hj e2.symm ha
    · rw [if_neg e2] at hb
      exact h.a j a b hj hk (Ne.symm e1) (Ne.symm e2) ha hb

theorem sdP_heap (x : α) (sp : Nat) : ∀ (n pos : Nat) (xs : List α), pos ≤ n → pos < xs.length → Dsc sp pos → Hole lt sp pos x xs → HF lt sp (sdP lt x sp pos xs) := by
  intro n
  induction n with
  | zero =>
    intro pos xs h hp hd H
    rw [sdP, dif_neg (by (first | lia | omega))]
    exact hole_end hp H (fun h => by (first | lia | omega)) hd
  | succ n ih =>
    intro pos xs h hp hd H
    rw [sdP]
    by_cases h0 : sp < pos
    · rw [dif_pos h0]
      have hq : (pos - 1) / 2 < xs.length := by (first | lia | omega)
      rw [List.getElem?_eq_getElem hq]
      dsimp only
      have hup := hd.up h0
      have hqs := hup.le
      by_cases hlt : lt x xs[(pos - 1) / 2] = true
      · rw [if_pos hlt]
        refine ih _ _ (by (first | lia | omega)) (by rw [List.length_set]; (first | lia | omega)) hup ⟨fun j a b hj hk h1 h2 ha hb => ?_, fun j a b hj hk h1 ha hb => ?_, fun j a hj hk ha => ?_⟩
        · rw [List.getElem?_set] at ha hb
          by_cases e2 : pos = (j - 1) / 2
          · rw [if_pos e2, if_pos hp] at hb
            cases hb
            rw [if_neg (by (first | lia | omega))] at ha
            exact H.b j a _ hj e2.symm h0 ha (List.getElem?_eq_getElem hq)
          · rw [if_neg e2] at hb
            by_cases e1 : pos = j
            · subst e1; exact absurd rfl h2
            · rw [if_neg e1] at ha
              exact H.a j a b hj hk (Ne.symm e1) (Ne.symm e2) ha hb
        · rw [List.getElem?_set] at ha hb
          rw [if_neg (by (first | lia | omega))] at hb
          have hrootq : lt xs[(pos - 1) / 2] b = false := H.a ((pos - 1) / 2) _ b (by (first | lia | omega)) (by
            have := (hup.up h1).le; exact this) (by (first | lia | omega)) (by (first | lia | omega)) (List.getElem?_eq_getElem hq) hb
          by_cases e1 : pos = j
          · subst e1
            rw [if_pos rfl, if_pos hp] at ha
            cases ha
            exact hrootq
          · rw [if_neg e1] at ha
            refine nt _ _ _ hrootq (H.a j a _ hj (by (first | lia | omega)) (Ne.symm e1) (by (first | lia | omega)) ha ?_)
            rw [hk]; exact List.getElem?_eq_getElem hq
        · rw [List.getElem?_set] at ha
          by_cases e1 : pos = j
          · subst e1
            rw [if_pos rfl, if_pos hp] at ha
            cases ha
            exact as _ _ hlt
          · rw [if_neg e1] at ha
            have h3 : lt a xs[(pos - 1) / 2] = false := H.a j a _ hj (by (first | lia | omega)) (Ne.symm e1) (by (first | lia | omega)) ha (by rw [hk]; exact List.getElem?_eq_getElem hq)
            exact nt _ _ _ (as _ _ hlt) h3
      · rw [if_neg hlt]
        refine hole_end hp H (fun _ b hb => ?_) hd
        rw [List.getElem?_eq_getElem hq] at hb
        cases hb
        simpa using hlt
    · rw [dif_neg h0]
      exact hole_end hp H (fun h => absurd h h0) hd

structure Down (lt : α → α → Bool) (sp pos : Nat) (xs : List α) : Prop where
  i : ∀ j a b, 0 < j → sp ≤ (j - 1) / 2 → (j - 1) / 2 ≠ pos → xs[j]? = some a → xs[(j - 1) / 2]? = some b → lt a b = false
  ii : ∀ j a b, 0 < j → (j - 1) / 2 = pos → sp < pos → xs[j]? = some a → xs[(pos - 1) / 2]? = some b → lt a b = false

omit nt in
theorem suDown_heap (sp : Nat) : ∀ (n pos : Nat) (xs : List α), xs.length - pos ≤ n → pos < xs.length → Dsc sp pos → Down lt sp pos xs →
    Down lt sp (suDown lt pos xs).2 (suDown lt pos xs).1 ∧ Dsc sp (suDown lt pos xs).2 ∧ xs.length ≤ 2 * (suDown lt pos xs).2 + 1 := by
  intro n
  induction n with
  | zero => intro pos xs h hp; (first | lia | omega)
  | succ n ih =>
    intro pos xs h hp hd D
    rw [suDown]
    split
    · rename_i ch hch
      have h1 := (List.getElem?_eq_some_iff.mp hch).1
      have h2 := suC_ge lt xs (2 * pos + 1)
      have h3 := suC_or (lt := lt) xs (2 * pos + 1)
      split
      · rename_i hlt
        have hpar : (suC lt xs (2 * pos + 1) - 1) / 2 = pos := by (first | lia | omega)
        have := ih (suC lt xs (2 * pos + 1)) (xs.set pos ch) (by rw [List.length_set]; (first | lia | omega)) (by rw [List.length_set]; exact h1) (Dsc.step (by (first | lia | omega)) (by rw [hpar]; exact hd)) ⟨fun j a b hj hk hne ha hb => ?_, fun j a b hj hk hs ha hb => ?_⟩
        · rw [List.length_set] at this; exact this
        · rw [List.getElem?_set] at ha hb
          by_cases e2 : pos = (j - 1) / 2
          · rw [if_pos e2, if_pos hp] at hb
            cases hb
            rw [if_neg (by (first | lia | omega))] at ha
            -- j is a child of pos
            by_cases ej : j = suC lt xs (2 * pos + 1)
            · rw [ej, hch] at ha
              cases ha
              cases e : lt ch ch with
              | false => rfl
              | true => have := as _ _ e; rw [e] at this; cases this
            · have hj2 : j = 2 * pos + 1 ∨ j = 2 * pos + 1 + 1 := by (first | lia | omega)
              unfold suC at hch ej
              rcases hj2 with rfl | rfl
              · rw [ha] at hch ej
                cases hr : xs[2 * pos + 1 + 1]? with
                | none => rw [hr] at hch ej; exact absurd rfl ej
                | some r =>
                  rw [hr] at hch ej
                  dsimp only at hch ej
                  by_cases hl : lt a r = true
                  · rw [if_pos hl] at ej; exact absurd rfl ej
                  · rw [if_neg hl, hr] at hch
                    cases hch
                    simpa using hl
              · have hl2 : 2 * pos + 1 < xs.length := hlt
                rw [ha, List.getElem?_eq_getElem hl2] at hch ej
                dsimp only at hch ej
                by_cases hl : lt xs[2 * pos + 1] a = true
                · rw [if_pos hl, List.getElem?_eq_getElem hl2] at hch
                  cases hch
                  exact as _ _ hl
                · rw [if_neg hl] at ej; exact absurd rfl ej
          · rw [if_neg e2] at hb
            by_cases e1 : pos = j
            · subst e1
              rw [if_pos rfl, if_pos hp] at ha
              cases ha
              exact D.ii _ _ b (by (first | lia | omega)) hpar (by (first | lia | omega)) hch hb
            · rw [if_neg e1] at ha
              exact D.i j a b hj hk (Ne.symm e2) ha hb
        · rw [hpar, List.getElem?_set, if_pos rfl, if_pos hp] at hb
          cases hb
          rw [List.getElem?_set, if_neg (by (first | lia | omega))] at ha
          exact D.i j a _ hj (by have := hd.le; (first | lia | omega)) (by (first | lia | omega)) ha (by rw [hk]; exact hch)
      · exact ⟨D, hd, by (first | lia | omega)⟩
    · rename_i hnone
      refine ⟨D, hd, ?_⟩
      have h2 := suC_ge lt xs (2 * pos + 1)
      rcases Nat.lt_or_ge (2 * pos + 1) xs.length with h | h
      · have := suC_lt lt xs (2 * pos + 1) h
        rw [List.getElem?_eq_getElem this] at hnone
        cases hnone
      · (first | lia | omega)

theorem suP_heap (x : α) (pos : Nat) (xs : List α) (hp : pos < xs.length) (h : HF lt (pos + 1) xs) : HF lt pos (suP lt x pos xs) := by
  unfold suP
  have sp := suDown_spec lt _ pos xs (Nat.le_refl _)
  obtain ⟨D, hd, hleaf⟩ := suDown_heap as pos _ pos xs (Nat.le_refl _) hp .refl ⟨fun j a b hj hk hne ha hb => h j a b hj (by (first | lia | omega)) ha hb, fun j a b _ _ h => absurd h (Nat.lt_irrefl _)⟩
  have hl := sp.2.2.1 hp
  refine sdP_heap as nt x pos _ _ _ (Nat.le_refl _) (by rw [List.length_set, sp.1]; exact hl) hd ⟨fun j a b hj hk h1 h2 ha hb => ?_, fun j a b hj hk _ ha _ => ?_, fun j a hj hk ha => ?_⟩
  · rw [List.getElem?_set, if_neg (Ne.symm h1)] at ha
    rw [List.getElem?_set, if_neg (Ne.symm h2)] at hb
    exact D.i j a b hj hk h2 ha hb
  · have := (List.getElem?_eq_some_iff.mp ha).1
    rw [List.length_set, sp.1] at this
    (first | lia | omega)
  · have := (List.getElem?_eq_some_iff.mp ha).1
    rw [List.length_set, sp.1] at this
    (first | lia | omega)

theorem hfP_heap : ∀ (k : Nat) (xs : List α), k ≤ xs.length → HF lt k xs → HF lt 0 (hfP lt k xs)
  | 0, _, _, h => h
  | k + 1, xs, hk, h => by
    refine hfP_heap k _ (by rw [suAt_length]; (first | lia | omega)) ?_
    unfold suAt
    rw [List.getElem?_eq_getElem (by (first | lia | omega))]
    exact suP_heap as nt _ k xs (by (first | lia | omega)) h

theorem heapify_heap (xs : List α) : HF lt 0 (hfP lt (xs.length / 2) xs) := by
  refine hfP_heap as nt _ xs (by (first | lia | omega)) fun j a b hj hk ha _ => ?_
  have := (List.getElem?_eq_some_iff.mp ha).1
  (first | lia | omega)

theorem hrP_heap (x : α) (xs : List α) (hp : 0 < xs.length) (h : HF lt 0 xs) : HF lt 0 (hrP lt x xs) := by
  unfold hrP
  refine suP_heap as nt x 0 _ (by rw [List.length_set]; exact hp) fun j a b hj hk ha hb => ?_
  rw [List.getElem?_set, if_neg (by (first | lia | omega))] at ha hb
  exact h j a b hj (by (first | lia | omega)) ha hb

theorem heap_root {xs : List α} (h : HF lt 0 xs) {a : α} (ha : xs[0]? = some a) : ∀ (j : Nat) (b : α), xs[j]? = some b → lt b a = false := by
  intro j
  induction j using Nat.strongRecOn with
  | _ j ih =>
    intro b hb
    rcases Nat.eq_zero_or_pos j with rfl | hj
    · rw [ha] at hb
      cases hb
      cases e : lt a a with
      | false => rfl
      | true => have := as _ _ e; rw [e] at this; cases this
    · have hl := (List.getElem?_eq_some_iff.mp hb).1
      have hq : (j - 1) / 2 < xs.length := by (first | lia | omega)
      exact nt _ _ _ (ih ((j - 1) / 2) (by (first | lia | omega)) _ (List.getElem?_eq_getElem hq)) (h j b _ hj (Nat.zero_le _) hb (List.getElem?_eq_getElem hq))
end
end

section
variable {α β : Type} (f : α → β) (lt : β → β → Bool)
theorem sdP_map (x : α) (sp : Nat) : ∀ (n pos : Nat) (xs : List α), pos ≤ n → (sdP (fun a b => lt (f a) (f b)) x sp pos xs).map f = sdP lt (f x) sp pos (xs.map f) := by
  intro n
  induction n with
  | zero =>
    intro pos xs h
    rw [sdP, sdP, dif_neg (by (first | lia | omega)), dif_neg (by (first | lia | omega)), List.map_set]
  | succ n ih =>
    intro pos xs h
    rw [sdP, sdP]
    by_cases h0 : sp < pos
    · rw [dif_pos h0, dif_pos h0, List.getElem?_map]
      cases xs[(pos - 1) / 2]? with
      | none => exact List.map_set
      | some par =>
        dsimp only [Option.map_some]
        by_cases hl : lt (f x) (f par) = true
        · rw [if_pos hl, if_pos hl, ih _ _ (by (first | lia | omega)), List.map_set]
        · rw [if_neg hl, if_neg hl, List.map_set]
    · rw [dif_neg h0, dif_neg h0, List.map_set]
theorem suC_map (xs : List α) (c : Nat) : suC lt (xs.map f) c = suC (fun a b => lt (f a) (f b)) xs c := by
  unfold suC
  rw [List.getElem?_map, List.getElem?_map]
  cases xs[c]? <;> cases xs[c + 1]? <;> rfl
theorem suDown_eq {γ : Type} (lt : γ → γ → Bool) (pos : Nat) (xs : List γ) : suDown lt pos xs = match xs[suC lt xs (2 * pos + 1)]? with
    | some ch => if 2 * pos + 1 < xs.length then suDown lt (suC lt xs (2 * pos + 1)) (xs.set pos ch) else (xs, pos)
    | none => (xs, pos) := by
  rw [suDown]
  split
  · rename_i ch hch
    rw [hch]
  · rename_i hn
    rw [hn]
theorem suDown_map : ∀ (n pos : Nat) (xs : List α), xs.length - pos ≤ n → (suDown lt pos (xs.map f)) = ((suDown (fun a b => lt (f a) (f b)) pos xs).1.map f, (suDown (fun a b => lt (f a) (f b)) pos xs).2) := by
  intro n
  induction n with
  | zero =>
    intro pos xs h
    have h1 := suC_ge (fun a b => lt (f a) (f b)) xs (2 * pos + 1)
    have hn : xs[suC (fun a b => lt (f a) (f b)) xs (2 * pos + 1)]? = none := List.getElem?_eq_none (by (first | lia | omega))
    rw [suDown_eq, suDown_eq, suC_map, List.getElem?_map, hn]
    rfl
  | succ n ih =>
    intro pos xs h
    rw [suDown_eq, suDown_eq, suC_map, List.getElem?_map]
    cases hc : xs[suC (fun a b => lt (f a) (f b)) xs (2 * pos + 1)]? with
    | none => rfl
    | some ch =>
      dsimp only [Option.map_some]
      rw [List.length_map]
      have h1 := (List.getElem?_eq_some_iff.mp hc).1
      have h2 := suC_ge (fun a b => lt (f a) (f b)) xs (2 * pos + 1)
      by_cases h3 : 2 * pos + 1 < xs.length
      · rw [if_pos h3, if_pos h3, ← List.map_set]
        exact ih _ _ (by rw [List.length_set]; (first | lia | omega))
      · rw [if_neg h3, if_neg h3]
theorem suP_map (x : α) (pos : Nat) (xs : List α) : (suP (fun a b => lt (f a) (f b)) x pos xs).map f = suP lt (f x) pos (xs.map f) := by
  unfold suP
  rw [sdP_map f lt x pos _ _ _ (Nat.le_refl _), suDown_map f lt _ pos xs (Nat.le_refl _), List.map_set]
theorem suAt_map (xs : List α) (i : Nat) : (suAt (fun a b => lt (f a) (f b)) xs i).map f = suAt lt (xs.map f) i := by
  unfold suAt
  rw [List.getElem?_map]
  cases xs[i]? with
  | none => rfl
  | some x => exact suP_map f lt x i xs
theorem hfP_map : ∀ (k : Nat) (xs : List α), (hfP (fun a b => lt (f a) (f b)) k xs).map f = hfP lt k (xs.map f)
  | 0, _ => rfl
  | k + 1, xs => by
    rw [hfP, hfP, hfP_map k, suAt_map]
theorem hrP_map (x : α) (xs : List α) : (hrP (fun a b => lt (f a) (f b)) x xs).map f = hrP lt (f x) (xs.map f) := by
  unfold hrP
  rw [suP_map, List.map_set]
end
end Mine
end
section
set_option maxHeartbeats 8000000
namespace Mine
theorem offP2 : True := by
  w_top off
  trivial

structure IsTop (r : Nat → Nat) (D : Nat → Prop) (p : List Nat) : Prop where
  ord : p.Pairwise (kst r)
  dom : ∀ x ∈ p, D x
  out : ∀ x ∈ p, ∀ y, D y → y ∉ p → kst r x y

theorem kst_irr {r : Nat → Nat} {a : Nat} (h : kst r a a) : False := by unfold kst at h; (first | lia | omega)
theorem kst_as {r : Nat → Nat} {a b : Nat} (h : kst r a b) (h' : kst r b a) : False := by unfold kst at h h'; (first | lia | omega)
theorem kst_tr {r : Nat → Nat} {a b c : Nat} (h : kst r a b) (h' : kst r b c) : kst r a c := by unfold kst at *; (first | lia | omega)
theorem kst_tot {r : Nat → Nat} {a b : Nat} (h : a ≠ b) : kst r a b ∨ kst r b a := by unfold kst; (first | lia | omega)

theorem IsTop.uniq {r : Nat → Nat} : ∀ {p q : List Nat} {D : Nat → Prop}, p.length = q.length → IsTop r D p → IsTop r D q → p = q
  | [], [], _, _, _, _ => rfl
  | a :: p, b :: q, D, hl, hp, hq => by
    have ha : ∀ y, D y → y ≠ a → kst r a y := fun y hy hne => by
      by_cases hm : y ∈ a :: p
      · rcases List.mem_cons.mp hm with e | hm
        · exact absurd e hne
        · exact (List.pairwise_cons.mp hp.ord).1 y hm
      · exact hp.out a (.head _) y hy hm
    have hb : ∀ y, D y → y ≠ b → kst r b y := fun y hy hne => by
      by_cases hm : y ∈ b :: q
      · rcases List.mem_cons.mp hm with e | hm
        · exact absurd e hne
        · exact (List.pairwise_cons.mp hq.ord).1 y hm
      · exact hq.out b (.head _) y hy hm
    have e : a = b := by
      by_cases e : a = b
      · exact e
      · exact (kst_as (ha b (hq.dom b (.head _)) (Ne.symm e)) (hb a (hp.dom a (.head _)) e)).elim
    subst e
    have tl : ∀ {p : List Nat}, IsTop r D (a :: p) → IsTop r (fun y => D y ∧ y ≠ a) p := fun {p} h =>
      ⟨(List.pairwise_cons.mp h.ord).2, fun x hx => ⟨h.dom x (.tail _ hx), fun e => kst_irr ((List.pairwise_cons.mp h.ord).1 a (e ▸ hx))⟩,
        fun x hx y hy hm => h.out x (.tail _ hx) y hy.1 fun hm' => (List.mem_cons.mp hm').elim hy.2 hm⟩
    rw [IsTop.uniq (by simpa using hl) (tl hp) (tl hq)]

theorem top_take {r : Nat → Nat} {N n : Nat} {p : List Nat} (hp : p.Perm (List.range N)) (ho : p.Pairwise (kst r)) : IsTop r (fun y => y < N) (p.take n) := by
  have hs : p.take n ++ p.drop n = p := List.take_append_drop n p
  have ho' := ho
  rw [← hs, List.pairwise_append] at ho'
  refine ⟨ho'.1, fun x hx => List.mem_range.mp (hp.mem_iff.mp (List.mem_of_mem_take hx)), fun x hx y hy hm => ho'.2.2 x hx y ?_⟩
  have : y ∈ p := hp.mem_iff.mpr (List.mem_range.mpr hy)
  rw [← hs, List.mem_append] at this
  exact this.resolve_left hm

noncomputable def ltH (r : Nat → Nat) (e f : Nat × Nat) : Bool := decide (r f.1 < r e.1 ∨ (r f.1 = r e.1 ∧ f.2 < e.2))
theorem ltH_as (r : Nat → Nat) : ∀ a b, ltH r a b = true → ltH r b a = false := fun a b h => by
  unfold ltH at *; simp only [decide_eq_true_eq, decide_eq_false_iff_not] at *; (first | lia | omega)
theorem ltH_nt (r : Nat → Nat) : ∀ a b c, ltH r b a = false → ltH r c b = false → ltH r c a = false := fun a b c h h' => by
  unfold ltH at *; simp only [decide_eq_false_iff_not] at *; (first | lia | omega)

structure NInv (r : Nat → Nat) (n t : Nat) (es : List (Nat × Nat)) (ord : Nat) : Prop where
  len : es.length = n
  heap : HF (ltH r) 0 es
  lt : ∀ e ∈ es, e.1 < t ∧ e.2 < ord
  mono : ∀ e ∈ es, ∀ f ∈ es, e.1 < f.1 → e.2 < f.2
  nodup : (es.map Prod.fst).Nodup
  best : ∀ e ∈ es, ∀ j, j < t → j ∉ es.map Prod.fst → kst r e.1 j

theorem ninv_init (r : Nat → Nat) (n : Nat) : NInv r n n (hfP (ltH r) (n / 2) ((List.range n).map fun i => (i, i))) n := by
  have hp := hfP_perm (lt := ltH r) (n / 2) ((List.range n).map fun i => (i, i))
  have hlen : ((List.range n).map fun i => (i, i)).length = n := by simp
  have hm : ∀ e, e ∈ hfP (ltH r) (n / 2) ((List.range n).map fun i => (i, i)) → e.1 < n ∧ e.2 = e.1 := fun e he => by
    obtain ⟨i, hi, rfl⟩ := List.mem_map.mp (hp.mem_iff.mp he)
    exact ⟨List.mem_range.mp hi, rfl⟩
  have hpm : ((hfP (ltH r) (n / 2) ((List.range n).map fun i => (i, i))).map Prod.fst).Perm (List.range n) := by
    have := hp.map Prod.fst
    rw [List.map_map] at this
    have e : (Prod.fst ∘ fun i : Nat => (i, i)) = id := rfl
    rw [e, List.map_id] at this
    exact this
  refine ⟨hp.length_eq.trans hlen, ?_, fun e he => ?_, fun e he f hf h => ?_, hpm.nodup_iff.mpr List.nodup_range, fun e he j hj hn => ?_⟩
  · have := heapify_heap (ltH_as r) (ltH_nt r) ((List.range n).map fun i => (i, i))
    rwa [hlen] at this
  · have := hm e he; (first | lia | omega)
  · have := hm e he; have := hm f hf; (first | lia | omega)
  · exact absurd (hpm.mem_iff.mpr (List.mem_range.mpr hj)) hn

theorem ninv_root {r : Nat → Nat} {n t ord : Nat} {e0 : Nat × Nat} {es : List (Nat × Nat)} (h : NInv r n t (e0 :: es) ord) : ∀ e ∈ e0 :: es, e = e0 ∨ kst r e.1 e0.1 := fun e he => by
  obtain ⟨j, hj, hje⟩ := List.getElem_of_mem he
  have hr := heap_root (ltH_as r) (ltH_nt r) h.heap rfl j e (by rw [List.getElem?_eq_getElem hj, hje])
  unfold ltH at hr
  simp only [decide_eq_false_iff_not] at hr
  by_cases hlt : e.1 < e0.1
  · refine .inr ?_
    have := h.mono e he e0 (.head _) hlt
    unfold kst
    (first | lia | omega)
  · by_cases hgt : e0.1 < e.1
    · refine .inr ?_
      have := h.mono e0 (.head _) e he hgt
      unfold kst
      (first | lia | omega)
    · refine .inl ?_
      have heq : e.1 = e0.1 := by (first | lia | omega)
      rcases List.mem_cons.mp he with e1 | hm
      · exact e1
      · have := h.nodup
        rw [List.map_cons, List.nodup_cons] at this
        exact absurd (heq ▸ List.mem_map_of_mem hm) this.1

theorem ninv_skip {r : Nat → Nat} {n t ord : Nat} {e0 : Nat × Nat} {es : List (Nat × Nat)} (h : NInv r n t (e0 :: es) ord) (hk : ¬ r t < r e0.1) : NInv r n (t + 1) (e0 :: es) ord := by
  refine ⟨h.len, h.heap, fun e he => ⟨by have := (h.lt e he).1; (first | lia | omega), (h.lt e he).2⟩, h.mono, h.nodup, fun e he j hj hn => ?_⟩
  rcases Nat.lt_or_ge j t with hjt | hjt
  · exact h.best e he j hjt hn
  · have e1 : j = t := by (first | lia | omega)
    subst e1
    have hlt := (h.lt e he).1
    have hr := ninv_root h e he
    unfold kst at *
    rcases hr with rfl | hr
    · (first | lia | omega)
    · (first | lia | omega)

theorem ninv_repl {r : Nat → Nat} {n t ord : Nat} {e0 : Nat × Nat} {es : List (Nat × Nat)} (h : NInv r n t (e0 :: es) ord) (hk : r t < r e0.1) : NInv r n (t + 1) (hrP (ltH r) (t, ord) (e0 :: es)) (ord + 1) := by
  have hp : (hrP (ltH r) (t, ord) (e0 :: es)).Perm ((t, ord) :: es) := hrP_perm (lt := ltH r) (t, ord) (e0 :: es) (by simp)
  have mem : ∀ e, e ∈ hrP (ltH r) (t, ord) (e0 :: es) → e = (t, ord) ∨ e ∈ es := fun e he => List.mem_cons.mp (hp.mem_iff.mp he)
  have old : ∀ e, e ∈ es → e.1 < t ∧ e.2 < ord := fun e he => h.lt e (.tail _ he)
  have hpm : ((hrP (ltH r) (t, ord) (e0 :: es)).map Prod.fst).Perm (t :: es.map Prod.fst) := hp.map Prod.fst
  have hnd := h.nodup
  rw [List.map_cons, List.nodup_cons] at hnd
  refine ⟨hp.length_eq.trans h.len, hrP_heap (ltH_as r) (ltH_nt r) _ _ (by simp) h.heap, fun e he => ?_, fun e he f hf hef => ?_, hpm.nodup_iff.mpr (List.nodup_cons.mpr ⟨fun hm => ?_, hnd.2⟩), fun e he j hj hn => ?_⟩
  · rcases mem e he with rfl | hm
    · exact ⟨by show t < t + 1; (first | lia | omega), by show ord < ord + 1; (first | lia | omega)⟩
    · have := old e hm; (first | lia | omega)
  · rcases mem e he with rfl | hm
    · rcases mem f hf with rfl | hm'
      · exact absurd hef (Nat.lt_irrefl _)
      · have := old f hm'
        have : t < f.1 := hef
        (first | lia | omega)
    · rcases mem f hf with rfl | hm'
      · exact (old e hm).2
      · exact h.mono e (.tail _ hm) f (.tail _ hm') hef
  · obtain ⟨e, he, e1⟩ := List.mem_map.mp hm
    have := (old e he).1
    (first | lia | omega)
  · have hn' : j ≠ t ∧ j ∉ es.map Prod.fst := by
      have := fun hm => hn (hpm.mem_iff.mpr hm)
      exact ⟨fun e => this (e ▸ .head _), fun hm => this (.tail _ hm)⟩
    have hjt : j < t := by (first | lia | omega)
    have hroot : j = e0.1 ∨ kst r e0.1 j := by
      by_cases e : j = e0.1
      · exact .inl e
      · exact .inr (h.best e0 (.head _) j hjt (by rw [List.map_cons, List.mem_cons]; exact fun hm => hm.elim e hn'.2))
    rcases mem e he with rfl | hm
    · show kst r t j
      unfold kst at *
      rcases hroot with rfl | hroot <;> (first | lia | omega)
    · have h1 : kst r e.1 e0.1 := by
        rcases ninv_root h e (.tail _ hm) with e1 | e1
        · rw [e1] at hm
          exact absurd (List.mem_map_of_mem hm) hnd.1
        · exact e1
      rcases hroot with rfl | hroot
      · exact h1
      · exact kst_tr h1 hroot

theorem ninv_top {r : Nat → Nat} {n N ord : Nat} {es : List (Nat × Nat)} (h : NInv r n N es ord) {q : List (Nat × Nat)} (hq : q.Perm es) (ho : q.Pairwise fun e f => ltH r e f = false) : IsTop r (fun y => y < N) (q.map Prod.fst) := by
  have hm : ∀ x, x ∈ q.map Prod.fst ↔ x ∈ es.map Prod.fst := fun x => (hq.map Prod.fst).mem_iff
  have hnd : (q.map Prod.fst).Nodup := (hq.map Prod.fst).nodup_iff.mpr h.nodup
  refine ⟨?_, fun x hx => ?_, fun x hx y hy hn => ?_⟩
  · rw [List.pairwise_map]
    have hnd' : q.Pairwise fun e f => e.1 ≠ f.1 := by
      unfold List.Nodup at hnd
      rwa [List.pairwise_map] at hnd
    refine List.Pairwise.imp_of_mem (fun {e f} he hf hc => ?_) (ho.and hnd')
    obtain ⟨h1, h2⟩ := hc
    unfold ltH at h1
    simp only [decide_eq_false_iff_not] at h1
    have m1 := hq.mem_iff.mp he
    have m2 := hq.mem_iff.mp hf
    have := h.mono e m1 f m2
    have := h.mono f m2 e m1
    unfold kst
    (first | lia | omega)
  · obtain ⟨e, he, rfl⟩ := List.mem_map.mp ((hm x).mp hx)
    exact (h.lt e he).1
  · obtain ⟨e, he, rfl⟩ := List.mem_map.mp ((hm x).mp hx)
    exact h.best e he y hy fun hm' => hn ((hm y).mpr hm')

theorem top_one {r : Nat → Nat} {N i : Nat} (hi : i < N) (h : ∀ j, j < N → (j < i → r i < r j) ∧ ¬ r j < r i) : IsTop r (fun y => y < N) [i] := by
  refine ⟨List.pairwise_singleton _ _, fun x hx => by rw [List.mem_singleton.mp hx]; exact hi, fun x hx y hy hn => ?_⟩
  rw [List.mem_singleton.mp hx]
  have hne : y ≠ i := fun e => hn (e ▸ .head _)
  obtain ⟨h1, h2⟩ := h y hy
  unfold kst
  by_cases hlt : y < i
  · exact .inl (h1 hlt)
  · (first | lia | omega)
theorem top_all {r : Nat → Nat} {N : Nat} {p : List Nat} (hp : p.Perm (List.range N)) (ho : p.Pairwise (kst r)) : IsTop r (fun y => y < N) p := by
  have h := top_take (n := N) hp ho
  rwa [List.take_of_length_le (by rw [hp.length_eq, List.length_range]; exact Nat.le_refl _)] at h
end Mine
end
section
open PySem PySem.W PyProof.Rows PySem.Calls
set_option maxHeartbeats 8000000
namespace Mine
theorem offO1 : True := by
  w_top off
  trivial
theorem o_mro : mroOf (.type "object") = pure [.type "object"] := by rw [mroOf_type]; kernel_rfl
theorem o_lookup_new : typeLookup (.type "object") "__new__" = pure (some (.builtin "object.__new__")) := by rw [typeLookup_type, builtinLookup_eq_fast]; kernel_rfl
theorem o_made : Bind.madeBy (.type "object") = pure (some "object.__new__") := madeBy_type o_mro o_lookup_new (by decide +kernel)
theorem o_sub : isSubtype (.type "object") (.type "object") = pure true := by rw [isSubtype_type]; kernel_rfl
theorem o_called : TypeCalled "object" "object.__new__" "object.__init__" :=
  ⟨by decide +kernel, by decide +kernel, ⟨_, _, o_mro⟩, o_made, by decide +kernel, o_sub, F.slot_object_init⟩
theorem o_typeCall : checkTypeCall "object" ⟨[], []⟩ = pure () := by kernel_rfl
theorem o_newCall : checkBuiltinCall "object.__new__" ⟨[.type "object"], []⟩ = pure () := by kernel_rfl
theorem o_here : Bind.madeHere "object.__new__" (.type "object") = pure () := by
  unfold Bind.madeHere
  rw [show Bind.staticBase (.type "object") = pure (.type "object") from by first | rfl | kernel_rfl]
  simp only [pure_bind, o_made]
  first
  | rfl
  | kernel_rfl

theorem meets_object_new : Meets (Builtin.«object.__new__» ⟨[.type "object"], []⟩) (fun _ R s => R (.ok (.ret (.ref s.heap.objs.size))) { s with heap := s.heap.push { cls := .type "object", data := .plain } }) :=
  .of_wp fun prog w A R s h => by
    have h1 := o_here
    wp_walk
    exact ⟨_, rfl, h⟩

theorem meets_object_init0 (self : Value) : Meets (Builtin.«object.__init__» ⟨[self], []⟩) (fun _ R s => R (.ok (.ret .none)) s) :=
  .of_wp fun prog w A R s h => wpAny_pure ⟨_, rfl, h⟩

theorem call_object {prog : Program} {w : World} {A : Around} {E : Value → Shared → Prop} {s : Shared} {g : Heap} {L : Addr} {m : Str → Option Value} {news : List (Addr × Obj)} {Q : Value → Shared → Prop} (F : Fr g L s.heap m) (N : News g L s.heap news)
    (h : ∀ D h', Fr g L h' m → News g L h' ((D, { cls := .type "object", data := .plain }) :: news) → (∀ q ∈ news, q.1 < D) → s.heap.get? D = none → (∀ b o, s.heap.get? b = some o → h'.get? b = some o) → Q (.ref D) { s with heap := h' }) : wpAny (model prog w) A (call (.type "object") []) Q E s := by
  have hk : ∀ b o, s.heap.get? b = some o → (s.heap.push { cls := .type "object", data := .plain }).get? b = some o := fun b o e => Heap.get?_push_of_some _ e
  have e0 : s.heap.get? s.heap.objs.size = none := by
    cases q : s.heap.get? s.heap.objs.size with
    | none => rfl
    | some o => exact absurd (Heap.lt_size q) (Nat.lt_irrefl _)
  have hnew : (s.heap.push { cls := .type "object", data := .plain }).get? s.heap.objs.size = some { cls := .type "object", data := .plain } := Heap.get?_push_size _ rfl
  refine callType_meets (Q₁ := fun obj s₁ => s₁.TypeIs obj "object" ∧ Q obj s₁) o_called o_typeCall o_newCall PySem.F.entry_object_new PySem.F.entry_object_init meets_object_new ⟨⟨_, hnew, rfl⟩, ?_⟩ fun obj s₁ hq => ⟨hq.1, PySem.F.args_object_init_1 obj, _, meets_object_init0 obj, rfl, hq.2⟩
  refine h _ _ (F.keeps hk) (fun q hq => ?_) (fun q hq => Heap.lt_size (N q hq).1) e0 hk
  rcases List.mem_cons.mp hq with rfl | hq
  · exact ⟨hnew, Nat.ne_of_gt F.ns.lt, none_of F e0⟩
  · exact News.keep N hk q hq
end Mine
end
section
open PySem PySem.W PyProof.Rows PySem.Calls
set_option maxHeartbeats 8000000
namespace Mine
theorem offN0 : True := by
  w_top off
  trivial
theorem fillN0 (w : World) (x : OpenLaw) (h : PySem.Challenge.rw_ij0057_01 = x) : (Mine.frag.heap_1 w.params) = (Mine.frag.heap_1 w.params) ∧ PySem.Challenge.rw_ij0057_01 = x := by
  k_fill
  exact ⟨rfl, h⟩

theorem FnAt.mv {q : Addr} {h h' : Heap} (x : FnAt q h) (k : ∀ b o, h.get? b = some o → h'.get? b = some o) : FnAt q h' := let ⟨a, b, c, d, e⟩ := x; ⟨a, b, c, d, k _ _ e⟩

section
variable {w : World} {A : Around} {env : Env} {s₂ : Shared} {wr : List Addr} {n : Nat} {P : Nat → Value → Heap → Prop} {scope : Scope} {cA kf : Addr} {vs : List Value} {K : Nat → Str} {o : Nat → Int} {oc : Obj}
  {p : Program} {loose : List Str} {mean : ExcName → Option Value} {mg mb : Str → Option Value}
theorem key_turns {q1 q2 q3 p1 p2 p3 p4 p5 p6 : Pos} {k : Nat} (X : (Mine.frag.heap_1 w.params).In (hideAll s₂.heap wr)) (T : Top p loose mean mg mb (hideAll s₂.heap wr)) (hh : A.handled = none) (hd : A.depth + 10 < recursionLimit) (hu : A.units + 100 < cLine) (hkind : ∀ C, (compEnvC scope [("key", cA)] C env).scope.kind = .function)
    (hkey : ∀ C, (compEnvC scope [("key", cA)] C env).kindOf "key" = some .cell) (helem : ∀ C, (compEnvC scope [("key", cA)] C env).kindOf "elem" = some .local) (hi : ∀ C, (compEnvC scope [("key", cA)] C env).kindOf "i" = some .local)
    (hF : FnAt kf (hideAll s₂.heap wr)) (hcell : (hideAll s₂.heap wr).get? cA = some oc) (hcd : oc.data = .cell (some (.ref kf))) (hK : ∀ j v, vs[j]? = some v → KeyOk w (hideAll s₂.heap wr) (.ref kf) v (K j))
    (hP : ∀ i v h, i < n → P i v h → ∃ T t x, v = .ref T ∧ vs[i]? = some x ∧ IsTup h T #[.int (o i) t, x]) :
    TurnsG PySem.Challenge.rw_ij0057_01.row.prog w A env scope [("key", cA)] (.Tuple [.Name "i" q1, .Name "elem" q2] k q3) (.Tuple [.Call (.Name "key" p1) [.Name "elem" p2] [] p3, .Name "i" p4, .Name "elem" p5] 0 p6) wr n P
      (fun j y o' => ∃ t1 t2 v e, vs[j]? = some v ∧ o' = some (seqObj "tuple" (List.toArray [.str (K j) t1, .int (o j) t2, v]) e)) s₂ := by
  refine turns_of ?_
  rintro C i v ⟨h8, gs8, dr8, tk8, os8⟩ m8 rest E8 hin hPv hC hk8 F8 N8
  dsimp only at hPv F8 N8 hk8
  obtain ⟨Tt, t, x, rfl, hx, hT⟩ := hP i v h8 hin hPv
  have hcp : ((compEnvC scope [("key", cA)] C env).scope.kind == .class || ((compEnvC scope [("key", cA)] C env).scope.kind == .module && (compEnvC scope [("key", cA)] C env).locals != (compEnvC scope [("key", cA)] C env).globals)) = false := by
    rw [hkind C]; rfl
  refine assign2 hh F8 N8 hT (hi C) (helem C) hcp fun h9 tk9 F9 N9 hk9 => ?_
  dsimp only
  clear F8 N8
  (repeat' ((fail_if_success k_end); (fail_if_success (with_reducible show wpAny _ _ (eval (Expr.Name _ _) _) _ _ _)); (fail_if_success (with_reducible show wpAny _ _ (call (Value.ref _) _ _) _ _ _)); first | walk1 | (dsimp only; walk1)))
  refine wpAny_Name (wpAny_loadName_cell (hkind C) (hkey C) rfl ⟨_, F9.keep _ _ hcell, hcd⟩ ?_)
  refine callWith_F (FnAt.mv hF F9.keep) ?_
  (repeat' ((fail_if_success k_end); (fail_if_success (with_reducible show wpAny _ _ (eval (Expr.Name _ _) _) _ _ _)); (fail_if_success (with_reducible show wpAny _ _ (call (Value.ref _) _ _) _ _ _)); first | walk1 | (dsimp only; walk1)))
  refine nameC_L F9 rfl ?_ (hkind C) (helem C)
  (repeat' ((fail_if_success k_end); (fail_if_success (with_reducible show wpAny _ _ (eval (Expr.Name _ _) _) _ _ _)); (fail_if_success (with_reducible show wpAny _ _ (call (Value.ref _) _ _) _ _ _)); first | walk1 | (dsimp only; walk1)))
  (try dsimp only [List.nil_append])
  refine ⟨FnAt.mv hF F9.keep, ?_⟩
  refine hK i x hx _ _ _ _ hd hu F9.keep fun h10 tk10 t10 hk10 => ?_
  have F10 := F9.keeps hk10
  have N10 := News.keep N9 hk10
  clear F9 N9
  dsimp only at F10 N10 ⊢
  (repeat' ((fail_if_success k_end); (fail_if_success (with_reducible show wpAny _ _ (eval (Expr.Name _ _) _) _ _ _)); (fail_if_success (with_reducible show wpAny _ _ (call (Value.ref _) _ _) _ _ _)); first | walk1 | (dsimp only; walk1)))
  refine nameC_L F10 rfl ?_ (hkind C) (hi C)
  (repeat' ((fail_if_success k_end); (fail_if_success (with_reducible show wpAny _ _ (eval (Expr.Name _ _) _) _ _ _)); (fail_if_success (with_reducible show wpAny _ _ (call (Value.ref _) _ _) _ _ _)); first | walk1 | (dsimp only; walk1)))
  refine nameC_L F10 rfl ?_ (hkind C) (helem C)
  (repeat' ((fail_if_success k_end); (fail_if_success (with_reducible show wpAny _ _ (eval (Expr.Name _ _) _) _ _ _)); (fail_if_success (with_reducible show wpAny _ _ (call (Value.ref _) _ _) _ _ _)); first | walk1 | (dsimp only; walk1)))
  rename_i D h11 F11 N11 l1
  exact ⟨h11, _, _, _, rfl, F11, N11, fun q hq => .tail _ hq, .inr ⟨D, _, rfl, .head _, fun q hq => Nat.ne_of_lt (l1 q hq), t10, t, x, 0, hx, rfl⟩⟩
end
end Mine
end
section
set_option maxHeartbeats 8000000
namespace Mine
theorem offP3 : True := by
  w_top off
  trivial
section
variable {α : Type} {lt lt' : α → α → Bool} {S : α → Prop} (hS : ∀ a b, S a → S b → lt a b = lt' a b)
include hS
theorem sdP_congr {x : α} (hx : S x) (sp : Nat) : ∀ (n pos : Nat) (xs : List α), pos ≤ n → (∀ a ∈ xs, S a) → sdP lt x sp pos xs = sdP lt' x sp pos xs := by
  intro n
  induction n with
  | zero => intro pos xs h hm; rw [sdP, sdP, dif_neg (by (first | lia | omega)), dif_neg (by (first | lia | omega))]
  | succ n ih =>
    intro pos xs h hm
    rw [sdP, sdP]
    by_cases h0 : sp < pos
    · rw [dif_pos h0, dif_pos h0]
      cases hq : xs[(pos - 1) / 2]? with
      | none => rfl
      | some par =>
        have hp := hm par (List.mem_of_getElem? hq)
        dsimp only
        rw [hS x par hx hp]
        split
        · exact ih _ _ (by (first | lia | omega)) fun a ha => (List.mem_or_eq_of_mem_set ha).elim (hm a) fun e => e ▸ hp
        · rfl
    · rw [dif_neg h0, dif_neg h0]
theorem suC_congr (xs : List α) (c : Nat) (hm : ∀ a ∈ xs, S a) : suC lt xs c = suC lt' xs c := by
  unfold suC
  cases h1 : xs[c]? with
  | none => rfl
  | some a =>
    cases h2 : xs[c + 1]? with
    | none => rfl
    | some b =>
      dsimp only
      rw [hS a b (hm a (List.mem_of_getElem? h1)) (hm b (List.mem_of_getElem? h2))]
theorem suDown_congr : ∀ (n pos : Nat) (xs : List α), xs.length - pos ≤ n → (∀ a ∈ xs, S a) → suDown lt pos xs = suDown lt' pos xs := by
  intro n
  induction n with
  | zero =>
    intro pos xs h hm
    have h1 := suC_ge lt' xs (2 * pos + 1)
    have hn : xs[suC lt' xs (2 * pos + 1)]? = none := List.getElem?_eq_none (by (first | lia | omega))
    rw [suDown_eq, suDown_eq, suC_congr hS xs _ hm, hn]
  | succ n ih =>
    intro pos xs h hm
    rw [suDown_eq, suDown_eq, suC_congr hS xs _ hm]
    cases hc : xs[suC lt' xs (2 * pos + 1)]? with
    | none => rfl
    | some ch =>
      dsimp only
      have h1 := (List.getElem?_eq_some_iff.mp hc).1
      have h2 := suC_ge lt' xs (2 * pos + 1)
      by_cases h3 : 2 * pos + 1 < xs.length
      · rw [if_pos h3, if_pos h3]
        exact ih _ _ (by rw [List.length_set]; (first | lia | omega)) fun a ha => (List.mem_or_eq_of_mem_set ha).elim (hm a) fun e => e ▸ hm ch (List.mem_of_getElem? hc)
      · rw [if_neg h3, if_neg h3]
theorem suP_congr {x : α} (hx : S x) (pos : Nat) (xs : List α) (hm : ∀ a ∈ xs, S a) : suP lt x pos xs = suP lt' x pos xs := by
  unfold suP
  rw [suDown_congr hS _ pos xs (Nat.le_refl _) hm]
  refine sdP_congr hS hx _ _ _ _ (Nat.le_refl _) fun a ha => ?_
  rcases List.mem_or_eq_of_mem_set ha with h | h
  · exact hm a ((suDown_spec lt' _ pos xs (Nat.le_refl _)).2.1 a h)
  · exact h ▸ hx
theorem suAt_congr (xs : List α) (i : Nat) (hm : ∀ a ∈ xs, S a) : suAt lt xs i = suAt lt' xs i := by
  unfold suAt
  cases h : xs[i]? with
  | none => rfl
  | some x => exact suP_congr hS (hm x (List.mem_of_getElem? h)) i xs hm
theorem hfP_congr : ∀ (k : Nat) (xs : List α), (∀ a ∈ xs, S a) → hfP lt k xs = hfP lt' k xs
  | 0, _, _ => rfl
  | k + 1, xs, hm => by
    rw [hfP, hfP, suAt_congr hS xs k hm]
    exact hfP_congr k _ fun a ha => hm a (suAt_mem lt' xs k a ha)
theorem hrP_congr {x : α} (hx : S x) (xs : List α) (hm : ∀ a ∈ xs, S a) : hrP lt x xs = hrP lt' x xs := by
  unfold hrP
  exact suP_congr hS hx 0 _ fun a ha => (List.mem_or_eq_of_mem_set ha).elim (hm a) fun e => e ▸ hx
end

noncomputable def Tog {α β : Type} (R : α → β → Prop) (xs : List α) (ys : List β) : Prop := ∃ zs : List (α × β), xs = zs.map Prod.fst ∧ ys = zs.map Prod.snd ∧ ∀ z ∈ zs, R z.1 z.2

section
variable {α β : Type} {R : α → β → Prop} {xs : List α} {ys : List β}
theorem Tog.length (h : Tog R xs ys) : xs.length = ys.length := by
  obtain ⟨zs, rfl, rfl, _⟩ := h; simp
theorem Tog.nil : Tog R [] [] := ⟨[], rfl, rfl, fun _ h => nomatch h⟩
theorem Tog.cons {x : α} {y : β} (h0 : R x y) (h : Tog R xs ys) : Tog R (x :: xs) (y :: ys) := by
  obtain ⟨zs, rfl, rfl, hz⟩ := h
  exact ⟨(x, y) :: zs, rfl, rfl, fun z hm => (List.mem_cons.mp hm).elim (fun e => e ▸ h0) (hz z)⟩
theorem Tog.imp {R' : α → β → Prop} (h : Tog R xs ys) (hi : ∀ x y, x ∈ xs → y ∈ ys → R x y → R' x y) : Tog R' xs ys := by
  obtain ⟨zs, rfl, rfl, hz⟩ := h
  exact ⟨zs, rfl, rfl, fun z hm => hi _ _ (List.mem_map_of_mem hm) (List.mem_map_of_mem hm) (hz z hm)⟩
theorem Tog.get (h : Tog R xs ys) {i : Nat} {x : α} (hx : xs[i]? = some x) : ∃ y, ys[i]? = some y ∧ R x y := by
  obtain ⟨zs, rfl, rfl, hz⟩ := h
  rw [List.getElem?_map] at hx
  obtain ⟨z, h1, rfl⟩ := Option.map_eq_some_iff.mp hx
  exact ⟨z.2, by rw [List.getElem?_map, h1]; rfl, hz z (List.mem_of_getElem? h1)⟩
theorem Tog.mem (h : Tog R xs ys) {x : α} (hx : x ∈ xs) : ∃ y ∈ ys, R x y := by
  obtain ⟨zs, rfl, rfl, hz⟩ := h
  obtain ⟨z, hm, rfl⟩ := List.mem_map.mp hx
  exact ⟨z.2, List.mem_map_of_mem hm, hz z hm⟩
theorem Tog.of_get (hl : xs.length = ys.length) (h : ∀ (i : Nat) x y, xs[i]? = some x → ys[i]? = some y → R x y) : Tog R xs ys := by
  refine ⟨xs.zip ys, ?_, ?_, fun z hz => ?_⟩
  · rw [List.map_fst_zip (by (first | lia | omega))]
  · rw [List.map_snd_zip (by (first | lia | omega))]
  · obtain ⟨i, hi, e⟩ := List.getElem_of_mem hz
    have hi' : i < xs.length ∧ i < ys.length := by
      have := hi
      rw [List.length_zip] at this
      (first | lia | omega)
    rw [List.getElem_zip] at e
    subst e
    exact h i _ _ (List.getElem?_eq_getElem hi'.1) (List.getElem?_eq_getElem hi'.2)
theorem Tog.pick (h : Tog R xs ys) (p : List Nat) (hp : ∀ i ∈ p, i < xs.length) (d : α) (d' : β) : Tog R (p.map fun i => xs.getD i d) (p.map fun i => ys.getD i d') := by
  refine ⟨p.map fun i => (xs.getD i d, ys.getD i d'), by simp, by simp, fun z hz => ?_⟩
  obtain ⟨i, hi, rfl⟩ := List.mem_map.mp hz
  have hlt := hp i hi
  have hx : xs[i]? = some (xs.getD i d) := by simp [hlt]
  obtain ⟨y, h1, h2⟩ := h.get hx
  have : ys.getD i d' = y := by rw [List.getD_eq_getElem?_getD, h1]; rfl
  show R (xs.getD i d) (ys.getD i d')
  rw [this]; exact h2

theorem Tog.hf {lx : α → α → Bool} {ly : β → β → Bool} (h : Tog R xs ys) (hl : ∀ a b x y, R a x → R b y → lx a b = ly x y) (k : Nat) : Tog R (hfP lx k xs) (hfP ly k ys) := by
  obtain ⟨zs, rfl, rfl, hz⟩ := h
  have e := hfP_congr (lt := fun a b : α × β => lx a.1 b.1) (lt' := fun a b => ly a.2 b.2) (S := fun z => R z.1 z.2) (fun a b ha hb => hl _ _ _ _ ha hb) k zs hz
  refine ⟨hfP (fun a b => lx a.1 b.1) k zs, (hfP_map Prod.fst lx k zs).symm, ?_, fun z hm => hz z ((hfP_perm k zs).mem_iff.mp hm)⟩
  rw [e]
  exact (hfP_map Prod.snd ly k zs).symm
theorem Tog.hr {lx : α → α → Bool} {ly : β → β → Bool} {x : α} {y : β} (h : Tog R xs ys) (h0 : R x y) (hl : ∀ a b x y, R a x → R b y → lx a b = ly x y) (hne : 0 < xs.length) : Tog R (hrP lx x xs) (hrP ly y ys) := by
  obtain ⟨zs, rfl, rfl, hz⟩ := h
  have e := hrP_congr (lt := fun a b : α × β => lx a.1 b.1) (lt' := fun a b => ly a.2 b.2) (S := fun z => R z.1 z.2) (fun a b ha hb => hl _ _ _ _ ha hb) (x := (x, y)) h0 zs hz
  refine ⟨hrP (fun a b => lx a.1 b.1) (x, y) zs, (hrP_map Prod.fst lx (x, y) zs).symm, ?_, fun z hm => ?_⟩
  · rw [e]
    exact (hrP_map Prod.snd ly (x, y) zs).symm
  · have hp := hrP_perm (lt := fun a b : α × β => lx a.1 b.1) (x, y) zs (by simpa using hne)
    rcases List.mem_or_eq_of_mem_set (hp.mem_iff.mp hm) with h | h
    · exact hz z h
    · rw [h]; exact h0
end
end Mine
end
section
open PySem PySem.W PyProof.Rows PySem.Calls
set_option maxHeartbeats 8000000
namespace Mine
theorem offN3 : True := by
  w_top off
  trivial

noncomputable def toKD : Value → KD
  | .int n _ => .i n
  | .str s _ => .s s
  | _ => .i 0
noncomputable def kdv (h : Heap) : Value → List KD
  | .ref T => match h.get? T with
    | some o => match o.data with
      | .seq xs _ => xs.toList.map toKD
      | _ => []
    | none => []
  | _ => []

structure Ent (g h : Heap) (K : Nat → Str) (ns : List Int) (od : Nat → Int) (idx : Nat → Nat) (y : Value) (e : Nat × Nat) : Prop where
  at' : ∃ T t1 t2 t3 ep, y = .ref T ∧ h.get? T = some (seqObj "tuple" (List.toArray [.str (K e.1) t1, .int (od e.2) t2, .int (ns.getD e.1 0) t3]) ep)
  lt : e.1 < ns.length
  fr : ∀ T, y = .ref T → g.get? T = none
  idx : e.1 = idx e.2

noncomputable def kde (K : Nat → Str) (ns : List Int) (od : Nat → Int) (e : Nat × Nat) : List KD := [.s (K e.1), .i (od e.2), .i (ns.getD e.1 0)]

section
variable {g h h' : Heap} {K : Nat → Str} {ns : List Int} {od : Nat → Int} {idx : Nat → Nat} {y : Value} {e : Nat × Nat}
theorem Ent.kdv (x : Ent g h K ns od idx y e) : kdv h y = kde K ns od e := by
  obtain ⟨⟨T, t1, t2, t3, ep, rfl, hT⟩, _, _, _⟩ := x
  simp only [Mine.kdv, hT]
  rfl
theorem Ent.kt (x : Ent g h K ns od idx y e) : IsKT h y (kde K ns od e) := by
  obtain ⟨⟨T, t1, t2, t3, ep, rfl, hT⟩, _, _, _⟩ := x
  exact ⟨T, _, ep, rfl, hT, .cons ⟨t1, rfl⟩ (.cons ⟨t2, rfl⟩ (.cons ⟨t3, rfl⟩ .nil))⟩
theorem Ent.mv (x : Ent g h K ns od idx y e) (k : ∀ T o, y = .ref T → h.get? T = some o → h'.get? T = some o) : Ent g h' K ns od idx y e := by
  obtain ⟨⟨T, t1, t2, t3, ep, rfl, hT⟩, a, c, b⟩ := x
  exact ⟨⟨T, t1, t2, t3, ep, rfl, k T _ rfl hT⟩, a, c, b⟩
theorem Ent.ne (x : Ent g h K ns od idx y e) {a : Addr} {xs : List Value} {ep : Nat} (ha : h.get? a = some (listOf xs.toArray ep)) : y ≠ .ref a := fun q => by
  obtain ⟨⟨T, t1, t2, t3, ep', e1, hT⟩, _, _, _⟩ := x
  rw [q] at e1
  cases e1
  rw [ha] at hT
  exact absurd (Value.type.inj (congrArg Obj.cls (Option.some.inj hT))) (by decide)
theorem Ent.notNs (x : Ent g h K ns od idx y e) {L : Addr} {m : Str → Option Value} (hn : h.Ns L m) : y ≠ .ref L := fun q => by
  obtain ⟨⟨T, t1, t2, t3, ep', e1, hT⟩, _, _, _⟩ := x
  rw [q] at e1
  cases e1
  exact ns_not_tup hn hT rfl
theorem Ent.mvBut (x : Ent g h K ns od idx y e) {L a : Addr} {m : Str → Option Value} {xs : List Value} {ep : Nat} (hn : h.Ns L m) (ha : h.get? a = some (listOf xs.toArray ep))
    (k : ∀ b o, b ≠ L → b ≠ a → h.get? b = some o → h'.get? b = some o) : Ent g h' K ns od idx y e :=
  x.mv fun T o e1 e2 => k T o (fun q => x.notNs hn (by rw [e1, q])) (fun q => x.ne ha (by rw [e1, q])) e2
theorem Ent.mvAt (x : Ent g h K ns od idx y e) {a : Addr} {xs : List Value} {ep : Nat} (ha : h.get? a = some (listOf xs.toArray ep)) (k : Heap.ExtBut a h h') : Ent g h' K ns od idx y e :=
  x.mv fun T o e1 e2 => k T o (fun q => x.ne ha (by rw [e1, q])) e2
theorem Ent.re {idx' : Nat → Nat} (x : Ent g h K ns od idx y e) (hi : idx' e.2 = idx e.2) : Ent g h K ns od idx' y e := ⟨x.at', x.lt, x.fr, x.idx.trans hi.symm⟩
theorem kde_like (a b : Nat × Nat) : likeKD (kde K ns od a) (kde K ns od b) = true := rfl
theorem text_rank {r : Nat → Nat} (hr : ∀ i j, i < ns.length → j < ns.length → slt (K i) (K j) = decide (r i < r j)) {i j : Nat} (hi : i < ns.length) (hj : j < ns.length) : K i = K j ↔ r i = r j := by
  constructor
  · intro e
    have h1 := hr i j hi hj
    have h2 := hr j i hj hi
    have z : slt (K j) (K j) = false := decide_eq_false (List.lt_irrefl _)
    rw [e, z] at h1 h2
    have := of_decide_eq_false h1.symm
    have := of_decide_eq_false h2.symm
    omega
  · intro e
    rcases kd_tri (a := .s (K i)) (b := .s (K j)) rfl with h | h | h
    · exact KD.s.inj h
    · have h' : slt (K i) (K j) = true := h
      rw [hr i j hi hj] at h'
      have := of_decide_eq_true h'
      omega
    · have h' : slt (K j) (K i) = true := h
      rw [hr j i hj hi] at h'
      have := of_decide_eq_true h'
      omega
theorem kde_lt {r : Nat → Nat} (hr : ∀ i j, i < ns.length → j < ns.length → slt (K i) (K j) = decide (r i < r j)) {a b : Nat × Nat} (ha : a.1 < ns.length) (hb : b.1 < ns.length) (hia : a.1 = idx a.2) (hib : b.1 = idx b.2) :
    lexKD (kde K ns od a) (kde K ns od b) = decide (r a.1 < r b.1 ∨ (r a.1 = r b.1 ∧ od a.2 < od b.2 ∧ True)) ∨ (od a.2 = od b.2 ∧ a.2 ≠ b.2) := by
  unfold kde
  rw [lexKD]
  by_cases e : KD.s (K a.1) = KD.s (K b.1)
  · rw [if_pos e, lexKD]
    have er := (text_rank hr ha hb).mp (KD.s.inj e)
    by_cases e2 : KD.i (od a.2) = KD.i (od b.2)
    · by_cases e3 : a.2 = b.2
      · have e4 : a.1 = b.1 := by rw [hia, hib, e3]
        rw [if_pos e2, e4, lexKD, if_pos rfl, e3]
        refine .inl ?_
        simp [lexKD]
      · exact .inr ⟨KD.i.inj e2, e3⟩
    · rw [if_neg e2]
      refine .inl ?_
      show decide (od a.2 < od b.2) = _
      congr 1
      simp [er]
  · rw [if_neg e]
    have er : r a.1 ≠ r b.1 := fun q => e (by rw [(text_rank hr ha hb).mpr q])
    refine .inl ?_
    show slt (K a.1) (K b.1) = _
    rw [hr _ _ ha hb]
    congr 1
    simp [er]
theorem ent_up {r : Nat → Nat} (hr : ∀ i j, i < ns.length → j < ns.length → slt (K i) (K j) = decide (r i < r j)) {a b : Nat × Nat} (ha : a.1 < ns.length) (hb : b.1 < ns.length) (hia : a.1 = idx a.2) (hib : b.1 = idx b.2) :
    lexKD (kde K ns (fun o => (o : Int)) b) (kde K ns (fun o => (o : Int)) a) = ltH r a b := by
  rcases kde_lt (od := fun o => (o : Int)) hr hb ha hib hia with h | ⟨h, hne⟩
  · rw [h]
    unfold ltH
    congr 1
    simp
  · have h : ((b.2 : Nat) : Int) = ((a.2 : Nat) : Int) := h
    exact absurd (by omega) hne
theorem ent_dn {r : Nat → Nat} (hr : ∀ i j, i < ns.length → j < ns.length → slt (K j) (K i) = decide (r i < r j)) {a b : Nat × Nat} (ha : a.1 < ns.length) (hb : b.1 < ns.length) (hia : a.1 = idx a.2) (hib : b.1 = idx b.2) :
    lexKD (kde K ns (fun o => -(o : Int)) a) (kde K ns (fun o => -(o : Int)) b) = ltH r a b := by
  obtain ⟨r2, hr2⟩ := lex_rank ns.length (fun i => [KD.s (K i)]) fun i j _ _ => rfl
  have hr2' : ∀ i j, i < ns.length → j < ns.length → slt (K i) (K j) = decide (r2 i < r2 j) := fun i j hi hj => by rw [← lex_one]; exact hr2 i j hi hj
  have h1 := hr a.1 b.1 ha hb
  have h2 := hr b.1 a.1 hb ha
  rw [hr2' _ _ hb ha] at h1
  rw [hr2' _ _ ha hb] at h2
  rw [decide_eq_decide] at h1 h2
  rcases kde_lt (od := fun o => -(o : Int)) hr2' ha hb hia hib with h | ⟨h, hne⟩
  · rw [h]
    unfold ltH
    rw [decide_eq_decide]
    constructor
    · rintro (h | ⟨h, h', _⟩)
      · exact .inl (h2.mp h)
      · have : b.2 < a.2 := by
          have h' : -((a.2 : Nat) : Int) < -((b.2 : Nat) : Int) := h'
          omega
        exact .inr ⟨by omega, this⟩
    · rintro (h | ⟨h, h'⟩)
      · exact .inl (h2.mpr h)
      · exact .inr ⟨by omega, by show -((a.2 : Nat) : Int) < -((b.2 : Nat) : Int); omega, trivial⟩
  · refine absurd ?_ hne
    have h : -((a.2 : Nat) : Int) = -((b.2 : Nat) : Int) := h
    omega
theorem ent_cmp {w : World} {a : Addr} {xs : List Value} {ep : Nat} {v u : Value} {f : Nat × Nat} (hv : Ent g h K ns od idx v e) (hu : Ent g h K ns od idx u f) (ha : h.get? a = some (listOf xs.toArray ep)) : CmpX w h a v u (lexKD (Mine.kdv h v) (Mine.kdv h u)) := by
  rw [hv.kdv, hu.kdv]
  exact cmpX_tuple hv.kt hu.kt (hv.ne ha) (hu.ne ha) (kde_like _ _)
end

section
variable {w : World} {A₀ A : Around} {base h₀ : Heap} {outer : List Env} {env : Env} {L : Addr} {m : Str → Option Value}
  {p : Program} {loose : List Str} {mean : ExcName → Option Value} {mg mb : Str → Option Value} {s : Shared}
theorem Cx.innC (c : Cx w A₀ A base h₀ outer env L s.heap m p loose mean mg mb) {g h' : Heap} {L' a : Addr} {m' : Str → Option Value} {nm : Str} {sc : Scope} {cd : Value}
    (B' : Below A base (env :: outer) g) (F' : Fr g L' h' m') (X' : (Mine.frag.heap_1 w.params).In g) (T' : Top p loose mean mg mb g) (hk : sc.kind = .function := by rfl) :
    Cx w A (A.deeper (envOfC nm sc L' a cd)) base g (env :: outer) (envOfC nm sc L' a cd) L' h' m' p loose mean mg mb :=
  ⟨B', F', X', T', by show A.frames.map _ = _; rw [c.hA]; rfl, rfl, hk, c.hh⟩
end

theorem rest_but {g h : Heap} {L : Addr} {m : Str → Option Value} (F : Fr g L h m) (D : Addr) : ∃ rest, News g L h rest ∧ (∀ q ∈ rest, q.1 ≠ D) ∧
    (∀ h' : Heap, (∀ b o, g.get? b = some o → h'.get? b = some o) → News g L h' rest → ∀ b o, b ≠ L → b ≠ D → h.get? b = some o → h'.get? b = some o) ∧
    ∀ b o, h.get? b = some o → b ≠ L → b ≠ D → g.get? b = none → (b, o) ∈ rest := by
  refine ⟨(restOf g h L).filter fun q => decide (q.1 ≠ D), fun q hq => restOf_news q (List.mem_filter.mp hq).1, fun q hq => by simpa using (List.mem_filter.mp hq).2, fun h' hg hN b o h1 h2 e => ?_, fun b o e h1 h2 h3 => List.mem_filter.mpr ⟨restOf_mem e h1 h3, by simpa using h2⟩⟩
  cases q : g.get? b with
  | none => exact (hN (b, o) (List.mem_filter.mpr ⟨restOf_mem e h1 q, by simpa using h2⟩)).1
  | some o' =>
    have := F.keep b o' q
    rw [e] at this
    cases this
    exact hg b o q

theorem Walks.shift {prog : Program} {w : World} {A : Around} {I : Addr} {fp wr : List Addr} {N : Nat} {P : Nat → Value → Prop} {St : Nat → Heap → Prop} (W : Walks prog w A I fp wr N P St) (n : Nat) (hn : n ≤ N) :
    Walks prog w A I fp wr (N - n) (fun i v => P (n + i) v) (fun i h => St (n + i) h) where
  sub := W.sub
  frame := fun i => W.frame (n + i)
  item := fun i s Q E hi st hQ => W.item (n + i) s Q E (by omega) st fun v h' tk hP hS hk => hQ v h' tk hP hS hk
  done := fun s Q E st hQ => W.done s Q E (by rwa [show n + (N - n) = N by omega] at st) hQ
  self := fun i => W.self (n + i)

theorem Walks.spent {prog : Program} {w : World} {A : Around} (hh : A.handled = none) (I : Addr) : Walks prog w A I [I] [I] 0 (fun _ _ => True) (fun _ h => Spent h I) where
  sub := fun _ h => h
  frame := fun i h h' st hk => st.at fun o e => hk I (by simp) o e
  item := fun i s Q E hi => absurd hi (Nat.not_lt_zero _)
  done := fun s Q E st hQ => pyNext_spent hh st fun h' hk => hQ h' s.toks fun b o _ e => hk b o e
  self := fun i s Q E st hQ => pyIter_spent st hQ
end Mine
end
section
open PySem PySem.W PyProof.Rows PySem.Calls
set_option maxHeartbeats 8000000
namespace Mine
theorem offN4 : True := by
  w_top off
  trivial
section
variable {prog : Program} {w : World} {A : Around} {env : Env} {s₂ : Shared} {wr : List Addr} {n : Nat} {P : Nat → Value → Heap → Prop} {scope : Scope} {cl : List (Str × Addr)} {G : Nat → Value → Option Obj → Prop}
theorem last_turns {x y z : Str} {q1 q2 q3 q4 p1 : Pos} {k : Nat} (hh : A.handled = none) (hkind : ∀ C, (compEnvC scope cl C env).scope.kind = .function)
    (hx : ∀ C, (compEnvC scope cl C env).kindOf x = some .local) (hy : ∀ C, (compEnvC scope cl C env).kindOf y = some .local) (hz : ∀ C, (compEnvC scope cl C env).kindOf z = some .local) (hd : (z == ("__debug__" : Str)) = false)
    (hP : ∀ i v (h : Heap), i < n → P i v h → (∀ b o, b ∉ wr → s₂.heap.get? b = some o → h.get? b = some o) → ∃ T a b c, v = .ref T ∧ IsTup h T #[a, b, c] ∧ (∀ T', c ≠ .ref T') ∧ G i c none) :
    TurnsG prog w A env scope cl (.Tuple [.Name x q1, .Name y q2, .Name z q3] k q4) (.Name z p1) wr n P G s₂ := by
  refine turns_of ?_
  rintro C i v ⟨h8, gs8, dr8, tk8, os8⟩ m8 rest E8 hin hPv hC hk8 F8 N8
  dsimp only at hPv F8 N8 hk8
  obtain ⟨T, a, b, c, rfl, hT, hne, hG⟩ := hP i v h8 hin hPv hk8
  have hcp : ((compEnvC scope cl C env).scope.kind == .class || ((compEnvC scope cl C env).scope.kind == .module && (compEnvC scope cl C env).locals != (compEnvC scope cl C env).globals)) = false := by
    rw [hkind C]; rfl
  refine assign3 hh F8 N8 hT (hx C) (hy C) (hz C) hcp fun h9 tk9 F9 N9 hk9 => ?_
  refine nameC_L F9 (by show (if z = z then some c else _) = some c; rw [if_pos rfl]) ?_ (hkind C) (hz C) hd
  exact ⟨h9, _, _, _, rfl, F9, N9, fun q hq => hq, .inl ⟨hne, hG⟩⟩
end
end Mine
end
section
open PySem PySem.W PyProof.Rows PySem.Calls
set_option maxHeartbeats 8000000
namespace Mine
theorem offT1 : True := by
  w_top off
  trivial
theorem li_no_len : typeLookup (.type "list_iterator") "__len__" = pure none := by rw [typeLookup_type, builtinLookup_eq_fast]; kernel_rfl
section
variable {prog : Program} {w : World} {A : Around} {E : Value → Shared → Prop} {s : Shared}
theorem len_raises {I : Addr} {Q : Value → Shared → Prop} (hh : A.handled = none) (hT : s.TypeIs (.ref I) "list_iterator") (h : ∀ h' tk e, Heap.NewExc s.heap h' e "TypeError" → E (.ref e) { s with heap := h', toks := tk }) :
    wpAny (model prog w) A (call (.builtin "len") [.ref I]) Q E s := by
  refine call_function_entry kind_len plain_len entry_len (args_len1 _) ?_
  unfold Builtin.«len»
  refine wpAny_bind (m := oneArg "len" _) (wpAny_of_eq (a := Value.ref I) (by first | rfl | kernel_rfl!) ?_)
  refine wpAny_bind (wpAny_callSpecial?_none (name := Str.ofString "__len__") hT li_no_len ?_)
  dsimp only
  refine wpAny_bind (wpAny_rule ?_)
  refine wpAny_bind (wpAny_typeNameOf' hT (h := ?_))
  exact wpAny_raiseTypeError hh h (by first | decide | size_fits)
end
end Mine
end
section
open PySem PySem.W PyProof.Rows PySem.Calls
set_option maxHeartbeats 8000000
namespace Mine
theorem offT2 : True := by
  w_top off
  trivial

section
variable {prog : Program} {w : World} {A : Around} {E : Value → Shared → Prop} {s' : Shared} {base g h : Heap} {outer : List Env} {L a e : Addr} {m : Str → Option Value} {name : Str} {scope : Scope} {cd : Value} {cl : List (Str × Addr)}
  {Q : Flow → Shared → Prop} {news : List (Addr × Obj)} {KF : Frag} {p : Program} {loose : List Str} {mean : ExcName → Option Value} {mg mb : Str → Option Value}

theorem turn_ground {env : Env} {B G h₅ : Heap} (hf : env.frame = some L) (K : Below A base outer g) (F : Fr g L G m) (hBG : ∀ b o, G.get? b = some o → b ∉ (env :: outer).filterMap (·.frame) → B.get? b = some o) (hBh : B.StaysIn h₅) (hsm : G.UpToSlots h₅) :
    ∃ g', KtsTurn (outer.filterMap (·.frame)) g g' ∧ Fr g' L h₅ m ∧ Below A base outer g' := by
  refine kts_ground (name := "") (scope := env.scope) (a := 0) (cd := .none) K F (fun b o e hb => hBG b o e ?_) hBh hsm
  rw [List.filterMap_cons, hf]
  exact hb

theorem catch_pass (K : Below A base outer g) (F : Fr g L h m) (N : News g L h news) (hx : Heap.NewExc h s'.heap e "TypeError") (XB : KF.In base) (TB : Top p loose mean mg mb base)
    {p1 p2 tp pp pos : Pos} {kk : Nat} {rest : List ExceptHandler} (e1 : nsIn KF mainGlobals "TypeError" = some none) (e2 : nsIn KF mainGlobals "AttributeError" = some none)
    (hk : scope.kind = .function) (hx1 : (envX name scope L a cd cl).kindOf "TypeError" = some .globalImplicit) (hx2 : (envX name scope L a cd cl).kindOf "AttributeError" = some .globalImplicit)
    (k : ∀ h' g' tk, KtsTurn (outer.filterMap (·.frame)) g g' → Fr g' L h' m → News g' L h' news → Below A base outer g' → KF.In g' → Top p loose mean mg mb g' → Q .next { s' with heap := h', toks := tk }) :
    wpAny (model prog w) (A.deeper (envX name scope L a cd cl)) (noteFrame (.ref e) (envX name scope L a cd cl))
      (fun _ s₂ => wpAny (model prog w) (A.deeper (envX name scope L a cd cl)) (setFlight (.ref e) none) (fun _ s₃ =>
        wpAny (model prog w) (A.deeper (envX name scope L a cd cl)) (handleBy (.ref e) (envX name scope L a cd cl) (.ExceptHandler (some (.Tuple [.Name "TypeError" p1, .Name "AttributeError" p2] kk tp)) none [.Pass pp] pos :: rest)) Q E s₃) E s₂) E s' := by
  generalize henv : envX name scope L a cd cl = env
  have hf : env.frame = some L := by rw [← henv]
  have hke : env.scope.kind = .function := by rw [← henv]; exact hk
  have K' := pushX K F hf hke
  have hin : ∀ env' ∈ (env :: outer), ∀ b, env'.frame = some b → b ∈ (env :: outer).filterMap (·.frame) := fun env' he b hb => List.mem_filterMap.mpr ⟨env', he, hb⟩
  have hmem : ∀ b ∈ (env :: outer).filterMap (·.frame), b = L ∨ b ∈ outer.filterMap (·.frame) := fun b hb => by
    rw [List.filterMap_cons, hf] at hb
    exact (List.mem_cons.mp hb)
  have hBG : ∀ b o, h.get? b = some o → b ∉ (env :: outer).filterMap (·.frame) → (hideAll h ((env :: outer).filterMap (·.frame))).get? b = some o := fun b o q nm => hideAll_get _ q nm
  have hBs : base.StaysIn (hideAll h ((env :: outer).filterMap (·.frame))) := fun b o q => hideAll_get _ (K'.stays b o q) fun hm => by
    rw [(K'.frames.mem hm).1] at q; cases q
  have hl : ∀ q ∈ news, (hideAll h ((env :: outer).filterMap (·.frame))).get? q.1 = some q.2 := fun q hq => by
    refine hideAll_get _ (N q hq).1 fun hm => ?_
    rcases hmem _ hm with z | z
    · exact (N q hq).2.1 z
    · obtain ⟨o, ho, _⟩ := (K.frames.mem z).2
      rw [(N q hq).2.2] at ho; cases ho
  obtain ⟨ob, tb, he, hcls, hd⟩ := hx.there
  have hen : (hideAll h ((env :: outer).filterMap (·.frame))).get? e = none := by
    cases q : (hideAll h ((env :: outer).filterMap (·.frame))).get? e with
    | none => rfl
    | some o => have := of_hideAll _ q; rw [hx.new] at this; cases this
  have hff := (funFrames_hide K'.frames hin).of_keeps (h' := s'.heap) fun b o hb _ => ⟨o, hx.keeps b o hb, rfl⟩
  unfold noteFrame
  simp only [hf]
  refine wpAny_bind (wpAny_field he hd (x := .none) rfl ?_)
  rw [if_neg (by decide)]
  refine wpAny_entryW (a0 := tb) K'.stack hff hf he (fun b o eb => hx.keeps b o (of_hideAll _ eb)) hen hd (by show 1 < 6; decide) rfl fun h₄ hN => ?_
  obtain ⟨n1, n2, n3, n4⟩ := hN
  have hs4 : h.UpToSlots h₄ := (Heap.UpToSlots.of_keeps hx.keeps).trans n4
  refine wpAny_landsW ⟨n1, hen, n2, n3⟩ fun h₅ hfl5 hs5 => ?_
  obtain ⟨g₅, T₅, F₅, K₅⟩ := turn_ground hf K F hBG hfl5.1 (hs4.trans hs5)
  have X₅ : KF.In g₅ := XB.keeps K₅.stays
  have P₅ : Top p loose mean mg mb g₅ := TB.keeps K₅.stays
  subst henv
  refine wpAny_handleBy_tup2 (X := "TypeError") (T1 := "TypeError") (T2 := "AttributeError") (b1 := true) (b2 := false) (isSubtype_of_subB (by decide +kernel)) (isSubtype_of_subB (by decide +kernel)) (isSubtype_of_subB (by decide +kernel)) (isSubtype_of_subB (by decide +kernel)) (isSubtype_of_subB (by decide +kernel)) (isSubtype_of_subB (by decide +kernel)) ?_
  refine wpAny_Tuple ?_
  refine wpAny_items_cons (nameX_B F₅ X₅ (topRead_of P₅) e1 PyProof.Rows.Boot.«TypeError» (by decide) ?_ hk hx1)
  refine wpAny_items_cons (nameX_B F₅ X₅ (topRead_of P₅) e2 PyProof.Rows.Boot.«AttributeError» (by decide) ?_ hk hx2)
  refine wpAny_items_nil ⟨by size_fits, ?_⟩
  have kp : ∀ q o, h₅.get? q = some o → (h₅.push { cls := .type "tuple", data := .seq [Value.type "TypeError", .type "AttributeError"].toArray }).get? q = some o := fun _ _ z => Heap.get?_push_of_some _ z
  obtain ⟨ob5, hob5, hobc5⟩ := hfl5.there
  refine ⟨_, rfl, IsTup.new _ _, ⟨ob5, kp _ _ hob5, hobc5.trans hcls⟩, ?_⟩
  rw [if_pos (show (true || false) = true from rfl)]
  refine lands_againW (flying_keeps hfl5 kp) fun h₆ hfl6 hs6 => ?_
  obtain ⟨g₆, T₆, F₆, K₆⟩ := turn_ground rfl K F hBG hfl6.1 ((hs4.trans hs5).trans ((Heap.UpToSlots.of_keeps kp).trans hs6))
  have hL : (hideAll h ((envX name scope L a cd cl :: outer).filterMap (·.frame))).get? L = none := hideAll_none _ (by simp)
  have N₆ : News g₆ L h₆ news := fun q hq => ⟨hfl6.1 _ _ (hl q hq), (fun z => by have := hl q hq; rw [z, hL] at this; cases this), T₆.none_ _ ((N q hq).2.2)⟩
  refine wpAny_execs_cons (wpAny_Pass ?_)
  exact wpAny_execs_nil (k _ _ _ T₆ F₆ N₆ K₆ (XB.keeps K₆.stays) (TB.keeps K₆.stays))
end
end Mine
end
section
open PySem PySem.W PyProof.Rows PySem.Calls Mine
local macro_rules | `(tactic| walk_at "eval Name") => `(tactic| (k_here; (with_reducible show wpAny _ _ (eval (Expr.Name _ _) (compEnvC _ _ _ _)) _ _ _); k_dflt (refine' nameC_L ?F ?v ?_ ?a ?b; (case F => k_asm); (case a => rfl); (case b => rfl); (case v => first | exact rfl | with_reducible assumption | assumption); k_whole)))
local macro_rules | `(tactic| walk_at "eval Name") => `(tactic| (k_here; (fail_if_success (with_reducible show wpAny _ _ (eval (Expr.Name _ _) (compEnvC _ _ _ _)) _ _ _)); k_dflt (refine' nameX_L ?F ?v ?_ ?a ?b; (case F => k_asm); (case a => rfl); (case b => rfl); (case v => first | with_reducible assumption | assumption); k_whole)))
section
open PySem PySem.W PyProof.Rows PySem.Calls
set_option maxHeartbeats 8000000
namespace Mine
theorem offN2 : True := by
  w_top off
  trivial
theorem fillN2 (w : World) (x : OpenLaw) (h : PySem.Challenge.rw_ij0057_01 = x) : (Mine.frag.heap_1 w.params) = (Mine.frag.heap_1 w.params) ∧ PySem.Challenge.rw_ij0057_01 = x := by
  k_fill
  exact ⟨rfl, h⟩

section
variable {prog : Program} {w : World} {A : Around} {E : Value → Shared → Prop} {s : Shared} {g : Heap} {L : Addr} {m : Str → Option Value} {news : List (Addr × Obj)}
theorem fr_up {h h' : Heap} {m' : Str → Option Value} (F : Fr g L h m) (hn : h'.Ns L m') (k : ∀ b o, b ≠ L → h.get? b = some o → h'.get? b = some o) : Fr g L h' m' :=
  ⟨hn, fun b o e => k b o (Nat.ne_of_lt (Nat.lt_of_lt_of_le (Heap.lt_size e) F.above)) (F.keep b o e), F.above⟩
theorem news_up {h h' : Heap} (N : News g L h news) (k : ∀ b o, b ≠ L → h.get? b = some o → h'.get? b = some o) : News g L h' news :=
  fun q hq => ⟨k _ _ (N q hq).2.1 (N q hq).1, (N q hq).2⟩
theorem fresh_ne {h : Heap} {D : Addr} (F : Fr g L h m) (e : h.get? D = none) : D ≠ L := fun q => by
  obtain ⟨o, _, _, ho, _⟩ := F.ns
  rw [← q, e] at ho; cases ho
theorem news_new {h h' : Heap} {D : Addr} {o : Obj} (F : Fr g L h m) (N : News g L h' news) (e : h.get? D = none) (e' : h'.get? D = some o) : News g L h' ((D, o) :: news) := fun q hq => by
  rcases List.mem_cons.mp hq with rfl | hq
  · exact ⟨e', fresh_ne F e, none_of F e⟩
  · exact N q hq
theorem fresh_off {h : Heap} {D : Addr} (N : News g L h news) (e : h.get? D = none) : ∀ q ∈ news, q.1 ≠ D := fun q hq x => by
  have := (N q hq).1
  rw [x, e] at this; cases this

theorem call_iter {x : Value} {Q : Value → Shared → Prop} (h : wpAny (model prog w) A.in1 (pyIter x) Q E s) : wpAny (model prog w) A (call (.builtin "iter") [x]) Q E s := by
  refine call_function_entry (by decide +kernel) (by decide +kernel) kdk_entry_iter (kdk_args_iter _) ?_
  unfold Builtin.«iter»
  refine wpAny_bind (m := someArgs "iter" 1 2 _) (wpAny_of_eq (a := [x]) (by first | rfl | kernel_rfl!) ?_)
  dsimp only
  exact wpAny_bind (wpAny_mono h (fun v s' hv => wpAny_pure ⟨_, rfl, hv⟩) fun _ _ e => e)

theorem iterL {l : Addr} {items : Array Value} {Q : Value → Shared → Prop} (F : Fr g L s.heap m) (N : News g L s.heap news) (hl : s.heap.IsList l items)
    (h : ∀ I h', Fr g L h' m → News g L h' ((I, { cls := .type "list_iterator", data := .fields #[.ref l, .int 0 0] }) :: news) → s.heap.get? I = none → (∀ q ∈ news, q.1 < I) → Q (.ref I) { s with heap := h' }) :
    wpAny (model prog w) A (call (.builtin "iter") [.ref l]) Q E s := by
  refine call_iter (wpAny_pyIter_list hl ?_)
  have hk : ∀ b o, s.heap.get? b = some o → (s.heap.push { cls := .type "list_iterator", data := .fields #[.ref l, .int 0 0] }).get? b = some o := fun b o e => Heap.get?_push_of_some _ e
  have e0 : s.heap.get? s.heap.objs.size = none := by
    cases q : s.heap.get? s.heap.objs.size with
    | none => rfl
    | some o => exact absurd (Heap.lt_size q) (Nat.lt_irrefl _)
  exact h _ _ (F.keeps hk) (news_new F (News.keep N hk) e0 (Heap.get?_push_size _ rfl)) e0 fun q hq => Heap.lt_size (N q hq).1
end

theorem getD_lt {α : Type} (l : List α) (i : Nat) (h : i < l.length) (d : α) : l.getD i d = l[i] := by
  rw [List.getD_eq_getElem?_getD, List.getElem?_eq_getElem h]; rfl
theorem ints_pick {vs : List Value} {ns : List Int} (hI : IntsAre vs ns) (ρ : List Nat) (h : ∀ x ∈ ρ, x < ns.length) : IntsAre (ρ.map fun i => vs.getD i Value.none) (ρ.map fun i => ns.getD i 0) := by
  induction ρ with
  | nil => exact .nil
  | cons a r ih =>
    have ha := h a (.head _)
    have hl := hI.length
    obtain ⟨n, t, h1, h2⟩ := ints_get hI (List.getElem?_eq_getElem (i := a) (by (first | lia | omega)))
    have e1 : ns.getD a 0 = n := by rw [List.getD_eq_getElem?_getD, h1]; rfl
    have e2 : vs.getD a Value.none = .int n t := by rw [← h2]; simp [show a < vs.length by (first | lia | omega)]
    rw [List.map_cons, List.map_cons, e1, e2]
    exact .cons n t (ih fun x hx => h x (.tail _ hx))
theorem pick_to (l : List Value) (n : Nat) : kms_pick l none (some (n : Int)) = l.take n := by
  unfold kms_pick kms_lo kms_hi
  dsimp only
  rw [if_neg (by (first | lia | omega)), Int.toNat_natCast, Nat.sub_zero, List.drop_zero]
  rcases Nat.le_total n l.length with h | h
  · rw [Nat.min_eq_left h]
  · rw [Nat.min_eq_right h, List.take_of_length_le (Nat.le_refl _), List.take_of_length_le h]
theorem pick_from (l : List Value) (n : Nat) : kms_pick l (some (n : Int)) none = l.drop n := by
  unfold kms_pick kms_lo kms_hi
  dsimp only
  rw [if_neg (by (first | lia | omega)), Int.toNat_natCast]
  rcases Nat.le_total n l.length with h | h
  · rw [Nat.min_eq_left h, List.take_of_length_le (by rw [List.length_drop]; exact Nat.le_refl _)]
  · rw [Nat.min_eq_right h, List.drop_of_length_le h, List.drop_of_length_le (Nat.le_refl _)]
    simp

section
variable {w : World} {A₀ A : Around} {base h₀ : Heap} {outer : List Env} {env : Env} {L : Addr} {m : Str → Option Value}
  {p : Program} {loose : List Str} {mean : ExcName → Option Value} {mg mb : Str → Option Value} {s : Shared}
theorem nsmallest_ok {Q : Value → Shared → Prop} {E : Value → Shared → Prop} (c : Cx w A₀ A base h₀ outer env L s.heap m p loose mean mg mb) {n : Nat} {t : Tok} {ns : List Int} {vs : List Value} {l e : Nat} {kf : Addr} (K : Nat → Str)
    (hl : s.heap.get? l = some (listOf vs.toArray e)) (hI : IntsAre vs ns) (hlen : 6 ≤ ns.length) (hlen2 : ns.length < 20) (hn : n < 30)
    (hK : ∀ j v, vs[j]? = some v → KeyOk w s.heap (.ref kf) v (K j))
    (r : Nat → Nat) (hrk : ∀ i j, i < ns.length → j < ns.length → slt (K i) (K j) = decide (r i < r j))
    (hFn : FnAt kf s.heap) (hr : A.depth + 20 < recursionLimit) (hu : A.units + 300 < cLine)
    (k : ∀ ρ D e' h' tk vs', IsTop r (fun y => y < ns.length) ρ → ρ.length = min n ns.length → (∀ b o, s.heap.get? b = some o → h'.get? b = some o) → IntsAre vs' (ρ.map fun i => ns.getD i 0) → h'.get? D = some (listOf (List.toArray vs') e') → s.heap.get? D = none → Q (.ref D) { s with heap := h', toks := tk }) :
    wpAny (model PySem.Challenge.rw_ij0057_01.row.prog w) A (call (.ref 175) [.int (n : Int) t, .ref l] [(Str.ofString "key", .ref kf)]) Q E s := by
  refine wpAny_call ?_
  refine' callMC (muts := []) (binds := [("n", .int (n : Int) t), ("iterable", .ref l), ("key", .ref kf)]) c (fun q hq => nomatch hq) ?ho ?hcd (by (first | lia | omega)) ?hbind ?hkind ?hnd ?h ?c2 ?c3 ?c4
  case ho => k_is
  case hcd => k_is
  case hbind =>
    have X : (Mine.frag.heap_1 w.params).In s.heap := c.X.keeps c.F.keep
    exact binds_K (by k_in) rfl (by k_is) rfl rfl rfl
  case hkind => exact rfl
  case hnd => decide +kernel
  case c2 => exact rfl
  case c3 => exact rfl
  case c4 => exact rfl
  case h =>
    intro g L' h₁ tk cells hLL F' N' Y' B' X' T' hgs hsg _
    k_cells Y'
    rename_i oC hoC
    simp only [List.cons_append, List.nil_append] at N'
    k_unmd
    k_fold
    (try dsimp only [List.length_cons, List.length_nil])
    have hlg := hgs _ _ (by simp) hl
    have hlG : g.IsList l vs.toArray := ⟨_, hlg, rfl, _, rfl⟩
    have hvn := hI.length
    have noneS : ∀ {b}, g.get? b = none → s.heap.get? b = none := fun {b} e => by
      cases q : s.heap.get? b with
      | none => rfl
      | some o => rw [hgs b o (by simp) q] at e; cases e
    have hF : FnAt kf g := FnAt.mv hFn fun b o e => hgs b o (by simp) e
    have hKg : ∀ j v, vs[j]? = some v → KeyOk w g (.ref kf) v (K j) := fun j v hv => (hK j v hv).grow fun b o e => hgs b o (by simp) e
    (repeat' ((fail_if_success k_end); (fail_if_success (with_reducible show wpAny _ _ (exec (Stmt.For _ _ _ _ _) _) _ _ _)); (fail_if_success (with_reducible show wpAny _ _ (call (Value.ref _) _ _) _ _ _)); (fail_if_success (with_reducible show wpAny _ _ (call (Value.builtin "min") _ _) _ _ _)); (fail_if_success (with_reducible show wpAny _ _ (call (Value.builtin "sorted") _ _) _ _ _)); (fail_if_success (with_reducible show wpAny _ _ (call (Value.builtin "list.sort") _ _) _ _ _)); (fail_if_success (with_reducible show wpAny _ _ (eval (Expr.ListComp _ _ _ _) _) _ _ _)); (fail_if_success (with_reducible show wpAny _ _ (exec (Stmt.Assign _ (Expr.ListComp _ _ _ _) _) _) _ _ _)); first | walk1 | (dsimp only; walk1)))
    · refine iterL F' N' ⟨_, F'.keep _ _ hlg, rfl, _, rfl⟩ fun I h2 F2 N2 hI0 hIn => ?_
      (repeat' ((fail_if_success k_end); (fail_if_success (with_reducible show wpAny _ _ (exec (Stmt.For _ _ _ _ _) _) _ _ _)); (fail_if_success (with_reducible show wpAny _ _ (call (Value.ref _) _ _) _ _ _)); (fail_if_success (with_reducible show wpAny _ _ (call (Value.builtin "min") _ _) _ _ _)); (fail_if_success (with_reducible show wpAny _ _ (call (Value.builtin "sorted") _ _) _ _ _)); (fail_if_success (with_reducible show wpAny _ _ (call (Value.builtin "list.sort") _ _) _ _ _)); (fail_if_success (with_reducible show wpAny _ _ (eval (Expr.ListComp _ _ _ _) _) _ _ _)); (fail_if_success (with_reducible show wpAny _ _ (exec (Stmt.Assign _ (Expr.ListComp _ _ _ _) _) _) _ _ _)); first | walk1 | (dsimp only; walk1)))
      rename_i h3 F3 N3
      refine call_object F3 N3 fun S h4 F4 N4 hSn hS0 _ => ?_
      clear F3 N3
      (repeat' ((fail_if_success k_end); (fail_if_success (with_reducible show wpAny _ _ (exec (Stmt.For _ _ _ _ _) _) _ _ _)); (fail_if_success (with_reducible show wpAny _ _ (call (Value.ref _) _ _) _ _ _)); (fail_if_success (with_reducible show wpAny _ _ (call (Value.builtin "min") _ _) _ _ _)); (fail_if_success (with_reducible show wpAny _ _ (call (Value.builtin "sorted") _ _) _ _ _)); (fail_if_success (with_reducible show wpAny _ _ (call (Value.builtin "list.sort") _ _) _ _ _)); (fail_if_success (with_reducible show wpAny _ _ (eval (Expr.ListComp _ _ _ _) _) _ _ _)); (fail_if_success (with_reducible show wpAny _ _ (exec (Stmt.Assign _ (Expr.ListComp _ _ _ _) _) _) _ _ _)); first | walk1 | (dsimp only; walk1)))
      rename_i h5 F5 N5
      have N5I := N5 _ (.tail _ (.head _))
      show wpAny _ _ (call (.builtin "min") [.ref I] [(Str.ofString "default", .ref S), (Str.ofString "key", .ref kf)]) _ _ _
      have hgI : ∀ b o, g.get? b = some o → (hideAll h5 [I]).get? b = some o := fun b o e => hideAll_get _ (F5.keep b o e) fun hb => by
        rw [List.mem_singleton.mp hb, N5I.2.2] at e; cases e
      refine min_ok (vs := vs) (l := l) c.hh ⟨_, N5I.1, rfl, rfl⟩ ⟨_, F5.keep _ _ hlg, rfl, _, rfl⟩ (by (first | lia | omega)) (by show A.depth + 1 + 10 < recursionLimit; (first | lia | omega)) (by show A.units + 3 + 1 + 100 < cLine; (first | lia | omega)) (fun j v hv => (hKg j v hv).grow hgI) fun i v h6 tk6 hv hbest hk6 => ?_
      obtain ⟨ni, ti, hni, rfl⟩ := ints_get hI hv
      have F6 := fr_wr (wr := [I]) F5 (fun b o hb e => hk6 b o (by simpa using hb) e) (by simpa using Ne.symm N5I.2.1) (by simpa using N5I.2.2)
      have N6 : News g L' h6 [(S, { cls := .type "object", data := .plain })] := fun q hq => by
        rw [List.mem_singleton.mp hq]
        have z := N5 _ (.head _)
        refine ⟨hk6 _ _ ?_ z.1, z.2⟩
        exact Ne.symm (Nat.ne_of_lt (hSn _ (.head _)))
      clear F5 N5 N5I
      (repeat' ((fail_if_success k_end); (fail_if_success (with_reducible show wpAny _ _ (exec (Stmt.For _ _ _ _ _) _) _ _ _)); (fail_if_success (with_reducible show wpAny _ _ (call (Value.ref _) _ _) _ _ _)); (fail_if_success (with_reducible show wpAny _ _ (call (Value.builtin "min") _ _) _ _ _)); (fail_if_success (with_reducible show wpAny _ _ (call (Value.builtin "sorted") _ _) _ _ _)); (fail_if_success (with_reducible show wpAny _ _ (call (Value.builtin "list.sort") _ _) _ _ _)); (fail_if_success (with_reducible show wpAny _ _ (eval (Expr.ListComp _ _ _ _) _) _ _ _)); (fail_if_success (with_reducible show wpAny _ _ (exec (Stmt.Assign _ (Expr.ListComp _ _ _ _) _) _) _ _ _)); first | walk1 | (dsimp only; walk1)))
      refine wpAny_is_other (by first | rfl | decide) (fun x => by cases x) ?_
      (repeat' ((fail_if_success k_end); (fail_if_success (with_reducible show wpAny _ _ (exec (Stmt.For _ _ _ _ _) _) _ _ _)); (fail_if_success (with_reducible show wpAny _ _ (call (Value.ref _) _ _) _ _ _)); (fail_if_success (with_reducible show wpAny _ _ (call (Value.builtin "min") _ _) _ _ _)); (fail_if_success (with_reducible show wpAny _ _ (call (Value.builtin "sorted") _ _) _ _ _)); (fail_if_success (with_reducible show wpAny _ _ (call (Value.builtin "list.sort") _ _) _ _ _)); (fail_if_success (with_reducible show wpAny _ _ (eval (Expr.ListComp _ _ _ _) _) _ _ _)); (fail_if_success (with_reducible show wpAny _ _ (exec (Stmt.Assign _ (Expr.ListComp _ _ _ _) _) _) _ _ _)); first | walk1 | (dsimp only; walk1)))
      rename_i l7 h7 F7 N7 _
      have hiN : i < ns.length := by
        have := (List.getElem?_eq_some_iff.mp hni).1
        exact this
      have z7 := N7 _ (.head _)
      refine ⟨_, F7, fun hk => k [i] l7 0 h7 _ [.int ni ti] (top_one hiN fun j hj => ?_) ?_ (fun b o e => F7.keep b o (hgs b o (by simp) e)) ?_ z7.1 (noneS z7.2.2)⟩
      · obtain ⟨b1, b2⟩ := hbest j (by (first | lia | omega))
        rw [hrk j i hj hiN] at b2
        rw [hrk i j hiN hj] at b1
        simpa using And.intro b1 b2
      · have : n = 1 := by (first | lia | omega)
        subst this
        show 1 = min 1 ns.length
        (first | lia | omega)
      · have e1 : ns.getD i 0 = ni := by rw [List.getD_eq_getElem?_getD, hni]; rfl
        show IntsAre [.int ni ti] [ns.getD i 0]
        rw [e1]
        exact .cons _ _ .nil
    · refine wpAny_Try_except ?_
      (repeat' ((fail_if_success k_end); (fail_if_success (with_reducible show wpAny _ _ (exec (Stmt.For _ _ _ _ _) _) _ _ _)); (fail_if_success (with_reducible show wpAny _ _ (call (Value.ref _) _ _) _ _ _)); (fail_if_success (with_reducible show wpAny _ _ (call (Value.builtin "min") _ _) _ _ _)); (fail_if_success (with_reducible show wpAny _ _ (call (Value.builtin "sorted") _ _) _ _ _)); (fail_if_success (with_reducible show wpAny _ _ (call (Value.builtin "list.sort") _ _) _ _ _)); (fail_if_success (with_reducible show wpAny _ _ (eval (Expr.ListComp _ _ _ _) _) _ _ _)); (fail_if_success (with_reducible show wpAny _ _ (exec (Stmt.Assign _ (Expr.ListComp _ _ _ _) _) _) _ _ _)); first | walk1 | (dsimp only; walk1)))
      · rename_i h3 F3 N3 hnN
        have N30 : News g L' h3 [] := fun q hq => nomatch hq
        show wpAny _ _ (call (.builtin "sorted") [.ref l] [(Str.ofString "key", .ref kf)]) _ _ _
        refine sortedK_ok (hb := g) (m := _) (vs := vs) F3.ns (F3.keep _ _ hlg) (by (first | lia | omega)) (by (first | lia | omega)) (by show A.depth + 1 + 10 < recursionLimit; (first | lia | omega)) (by show A.units + 3 + 110 < cLine; (first | lia | omega)) hKg (fun b o e => ⟨Nat.ne_of_lt (Nat.lt_of_lt_of_le (Heap.lt_size e) F3.above), F3.keep b o e⟩) fun ρ D e' h4 tk4 hρ hn4 hD0 hD hk4 => ?_
        have F4 := fr_up F3 hn4 hk4
        have N4 : News g L' h4 [(D, listOf (List.toArray (ρ.map fun i => vs.getD i Value.none)) e')] := news_new F3 (fun q hq => nomatch hq) hD0 hD
        have hρl : ρ.length = vs.length := by rw [hρ.1.length_eq, List.length_range]
        clear F3 N3 N30
        (repeat' ((fail_if_success k_end); (fail_if_success (with_reducible show wpAny _ _ (exec (Stmt.For _ _ _ _ _) _) _ _ _)); (fail_if_success (with_reducible show wpAny _ _ (call (Value.ref _) _ _) _ _ _)); (fail_if_success (with_reducible show wpAny _ _ (call (Value.builtin "min") _ _) _ _ _)); (fail_if_success (with_reducible show wpAny _ _ (call (Value.builtin "sorted") _ _) _ _ _)); (fail_if_success (with_reducible show wpAny _ _ (call (Value.builtin "list.sort") _ _) _ _ _)); (fail_if_success (with_reducible show wpAny _ _ (eval (Expr.ListComp _ _ _ _) _) _ _ _)); (fail_if_success (with_reducible show wpAny _ _ (exec (Stmt.Assign _ (Expr.ListComp _ _ _ _) _) _) _ _ _)); first | walk1 | (dsimp only; walk1)))
        rename_i h5 F5 N5
        have z5 := N5 _ (.head _)
        have hrv : ns.length = vs.length := by (first | lia | omega)
        have hord : ρ.Pairwise (kst r) := by
          refine List.Pairwise.imp_of_mem (fun {x y} hx hy hc => ?_) hρ.2
          have hxN := List.mem_range.mp (hρ.1.mem_iff.mp hx)
          have hyN := List.mem_range.mp (hρ.1.mem_iff.mp hy)
          rw [hrk x y (by (first | lia | omega)) (by (first | lia | omega)), hrk y x (by (first | lia | omega)) (by (first | lia | omega))] at hc
          simp only [decide_eq_true_eq, decide_eq_false_iff_not] at hc
          unfold kst
          (first | lia | omega)
        refine ⟨_, F5, fun hk => k ρ _ 0 h5 _ (ρ.map fun i => vs.getD i Value.none) (top_all (by rw [hrv]; exact hρ.1) hord) (by (first | lia | omega)) (fun b o e => F5.keep b o (hgs b o (by simp) e)) (ints_pick hI ρ fun x hx => by have := List.mem_range.mp (hρ.1.mem_iff.mp hx); (first | lia | omega)) ?_ (noneS z5.2.2)⟩
        rw [z5.1, kms_pick_eq]
        have e2 : kms_pick (List.toArray (ρ.map fun i => vs.getD i Value.none)).toList none (some (n : Int)) = ρ.map fun i => vs.getD i Value.none := by
          rw [pick_to]
          refine List.take_of_length_le ?_
          simp only [List.toList_toArray, List.length_map]
          (first | lia | omega)
        rw [e2]
      · rename_i h3 F3 N3 hnN
        refine iterL F3 N3 ⟨_, F3.keep _ _ hlg, rfl, _, rfl⟩ fun I h4 F4 N4 hI0 hIn => ?_
        clear F3 N3
        (repeat' ((fail_if_success k_end); (fail_if_success (with_reducible show wpAny _ _ (exec (Stmt.For _ _ _ _ _) _) _ _ _)); (fail_if_success (with_reducible show wpAny _ _ (call (Value.ref _) _ _) _ _ _)); (fail_if_success (with_reducible show wpAny _ _ (call (Value.builtin "min") _ _) _ _ _)); (fail_if_success (with_reducible show wpAny _ _ (call (Value.builtin "sorted") _ _) _ _ _)); (fail_if_success (with_reducible show wpAny _ _ (call (Value.builtin "list.sort") _ _) _ _ _)); (fail_if_success (with_reducible show wpAny _ _ (eval (Expr.ListComp _ _ _ _) _) _ _ _)); (fail_if_success (with_reducible show wpAny _ _ (exec (Stmt.Assign _ (Expr.ListComp _ _ _ _) _) _) _ _ _)); first | walk1 | (dsimp only; walk1)))
        rename_i h5 F5 N5
        refine' assign_comp (cl := [("key", L' + 1)]) (G := fun j y o => ∃ t1 t2 v e, vs[j]? = some v ∧ o = some (seqObj "tuple" (List.toArray [.str (K j) t1, .int (0 + (j : Int) * 1) t2, v]) e)) ?sw ?clos ?cell ?kind ?names ?hy ?hp ?_
        case sw => with_unfolding_all rfl
        case clos => with_unfolding_all rfl
        case cell => decide
        case kind => rfl
        case names => decide
        case hy => rfl
        case hp => rfl
        (repeat' ((fail_if_success k_end); (fail_if_success (with_reducible show wpAny _ _ (exec (Stmt.For _ _ _ _ _) _) _ _ _)); (fail_if_success (with_reducible show wpAny _ _ (call (Value.ref _) _ _) _ _ _)); (fail_if_success (with_reducible show wpAny _ _ (call (Value.builtin "min") _ _) _ _ _)); (fail_if_success (with_reducible show wpAny _ _ (call (Value.builtin "sorted") _ _) _ _ _)); (fail_if_success (with_reducible show wpAny _ _ (call (Value.builtin "list.sort") _ _) _ _ _)); (fail_if_success (with_reducible show wpAny _ _ (eval (Expr.ListComp _ _ _ _) _) _ _ _)); (fail_if_success (with_reducible show wpAny _ _ (exec (Stmt.Assign _ (Expr.ListComp _ _ _ _) _) _) _ _ _)); first | walk1 | (dsimp only; walk1)))
        rename_i h6 tk6 t6 u6 v6 hrg F6 N6 hk6
        have hsm : ∀ n : Nat, n < 30 → Builtin.Range.small 0 (n : Int) 1 = true := by decide
        have hrs : ∀ n : Nat, n < 30 → Builtin.Range.rangeSize 0 (n : Int) 1 = n := by decide
        have nI := N6 _ (.head _)
        have nC := N6 _ (.tail _ (.head _))
        have hIlt : I < h6.objs.size := Heap.lt_size nI.1
        have hllt : l < h6.objs.size := Heap.lt_size (F6.keep _ _ hlg)
        have hLlt : L' < h6.objs.size := F6.ns.lt
        refine call_zip_ri (hsm n hn) hrg ⟨_, nI.1, rfl, rfl⟩ fun h7 z1 z2 z3 z4 hz7 hk7 => ?_
        refine wpAny_pyIter_zip z1 ?_
        rw [hrs n hn] at z4
        have hlI : l ≠ I := fun q => by
          have := F6.keep _ _ hlg
          rw [q, nI.1] at this
          exact absurd (Value.type.inj (congrArg Obj.cls (Option.some.inj this))) (by decide)
        have D := ZA_of hIlt hllt hlI
        have N7 := News.keep N6 hk7
        have F7 := F6.keeps hk7
        have hlL : l ≠ L' := Nat.ne_of_lt (Nat.lt_of_lt_of_le (Heap.lt_size hlg) F6.above)
        have hfp := fp_of (h := h7) hIlt hllt hLlt nI.2.1 hlL hz7 (by rw [z4]; exact nofun) (by rw [z2]; exact nofun) (by rw [z3]; exact nofun) (by rw [z1]; exact nofun) (by rw [hk7 _ _ nI.1]; exact nofun) (by rw [F7.keep _ _ hlg]; exact nofun)
        refine ⟨_, _, _, _, _, _, _, rfl, Src.zipR (by exact c.hh) _ _ _ _ _ _ D 0 1 n vs.toArray, ?nn, ?st, fun b hb => (hfp b hb).1, fun b hb => (hfp b hb).2.2, fun hb => (hfp _ hb).2.1 rfl, F7.ns, ?turn, ?done⟩
        case nn =>
          have := Nat.min_le_left n vs.toArray.size
          (first | lia | omega)
        case st => exact ⟨fun _ => ⟨z1, z2, ⟨_, _, z3⟩, by simpa using z4, ⟨_, (N7 _ (.head _)).1, rfl, rfl⟩, ⟨_, F7.keep _ _ hlg, rfl, _, rfl⟩⟩, fun h => by (first | lia | omega)⟩
        case turn =>
          have hcell : (hideAll h7 [h6.objs.size + 3, h6.objs.size + 2, h6.objs.size, I]).get? (L' + 1) = some _ := hideAll_get _ (N7 _ (.tail _ (.head _))).1 (by
            have h1 := Heap.lt_size nC.1
            have h2 := hIn _ (.head _)
            simp only [List.mem_cons, List.not_mem_nil, or_false, not_or]
            exact ⟨Nat.ne_of_lt (Nat.lt_of_lt_of_le h1 (Nat.le_add_right _ _)), Nat.ne_of_lt (Nat.lt_of_lt_of_le h1 (Nat.le_add_right _ _)), Nat.ne_of_lt h1, Nat.ne_of_lt h2⟩)
          have hg2 := ground_hide (wr := [h6.objs.size + 3, h6.objs.size + 2, h6.objs.size, I]) (s := ⟨h7, s.gens, s.drawn, tk6, s.os⟩) F7 (by
            intro b hb
            have fresh : ∀ b, h6.objs.size ≤ b → g.get? b = none := fun b hb => Heap.get?_none_of_le (Nat.le_trans F6.above (Nat.le_trans (Nat.le_of_lt hLlt) hb))
            simp only [List.mem_cons, List.not_mem_nil, or_false] at hb
            rcases hb with rfl | rfl | rfl | rfl
            · exact fresh _ (Nat.le_add_right _ _)
            · exact fresh _ (Nat.le_add_right _ _)
            · exact fresh _ (Nat.le_refl _)
            · exact nI.2.2)
          refine key_turns (kf := kf) (o := fun i => 0 + (i : Int) * 1) (X'.keeps hg2) (T'.keeps hg2) (by exact c.hh) (by show A.depth + 1 + 10 < recursionLimit; (first | lia | omega)) (by show A.units + 3 + 100 < cLine; (first | lia | omega)) (fun _ => rfl) (fun _ => rfl) (fun _ => rfl) (fun _ => rfl) (FnAt.mv hF hg2) hcell (by assumption) (fun j v hv => (hKg j v hv).grow hg2) fun i v h hi hp => ?_
          obtain ⟨T, t, x, e1, e2, e3⟩ := hp
          exact ⟨T, t, x, e1, by simpa using e2, e3⟩
        case done =>
          intro Dr h8 tk8 ys hDr hpl hG hend hns8 hk8
          obtain ⟨e8, hpl⟩ := hpl
          rw [show min n vs.toArray.size = n by rw [List.size_toArray]; (first | lia | omega)] at hG
          have hDr6 : h6.get? Dr = none := by
            cases q : h6.get? Dr with
            | none => rfl
            | some o => rw [hk7 _ _ q] at hDr; cases hDr
          have hwr : ∀ b ∈ [h6.objs.size + 3, h6.objs.size + 2, h6.objs.size, I], g.get? b = none := by
            intro b hb
            have fresh : ∀ b, h6.objs.size ≤ b → g.get? b = none := fun b hb => Heap.get?_none_of_le (Nat.le_trans F6.above (Nat.le_trans (Nat.le_of_lt hLlt) hb))
            simp only [List.mem_cons, List.not_mem_nil, or_false] at hb
            rcases hb with rfl | rfl | rfl | rfl
            · exact fresh _ (Nat.le_add_right _ _)
            · exact fresh _ (Nat.le_add_right _ _)
            · exact fresh _ (Nat.le_refl _)
            · exact nI.2.2
          have F8 : Fr g L' h8 _ := ⟨hns8, fun b o e => hk8 b o (Nat.ne_of_lt (Nat.lt_of_lt_of_le (Heap.lt_size e) F7.above)) (fun hb => by rw [hwr b hb] at e; cases e) (F7.keep b o e), F7.above⟩
          have hc8 := hk8 _ _ nC.2.1 (by
            have h1 := Heap.lt_size nC.1
            have h2 := hIn _ (.head _)
            simp only [List.mem_cons, List.not_mem_nil, or_false, not_or]
            exact ⟨Nat.ne_of_lt (Nat.lt_of_lt_of_le h1 (Nat.le_add_right _ _)), Nat.ne_of_lt (Nat.lt_of_lt_of_le h1 (Nat.le_add_right _ _)), Nat.ne_of_lt h1, Nat.ne_of_lt h2⟩) (N7 _ (.tail _ (.head _))).1
          have hmin : min n vs.toArray.size = n := by rw [List.size_toArray]; (first | lia | omega)
          obtain ⟨oI, hoI, hcI, hdI⟩ := (hend.2 (by rw [hmin])).1 (by rw [List.size_toArray]; (first | lia | omega))
          rw [hmin] at hdI
          obtain ⟨hyl, hys⟩ := hG
          have hDrI : Dr ≠ I := fun q => by rw [q, nI.1] at hDr6; cases hDr6
          have hDrL : Dr ≠ L' := fresh_ne F6 hDr6
          have hDrg : g.get? Dr = none := none_of F6 hDr6
          have N8 : News g L' h8 [(Dr, listOf ys.toArray e8), (I, oI), (L' + 1, _)] := newsC (⟨hpl, hDrL, hDrg⟩) (newsC (⟨hoI, nI.2⟩) (newsC (⟨hc8, nC.2⟩) News.nil))
          have hTog : Tog (Ent g h8 K ns (fun o => (o : Int)) id) ys ((List.range n).map fun i => (i, i)) := by
            refine Tog.of_get (by rw [hyl, List.length_map, List.length_range]) fun j y e hy he => ?_
            have hjn : j < n := by
              have := (List.getElem?_eq_some_iff.mp hy).1
              (first | lia | omega)
            rw [List.getElem?_map, List.getElem?_range hjn] at he
            cases he
            obtain ⟨hT, t1, t2, v, ep, hv, ho⟩ := hys j y hy
            obtain ⟨nj, tj, hnj, rfl⟩ := ints_get hI hv
            cases y with
            | ref T =>
              have e1 : ns.getD j 0 = nj := by rw [List.getD_eq_getElem?_getD, hnj]; rfl
              refine ⟨⟨T, t1, t2, tj, ep, rfl, ?_⟩, by show j < ns.length; (first | lia | omega), fun T' eT => none_of F7 (Value.ref.inj eT ▸ (hT T rfl).2.1), rfl⟩
              have ho' : h8.get? T = _ := ho
              rw [ho', e1]
              simp
            | _ => cases ho
          clear F7 N7 F6 N6
          have hlxly : ∀ {h : Heap} {idx : Nat → Nat} (a b : Value) (x y : Nat × Nat), Ent g h K ns (fun o => (o : Int)) idx a x → Ent g h K ns (fun o => (o : Int)) idx b y → (lexKD (kdv h b) (kdv h a)) = ltH r x y := fun a b x y ha hb => by
            rw [ha.kdv, hb.kdv]
            exact ent_up hrk ha.lt hb.lt ha.idx hb.idx
          by_cases hn0 : n = 0
          · have : ys = [] := List.eq_nil_of_length_eq_zero (by (first | lia | omega))
            subst this
            dsimp only
            (repeat' ((fail_if_success k_end); (fail_if_success (with_reducible show wpAny _ _ (exec (Stmt.For _ _ _ _ _) _) _ _ _)); (fail_if_success (with_reducible show wpAny _ _ (call (Value.ref _) _ _) _ _ _)); (fail_if_success (with_reducible show wpAny _ _ (call (Value.builtin "min") _ _) _ _ _)); (fail_if_success (with_reducible show wpAny _ _ (call (Value.builtin "sorted") _ _) _ _ _)); (fail_if_success (with_reducible show wpAny _ _ (call (Value.builtin "list.sort") _ _) _ _ _)); (fail_if_success (with_reducible show wpAny _ _ (eval (Expr.ListComp _ _ _ _) _) _ _ _)); (fail_if_success (with_reducible show wpAny _ _ (exec (Stmt.Assign _ (Expr.ListComp _ _ _ _) _) _) _ _ _)); first | walk1 | (dsimp only; walk1)))
            show qk (Flow.ret (Value.ref Dr)) _
            subst hn0
            exact ⟨_, F8, fun hk => k [] Dr e8 h8 _ [] ⟨.nil, (fun x hx => nomatch hx), (fun x hx => nomatch hx)⟩ (by simp) (fun b o e => F8.keep b o (hgs b o (by simp) e)) .nil hpl (noneS hDrg)⟩
          · obtain ⟨y0, yr, rfl⟩ : ∃ y0 yr, ys = y0 :: yr := by
              cases ys with
              | nil => simp at hyl; (first | lia | omega)
              | cons a b => exact ⟨a, b, rfl⟩
            dsimp only
            (repeat' ((fail_if_success k_end); (fail_if_success (with_reducible show wpAny _ _ (exec (Stmt.For _ _ _ _ _) _) _ _ _)); (fail_if_success (with_reducible show wpAny _ _ (call (Value.ref _) _ _) _ _ _)); (fail_if_success (with_reducible show wpAny _ _ (call (Value.builtin "min") _ _) _ _ _)); (fail_if_success (with_reducible show wpAny _ _ (call (Value.builtin "sorted") _ _) _ _ _)); (fail_if_success (with_reducible show wpAny _ _ (call (Value.builtin "list.sort") _ _) _ _ _)); (fail_if_success (with_reducible show wpAny _ _ (eval (Expr.ListComp _ _ _ _) _) _ _ _)); (fail_if_success (with_reducible show wpAny _ _ (exec (Stmt.Assign _ (Expr.ListComp _ _ _ _) _) _) _ _ _)); first | walk1 | (dsimp only; walk1)))
            refine ⟨X'.keeps F8.keep, wpAny_call ?_⟩
            refine heapify_max_ok (c.innC B' F8 X' T') hpl hDrL hDrg (by show A.depth + 1 + 12 < recursionLimit; (first | lia | omega)) (by show A.units + 3 + 100 < cLine; (first | lia | omega)) (by (first | lia | omega)) (lt := fun x y => lexKD (kdv h8 y) (kdv h8 x)) (fun v hv u hu => ?_) fun h9 tk9 e9 hx9 ha9 => ?_
            · obtain ⟨ev, _, h1⟩ := hTog.mem hv
              obtain ⟨eu, _, h2⟩ := hTog.mem hu
              exact ent_cmp h1 h2 hpl
            have F9 := ext_fr F8 hx9 hDrL hDrg
            have N9 := news_ext N8 hx9 ha9 (by
              intro q hq x
              rcases List.mem_cons.mp hq with rfl | hq
              · exact hDrI x.symm
              · rw [List.mem_singleton.mp hq] at x
                have x : L' + 1 = Dr := x
                rw [← x, nC.1] at hDr6
                cases hDr6)
            have hTog9 : Tog (Ent g h9 K ns (fun o => (o : Int)) id) (hfP (fun x y => lexKD (kdv h8 y) (kdv h8 x)) ((y0 :: yr).length / 2) (y0 :: yr)) (hfP (ltH r) (n / 2) ((List.range n).map fun i => (i, i))) := by
              rw [hyl]
              refine (hTog.hf (ly := ltH r) hlxly (n / 2)).imp fun x y _ _ hxy => hxy.mv fun T o e1 e2 => hx9 T o (fun q => hxy.ne hpl (e1.trans (by rw [q]))) e2
            have hInv := ninv_init r n
            generalize hfP (fun x y => lexKD (kdv h8 y) (kdv h8 x)) ((y0 :: yr).length / 2) (y0 :: yr) = zs at ha9 N9 hTog9
            generalize hfP (ltH r) (n / 2) ((List.range n).map fun i => (i, i)) = es at hTog9 hInv
            obtain ⟨e0, er, rfl⟩ : ∃ e0 er, es = e0 :: er := by
              cases es with
              | nil => exact absurd hInv.len.symm hn0
              | cons a b => exact ⟨a, b, rfl⟩
            obtain ⟨z0, zr, rfl⟩ : ∃ z0 zr, zs = z0 :: zr := by
              cases zs with
              | nil => have := hTog9.length; simp at this
              | cons a b => exact ⟨a, b, rfl⟩
            clear F8 N8 hTog hys
            obtain ⟨f0, hf0, hE0⟩ := hTog9.get (i := 0) rfl
            cases hf0
            obtain ⟨T0, a1, a2, a3, ep0, rfl, hT0⟩ := hE0.at'
            have N9' := N9
            replace N9 : News g L' h9 ((T0, seqObj "tuple" (List.toArray [.str (K e0.1) a1, .int ((e0.2 : Nat) : Int) a2, .int (ns.getD e0.1 0) a3]) ep0) :: _) := newsC (⟨hT0, ns_not_tup F9.ns hT0, hE0.fr T0 rfl⟩) N9'
            obtain ⟨restU, hU1, hU2, hU3, _⟩ := rest_but F9 Dr
            have hns9 := F9.ns
            replace N9 : News g L' h9 ((T0, seqObj "tuple" (List.toArray [.str (K e0.1) a1, .int ((e0.2 : Nat) : Int) a2, .int (ns.getD e0.1 0) a3]) ep0) :: (Dr, listOf (Value.ref T0 :: zr).toArray e9) :: (I, oI) :: (L' + 1, oC) :: restU) := newsC (N9 _ (.head _)) (newsC (N9 _ (.tail _ (.head _))) (newsC (N9 _ (.tail _ (.tail _ (.head _)))) (newsC (N9 _ (.tail _ (.tail _ (.tail _ (.head _))))) hU1)))
            clear N9' hU1
            dsimp only
            (repeat' ((fail_if_success k_end); (fail_if_success (with_reducible show wpAny _ _ (exec (Stmt.For _ _ _ _ _) _) _ _ _)); (fail_if_success (with_reducible show wpAny _ _ (call (Value.ref _) _ _) _ _ _)); (fail_if_success (with_reducible show wpAny _ _ (call (Value.builtin "min") _ _) _ _ _)); (fail_if_success (with_reducible show wpAny _ _ (call (Value.builtin "sorted") _ _) _ _ _)); (fail_if_success (with_reducible show wpAny _ _ (call (Value.builtin "list.sort") _ _) _ _ _)); (fail_if_success (with_reducible show wpAny _ _ (eval (Expr.ListComp _ _ _ _) _) _ _ _)); (fail_if_success (with_reducible show wpAny _ _ (exec (Stmt.Assign _ (Expr.ListComp _ _ _ _) _) _) _ _ _)); first | walk1 | (dsimp only; walk1)))
            rename_i h10 F10 N10
            have NI10 := N10 _ (.tail _ (.tail _ (.head _)))
            have hl10 := F10.keep _ _ hlg
            refine wpAny_For ?_
            (repeat' ((fail_if_success k_end); (fail_if_success (with_reducible show wpAny _ _ (exec (Stmt.For _ _ _ _ _) _) _ _ _)); (fail_if_success (with_reducible show wpAny _ _ (call (Value.ref _) _ _) _ _ _)); (fail_if_success (with_reducible show wpAny _ _ (call (Value.builtin "min") _ _) _ _ _)); (fail_if_success (with_reducible show wpAny _ _ (call (Value.builtin "sorted") _ _) _ _ _)); (fail_if_success (with_reducible show wpAny _ _ (call (Value.builtin "list.sort") _ _) _ _ _)); (fail_if_success (with_reducible show wpAny _ _ (eval (Expr.ListComp _ _ _ _) _) _ _ _)); (fail_if_success (with_reducible show wpAny _ _ (exec (Stmt.Assign _ (Expr.ListComp _ _ _ _) _) _) _ _ _)); first | walk1 | (dsimp only; walk1)))
            refine wpAny_pyIter_listiter (l := l) (i := n) ⟨_, NI10.1, hcI, hdI⟩ ?_
            have hlI' : ∀ {h : Heap}, h = h10 → l ≠ I := fun _ => hlI
            have up10 := hU3 h10 F10.keep fun q hq => N10 q (.tail _ (.tail _ (.tail _ (.tail _ hq))))
            have hTog10 : Tog (fun y e => Ent g h10 K ns (fun o => (o : Int)) id y e ∧ y ≠ .ref I) (Value.ref T0 :: zr) (e0 :: er) :=
              hTog9.imp fun x y _ _ hxy => ⟨hxy.mvBut hns9 ha9 up10, fun q => by
                obtain ⟨T, _, _, _, _, e1, e2⟩ := hxy.at'
                rw [q] at e1
                cases e1
                have e3 := up10 _ _ nI.2.1 hDrI.symm e2
                rw [NI10.1] at e3
                have e4 := congrArg Obj.cls (Option.some.inj e3)
                rw [hcI] at e4
                exact absurd (Value.type.inj e4) (by decide)⟩
            obtain ⟨J, hJ⟩ : ∃ J : Nat → Shared → Prop, ∀ i s', J i s' ↔ (E11 fun (h' : Heap) (tk : Nat) (m' : Str → Option Value) (zs : List Value) (f0 : Nat × Nat) (fr : List (Nat × Nat)) (ord : Nat) (e' : Nat) (t1 : Tok) (t2 : Tok) (idx : Nat → Nat) => A9 (s' = { s with heap := h', toks := tk }) (Fr g L' h' m') (News g L' h' [(Dr, listOf zs.toArray e'), (L' + 1, oC)]) (m' "result" = some (.ref Dr)) (m' "top" = some (.str (K f0.1) t1)) (m' "order" = some (.int (ord : Int) t2)) (m' "_heapreplace" = some (.ref 134)) (NInv r n (n + i) (f0 :: fr) ord) (Tog (fun y e => Ent g h' K ns (fun o => (o : Int)) idx y e ∧ y ≠ .ref I) zs (f0 :: fr))) := ⟨_, fun _ _ => Iff.rfl⟩
            refine for_walk (Walks.shift (Walks.list (by exact c.hh) I l hlI vs.toArray) n (by rw [List.size_toArray]; (first | lia | omega)))
              J
              ((hJ _ _).mpr ⟨h10, _, _, Value.ref T0 :: zr, e0, er, n, e9, _, _, id, rfl, F10, ?n0, rfl, rfl, rfl, rfl, hInv, ?t0⟩) ?hst ?step ?turn ?done
            case n0 => exact newsC (N10 _ (.tail _ (.head _))) (newsC (N10 _ (.tail _ (.tail _ (.tail _ (.head _))))) News.nil)
            case t0 => exact hTog10
            case hst => exact ⟨⟨_, NI10.1, hcI, hdI⟩, ⟨_, hl10, rfl, _, rfl⟩⟩
            case step =>
              intro i s9 h' tk' hj hk
              obtain ⟨h11, tk11, m11, zs, f0, fr, ord, e11, t1, t2, idx, rfl, F11, N11, q1, q2, q3, q4, hInv1, hTog1⟩ := (hJ _ _).mp hj
              clear hj
              have hCI : L' + 1 ≠ I := Nat.ne_of_lt (hIn _ (.head _))
              refine (hJ _ _).mpr ⟨h', tk', m11, zs, f0, fr, ord, e11, t1, t2, idx, rfl, fr_wr F11 hk (by simpa using Ne.symm nI.2.1) (by simpa using nI.2.2), news_wr N11 hk ?_, q1, q2, q3, q4, hInv1, hTog1.imp fun x y _ _ hxy => ⟨hxy.1.mv fun T o e1 e2 => hk T o (by simpa using fun q => hxy.2 (by rw [e1, q])) e2, hxy.2⟩⟩
              intro q hq
              rcases List.mem_cons.mp hq with rfl | hq
              · simpa using hDrI
              · rw [List.mem_singleton.mp hq]; simpa using hCI
            case done =>
              intro s9 hj
              obtain ⟨h11, tk11, m11, zs, f0, fr, ord, e11, t1, t2, idx, rfl, F11, N11, q1, q2, q3, q4, hInv1, hTog1⟩ := (hJ _ _).mp hj
              clear hj
              have hnN' : n + (vs.toArray.size - n) = ns.length := by rw [List.size_toArray]; (first | lia | omega)
              rw [hnN'] at hInv1
              have NDr := N11 _ (.head _)
              have hns11 := F11.ns
              have hzl : zs.length = n := hTog1.length.trans hInv1.len
              dsimp only
              clear F10 N10
              (repeat' ((fail_if_success k_end); (fail_if_success (with_reducible show wpAny _ _ (exec (Stmt.For _ _ _ _ _) _) _ _ _)); (fail_if_success (with_reducible show wpAny _ _ (call (Value.ref _) _ _) _ _ _)); (fail_if_success (with_reducible show wpAny _ _ (call (Value.builtin "min") _ _) _ _ _)); (fail_if_success (with_reducible show wpAny _ _ (call (Value.builtin "sorted") _ _) _ _ _)); (fail_if_success (with_reducible show wpAny _ _ (call (Value.builtin "list.sort") _ _) _ _ _)); (fail_if_success (with_reducible show wpAny _ _ (eval (Expr.ListComp _ _ _ _) _) _ _ _)); (fail_if_success (with_reducible show wpAny _ _ (exec (Stmt.Assign _ (Expr.ListComp _ _ _ _) _) _) _ _ _)); first | walk1 | (dsimp only; walk1)))
              rename Fr _ _ _ _ => F12
              refine lsort_ok (L := L') (ks := fun j => kde K ns (fun o => (o : Int)) ((f0 :: fr).getD j (0, 0))) F12.ns NDr.1 NDr.2.1 (by (first | lia | omega)) (by (first | lia | omega)) (fun j v hv => ?_) (fun j _ => by simp [kde]) (fun i j _ _ => rfl) fun p c6 h13 hp hn13 ha13 hk13 => ?_
              · obtain ⟨e, he, h⟩ := hTog1.get hv
                have : (f0 :: fr).getD j (0, 0) = e := by rw [List.getD_eq_getElem?_getD, he]; rfl
                rw [this]
                exact h.1.kt
              have F13 : Fr g L' h13 _ := ⟨hn13, fun b o e => hk13 b o (fun q => by rw [q, NDr.2.2] at e; cases e) (Nat.ne_of_lt (Nat.lt_of_lt_of_le (Heap.lt_size e) F12.above)) (F12.keep b o e), F12.above⟩
              clear F12
              dsimp only
              (repeat' ((fail_if_success k_end); (fail_if_success (with_reducible show wpAny _ _ (exec (Stmt.For _ _ _ _ _) _) _ _ _)); (fail_if_success (with_reducible show wpAny _ _ (call (Value.ref _) _ _) _ _ _)); (fail_if_success (with_reducible show wpAny _ _ (call (Value.builtin "min") _ _) _ _ _)); (fail_if_success (with_reducible show wpAny _ _ (call (Value.builtin "sorted") _ _) _ _ _)); (fail_if_success (with_reducible show wpAny _ _ (call (Value.builtin "list.sort") _ _) _ _ _)); (fail_if_success (with_reducible show wpAny _ _ (eval (Expr.ListComp _ _ _ _) _) _ _ _)); (fail_if_success (with_reducible show wpAny _ _ (exec (Stmt.Assign _ (Expr.ListComp _ _ _ _) _) _) _ _ _)); first | walk1 | (dsimp only; walk1)))
              refine' eval_comp (cl := []) (G := fun j y _ => ∃ t, y = .int (ns.getD ((p.map fun i => ((f0 :: fr).getD i (0, 0)).1).getD j 0) 0) t) ?clos ?cell ?kind ?names ?_
              case clos => with_unfolding_all rfl
              case cell => decide
              case kind => rfl
              case names => decide
              (repeat' ((fail_if_success k_end); (fail_if_success (with_reducible show wpAny _ _ (exec (Stmt.For _ _ _ _ _) _) _ _ _)); (fail_if_success (with_reducible show wpAny _ _ (call (Value.ref _) _ _) _ _ _)); (fail_if_success (with_reducible show wpAny _ _ (call (Value.builtin "min") _ _) _ _ _)); (fail_if_success (with_reducible show wpAny _ _ (call (Value.builtin "sorted") _ _) _ _ _)); (fail_if_success (with_reducible show wpAny _ _ (call (Value.builtin "list.sort") _ _) _ _ _)); (fail_if_success (with_reducible show wpAny _ _ (eval (Expr.ListComp _ _ _ _) _) _ _ _)); (fail_if_success (with_reducible show wpAny _ _ (exec (Stmt.Assign _ (Expr.ListComp _ _ _ _) _) _) _ _ _)); first | walk1 | (dsimp only; walk1)))
              have hpl : p.length = n := by rw [hp.1.length_eq, List.length_range, hzl]
              have hpn : ∀ x ∈ p, x < n := fun x hx => by
                have := List.mem_range.mp (hp.1.mem_iff.mp hx)
                (first | lia | omega)
              have hTog4 : Tog (fun y e => Ent g h13 K ns (fun o => (o : Int)) idx y e) (p.map fun i => zs.getD i .none) (p.map fun i => (f0 :: fr).getD i (0, 0)) :=
                (hTog1.pick p (fun x hx => by rw [hzl]; exact hpn x hx) .none (0, 0)).imp fun x y _ _ hxy => hxy.1.mvBut hns11 NDr.1 fun b o h1 h2 e => hk13 b o h2 h1 e
              refine wpAny_pyIter_list ⟨_, ha13, rfl, _, rfl⟩ ?_
              have hk14 : ∀ b o, h13.get? b = some o → (h13.push { cls := .type "list_iterator", data := .fields #[.ref Dr, .int 0 0] }).get? b = some o := fun b o e => Heap.get?_push_of_some _ e
              have hI14 : (h13.push { cls := .type "list_iterator", data := .fields #[.ref Dr, .int 0 0] }).get? h13.objs.size = some _ := Heap.get?_push_size _ rfl
              have hDlt : Dr < h13.objs.size := Heap.lt_size ha13
              have hsz14 : (h13.push { cls := .type "list_iterator", data := .fields #[.ref Dr, .int 0 0] }).objs.size = h13.objs.size + 1 := Heap.size_push ..
              have e13 : h13.get? h13.objs.size = none := by
                cases q : h13.get? h13.objs.size with
                | none => rfl
                | some o => exact absurd (Heap.lt_size q) (Nat.lt_irrefl _)
              have F14 := F13.keeps hk14
              dsimp only
              generalize h13.push { cls := .type "list_iterator", data := .fields #[.ref Dr, .int 0 0] } = h14 at hk14 hI14 hsz14 F14 ⊢
              refine ⟨_, _, _, _, _, _, rfl, Src.list (by exact c.hh) _ h13.objs.size Dr (Nat.ne_of_lt hDlt) (List.toArray (p.map fun i => zs.getD i .none)) (fun v => .inr ⟨_, _, _, rfl⟩), ?sz, fun _ => ⟨⟨_, hI14, rfl, rfl⟩, ⟨_, hk14 _ _ ha13, rfl, _, rfl⟩⟩, ?f1, ?f2, last_turns (by exact c.hh) (fun _ => rfl) (fun _ => rfl) (fun _ => rfl) (fun _ => rfl) rfl ?hP, ?fin⟩
              case sz => rw [List.size_toArray, List.length_map]; (first | lia | omega)
              case f1 =>
                intro b hb
                simp only [List.mem_cons, List.not_mem_nil, or_false] at hb
                rw [hsz14]
                rcases hb with rfl | rfl
                · exact Nat.lt_succ_self _
                · exact Nat.lt_succ_of_lt hDlt
              case f2 =>
                intro b hb
                simp only [List.mem_cons, List.not_mem_nil, or_false] at hb
                rcases hb with rfl | rfl
                · rw [hI14]; exact nofun
                · rw [hk14 _ _ ha13]; exact nofun
              case hP =>
                intro i v h hi hv hk
                have hv2 : (p.map fun i => zs.getD i Value.none)[i]? = some v := by simpa using hv
                obtain ⟨e, he, hE⟩ := hTog4.get hv2
                obtain ⟨T, c1, c2, c3, ep, rfl, hT⟩ := hE.at'
                refine ⟨T, _, _, _, rfl, ⟨_, hk T _ ?_ (hk14 _ _ hT), rfl, ep, rfl⟩, (fun T' h => by cases h), ?_⟩
                · simp only [List.mem_singleton]
                  exact Nat.ne_of_lt (Heap.lt_size hT)
                · have e5 : (p.map fun i => ((f0 :: fr).getD i (0, 0)).1).getD i 0 = e.1 := by
                    rw [List.getElem?_map] at he
                    obtain ⟨x, hx, rfl⟩ := Option.map_eq_some_iff.mp he
                    rw [List.getD_eq_getElem?_getD, List.getElem?_map, hx]
                    rfl
                  rw [e5]
                  exact ⟨c3, rfl⟩
              case fin =>
                intro D5 h15 tk15 ys hD5 hpl5 hG5 _ hk15
                obtain ⟨e15, hpl5⟩ := hpl5
                obtain ⟨hyl5, hys5⟩ := hG5
                rw [List.size_toArray, List.length_map, hpl] at hyl5
                have hD5' : h13.get? D5 = none := by
                  cases q : h13.get? D5 with
                  | none => rfl
                  | some o => rw [hk14 _ _ q] at hD5; cases hD5
                have hgD5 : g.get? D5 = none := none_of F13 hD5'
                have F15 : Fr g L' h15 _ := fr_wr F14 hk15 (by
                  simp only [List.mem_singleton]
                  exact Nat.ne_of_lt F13.ns.lt) (by
                  intro b hb
                  rw [List.mem_singleton.mp hb]
                  exact none_of F13 e13)
                have hiy : IntsAre ys ((p.map fun i => ((f0 :: fr).getD i (0, 0)).1).map fun i => ns.getD i 0) := by
                  refine ints_of (by rw [hyl5, List.length_map, List.length_map, hpl]) fun j y hy => ?_
                  obtain ⟨_, t, e6⟩ := hys5 j y hy
                  refine ⟨t, ?_⟩
                  have hj : j < p.length := by
                    have := (List.getElem?_eq_some_iff.mp hy).1
                    (first | lia | omega)
                  rw [e6]
                  congr 1
                  simp [hj]
                have hesl : (f0 :: fr).length = n := hInv1.len
                have hq : (p.map fun i => (f0 :: fr).getD i (0, 0)).Perm (f0 :: fr) := by
                  have h1 := hp.1.map fun i => (f0 :: fr).getD i (0, 0)
                  have h2 : (List.range zs.length).map (fun i => (f0 :: fr).getD i (0, 0)) = f0 :: fr := by
                    apply List.ext_getElem
                    · rw [List.length_map, List.length_range, hzl, hesl]
                    · intro i h3 h4
                      rw [List.getElem_map, List.getElem_range]
                      exact getD_lt _ i h4 _
                  rw [h2] at h1
                  exact h1
                have ho : (p.map fun i => (f0 :: fr).getD i (0, 0)).Pairwise fun e f => ltH r e f = false := by
                  rw [List.pairwise_map]
                  refine List.Pairwise.imp_of_mem (fun {x y} hx hy hc => ?_) hp.2
                  have gx : ∀ x, x ∈ p → (f0 :: fr).getD x (0, 0) ∈ f0 :: fr := fun x hx => by
                    have := hpn x hx
                    have e7 : (f0 :: fr).getD x (0, 0) = (f0 :: fr)[x]'(by (first | lia | omega)) := getD_lt _ x (by (first | lia | omega)) _
                    rw [e7]
                    exact List.getElem_mem _
                  have hE : ∀ e ∈ f0 :: fr, e.1 < ns.length ∧ e.1 = idx e.2 := fun e he => by
                    obtain ⟨j, hj, rfl⟩ := List.getElem_of_mem he
                    obtain ⟨y, hy, hxy⟩ := hTog1.get (i := j) (x := zs[j]'(by have := hTog1.length; (first | lia | omega))) (List.getElem?_eq_getElem _)
                    rw [List.getElem?_eq_getElem hj] at hy
                    cases hy
                    exact ⟨hxy.1.lt, hxy.1.idx⟩
                  have a1 := hE _ (gx x hx)
                  have a2 := hE _ (gx y hy)
                  rw [← ent_up hrk a1.1 a2.1 a1.2 a2.2]
                  exact hc
                have hTop := ninv_top hInv1 hq ho
                rw [List.map_map] at hTop
                refine ⟨_, F15, fun hk => k (p.map fun i => ((f0 :: fr).getD i (0, 0)).1) D5 e15 h15 _ ys hTop (by rw [List.length_map]; (first | lia | omega)) (fun b o e => F15.keep b o (hgs b o (by simp) e)) hiy hpl5 (noneS hgD5)⟩
            case turn =>
              intro i v s9 E' hi hv hj hSt9
              obtain ⟨h11, tk11, m11, zs, f0, fr, ord, e11, t1, t2, idx, rfl, F11, N11, q1, q2, q3, q4, hInv1, hTog1⟩ := (hJ _ _).mp hj
              clear hj
              obtain ⟨hS, _⟩ := hSt9
              obtain ⟨oI1, hoI1, _⟩ := hS
              have hv1 : vs[n + i]? = some v := by simpa using hv
              obtain ⟨nv, tv, hnv, rfl⟩ := ints_get hI hv1
              clear F10 N10
              obtain ⟨rest, hR1, hR2, hR3, hR4⟩ := rest_but F11 Dr
              have hns11 := F11.ns
              have NDr := N11 _ (.head _)
              have NCe := N11 _ (.tail _ (.head _))
              replace N11 : News g L' h11 ((Dr, listOf zs.toArray e11) :: (L' + 1, oC) :: rest) := newsC (NDr) (newsC (NCe) hR1)
              clear hR1
              (repeat' ((fail_if_success k_end); (fail_if_success (with_reducible show wpAny _ _ (exec (Stmt.For _ _ _ _ _) _) _ _ _)); (fail_if_success (with_reducible show wpAny _ _ (call (Value.ref _) _ _) _ _ _)); (fail_if_success (with_reducible show wpAny _ _ (call (Value.builtin "min") _ _) _ _ _)); (fail_if_success (with_reducible show wpAny _ _ (call (Value.builtin "sorted") _ _) _ _ _)); (fail_if_success (with_reducible show wpAny _ _ (call (Value.builtin "list.sort") _ _) _ _ _)); (fail_if_success (with_reducible show wpAny _ _ (eval (Expr.ListComp _ _ _ _) _) _ _ _)); (fail_if_success (with_reducible show wpAny _ _ (exec (Stmt.Assign _ (Expr.ListComp _ _ _ _) _) _) _ _ _)); first | walk1 | (dsimp only; walk1)))
              rename_i h12 F12 N12
              refine callWith_F (FnAt.mv hF F12.keep) ?_
              (repeat' ((fail_if_success k_end); (fail_if_success (with_reducible show wpAny _ _ (exec (Stmt.For _ _ _ _ _) _) _ _ _)); (fail_if_success (with_reducible show wpAny _ _ (call (Value.ref _) _ _) _ _ _)); (fail_if_success (with_reducible show wpAny _ _ (call (Value.builtin "min") _ _) _ _ _)); (fail_if_success (with_reducible show wpAny _ _ (call (Value.builtin "sorted") _ _) _ _ _)); (fail_if_success (with_reducible show wpAny _ _ (call (Value.builtin "list.sort") _ _) _ _ _)); (fail_if_success (with_reducible show wpAny _ _ (eval (Expr.ListComp _ _ _ _) _) _ _ _)); (fail_if_success (with_reducible show wpAny _ _ (exec (Stmt.Assign _ (Expr.ListComp _ _ _ _) _) _) _ _ _)); first | walk1 | (dsimp only; walk1)))
              refine ⟨FnAt.mv hF F12.keep, ?_⟩
              refine (hKg (n + i) _ hv1) _ _ _ _ (by show A.depth + 1 + 10 < recursionLimit; (first | lia | omega)) (by show A.units + 3 + 100 < cLine; (first | lia | omega)) F12.keep fun h14 tk14 t14 hk14 => ?_
              have F14 := F12.keeps hk14
              have N14 := News.keep N12 hk14
              clear F12 N12
              dsimp only at F14 N14 ⊢
              have hfN : f0.1 < ns.length := by
                obtain ⟨y, hy, he⟩ := hTog1.get (i := 0) (x := zs.headD .none) (by cases zs with
                  | nil => have := hTog1.length; simp at this
                  | cons a b => rfl)
                simp only [List.getElem?_cons_zero, Option.some.injEq] at hy
                rw [hy]; exact he.1.lt
              have hnN1 : n + i < ns.length := (List.getElem?_eq_some_iff.mp hnv).1
              (repeat' ((fail_if_success k_end); (fail_if_success (with_reducible show wpAny _ _ (exec (Stmt.For _ _ _ _ _) _) _ _ _)); (fail_if_success (with_reducible show wpAny _ _ (call (Value.ref _) _ _) _ _ _)); (fail_if_success (with_reducible show wpAny _ _ (call (Value.builtin "min") _ _) _ _ _)); (fail_if_success (with_reducible show wpAny _ _ (call (Value.builtin "sorted") _ _) _ _ _)); (fail_if_success (with_reducible show wpAny _ _ (call (Value.builtin "list.sort") _ _) _ _ _)); (fail_if_success (with_reducible show wpAny _ _ (eval (Expr.ListComp _ _ _ _) _) _ _ _)); (fail_if_success (with_reducible show wpAny _ _ (exec (Stmt.Assign _ (Expr.ListComp _ _ _ _) _) _) _ _ _)); first | walk1 | (dsimp only; walk1)))
              · rename_i hlt D15 h15 F15 N15 hD15
                have up := hR3 h15 F15.keep fun q hq => N15 q (.tail _ (.tail _ (.tail _ hq)))
                have hrt : r (n + i) < r f0.1 := by
                  have h := hrk (n + i) f0.1 hnN1 hfN
                  rw [show slt (K (n + i)) (K f0.1) = true from decide_eq_true hlt] at h
                  exact of_decide_eq_true h.symm
                have ND := N15 _ (.head _)
                have hI15 : D15 ≠ I := Ne.symm (Nat.ne_of_lt (ktn_ltOf hD15.2.2 _ (hR4 I oI1 hoI1 nI.2.1 hDrI.symm nI.2.2)))
                have hTog2 : Tog (fun y e => Ent g h15 K ns (fun o => (o : Int)) (fun o => if o = ord then n + i else idx o) y e ∧ y ≠ .ref I) zs (f0 :: fr) :=
                  hTog1.imp fun x y _ hy hxy => ⟨(hxy.1.mvBut hns11 NDr.1 up).re (by rw [if_neg]; exact Nat.ne_of_lt (hInv1.lt y hy).2), hxy.2⟩
                have hnew : Ent g h15 K ns (fun o => (o : Int)) (fun o => if o = ord then n + i else idx o) (.ref D15) (n + i, ord) ∧ Value.ref D15 ≠ .ref I := by
                  have e1 : ns.getD (n + i) 0 = nv := by rw [List.getD_eq_getElem?_getD, hnv]; rfl
                  refine ⟨⟨⟨D15, t14, t2, tv, 0, rfl, ?_⟩, hnN1, fun T e => Value.ref.inj e ▸ ND.2.2, by show n + i = if ord = ord then n + i else idx ord; rw [if_pos rfl]⟩, fun q => hI15 (Value.ref.inj q)⟩
                  rw [e1]
                  exact ND.1
                obtain ⟨z1, zr1, rfl⟩ : ∃ a b, zs = a :: b := by
                  cases zs with
                  | nil => have := hTog1.length; simp at this
                  | cons a b => exact ⟨a, b, rfl⟩
                have hDr15 := N15 _ (.tail _ (.head _))
                have hzl : zr1.length + 1 = n := by
                  have := hTog1.length
                  have h2 := hInv1.len
                  simp only [List.length_cons] at this h2
                  (first | lia | omega)
                refine ⟨X'.keeps F15.keep, wpAny_call ?_⟩
                refine heapreplace_max_ok (c.innC B' F15 X' T') hDr15.1 hDr15.2.1 hDr15.2.2 (by show A.depth + 1 + 12 < recursionLimit; (first | lia | omega)) (by show A.units + 3 + 100 < cLine; (first | lia | omega)) (by (first | lia | omega)) (lt := fun x y => lexKD (kdv h15 y) (kdv h15 x)) (fun v hv u hu => ?_) fun h16 tk16 e16 hx16 ha16 => ?_
                · have all : ∀ v ∈ Value.ref D15 :: z1 :: zr1, ∃ e, Ent g h15 K ns (fun o => (o : Int)) (fun o => if o = ord then n + i else idx o) v e := fun v hv => by
                    rcases List.mem_cons.mp hv with rfl | hv
                    · exact ⟨_, hnew.1⟩
                    · obtain ⟨e, _, h⟩ := hTog2.mem hv
                      exact ⟨e, h.1⟩
                  obtain ⟨ev, h1⟩ := all v hv
                  obtain ⟨eu, h2⟩ := all u hu
                  exact ent_cmp h1 h2 hDr15.1
                have F16 := ext_fr F15 hx16 hDr15.2.1 hDr15.2.2
                have hI16 : h16.get? I = some oI1 := hx16 I oI1 hDrI.symm (up I oI1 nI.2.1 hDrI.symm hoI1)
                have hC16 : h16.get? (L' + 1) = some oC := hx16 _ _ (fun q => by
                  have q : L' + 1 = Dr := q
                  rw [← q, nC.1] at hDr6; cases hDr6) (N15 _ (.tail _ (.tail _ (.head _)))).1
                have hTog3 := ((hTog2.hr (lx := fun x y => lexKD (kdv h15 y) (kdv h15 x)) (ly := ltH r) hnew (fun a b x y ha hb => hlxly a b x y ha.1 hb.1) (by simp)).imp (R' := fun y e => Ent g h16 K ns (fun o => (o : Int)) (fun o => if o = ord then n + i else idx o) y e ∧ y ≠ .ref I) fun x y _ _ hxy => ⟨hxy.1.mvAt hDr15.1 hx16, hxy.2⟩)
                have hInv2 := ninv_repl hInv1 hrt
                generalize hrP (fun x y => lexKD (kdv h15 y) (kdv h15 x)) (Value.ref D15) (z1 :: zr1) = zs2 at ha16 hTog3
                generalize hrP (ltH r) (n + i, ord) (f0 :: fr) = es2 at hTog3 hInv2
                obtain ⟨f2, fr2, rfl⟩ : ∃ a b, es2 = a :: b := by
                  cases es2 with
                  | nil => exact absurd hInv2.len.symm hn0
                  | cons a b => exact ⟨a, b, rfl⟩
                obtain ⟨z2, zr2, rfl⟩ : ∃ a b, zs2 = a :: b := by
                  cases zs2 with
                  | nil => have := hTog3.length; simp at this
                  | cons a b => exact ⟨a, b, rfl⟩
                obtain ⟨ff, hff, hE2, _⟩ := hTog3.get (i := 0) rfl
                cases hff
                obtain ⟨T2, b1, b2, b3, ep2, rfl, hT2⟩ := hE2.at'
                have N16 : News g L' h16 [(T2, seqObj "tuple" (List.toArray [.str (K f2.1) b1, .int ((f2.2 : Nat) : Int) b2, .int (ns.getD f2.1 0) b3]) ep2), (Dr, listOf (Value.ref T2 :: zr2).toArray e16), (L' + 1, oC), (I, oI1)] := newsC (⟨hT2, ns_not_tup F16.ns hT2, hE2.fr T2 rfl⟩) (newsC (⟨ha16, hDr15.2⟩) (newsC (⟨hC16, nC.2⟩) (newsC (⟨hI16, nI.2⟩) News.nil)))
                obtain ⟨rest2, hS1, hS2, hS3, _⟩ := rest_but F16 Dr
                have hns16 := F16.ns
                replace N16 : News g L' h16 ((T2, seqObj "tuple" (List.toArray [.str (K f2.1) b1, .int ((f2.2 : Nat) : Int) b2, .int (ns.getD f2.1 0) b3]) ep2) :: (Dr, listOf (Value.ref T2 :: zr2).toArray e16) :: (L' + 1, oC) :: (I, oI1) :: rest2) := newsC (N16 _ (.head _)) (newsC (N16 _ (.tail _ (.head _))) (newsC (N16 _ (.tail _ (.tail _ (.head _)))) (newsC (N16 _ (.tail _ (.tail _ (.tail _ (.head _))))) hS1)))
                clear F15 N15
                dsimp only
                (repeat' ((fail_if_success k_end); (fail_if_success (with_reducible show wpAny _ _ (exec (Stmt.For _ _ _ _ _) _) _ _ _)); (fail_if_success (with_reducible show wpAny _ _ (call (Value.ref _) _ _) _ _ _)); (fail_if_success (with_reducible show wpAny _ _ (call (Value.builtin "min") _ _) _ _ _)); (fail_if_success (with_reducible show wpAny _ _ (call (Value.builtin "sorted") _ _) _ _ _)); (fail_if_success (with_reducible show wpAny _ _ (call (Value.builtin "list.sort") _ _) _ _ _)); (fail_if_success (with_reducible show wpAny _ _ (eval (Expr.ListComp _ _ _ _) _) _ _ _)); (fail_if_success (with_reducible show wpAny _ _ (exec (Stmt.Assign _ (Expr.ListComp _ _ _ _) _) _) _ _ _)); first | walk1 | (dsimp only; walk1)))
                refine assign3 (by exact c.hh) F16 N16 ⟨_, hT2, rfl, _, rfl⟩ rfl rfl rfl rfl fun h17 tk17 F17 N17 hk17 => ?_
                clear F16 N16
                dsimp only
                (repeat' ((fail_if_success k_end); (fail_if_success (with_reducible show wpAny _ _ (exec (Stmt.For _ _ _ _ _) _) _ _ _)); (fail_if_success (with_reducible show wpAny _ _ (call (Value.ref _) _ _) _ _ _)); (fail_if_success (with_reducible show wpAny _ _ (call (Value.builtin "min") _ _) _ _ _)); (fail_if_success (with_reducible show wpAny _ _ (call (Value.builtin "sorted") _ _) _ _ _)); (fail_if_success (with_reducible show wpAny _ _ (call (Value.builtin "list.sort") _ _) _ _ _)); (fail_if_success (with_reducible show wpAny _ _ (eval (Expr.ListComp _ _ _ _) _) _ _ _)); (fail_if_success (with_reducible show wpAny _ _ (exec (Stmt.Assign _ (Expr.ListComp _ _ _ _) _) _) _ _ _)); first | walk1 | (dsimp only; walk1)))
                clear hS1
                rename Fr _ _ _ _ => F18
                refine wpAny_loadName_local rfl rfl F18.ns q3 ?_
                (repeat' ((fail_if_success k_end); (fail_if_success (with_reducible show wpAny _ _ (exec (Stmt.For _ _ _ _ _) _) _ _ _)); (fail_if_success (with_reducible show wpAny _ _ (call (Value.ref _) _ _) _ _ _)); (fail_if_success (with_reducible show wpAny _ _ (call (Value.builtin "min") _ _) _ _ _)); (fail_if_success (with_reducible show wpAny _ _ (call (Value.builtin "sorted") _ _) _ _ _)); (fail_if_success (with_reducible show wpAny _ _ (call (Value.builtin "list.sort") _ _) _ _ _)); (fail_if_success (with_reducible show wpAny _ _ (eval (Expr.ListComp _ _ _ _) _) _ _ _)); (fail_if_success (with_reducible show wpAny _ _ (exec (Stmt.Assign _ (Expr.ListComp _ _ _ _) _) _) _ _ _)); first | walk1 | (dsimp only; walk1)))
                clear F18
                rename Fr _ _ _ _ => F18
                rename News _ _ _ _ => N18
                have up2 := hS3 _ F18.keep fun q hq => N18 q (.tail _ (.tail _ (.tail _ (.tail _ hq))))
                have hI18 := (N18 _ (.tail _ (.tail _ (.tail _ (.head _))))).1
                show (J _ _) ∧ _
                refine ⟨(hJ _ _).mpr ⟨_, _, _, Value.ref T2 :: zr2, f2, fr2, ord + 1, e16, b1, _, (fun o => if o = ord then n + i else idx o), rfl, F18, newsC (N18 _ (.tail _ (.head _))) (newsC (N18 _ (.tail _ (.tail _ (.head _)))) News.nil), q1, rfl, rfl, q4, hInv2, hTog3.imp fun x y _ _ hxy => ⟨hxy.1.mvBut hns16 ha16 up2, hxy.2⟩⟩, ⟨oI1, hI18, by assumption⟩, ⟨_, F18.keep _ _ hlg, rfl, _, rfl⟩⟩
              · rename_i h15 F15 N15 hlt
                have up := hR3 h15 F15.keep fun q hq => N15 q (.tail _ (.tail _ hq))
                have hrt : ¬ r (n + i) < r f0.1 := fun h => by
                  have := hrk (n + i) f0.1 hnN1 hfN
                  rw [decide_eq_true h] at this
                  exact hlt (of_decide_eq_true this)
                show (J _ _) ∧ _
                refine ⟨(hJ _ _).mpr ⟨h15, _, _, zs, f0, fr, ord, e11, t1, t2, idx, rfl, F15, newsC (N15 _ (.head _)) (newsC (N15 _ (.tail _ (.head _))) News.nil), q1, q2, q3, q4, ninv_skip hInv1 hrt, hTog1.imp fun x y _ _ hxy => ⟨hxy.1.mvBut hns11 NDr.1 up, hxy.2⟩⟩, ?_, ?_⟩
                · exact ⟨oI1, up I oI1 nI.2.1 hDrI.symm hoI1, by assumption⟩
                · exact ⟨_, F15.keep _ _ hlg, rfl, _, rfl⟩
end
end Mine
end
section
open PySem PySem.W PyProof.Rows PySem.Calls
set_option maxHeartbeats 8000000
namespace Mine
theorem offN5 : True := by
  w_top off
  trivial
theorem fillN5 (w : World) (x : OpenLaw) (h : PySem.Challenge.rw_ij0057_01 = x) : (Mine.frag.heap_1 w.params) = (Mine.frag.heap_1 w.params) ∧ PySem.Challenge.rw_ij0057_01 = x := by
  k_fill
  exact ⟨rfl, h⟩

section
variable {M : Model} {A : Around} {E : Value → Shared → Prop} {s : Shared} {env : Env}
theorem method_rev {pos p1 p2 : Pos} {kk : Nat} {id : String} {v : Value} {Q : Value → Shared → Prop} (h : wpAny M A (call (.builtin id) [v] [(Str.ofString "reverse", .bool true)]) Q E s) :
    wpAny M A (callWith pos (.builtin id) [v] (backTo pos (starEach [] env)) (backToKw pos (keywordEach [⟨some "reverse", .Constant (.bool true) kk p1, p2⟩] env))) Q E s := by
  refine callWith_builtin_kwB rfl rfl (evalArgs_kw_nil rfl ?_)
  refine kws_cons (wpAny_pure ?_)
  exact kws_nil h
end

noncomputable def ItSt (I l : Addr) (xs : Array Value) (n : Nat) (i : Nat) (h : Heap) : Prop := (n ≤ xs.size → h.IsListIter I l (n + i) ∧ h.IsList l xs) ∧ (xs.size < n → Spent h I)
theorem ItSt.ex {I l : Addr} {xs : Array Value} {n i : Nat} {h : Heap} (x : ItSt I l xs n i h) : ∃ o, h.get? I = some o ∧ o.cls = .type "list_iterator" := by
  rcases Nat.lt_or_ge xs.size n with hlt | hge
  · obtain ⟨o, _, e, hc, _⟩ := x.2 hlt
    exact ⟨o, e, hc⟩
  · obtain ⟨⟨o, e, hc, _⟩, _⟩ := x.1 hge
    exact ⟨o, e, hc⟩
theorem ItSt.at {I l : Addr} {xs : Array Value} {n i : Nat} {h h' : Heap} (x : ItSt I l xs n i h) (k : ∀ b ∈ [I, l], ∀ o, h.get? b = some o → h'.get? b = some o) : ItSt I l xs n i h' :=
  ⟨fun hle => ⟨(x.1 hle).1.at fun o e => k I (by simp) o e, (x.1 hle).2.at fun o e => k l (by simp) o e⟩, fun hlt => (x.2 hlt).at fun o e => k I (by simp) o e⟩
theorem Walks.tail {prog : Program} {w : World} {A : Around} (hh : A.handled = none) (I l : Addr) (hne : l ≠ I) (xs : Array Value) (n : Nat) :
    Walks prog w A I [I, l] [I] (xs.size - n) (fun i v => xs[n + i]? = some v) (ItSt I l xs n) where
  sub := fun b hb => by rw [List.mem_singleton.mp hb]; exact .head _
  frame := fun i h h' st hk => st.at hk
  item := fun i s Q E hi st hQ => by
    have hle : n ≤ xs.size := by (first | lia | omega)
    exact (Walks.list hh I l hne xs).item (n + i) s Q E (by (first | lia | omega)) (st.1 hle) fun v h' tk hP hS hk => hQ v h' tk hP ⟨fun _ => hS, fun h => by (first | lia | omega)⟩ hk
  done := fun s Q E st hQ => by
    rcases Nat.lt_or_ge xs.size n with hlt | hge
    · exact pyNext_spent hh (st.2 hlt) fun h' hk => hQ h' s.toks fun b o _ e => hk b o e
    · have := st.1 hge
      rw [show n + (xs.size - n) = xs.size by (first | lia | omega)] at this
      exact (Walks.list hh I l hne xs).done s Q E this hQ
  self := fun i s Q E st hQ => by
    rcases Nat.lt_or_ge xs.size n with hlt | hge
    · exact pyIter_spent (st.2 hlt) hQ
    · exact (Walks.list hh I l hne xs).self (n + i) s Q E (st.1 hge) hQ
theorem NInv.up {r : Nat → Nat} {k t o o' : Nat} {es : List (Nat × Nat)} (x : NInv r k t es o) (h : o ≤ o') : NInv r k t es o' :=
  ⟨x.len, x.heap, fun e he => ⟨(x.lt e he).1, Nat.lt_of_lt_of_le (x.lt e he).2 h⟩, x.mono, x.nodup, x.best⟩

section
variable {w : World} {A₀ A : Around} {base h₀ : Heap} {outer : List Env} {env : Env} {L : Addr} {m : Str → Option Value}
  {p : Program} {loose : List Str} {mean : ExcName → Option Value} {mg mb : Str → Option Value} {s : Shared}
  {R : Result → Shared → Prop} {name qual : Str} {params : Arguments} {body : List Stmt} {scope : Scope} {dV kV doc pm cdv ct oc : Value}
  {an od : Option Addr} {osl : Array (Option Value)} {f : Addr} {args : Args} {binds : List (Str × Value)} {muts : List (Addr × Obj)}

end

section
variable {w : World} {A₀ A : Around} {base h₀ : Heap} {outer : List Env} {env : Env} {L : Addr} {m : Str → Option Value}
  {p : Program} {loose : List Str} {mean : ExcName → Option Value} {mg mb : Str → Option Value} {s : Shared}
theorem nlargest_ok {Q : Value → Shared → Prop} {E : Value → Shared → Prop} (c : Cx w A₀ A base h₀ [] env L s.heap m p loose mean mg mb) (XB : (Mine.frag.heap_1 w.params).In base) (TB : Top p loose mean mg mb base) {n : Nat} {t : Tok} {ns : List Int} {vs : List Value} {l e : Nat} {kf I0 : Addr} {o0 : Obj} (K : Nat → Str)
    (hl : s.heap.get? l = some (listOf vs.toArray e)) (hI : IntsAre vs ns) (hlen : 6 ≤ ns.length) (hlen2 : ns.length < 20) (hn : n < 30)
    (hI0 : s.heap.get? I0 = some o0) (hIc : o0.cls = .type "list_iterator") (hId : o0.data = .fields #[.ref l, .int 0 0]) (hIL : I0 ≠ L) (hIg : h₀.get? I0 = none)
    (hK : ∀ j v, vs[j]? = some v → KeyOk w (hideAll s.heap [I0, L]) (.ref kf) v (K j))
    (r : Nat → Nat) (hrk : ∀ i j, i < ns.length → j < ns.length → slt (K j) (K i) = decide (r i < r j))
    (hFn : FnAt kf s.heap) (hr : A.depth + 20 < recursionLimit) (hu : A.units + 300 < cLine)
    (k : ∀ ρ D e' h' tk vs', IsTop r (fun y => y < ns.length) ρ → ρ.length = min n ns.length → (∀ b o, b ≠ I0 → b ≠ L → s.heap.get? b = some o → h'.get? b = some o) → h'.Ns L m → IntsAre vs' (ρ.map fun i => ns.getD i 0) → h'.get? D = some (listOf (List.toArray vs') e') → (D ≠ I0 → s.heap.get? D = none) → Q (.ref D) { s with heap := h', toks := tk }) :
    wpAny (model PySem.Challenge.rw_ij0057_01.row.prog w) A (call (.ref 181) [.int (n : Int) t, .ref I0] [(Str.ofString "key", .ref kf)]) Q E s := by
  refine wpAny_call ?_
  refine' callMC2 (muts := [(I0, o0)]) (binds := [("n", .int (n : Int) t), ("iterable", .ref I0), ("key", .ref kf)]) c (fun q hq => by rw [List.mem_singleton.mp hq]; exact ⟨hI0, hIL, hIg⟩) ?ho ?hcd (by (first | lia | omega)) ?hbind ?hkind ?hnd ?h ?c2 ?c3 ?c4
  case ho => k_is
  case hcd => k_is
  case hbind =>
    have X : (Mine.frag.heap_1 w.params).In s.heap := c.X.keeps c.F.keep
    exact binds_K (by k_in) rfl (by k_is) rfl rfl rfl
  case hkind => exact rfl
  case hnd => decide +kernel
  case c2 => exact rfl
  case c3 => exact rfl
  case c4 => exact rfl
  case h =>
    intro g L' h₁ tk cells hLL F' N' Y' B' X' T' hgs hsg hIlt
    k_cells Y'
    rename_i oC hoC
    simp only [List.cons_append, List.nil_append] at N'
    k_unmd
    k_fold
    (try dsimp only [List.length_cons, List.length_nil])
    have hvn := hI.length
    have hlI0 : l ≠ I0 := fun q => by
      rw [q, hI0] at hl
      have e2 := congrArg Obj.cls (Option.some.inj hl)
      rw [hIc] at e2
      exact absurd (Value.type.inj e2) (by decide)
    have hnsL := c.F.ns
    have hlL : l ≠ L := fun q => by
      obtain ⟨o, es, ep, ho, hd, _⟩ := hnsL
      rw [← q, hl] at ho
      cases ho
      cases hd
    have hgs' : ∀ b o, b ≠ I0 → s.heap.get? b = some o → g.get? b = some o := fun b o hb e => hgs b o (by simpa using hb) e
    have hgI0 : g.get? I0 = none := (N' _ (.tail _ (.head _))).2.2
    have hlg := hgs' _ _ hlI0 hl
    have noneS : ∀ {b}, b ≠ I0 → g.get? b = none → s.heap.get? b = none := fun {b} hb e => by
      cases q : s.heap.get? b with
      | none => rfl
      | some o => rw [hgs' b o hb q] at e; cases e
    have hgL : g.Ns L m := hnsL.at' fun o e => hgs' _ o (Ne.symm hIL) e
    have hI0lt : I0 < L' := hIlt _ (.head _)
    have hF : FnAt kf g := by
      obtain ⟨oc, od, fd, sl, hkf⟩ := hFn
      refine ⟨oc, od, fd, sl, hgs' _ _ (fun q => ?_) hkf⟩
      rw [q, hI0] at hkf
      rw [Option.some.inj hkf] at hId
      cases hId
    have hKg : ∀ j v, vs[j]? = some v → KeyOk w g (.ref kf) v (K j) := fun j v hv => (hK j v hv).grow fun b o e => by
      have h1 : b ≠ I0 := fun q => by rw [q, hideAll_none _ (.head _)] at e; cases e
      exact hgs' b o h1 (of_hideAll _ e)
    (repeat' (first | (k_unfold; (try dsimp only)) | ((with_reducible show wpAny _ _ (exec _ _) _ _ _); k_fold) | ((fail_if_success k_end); (fail_if_success (with_reducible show wpAny _ _ (exec (Stmt.For _ _ _ _ _) _) _ _ _)); (fail_if_success (with_reducible show wpAny _ _ (call (Value.ref _) _ _) _ _ _)); (fail_if_success (with_reducible show wpAny _ _ (call (Value.builtin "max") _ _) _ _ _)); (fail_if_success (with_reducible show wpAny _ _ (call (Value.builtin "len") _ _) _ _ _)); (fail_if_success (with_reducible show wpAny _ _ (call (Value.builtin "iter") _ _) _ _ _)); (fail_if_success (with_reducible show wpAny _ _ (call (Value.builtin "sorted") _ _) _ _ _)); (fail_if_success (with_reducible show wpAny _ _ (call (Value.builtin "list.sort") _ _) _ _ _)); (fail_if_success (with_reducible show wpAny _ _ (eval (Expr.ListComp _ _ _ _) _) _ _ _)); (fail_if_success (with_reducible show wpAny _ _ (exec (Stmt.Assign _ (Expr.ListComp _ _ _ _) _) _) _ _ _)); first | walk1 | (dsimp only; walk1))))
    · refine call_iter (wpAny_pyIter_listiter (l := l) (i := 0) ⟨_, (N' _ (.tail _ (.head _))).1, hIc, hId⟩ ?_)
      (repeat' (first | (k_unfold; (try dsimp only)) | ((with_reducible show wpAny _ _ (exec _ _) _ _ _); k_fold) | ((fail_if_success k_end); (fail_if_success (with_reducible show wpAny _ _ (exec (Stmt.For _ _ _ _ _) _) _ _ _)); (fail_if_success (with_reducible show wpAny _ _ (call (Value.ref _) _ _) _ _ _)); (fail_if_success (with_reducible show wpAny _ _ (call (Value.builtin "max") _ _) _ _ _)); (fail_if_success (with_reducible show wpAny _ _ (call (Value.builtin "len") _ _) _ _ _)); (fail_if_success (with_reducible show wpAny _ _ (call (Value.builtin "iter") _ _) _ _ _)); (fail_if_success (with_reducible show wpAny _ _ (call (Value.builtin "sorted") _ _) _ _ _)); (fail_if_success (with_reducible show wpAny _ _ (call (Value.builtin "list.sort") _ _) _ _ _)); (fail_if_success (with_reducible show wpAny _ _ (eval (Expr.ListComp _ _ _ _) _) _ _ _)); (fail_if_success (with_reducible show wpAny _ _ (exec (Stmt.Assign _ (Expr.ListComp _ _ _ _) _) _) _ _ _)); first | walk1 | (dsimp only; walk1))))
      rename_i h3 F3 N3
      refine call_object F3 N3 fun S h4 F4 N4 hSn hS0 _ => ?_
      clear F3 N3
      (repeat' (first | (k_unfold; (try dsimp only)) | ((with_reducible show wpAny _ _ (exec _ _) _ _ _); k_fold) | ((fail_if_success k_end); (fail_if_success (with_reducible show wpAny _ _ (exec (Stmt.For _ _ _ _ _) _) _ _ _)); (fail_if_success (with_reducible show wpAny _ _ (call (Value.ref _) _ _) _ _ _)); (fail_if_success (with_reducible show wpAny _ _ (call (Value.builtin "max") _ _) _ _ _)); (fail_if_success (with_reducible show wpAny _ _ (call (Value.builtin "len") _ _) _ _ _)); (fail_if_success (with_reducible show wpAny _ _ (call (Value.builtin "iter") _ _) _ _ _)); (fail_if_success (with_reducible show wpAny _ _ (call (Value.builtin "sorted") _ _) _ _ _)); (fail_if_success (with_reducible show wpAny _ _ (call (Value.builtin "list.sort") _ _) _ _ _)); (fail_if_success (with_reducible show wpAny _ _ (eval (Expr.ListComp _ _ _ _) _) _ _ _)); (fail_if_success (with_reducible show wpAny _ _ (exec (Stmt.Assign _ (Expr.ListComp _ _ _ _) _) _) _ _ _)); first | walk1 | (dsimp only; walk1))))
      rename_i h5 F5 N5
      have N5I := N5 _ (.tail _ (.tail _ (.head _)))
      show wpAny _ _ (call (.builtin "max") [.ref I0] [(Str.ofString "default", .ref S), (Str.ofString "key", .ref kf)]) _ _ _
      have hgI : ∀ b o, g.get? b = some o → (hideAll h5 [I0]).get? b = some o := fun b o e => hideAll_get _ (F5.keep b o e) fun hb => by
        rw [List.mem_singleton.mp hb, N5I.2.2] at e; cases e
      refine max_ok (vs := vs) (l := l) c.hh ⟨_, N5I.1, hIc, hId⟩ ⟨_, F5.keep _ _ hlg, rfl, _, rfl⟩ (by (first | lia | omega)) (by show A.depth + 1 + 10 < recursionLimit; (first | lia | omega)) (by show A.units + 3 + 1 + 100 < cLine; (first | lia | omega)) (fun j v hv => (hKg j v hv).grow hgI) fun i v h6 tk6 hv hbest hk6 => ?_
      obtain ⟨ni, ti, hni, rfl⟩ := ints_get hI hv
      have F6 := fr_wr (wr := [I0]) F5 (fun b o hb e => hk6 b o (by simpa using hb) e) (by simpa using Ne.symm N5I.2.1) (by simpa using N5I.2.2)
      have N6 : News g L' h6 [(S, { cls := .type "object", data := .plain })] := fun q hq => by
        rw [List.mem_singleton.mp hq]
        have z := N5 _ (.head _)
        refine ⟨hk6 _ _ ?_ z.1, z.2⟩
        exact Ne.symm (Nat.ne_of_lt (hSn _ (.tail _ (.head _))))
      clear F5 N5 N5I
      (repeat' (first | (k_unfold; (try dsimp only)) | ((with_reducible show wpAny _ _ (exec _ _) _ _ _); k_fold) | ((fail_if_success k_end); (fail_if_success (with_reducible show wpAny _ _ (exec (Stmt.For _ _ _ _ _) _) _ _ _)); (fail_if_success (with_reducible show wpAny _ _ (call (Value.ref _) _ _) _ _ _)); (fail_if_success (with_reducible show wpAny _ _ (call (Value.builtin "max") _ _) _ _ _)); (fail_if_success (with_reducible show wpAny _ _ (call (Value.builtin "len") _ _) _ _ _)); (fail_if_success (with_reducible show wpAny _ _ (call (Value.builtin "iter") _ _) _ _ _)); (fail_if_success (with_reducible show wpAny _ _ (call (Value.builtin "sorted") _ _) _ _ _)); (fail_if_success (with_reducible show wpAny _ _ (call (Value.builtin "list.sort") _ _) _ _ _)); (fail_if_success (with_reducible show wpAny _ _ (eval (Expr.ListComp _ _ _ _) _) _ _ _)); (fail_if_success (with_reducible show wpAny _ _ (exec (Stmt.Assign _ (Expr.ListComp _ _ _ _) _) _) _ _ _)); first | walk1 | (dsimp only; walk1))))
      refine wpAny_is_other (by first | rfl | decide) (fun x => by cases x) ?_
      (repeat' (first | (k_unfold; (try dsimp only)) | ((with_reducible show wpAny _ _ (exec _ _) _ _ _); k_fold) | ((fail_if_success k_end); (fail_if_success (with_reducible show wpAny _ _ (exec (Stmt.For _ _ _ _ _) _) _ _ _)); (fail_if_success (with_reducible show wpAny _ _ (call (Value.ref _) _ _) _ _ _)); (fail_if_success (with_reducible show wpAny _ _ (call (Value.builtin "max") _ _) _ _ _)); (fail_if_success (with_reducible show wpAny _ _ (call (Value.builtin "len") _ _) _ _ _)); (fail_if_success (with_reducible show wpAny _ _ (call (Value.builtin "iter") _ _) _ _ _)); (fail_if_success (with_reducible show wpAny _ _ (call (Value.builtin "sorted") _ _) _ _ _)); (fail_if_success (with_reducible show wpAny _ _ (call (Value.builtin "list.sort") _ _) _ _ _)); (fail_if_success (with_reducible show wpAny _ _ (eval (Expr.ListComp _ _ _ _) _) _ _ _)); (fail_if_success (with_reducible show wpAny _ _ (exec (Stmt.Assign _ (Expr.ListComp _ _ _ _) _) _) _ _ _)); first | walk1 | (dsimp only; walk1))))
      rename_i l7 h7 F7 N7 hl7S
      have hiN : i < ns.length := by
        have := (List.getElem?_eq_some_iff.mp hni).1
        exact this
      have z7 := N7 _ (.head _)
      have hl7 : l7 ≠ I0 := fun q => by
        have a1 : I0 < S := hSn _ (.tail _ (.head _))
        have a2 : S < l7 := hl7S
        rw [q] at a2
        exact absurd (Nat.lt_trans a1 a2) (Nat.lt_irrefl _)
      refine (k [i] l7 0 h7 _ [.int ni ti] (top_one hiN fun j hj => ?_) ?_ (fun b o h1 _ e => F7.keep b o (hgs' b o h1 e)) (hgL.at' fun o e => F7.keep _ o e) ?_ z7.1 fun _ => noneS hl7 z7.2.2)
      · obtain ⟨b1, b2⟩ := hbest j (by (first | lia | omega))
        rw [hrk j i hj hiN] at b2
        rw [hrk i j hiN hj] at b1
        simpa using And.intro b1 b2
      · have : n = 1 := by (first | lia | omega)
        subst this
        show 1 = min 1 ns.length
        (first | lia | omega)
      · have e1 : ns.getD i 0 = ni := by rw [List.getD_eq_getElem?_getD, hni]; rfl
        show IntsAre [.int ni ti] [ns.getD i 0]
        rw [e1]
        exact .cons _ _ .nil
    · refine wpAny_Try_except ?_
      (repeat' (first | (k_unfold; (try dsimp only)) | ((with_reducible show wpAny _ _ (exec _ _) _ _ _); k_fold) | ((fail_if_success k_end); (fail_if_success (with_reducible show wpAny _ _ (exec (Stmt.For _ _ _ _ _) _) _ _ _)); (fail_if_success (with_reducible show wpAny _ _ (call (Value.ref _) _ _) _ _ _)); (fail_if_success (with_reducible show wpAny _ _ (call (Value.builtin "max") _ _) _ _ _)); (fail_if_success (with_reducible show wpAny _ _ (call (Value.builtin "len") _ _) _ _ _)); (fail_if_success (with_reducible show wpAny _ _ (call (Value.builtin "iter") _ _) _ _ _)); (fail_if_success (with_reducible show wpAny _ _ (call (Value.builtin "sorted") _ _) _ _ _)); (fail_if_success (with_reducible show wpAny _ _ (call (Value.builtin "list.sort") _ _) _ _ _)); (fail_if_success (with_reducible show wpAny _ _ (eval (Expr.ListComp _ _ _ _) _) _ _ _)); (fail_if_success (with_reducible show wpAny _ _ (exec (Stmt.Assign _ (Expr.ListComp _ _ _ _) _) _) _ _ _)); first | walk1 | (dsimp only; walk1))))
      refine len_raises (by exact c.hh) ⟨_, (N' _ (.tail _ (.head _))).1, hIc⟩ fun h2 tk2 ex hx => ?_
      dsimp only
      refine catch_pass B' F' N' (s' := ⟨h2, _, _, tk2, _⟩) hx XB TB (by k_is) (by k_is) rfl rfl rfl fun h3 g3 tk3 T3 F3 N3 B3 X3 P3 => ?_
      have hg3 : ∀ b o, b ≠ I0 → b ≠ L → s.heap.get? b = some o → g3.get? b = some o := fun b o h1 h2 e => T3.other b o (hgs' b o h1 e) (by
        rw [List.filterMap_cons, c.hf]; simpa using h2)
      have hg3L : g3.Ns L m := by
        obtain ⟨o, es, ep, ho, hd, r1, r2⟩ := hgL
        obtain ⟨sl, hs⟩ := T3.up ho
        exact ⟨_, es, ep, hs, hd, r1, r2⟩
      have hlg3 := hg3 _ _ hlI0 hlL hl
      have noneS3 : ∀ {b}, b ≠ I0 → g3.get? b = none → s.heap.get? b = none := fun {b} hb e => by
        cases q : s.heap.get? b with
        | none => rfl
        | some o =>
          by_cases hbL : b = L
          · obtain ⟨o', _, _, ho', _⟩ := hg3L
            rw [hbL, ho'] at e
            cases e
          · rw [hg3 b o hb hbL q] at e; cases e
      have hkfL : kf ≠ I0 ∧ kf ≠ L := by
        obtain ⟨oc, od, fd, sl, hkf⟩ := hFn
        refine ⟨fun q => ?_, fun q => ?_⟩
        · rw [q, hI0] at hkf
          rw [Option.some.inj hkf] at hId
          cases hId
        · obtain ⟨o, es, ep, ho, hd, _⟩ := hnsL
          rw [← q, hkf] at ho
          rw [← Option.some.inj ho] at hd
          cases hd
      have hF3 : FnAt kf g3 := by
        obtain ⟨oc, od, fd, sl, hkf⟩ := hFn
        exact ⟨oc, od, fd, sl, hg3 _ _ hkfL.1 hkfL.2 hkf⟩
      have hK3 : ∀ j v, vs[j]? = some v → KeyOk w g3 (.ref kf) v (K j) := fun j v hv => (hK j v hv).grow fun b o e => by
        have h1 : b ∉ [I0, L] := fun q => by rw [hideAll_none _ q] at e; cases e
        simp only [List.mem_cons, List.not_mem_nil, or_false, not_or] at h1
        exact hg3 b o h1.1 h1.2 (of_hideAll _ e)
      have hnS : ∀ {h' : Heap}, (∀ b o, g3.get? b = some o → h'.get? b = some o) → h'.Ns L m := fun k => hg3L.at' fun o e => k _ o e
      clear F' N' B' X' T' hF hKg hgs hgs' hsg hgL hlg noneS hgI0 hx hK
      dsimp only
      (repeat' (first | (k_unfold; (try dsimp only)) | ((with_reducible show wpAny _ _ (exec _ _) _ _ _); k_fold) | ((fail_if_success k_end); (fail_if_success (with_reducible show wpAny _ _ (exec (Stmt.For _ _ _ _ _) _) _ _ _)); (fail_if_success (with_reducible show wpAny _ _ (call (Value.ref _) _ _) _ _ _)); (fail_if_success (with_reducible show wpAny _ _ (call (Value.builtin "max") _ _) _ _ _)); (fail_if_success (with_reducible show wpAny _ _ (call (Value.builtin "len") _ _) _ _ _)); (fail_if_success (with_reducible show wpAny _ _ (call (Value.builtin "iter") _ _) _ _ _)); (fail_if_success (with_reducible show wpAny _ _ (call (Value.builtin "sorted") _ _) _ _ _)); (fail_if_success (with_reducible show wpAny _ _ (call (Value.builtin "list.sort") _ _) _ _ _)); (fail_if_success (with_reducible show wpAny _ _ (eval (Expr.ListComp _ _ _ _) _) _ _ _)); (fail_if_success (with_reducible show wpAny _ _ (exec (Stmt.Assign _ (Expr.ListComp _ _ _ _) _) _) _ _ _)); first | walk1 | (dsimp only; walk1))))
      refine call_iter (wpAny_pyIter_listiter (l := l) (i := 0) ⟨_, (N3 _ (.tail _ (.head _))).1, hIc, hId⟩ ?_)
      (repeat' (first | (k_unfold; (try dsimp only)) | ((with_reducible show wpAny _ _ (exec _ _) _ _ _); k_fold) | ((fail_if_success k_end); (fail_if_success (with_reducible show wpAny _ _ (exec (Stmt.For _ _ _ _ _) _) _ _ _)); (fail_if_success (with_reducible show wpAny _ _ (call (Value.ref _) _ _) _ _ _)); (fail_if_success (with_reducible show wpAny _ _ (call (Value.builtin "max") _ _) _ _ _)); (fail_if_success (with_reducible show wpAny _ _ (call (Value.builtin "len") _ _) _ _ _)); (fail_if_success (with_reducible show wpAny _ _ (call (Value.builtin "iter") _ _) _ _ _)); (fail_if_success (with_reducible show wpAny _ _ (call (Value.builtin "sorted") _ _) _ _ _)); (fail_if_success (with_reducible show wpAny _ _ (call (Value.builtin "list.sort") _ _) _ _ _)); (fail_if_success (with_reducible show wpAny _ _ (eval (Expr.ListComp _ _ _ _) _) _ _ _)); (fail_if_success (with_reducible show wpAny _ _ (exec (Stmt.Assign _ (Expr.ListComp _ _ _ _) _) _) _ _ _)); first | walk1 | (dsimp only; walk1))))
      obtain ⟨kk, hkk⟩ : ∃ kk, kk = min n ns.length := ⟨_, rfl⟩
      rename_i h5 F5 N5
      have hCI0 : L' + 1 ≠ I0 := Nat.ne_of_gt (Nat.lt_succ_of_lt hI0lt)
      replace N5 : News g3 L' h5 [(I0, o0), (L' + 1, oC)] := fun q hq => N5 q (by
        rcases List.mem_cons.mp hq with rfl | hq
        · exact .tail _ (.head _)
        · rw [List.mem_singleton.mp hq]; exact .head _)
      refine' assign_comp (cl := [("key", L' + 1)]) (G := fun j y o => ∃ t1 t2 v e, vs[j]? = some v ∧ o = some (seqObj "tuple" (List.toArray [.str (K j) t1, .int (0 + (j : Int) * -1) t2, v]) e)) ?sw ?clos ?cell ?kind ?names ?hy ?hp ?_
      case sw => with_unfolding_all rfl
      case clos => with_unfolding_all rfl
      case cell => decide
      case kind => rfl
      case names => decide
      case hy => rfl
      case hp => rfl
      (repeat' (first | (k_unfold; (try dsimp only)) | ((with_reducible show wpAny _ _ (exec _ _) _ _ _); k_fold) | ((fail_if_success k_end); (fail_if_success (with_reducible show wpAny _ _ (exec (Stmt.For _ _ _ _ _) _) _ _ _)); (fail_if_success (with_reducible show wpAny _ _ (call (Value.ref _) _ _) _ _ _)); (fail_if_success (with_reducible show wpAny _ _ (call (Value.builtin "max") _ _) _ _ _)); (fail_if_success (with_reducible show wpAny _ _ (call (Value.builtin "len") _ _) _ _ _)); (fail_if_success (with_reducible show wpAny _ _ (call (Value.builtin "iter") _ _) _ _ _)); (fail_if_success (with_reducible show wpAny _ _ (call (Value.builtin "sorted") _ _) _ _ _)); (fail_if_success (with_reducible show wpAny _ _ (call (Value.builtin "list.sort") _ _) _ _ _)); (fail_if_success (with_reducible show wpAny _ _ (eval (Expr.ListComp _ _ _ _) _) _ _ _)); (fail_if_success (with_reducible show wpAny _ _ (exec (Stmt.Assign _ (Expr.ListComp _ _ _ _) _) _) _ _ _)); first | walk1 | (dsimp only; walk1))))
      rename_i h6 tk6 t6 u6 v6 hrg F6 N6 hk6
      have hsm : ∀ n : Nat, n < 30 → Builtin.Range.small 0 (-(n : Int)) (-1) = true := by decide
      have hrs : ∀ n : Nat, n < 30 → Builtin.Range.rangeSize 0 (-(n : Int)) (-1) = n := by decide
      have nI := N6 _ (.head _)
      have nC := N6 _ (.tail _ (.head _))
      have hIlt : I0 < h6.objs.size := Heap.lt_size nI.1
      have hllt : l < h6.objs.size := Heap.lt_size (F6.keep _ _ hlg3)
      have hLlt : L' < h6.objs.size := F6.ns.lt
      refine call_zip_ri (hsm n hn) hrg ⟨_, nI.1, hIc, hId⟩ fun h7 z1 z2 z3 z4 hz7 hk7 => ?_
      refine wpAny_pyIter_zip z1 ?_
      rw [hrs n hn] at z4
      have hlI : l ≠ I0 := hlI0
      have D := ZA_of hIlt hllt hlI
      have N7 := News.keep N6 hk7
      have F7 := F6.keeps hk7
      have hlL : l ≠ L' := Nat.ne_of_lt (Nat.lt_of_lt_of_le (Heap.lt_size hlg3) F6.above)
      have hfp := fp_of (h := h7) hIlt hllt hLlt nI.2.1 hlL hz7 (by rw [z4]; exact nofun) (by rw [z2]; exact nofun) (by rw [z3]; exact nofun) (by rw [z1]; exact nofun) (by rw [hk7 _ _ nI.1]; exact nofun) (by rw [F7.keep _ _ hlg3]; exact nofun)
      refine ⟨_, _, _, _, _, _, _, rfl, Src.zipR (by exact c.hh) _ _ _ _ _ _ D 0 (-1) n vs.toArray, ?nn, ?st, fun b hb => (hfp b hb).1, fun b hb => (hfp b hb).2.2, fun hb => (hfp _ hb).2.1 rfl, F7.ns, ?turn, ?done⟩
      case nn =>
        have := Nat.min_le_left n vs.toArray.size
        (first | lia | omega)
      case st => exact ⟨fun _ => ⟨z1, z2, ⟨_, _, z3⟩, by simpa using z4, ⟨_, (N7 _ (.head _)).1, hIc, hId⟩, ⟨_, F7.keep _ _ hlg3, rfl, _, rfl⟩⟩, fun h => by (first | lia | omega)⟩
      case turn =>
        have hcell : (hideAll h7 [h6.objs.size + 3, h6.objs.size + 2, h6.objs.size, I0]).get? (L' + 1) = some _ := hideAll_get _ (N7 _ (.tail _ (.head _))).1 (by
          have h1 := Heap.lt_size nC.1
          have h2 := hCI0
          simp only [List.mem_cons, List.not_mem_nil, or_false, not_or]
          exact ⟨Nat.ne_of_lt (Nat.lt_of_lt_of_le h1 (Nat.le_add_right _ _)), Nat.ne_of_lt (Nat.lt_of_lt_of_le h1 (Nat.le_add_right _ _)), Nat.ne_of_lt h1, h2⟩)
        have hg2 := ground_hide (wr := [h6.objs.size + 3, h6.objs.size + 2, h6.objs.size, I0]) (s := ⟨h7, s.gens, s.drawn, tk6, s.os⟩) F7 (by
          intro b hb
          have fresh : ∀ b, h6.objs.size ≤ b → g3.get? b = none := fun b hb => Heap.get?_none_of_le (Nat.le_trans F6.above (Nat.le_trans (Nat.le_of_lt hLlt) hb))
          simp only [List.mem_cons, List.not_mem_nil, or_false] at hb
          rcases hb with rfl | rfl | rfl | rfl
          · exact fresh _ (Nat.le_add_right _ _)
          · exact fresh _ (Nat.le_add_right _ _)
          · exact fresh _ (Nat.le_refl _)
          · exact nI.2.2)
        refine key_turns (kf := kf) (o := fun i => 0 + (i : Int) * -1) (X3.keeps hg2) (P3.keeps hg2) (by exact c.hh) (by show A.depth + 1 + 10 < recursionLimit; (first | lia | omega)) (by show A.units + 3 + 100 < cLine; (first | lia | omega)) (fun _ => rfl) (fun _ => rfl) (fun _ => rfl) (fun _ => rfl) (FnAt.mv hF3 hg2) hcell (by assumption) (fun j v hv => (hK3 j v hv).grow hg2) fun i v h hi hp => ?_
        obtain ⟨T, t, x, e1, e2, e3⟩ := hp
        exact ⟨T, t, x, e1, by simpa using e2, e3⟩
      case done =>
        intro Dr h8 tk8 ys hDr hpl hG hend hns8 hk8
        obtain ⟨e8, hpl⟩ := hpl
        have hmin : min n vs.toArray.size = kk := by rw [List.size_toArray]; (first | lia | omega)
        rw [hmin] at hG
        have hDr6 : h6.get? Dr = none := by
          cases q : h6.get? Dr with
          | none => rfl
          | some o => rw [hk7 _ _ q] at hDr; cases hDr
        have hwr : ∀ b ∈ [h6.objs.size + 3, h6.objs.size + 2, h6.objs.size, I0], g3.get? b = none := by
          intro b hb
          have fresh : ∀ b, h6.objs.size ≤ b → g3.get? b = none := fun b hb => Heap.get?_none_of_le (Nat.le_trans F6.above (Nat.le_trans (Nat.le_of_lt hLlt) hb))
          simp only [List.mem_cons, List.not_mem_nil, or_false] at hb
          rcases hb with rfl | rfl | rfl | rfl
          · exact fresh _ (Nat.le_add_right _ _)
          · exact fresh _ (Nat.le_add_right _ _)
          · exact fresh _ (Nat.le_refl _)
          · exact nI.2.2
        have F8 : Fr g3 L' h8 _ := ⟨hns8, fun b o e => hk8 b o (Nat.ne_of_lt (Nat.lt_of_lt_of_le (Heap.lt_size e) F7.above)) (fun hb => by rw [hwr b hb] at e; cases e) (F7.keep b o e), F7.above⟩
        have hc8 := hk8 _ _ nC.2.1 (by
          have h1 := Heap.lt_size nC.1
          have h2 := hCI0
          simp only [List.mem_cons, List.not_mem_nil, or_false, not_or]
          exact ⟨Nat.ne_of_lt (Nat.lt_of_lt_of_le h1 (Nat.le_add_right _ _)), Nat.ne_of_lt (Nat.lt_of_lt_of_le h1 (Nat.le_add_right _ _)), Nat.ne_of_lt h1, h2⟩) (N7 _ (.tail _ (.head _))).1
        have hSt8 : ItSt I0 l vs.toArray n 0 h8 := by
          obtain ⟨z1, z2⟩ := hend.2 (by rw [hmin])
          refine ⟨fun hle => ⟨?_, ⟨_, hk8 _ _ hlL (by
            have fresh : ∀ b, h6.objs.size ≤ b → l ≠ b := fun b hb => Nat.ne_of_lt (Nat.lt_of_lt_of_le hllt hb)
            simp only [List.mem_cons, List.not_mem_nil, or_false, not_or]
            exact ⟨fresh _ (Nat.le_add_right _ _), fresh _ (Nat.le_add_right _ _), fresh _ (Nat.le_refl _), hlI⟩) (F7.keep _ _ hlg3), rfl, _, rfl⟩⟩, fun h => z2 h⟩
          have := z1 hle
          rwa [Nat.min_eq_left hle] at this
        obtain ⟨oI, hoI, hcI⟩ := hSt8.ex
        obtain ⟨hyl, hys⟩ := hG
        have hDrI : Dr ≠ I0 := fun q => by rw [q, nI.1] at hDr6; cases hDr6
        have hDrL : Dr ≠ L' := fresh_ne F6 hDr6
        have hDrg : g3.get? Dr = none := none_of F6 hDr6
        have N8 : News g3 L' h8 [(Dr, listOf ys.toArray e8), (I0, oI), (L' + 1, _)] := newsC (⟨hpl, hDrL, hDrg⟩) (newsC (⟨hoI, nI.2⟩) (newsC (⟨hc8, nC.2⟩) News.nil))
        have hTog : Tog (Ent g3 h8 K ns (fun o => -(o : Int)) id) ys ((List.range kk).map fun i => (i, i)) := by
          refine Tog.of_get (by rw [hyl, List.length_map, List.length_range]) fun j y e hy he => ?_
          have hjn : j < kk := by
            have := (List.getElem?_eq_some_iff.mp hy).1
            (first | lia | omega)
          rw [List.getElem?_map, List.getElem?_range hjn] at he
          cases he
          obtain ⟨hT, t1, t2, v, ep, hv, ho⟩ := hys j y hy
          obtain ⟨nj, tj, hnj, rfl⟩ := ints_get hI hv
          cases y with
          | ref T =>
            have e1 : ns.getD j 0 = nj := by rw [List.getD_eq_getElem?_getD, hnj]; rfl
            refine ⟨⟨T, t1, t2, tj, ep, rfl, ?_⟩, by show j < ns.length; (first | lia | omega), fun T' eT => none_of F7 (Value.ref.inj eT ▸ (hT T rfl).2.1), rfl⟩
            have ho' : h8.get? T = _ := ho
            rw [ho', e1]
            simp
          | _ => cases ho
        clear F7 N7 F6 N6
        have hlxly : ∀ {h : Heap} {idx : Nat → Nat} (a b : Value) (x y : Nat × Nat), Ent g3 h K ns (fun o => -(o : Int)) idx a x → Ent g3 h K ns (fun o => -(o : Int)) idx b y → (lexKD (kdv h a) (kdv h b)) = ltH r x y := fun a b x y ha hb => by
          rw [ha.kdv, hb.kdv]
          exact ent_dn hrk ha.lt hb.lt ha.idx hb.idx
        by_cases hn0 : n = 0
        · have : ys = [] := List.eq_nil_of_length_eq_zero (by (first | lia | omega))
          subst this
          dsimp only
          (repeat' (first | (k_unfold; (try dsimp only)) | ((with_reducible show wpAny _ _ (exec _ _) _ _ _); k_fold) | ((fail_if_success k_end); (fail_if_success (with_reducible show wpAny _ _ (exec (Stmt.For _ _ _ _ _) _) _ _ _)); (fail_if_success (with_reducible show wpAny _ _ (call (Value.ref _) _ _) _ _ _)); (fail_if_success (with_reducible show wpAny _ _ (call (Value.builtin "max") _ _) _ _ _)); (fail_if_success (with_reducible show wpAny _ _ (call (Value.builtin "len") _ _) _ _ _)); (fail_if_success (with_reducible show wpAny _ _ (call (Value.builtin "iter") _ _) _ _ _)); (fail_if_success (with_reducible show wpAny _ _ (call (Value.builtin "sorted") _ _) _ _ _)); (fail_if_success (with_reducible show wpAny _ _ (call (Value.builtin "list.sort") _ _) _ _ _)); (fail_if_success (with_reducible show wpAny _ _ (eval (Expr.ListComp _ _ _ _) _) _ _ _)); (fail_if_success (with_reducible show wpAny _ _ (exec (Stmt.Assign _ (Expr.ListComp _ _ _ _) _) _) _ _ _)); first | walk1 | (dsimp only; walk1))))
          show qk (Flow.ret (Value.ref Dr)) _
          subst hn0
          exact (k [] Dr e8 h8 _ [] ⟨.nil, (fun x hx => nomatch hx), (fun x hx => nomatch hx)⟩ (by simp) (fun b o h1 h2 e => F8.keep b o (hg3 b o h1 h2 e)) (hnS F8.keep) .nil hpl fun _ => noneS3 hDrI hDrg)
        · have hk0 : kk ≠ 0 := by (first | lia | omega)
          have hl8 := F8.keep _ _ hlg3
          obtain ⟨y0, yr, rfl⟩ : ∃ y0 yr, ys = y0 :: yr := by
            cases ys with
            | nil => simp at hyl; (first | lia | omega)
            | cons a b => exact ⟨a, b, rfl⟩
          dsimp only
          (repeat' (first | (k_unfold; (try dsimp only)) | ((with_reducible show wpAny _ _ (exec _ _) _ _ _); k_fold) | ((fail_if_success k_end); (fail_if_success (with_reducible show wpAny _ _ (exec (Stmt.For _ _ _ _ _) _) _ _ _)); (fail_if_success (with_reducible show wpAny _ _ (call (Value.ref _) _ _) _ _ _)); (fail_if_success (with_reducible show wpAny _ _ (call (Value.builtin "max") _ _) _ _ _)); (fail_if_success (with_reducible show wpAny _ _ (call (Value.builtin "len") _ _) _ _ _)); (fail_if_success (with_reducible show wpAny _ _ (call (Value.builtin "iter") _ _) _ _ _)); (fail_if_success (with_reducible show wpAny _ _ (call (Value.builtin "sorted") _ _) _ _ _)); (fail_if_success (with_reducible show wpAny _ _ (call (Value.builtin "list.sort") _ _) _ _ _)); (fail_if_success (with_reducible show wpAny _ _ (eval (Expr.ListComp _ _ _ _) _) _ _ _)); (fail_if_success (with_reducible show wpAny _ _ (exec (Stmt.Assign _ (Expr.ListComp _ _ _ _) _) _) _ _ _)); first | walk1 | (dsimp only; walk1))))
          refine ⟨X3.keeps F8.keep, wpAny_call ?_⟩
          refine heapify_ok (c.innC B3 F8 X3 P3) hpl hDrL hDrg (by show A.depth + 1 + 12 < recursionLimit; (first | lia | omega)) (by show A.units + 3 + 100 < cLine; (first | lia | omega)) (by (first | lia | omega)) (lt := fun x y => lexKD (kdv h8 x) (kdv h8 y)) (fun v hv u hu => ?_) fun h9 tk9 e9 hx9 ha9 => ?_
          · obtain ⟨ev, _, h1⟩ := hTog.mem hv
            obtain ⟨eu, _, h2⟩ := hTog.mem hu
            exact ent_cmp h1 h2 hpl
          have F9 := ext_fr F8 hx9 hDrL hDrg
          have N9 := news_ext N8 hx9 ha9 (by
            intro q hq x
            rcases List.mem_cons.mp hq with rfl | hq
            · exact hDrI x.symm
            · rw [List.mem_singleton.mp hq] at x
              have x : L' + 1 = Dr := x
              rw [← x, nC.1] at hDr6
              cases hDr6)
          have hTog9 : Tog (Ent g3 h9 K ns (fun o => -(o : Int)) id) (hfP (fun x y => lexKD (kdv h8 x) (kdv h8 y)) ((y0 :: yr).length / 2) (y0 :: yr)) (hfP (ltH r) (kk / 2) ((List.range kk).map fun i => (i, i))) := by
            rw [hyl]
            refine (hTog.hf (ly := ltH r) hlxly (kk / 2)).imp fun x y _ _ hxy => hxy.mv fun T o e1 e2 => hx9 T o (fun q => hxy.ne hpl (e1.trans (by rw [q]))) e2
          have hInv := (ninv_init r kk).up (o' := n) (by (first | lia | omega))
          generalize hfP (fun x y => lexKD (kdv h8 x) (kdv h8 y)) ((y0 :: yr).length / 2) (y0 :: yr) = zs at ha9 N9 hTog9
          generalize hfP (ltH r) (kk / 2) ((List.range kk).map fun i => (i, i)) = es at hTog9 hInv
          obtain ⟨e0, er, rfl⟩ : ∃ e0 er, es = e0 :: er := by
            cases es with
            | nil => exact absurd hInv.len.symm hk0
            | cons a b => exact ⟨a, b, rfl⟩
          obtain ⟨z0, zr, rfl⟩ : ∃ z0 zr, zs = z0 :: zr := by
            cases zs with
            | nil => have := hTog9.length; simp at this
            | cons a b => exact ⟨a, b, rfl⟩
          clear F8 N8 hTog hys
          obtain ⟨f0, hf0, hE0⟩ := hTog9.get (i := 0) rfl
          cases hf0
          obtain ⟨T0, a1, a2, a3, ep0, rfl, hT0⟩ := hE0.at'
          have N9' := N9
          replace N9 : News g3 L' h9 ((T0, seqObj "tuple" (List.toArray [.str (K e0.1) a1, .int (-((e0.2 : Nat) : Int)) a2, .int (ns.getD e0.1 0) a3]) ep0) :: _) := newsC (⟨hT0, ns_not_tup F9.ns hT0, hE0.fr T0 rfl⟩) N9'
          obtain ⟨restU, hU1, hU2, hU3, _⟩ := rest_but F9 Dr
          have hns9 := F9.ns
          replace N9 : News g3 L' h9 ((T0, seqObj "tuple" (List.toArray [.str (K e0.1) a1, .int (-((e0.2 : Nat) : Int)) a2, .int (ns.getD e0.1 0) a3]) ep0) :: (Dr, listOf (Value.ref T0 :: zr).toArray e9) :: (I0, oI) :: (L' + 1, oC) :: restU) := newsC (N9 _ (.head _)) (newsC (N9 _ (.tail _ (.head _))) (newsC (N9 _ (.tail _ (.tail _ (.head _)))) (newsC (N9 _ (.tail _ (.tail _ (.tail _ (.head _))))) hU1)))
          clear N9' hU1
          dsimp only
          (repeat' (first | (k_unfold; (try dsimp only)) | ((with_reducible show wpAny _ _ (exec _ _) _ _ _); k_fold) | ((fail_if_success k_end); (fail_if_success (with_reducible show wpAny _ _ (exec (Stmt.For _ _ _ _ _) _) _ _ _)); (fail_if_success (with_reducible show wpAny _ _ (call (Value.ref _) _ _) _ _ _)); (fail_if_success (with_reducible show wpAny _ _ (call (Value.builtin "max") _ _) _ _ _)); (fail_if_success (with_reducible show wpAny _ _ (call (Value.builtin "len") _ _) _ _ _)); (fail_if_success (with_reducible show wpAny _ _ (call (Value.builtin "iter") _ _) _ _ _)); (fail_if_success (with_reducible show wpAny _ _ (call (Value.builtin "sorted") _ _) _ _ _)); (fail_if_success (with_reducible show wpAny _ _ (call (Value.builtin "list.sort") _ _) _ _ _)); (fail_if_success (with_reducible show wpAny _ _ (eval (Expr.ListComp _ _ _ _) _) _ _ _)); (fail_if_success (with_reducible show wpAny _ _ (exec (Stmt.Assign _ (Expr.ListComp _ _ _ _) _) _) _ _ _)); first | walk1 | (dsimp only; walk1))))
          rename_i h10 F10 N10
          have NI10 := N10 _ (.tail _ (.tail _ (.head _)))
          have hl10 := F10.keep _ _ hlg3
          refine wpAny_For ?_
          (repeat' (first | (k_unfold; (try dsimp only)) | ((with_reducible show wpAny _ _ (exec _ _) _ _ _); k_fold) | ((fail_if_success k_end); (fail_if_success (with_reducible show wpAny _ _ (exec (Stmt.For _ _ _ _ _) _) _ _ _)); (fail_if_success (with_reducible show wpAny _ _ (call (Value.ref _) _ _) _ _ _)); (fail_if_success (with_reducible show wpAny _ _ (call (Value.builtin "max") _ _) _ _ _)); (fail_if_success (with_reducible show wpAny _ _ (call (Value.builtin "len") _ _) _ _ _)); (fail_if_success (with_reducible show wpAny _ _ (call (Value.builtin "iter") _ _) _ _ _)); (fail_if_success (with_reducible show wpAny _ _ (call (Value.builtin "sorted") _ _) _ _ _)); (fail_if_success (with_reducible show wpAny _ _ (call (Value.builtin "list.sort") _ _) _ _ _)); (fail_if_success (with_reducible show wpAny _ _ (eval (Expr.ListComp _ _ _ _) _) _ _ _)); (fail_if_success (with_reducible show wpAny _ _ (exec (Stmt.Assign _ (Expr.ListComp _ _ _ _) _) _) _ _ _)); first | walk1 | (dsimp only; walk1))))
          have hSt10 : ItSt I0 l vs.toArray n 0 h10 := hSt8.at fun b hb o e => by
            rcases List.mem_cons.mp hb with rfl | hb
            · rw [hoI] at e; cases e; exact NI10.1
            · rw [List.mem_singleton.mp hb] at e ⊢
              rw [hl8] at e; cases e; exact hl10
          refine (Walks.tail (by exact c.hh) I0 l hlI vs.toArray n).self 0 _ _ _ hSt10 ?_
          have hlI' : ∀ {h : Heap}, h = h10 → l ≠ I0 := fun _ => hlI
          have up10 := hU3 h10 F10.keep fun q hq => N10 q (.tail _ (.tail _ (.tail _ (.tail _ hq))))
          have hTog10 : Tog (fun y e => Ent g3 h10 K ns (fun o => -(o : Int)) id y e ∧ y ≠ .ref I0) (Value.ref T0 :: zr) (e0 :: er) :=
            hTog9.imp fun x y _ _ hxy => ⟨hxy.mvBut hns9 ha9 up10, fun q => by
              obtain ⟨T, _, _, _, _, e1, e2⟩ := hxy.at'
              rw [q] at e1
              cases e1
              have e3 := up10 _ _ nI.2.1 hDrI.symm e2
              rw [NI10.1] at e3
              have e4 := congrArg Obj.cls (Option.some.inj e3)
              rw [hcI] at e4
              exact absurd (Value.type.inj e4) (by decide)⟩
          obtain ⟨J, hJ⟩ : ∃ J : Nat → Shared → Prop, ∀ i s', J i s' ↔ (E11 fun (h' : Heap) (tk : Nat) (m' : Str → Option Value) (zs : List Value) (f0 : Nat × Nat) (fr : List (Nat × Nat)) (ord : Nat) (e' : Nat) (t1 : Tok) (t2 : Tok) (idx : Nat → Nat) => A9 (s' = { s with heap := h', toks := tk }) (Fr g3 L' h' m') (News g3 L' h' [(Dr, listOf zs.toArray e'), (L' + 1, oC)]) (m' "result" = some (.ref Dr)) (m' "top" = some (.str (K f0.1) t1)) (m' "order" = some (.int (-(ord : Int)) t2)) (m' "_heapreplace" = some (.ref 120)) (NInv r kk (kk + i) (f0 :: fr) ord) (Tog (fun y e => Ent g3 h' K ns (fun o => -(o : Int)) idx y e ∧ y ≠ .ref I0) zs (f0 :: fr))) := ⟨_, fun _ _ => Iff.rfl⟩
          refine for_walk (Walks.tail (by exact c.hh) I0 l hlI vs.toArray n)
            J
            ((hJ _ _).mpr ⟨h10, _, _, Value.ref T0 :: zr, e0, er, n, e9, _, _, id, rfl, F10, ?n0, rfl, rfl, rfl, rfl, hInv, ?t0⟩) ?hst ?step ?turn ?done
          case n0 => exact newsC (N10 _ (.tail _ (.head _))) (newsC (N10 _ (.tail _ (.tail _ (.tail _ (.head _))))) News.nil)
          case t0 => exact hTog10
          case hst => exact hSt10
          case step =>
            intro i s9 h' tk' hj hk
            obtain ⟨h11, tk11, m11, zs, f0, fr, ord, e11, t1, t2, idx, rfl, F11, N11, q1, q2, q3, q4, hInv1, hTog1⟩ := (hJ _ _).mp hj
            clear hj
            have hCI := hCI0
            refine (hJ _ _).mpr ⟨h', tk', m11, zs, f0, fr, ord, e11, t1, t2, idx, rfl, fr_wr F11 hk (by simpa using Ne.symm nI.2.1) (by simpa using nI.2.2), news_wr N11 hk ?_, q1, q2, q3, q4, hInv1, hTog1.imp fun x y _ _ hxy => ⟨hxy.1.mv fun T o e1 e2 => hk T o (by simpa using fun q => hxy.2 (by rw [e1, q])) e2, hxy.2⟩⟩
            intro q hq
            rcases List.mem_cons.mp hq with rfl | hq
            · simpa using hDrI
            · rw [List.mem_singleton.mp hq]; simpa using hCI
          case done =>
            intro s9 hj
            obtain ⟨h11, tk11, m11, zs, f0, fr, ord, e11, t1, t2, idx, rfl, F11, N11, q1, q2, q3, q4, hInv1, hTog1⟩ := (hJ _ _).mp hj
            clear hj
            have hnN' : kk + (vs.toArray.size - n) = ns.length := by rw [List.size_toArray]; (first | lia | omega)
            rw [hnN'] at hInv1
            have NDr := N11 _ (.head _)
            have hns11 := F11.ns
            have hzl : zs.length = kk := hTog1.length.trans hInv1.len
            dsimp only
            clear F10 N10
            (repeat' (first | (k_unfold; (try dsimp only)) | ((with_reducible show wpAny _ _ (exec _ _) _ _ _); k_fold) | ((fail_if_success k_end); (fail_if_success (with_reducible show wpAny _ _ (exec (Stmt.For _ _ _ _ _) _) _ _ _)); (fail_if_success (with_reducible show wpAny _ _ (call (Value.ref _) _ _) _ _ _)); (fail_if_success (with_reducible show wpAny _ _ (call (Value.builtin "max") _ _) _ _ _)); (fail_if_success (with_reducible show wpAny _ _ (call (Value.builtin "len") _ _) _ _ _)); (fail_if_success (with_reducible show wpAny _ _ (call (Value.builtin "iter") _ _) _ _ _)); (fail_if_success (with_reducible show wpAny _ _ (call (Value.builtin "sorted") _ _) _ _ _)); (fail_if_success (with_reducible show wpAny _ _ (call (Value.builtin "list.sort") _ _) _ _ _)); (fail_if_success (with_reducible show wpAny _ _ (eval (Expr.ListComp _ _ _ _) _) _ _ _)); (fail_if_success (with_reducible show wpAny _ _ (exec (Stmt.Assign _ (Expr.ListComp _ _ _ _) _) _) _ _ _)); first | walk1 | (dsimp only; walk1))))
            rename Fr _ _ _ _ => F12
            have hn1 : n ≠ 1 := by (first | lia | omega)
            have hz2 : 2 ≤ zs.length := by rw [hzl]; (first | lia | omega)
            have hz64 : zs.length < 64 := by rw [hzl]; (first | lia | omega)
            refine method_rev ?_
            refine lsort_rev_ok (L := L') (ks := fun j => kde K ns (fun o => -(o : Int)) ((f0 :: fr).getD j (0, 0))) F12.ns NDr.1 NDr.2.1 hz2 hz64 (fun j v hv => ?_) (fun j _ => by simp [kde]) (fun i j _ _ => rfl) fun p c6 h13 hp hn13 ha13 hk13 => ?_
            · obtain ⟨e, he, h⟩ := hTog1.get hv
              have : (f0 :: fr).getD j (0, 0) = e := by rw [List.getD_eq_getElem?_getD, he]; rfl
              rw [this]
              exact h.1.kt
            have F13 : Fr g3 L' h13 _ := ⟨hn13, fun b o e => hk13 b o (fun q => by rw [q, NDr.2.2] at e; cases e) (Nat.ne_of_lt (Nat.lt_of_lt_of_le (Heap.lt_size e) F12.above)) (F12.keep b o e), F12.above⟩
            clear F12
            dsimp only
            (repeat' (first | (k_unfold; (try dsimp only)) | ((with_reducible show wpAny _ _ (exec _ _) _ _ _); k_fold) | ((fail_if_success k_end); (fail_if_success (with_reducible show wpAny _ _ (exec (Stmt.For _ _ _ _ _) _) _ _ _)); (fail_if_success (with_reducible show wpAny _ _ (call (Value.ref _) _ _) _ _ _)); (fail_if_success (with_reducible show wpAny _ _ (call (Value.builtin "max") _ _) _ _ _)); (fail_if_success (with_reducible show wpAny _ _ (call (Value.builtin "len") _ _) _ _ _)); (fail_if_success (with_reducible show wpAny _ _ (call (Value.builtin "iter") _ _) _ _ _)); (fail_if_success (with_reducible show wpAny _ _ (call (Value.builtin "sorted") _ _) _ _ _)); (fail_if_success (with_reducible show wpAny _ _ (call (Value.builtin "list.sort") _ _) _ _ _)); (fail_if_success (with_reducible show wpAny _ _ (eval (Expr.ListComp _ _ _ _) _) _ _ _)); (fail_if_success (with_reducible show wpAny _ _ (exec (Stmt.Assign _ (Expr.ListComp _ _ _ _) _) _) _ _ _)); first | walk1 | (dsimp only; walk1))))
            refine' eval_comp (cl := []) (G := fun j y _ => ∃ t, y = .int (ns.getD ((p.map fun i => ((f0 :: fr).getD i (0, 0)).1).getD j 0) 0) t) ?clos ?cell ?kind ?names ?_
            case clos => with_unfolding_all rfl
            case cell => decide
            case kind => rfl
            case names => decide
            (repeat' (first | (k_unfold; (try dsimp only)) | ((with_reducible show wpAny _ _ (exec _ _) _ _ _); k_fold) | ((fail_if_success k_end); (fail_if_success (with_reducible show wpAny _ _ (exec (Stmt.For _ _ _ _ _) _) _ _ _)); (fail_if_success (with_reducible show wpAny _ _ (call (Value.ref _) _ _) _ _ _)); (fail_if_success (with_reducible show wpAny _ _ (call (Value.builtin "max") _ _) _ _ _)); (fail_if_success (with_reducible show wpAny _ _ (call (Value.builtin "len") _ _) _ _ _)); (fail_if_success (with_reducible show wpAny _ _ (call (Value.builtin "iter") _ _) _ _ _)); (fail_if_success (with_reducible show wpAny _ _ (call (Value.builtin "sorted") _ _) _ _ _)); (fail_if_success (with_reducible show wpAny _ _ (call (Value.builtin "list.sort") _ _) _ _ _)); (fail_if_success (with_reducible show wpAny _ _ (eval (Expr.ListComp _ _ _ _) _) _ _ _)); (fail_if_success (with_reducible show wpAny _ _ (exec (Stmt.Assign _ (Expr.ListComp _ _ _ _) _) _) _ _ _)); first | walk1 | (dsimp only; walk1))))
            have hpl : p.length = kk := by rw [hp.1.length_eq, List.length_range, hzl]
            have hpn : ∀ x ∈ p, x < kk := fun x hx => by
              have := List.mem_range.mp (hp.1.mem_iff.mp hx)
              (first | lia | omega)
            have hTog4 : Tog (fun y e => Ent g3 h13 K ns (fun o => -(o : Int)) idx y e) (p.map fun i => zs.getD i .none) (p.map fun i => (f0 :: fr).getD i (0, 0)) :=
              (hTog1.pick p (fun x hx => by rw [hzl]; exact hpn x hx) .none (0, 0)).imp fun x y _ _ hxy => hxy.1.mvBut hns11 NDr.1 fun b o h1 h2 e => hk13 b o h2 h1 e
            refine wpAny_pyIter_list ⟨_, ha13, rfl, _, rfl⟩ ?_
            have hk14 : ∀ b o, h13.get? b = some o → (h13.push { cls := .type "list_iterator", data := .fields #[.ref Dr, .int 0 0] }).get? b = some o := fun b o e => Heap.get?_push_of_some _ e
            have hI14 : (h13.push { cls := .type "list_iterator", data := .fields #[.ref Dr, .int 0 0] }).get? h13.objs.size = some _ := Heap.get?_push_size _ rfl
            have hDlt : Dr < h13.objs.size := Heap.lt_size ha13
            have hsz14 : (h13.push { cls := .type "list_iterator", data := .fields #[.ref Dr, .int 0 0] }).objs.size = h13.objs.size + 1 := Heap.size_push ..
            have e13 : h13.get? h13.objs.size = none := by
              cases q : h13.get? h13.objs.size with
              | none => rfl
              | some o => exact absurd (Heap.lt_size q) (Nat.lt_irrefl _)
            have F14 := F13.keeps hk14
            dsimp only
            generalize h13.push { cls := .type "list_iterator", data := .fields #[.ref Dr, .int 0 0] } = h14 at hk14 hI14 hsz14 F14 ⊢
            refine ⟨_, _, _, _, _, _, rfl, Src.list (by exact c.hh) _ h13.objs.size Dr (Nat.ne_of_lt hDlt) (List.toArray (p.map fun i => zs.getD i .none)) (fun v => .inr ⟨_, _, _, rfl⟩), ?sz, fun _ => ⟨⟨_, hI14, rfl, rfl⟩, ⟨_, hk14 _ _ ha13, rfl, _, rfl⟩⟩, ?f1, ?f2, last_turns (by exact c.hh) (fun _ => rfl) (fun _ => rfl) (fun _ => rfl) (fun _ => rfl) rfl ?hP, ?fin⟩
            case sz => rw [List.size_toArray, List.length_map]; (first | lia | omega)
            case f1 =>
              intro b hb
              simp only [List.mem_cons, List.not_mem_nil, or_false] at hb
              rw [hsz14]
              rcases hb with rfl | rfl
              · exact Nat.lt_succ_self _
              · exact Nat.lt_succ_of_lt hDlt
            case f2 =>
              intro b hb
              simp only [List.mem_cons, List.not_mem_nil, or_false] at hb
              rcases hb with rfl | rfl
              · rw [hI14]; exact nofun
              · rw [hk14 _ _ ha13]; exact nofun
            case hP =>
              intro i v h hi hv hk
              have hv2 : (p.map fun i => zs.getD i Value.none)[i]? = some v := by simpa using hv
              obtain ⟨e, he, hE⟩ := hTog4.get hv2
              obtain ⟨T, c1, c2, c3, ep, rfl, hT⟩ := hE.at'
              refine ⟨T, _, _, _, rfl, ⟨_, hk T _ ?_ (hk14 _ _ hT), rfl, ep, rfl⟩, (fun T' h => by cases h), ?_⟩
              · simp only [List.mem_singleton]
                exact Nat.ne_of_lt (Heap.lt_size hT)
              · have e5 : (p.map fun i => ((f0 :: fr).getD i (0, 0)).1).getD i 0 = e.1 := by
                  rw [List.getElem?_map] at he
                  obtain ⟨x, hx, rfl⟩ := Option.map_eq_some_iff.mp he
                  rw [List.getD_eq_getElem?_getD, List.getElem?_map, hx]
                  rfl
                rw [e5]
                exact ⟨c3, rfl⟩
            case fin =>
              intro D5 h15 tk15 ys hD5 hpl5 hG5 _ hk15
              obtain ⟨e15, hpl5⟩ := hpl5
              obtain ⟨hyl5, hys5⟩ := hG5
              rw [List.size_toArray, List.length_map, hpl] at hyl5
              have hD5' : h13.get? D5 = none := by
                cases q : h13.get? D5 with
                | none => rfl
                | some o => rw [hk14 _ _ q] at hD5; cases hD5
              have hgD5 : g3.get? D5 = none := none_of F13 hD5'
              have F15 : Fr g3 L' h15 _ := fr_wr F14 hk15 (by
                simp only [List.mem_singleton]
                exact Nat.ne_of_lt F13.ns.lt) (by
                intro b hb
                rw [List.mem_singleton.mp hb]
                exact none_of F13 e13)
              have hiy : IntsAre ys ((p.map fun i => ((f0 :: fr).getD i (0, 0)).1).map fun i => ns.getD i 0) := by
                refine ints_of (by rw [hyl5, List.length_map, List.length_map, hpl]) fun j y hy => ?_
                obtain ⟨_, t, e6⟩ := hys5 j y hy
                refine ⟨t, ?_⟩
                have hj : j < p.length := by
                  have := (List.getElem?_eq_some_iff.mp hy).1
                  (first | lia | omega)
                rw [e6]
                congr 1
                simp [hj]
              have hesl : (f0 :: fr).length = kk := hInv1.len
              have hq : (p.map fun i => (f0 :: fr).getD i (0, 0)).Perm (f0 :: fr) := by
                have h1 := hp.1.map fun i => (f0 :: fr).getD i (0, 0)
                have h2 : (List.range zs.length).map (fun i => (f0 :: fr).getD i (0, 0)) = f0 :: fr := by
                  apply List.ext_getElem
                  · rw [List.length_map, List.length_range, hzl, hesl]
                  · intro i h3 h4
                    rw [List.getElem_map, List.getElem_range]
                    exact getD_lt _ i h4 _
                rw [h2] at h1
                exact h1
              have ho : (p.map fun i => (f0 :: fr).getD i (0, 0)).Pairwise fun e f => ltH r e f = false := by
                rw [List.pairwise_map]
                refine List.Pairwise.imp_of_mem (fun {x y} hx hy hc => ?_) hp.2
                have gx : ∀ x, x ∈ p → (f0 :: fr).getD x (0, 0) ∈ f0 :: fr := fun x hx => by
                  have := hpn x hx
                  have e7 : (f0 :: fr).getD x (0, 0) = (f0 :: fr)[x]'(by (first | lia | omega)) := getD_lt _ x (by (first | lia | omega)) _
                  rw [e7]
                  exact List.getElem_mem _
                have hE : ∀ e ∈ f0 :: fr, e.1 < ns.length ∧ e.1 = idx e.2 := fun e he => by
                  obtain ⟨j, hj, rfl⟩ := List.getElem_of_mem he
                  obtain ⟨y, hy, hxy⟩ := hTog1.get (i := j) (x := zs[j]'(by have := hTog1.length; (first | lia | omega))) (List.getElem?_eq_getElem _)
                  rw [List.getElem?_eq_getElem hj] at hy
                  cases hy
                  exact ⟨hxy.1.lt, hxy.1.idx⟩
                have a1 := hE _ (gx x hx)
                have a2 := hE _ (gx y hy)
                rw [← ent_dn hrk a1.1 a2.1 a1.2 a2.2]
                exact hc
              have hTop := ninv_top hInv1 hq ho
              rw [List.map_map] at hTop
              refine (k (p.map fun i => ((f0 :: fr).getD i (0, 0)).1) D5 e15 h15 _ ys hTop (by rw [List.length_map]; (first | lia | omega)) (fun b o h1 h2 e => F15.keep b o (hg3 b o h1 h2 e)) (hnS F15.keep) hiy hpl5 fun hD5I => noneS3 hD5I hgD5)
          case turn =>
            intro i v s9 E' hi hv hj hSt9
            obtain ⟨h11, tk11, m11, zs, f0, fr, ord, e11, t1, t2, idx, rfl, F11, N11, q1, q2, q3, q4, hInv1, hTog1⟩ := (hJ _ _).mp hj
            clear hj
            have hSt := hSt9
            have hsz : vs.toArray.size = ns.length := by rw [List.size_toArray]; exact hvn
            have hkn : kk = n := by (first | lia | omega)
            have hnle : n ≤ vs.toArray.size := by (first | lia | omega)
            rw [hkn] at hInv1
            obtain ⟨⟨oI1, hoI1, hcI1, hdI1⟩, _⟩ := hSt.1 hnle
            have hv1 : vs[n + i]? = some v := by simpa using hv
            obtain ⟨nv, tv, hnv, rfl⟩ := ints_get hI hv1
            clear F10 N10
            obtain ⟨rest, hR1, hR2, hR3, hR4⟩ := rest_but F11 Dr
            have hns11 := F11.ns
            have NDr := N11 _ (.head _)
            have NCe := N11 _ (.tail _ (.head _))
            replace N11 : News g3 L' h11 ((Dr, listOf zs.toArray e11) :: (L' + 1, oC) :: rest) := newsC (NDr) (newsC (NCe) hR1)
            clear hR1
            (repeat' (first | (k_unfold; (try dsimp only)) | ((with_reducible show wpAny _ _ (exec _ _) _ _ _); k_fold) | ((fail_if_success k_end); (fail_if_success (with_reducible show wpAny _ _ (exec (Stmt.For _ _ _ _ _) _) _ _ _)); (fail_if_success (with_reducible show wpAny _ _ (call (Value.ref _) _ _) _ _ _)); (fail_if_success (with_reducible show wpAny _ _ (call (Value.builtin "max") _ _) _ _ _)); (fail_if_success (with_reducible show wpAny _ _ (call (Value.builtin "len") _ _) _ _ _)); (fail_if_success (with_reducible show wpAny _ _ (call (Value.builtin "iter") _ _) _ _ _)); (fail_if_success (with_reducible show wpAny _ _ (call (Value.builtin "sorted") _ _) _ _ _)); (fail_if_success (with_reducible show wpAny _ _ (call (Value.builtin "list.sort") _ _) _ _ _)); (fail_if_success (with_reducible show wpAny _ _ (eval (Expr.ListComp _ _ _ _) _) _ _ _)); (fail_if_success (with_reducible show wpAny _ _ (exec (Stmt.Assign _ (Expr.ListComp _ _ _ _) _) _) _ _ _)); first | walk1 | (dsimp only; walk1))))
            rename_i h12 F12 N12
            refine callWith_F (FnAt.mv hF3 F12.keep) ?_
            (repeat' (first | (k_unfold; (try dsimp only)) | ((with_reducible show wpAny _ _ (exec _ _) _ _ _); k_fold) | ((fail_if_success k_end); (fail_if_success (with_reducible show wpAny _ _ (exec (Stmt.For _ _ _ _ _) _) _ _ _)); (fail_if_success (with_reducible show wpAny _ _ (call (Value.ref _) _ _) _ _ _)); (fail_if_success (with_reducible show wpAny _ _ (call (Value.builtin "max") _ _) _ _ _)); (fail_if_success (with_reducible show wpAny _ _ (call (Value.builtin "len") _ _) _ _ _)); (fail_if_success (with_reducible show wpAny _ _ (call (Value.builtin "iter") _ _) _ _ _)); (fail_if_success (with_reducible show wpAny _ _ (call (Value.builtin "sorted") _ _) _ _ _)); (fail_if_success (with_reducible show wpAny _ _ (call (Value.builtin "list.sort") _ _) _ _ _)); (fail_if_success (with_reducible show wpAny _ _ (eval (Expr.ListComp _ _ _ _) _) _ _ _)); (fail_if_success (with_reducible show wpAny _ _ (exec (Stmt.Assign _ (Expr.ListComp _ _ _ _) _) _) _ _ _)); first | walk1 | (dsimp only; walk1))))
            refine ⟨FnAt.mv hF3 F12.keep, ?_⟩
            refine (hK3 (n + i) _ hv1) _ _ _ _ (by show A.depth + 1 + 10 < recursionLimit; (first | lia | omega)) (by show A.units + 3 + 100 < cLine; (first | lia | omega)) F12.keep fun h14 tk14 t14 hk14 => ?_
            have F14 := F12.keeps hk14
            have N14 := News.keep N12 hk14
            clear F12 N12
            dsimp only at F14 N14 ⊢
            have hfN : f0.1 < ns.length := by
              obtain ⟨y, hy, he⟩ := hTog1.get (i := 0) (x := zs.headD .none) (by cases zs with
                | nil => have := hTog1.length; simp at this
                | cons a b => rfl)
              simp only [List.getElem?_cons_zero, Option.some.injEq] at hy
              rw [hy]; exact he.1.lt
            have hnN1 : n + i < ns.length := (List.getElem?_eq_some_iff.mp hnv).1
            (repeat' (first | (k_unfold; (try dsimp only)) | ((with_reducible show wpAny _ _ (exec _ _) _ _ _); k_fold) | ((fail_if_success k_end); (fail_if_success (with_reducible show wpAny _ _ (exec (Stmt.For _ _ _ _ _) _) _ _ _)); (fail_if_success (with_reducible show wpAny _ _ (call (Value.ref _) _ _) _ _ _)); (fail_if_success (with_reducible show wpAny _ _ (call (Value.builtin "max") _ _) _ _ _)); (fail_if_success (with_reducible show wpAny _ _ (call (Value.builtin "len") _ _) _ _ _)); (fail_if_success (with_reducible show wpAny _ _ (call (Value.builtin "iter") _ _) _ _ _)); (fail_if_success (with_reducible show wpAny _ _ (call (Value.builtin "sorted") _ _) _ _ _)); (fail_if_success (with_reducible show wpAny _ _ (call (Value.builtin "list.sort") _ _) _ _ _)); (fail_if_success (with_reducible show wpAny _ _ (eval (Expr.ListComp _ _ _ _) _) _ _ _)); (fail_if_success (with_reducible show wpAny _ _ (exec (Stmt.Assign _ (Expr.ListComp _ _ _ _) _) _) _ _ _)); first | walk1 | (dsimp only; walk1))))
            · rename_i hlt D15 h15 F15 N15 hD15
              have up := hR3 h15 F15.keep fun q hq => N15 q (.tail _ (.tail _ (.tail _ hq)))
              have hrt : r (n + i) < r f0.1 := by
                have h := hrk (n + i) f0.1 hnN1 hfN
                rw [show slt (K f0.1) (K (n + i)) = true from decide_eq_true hlt] at h
                exact of_decide_eq_true h.symm
              have ND := N15 _ (.head _)
              have hI15 : D15 ≠ I0 := Ne.symm (Nat.ne_of_lt (ktn_ltOf hD15.2.2 _ (hR4 I0 oI1 hoI1 nI.2.1 hDrI.symm nI.2.2)))
              have hTog2 : Tog (fun y e => Ent g3 h15 K ns (fun o => -(o : Int)) (fun o => if o = ord then n + i else idx o) y e ∧ y ≠ .ref I0) zs (f0 :: fr) :=
                hTog1.imp fun x y _ hy hxy => ⟨(hxy.1.mvBut hns11 NDr.1 up).re (by rw [if_neg]; exact Nat.ne_of_lt (hInv1.lt y hy).2), hxy.2⟩
              have hnew : Ent g3 h15 K ns (fun o => -(o : Int)) (fun o => if o = ord then n + i else idx o) (.ref D15) (n + i, ord) ∧ Value.ref D15 ≠ .ref I0 := by
                have e1 : ns.getD (n + i) 0 = nv := by rw [List.getD_eq_getElem?_getD, hnv]; rfl
                refine ⟨⟨⟨D15, t14, t2, tv, 0, rfl, ?_⟩, hnN1, fun T e => Value.ref.inj e ▸ ND.2.2, by show n + i = if ord = ord then n + i else idx ord; rw [if_pos rfl]⟩, fun q => hI15 (Value.ref.inj q)⟩
                rw [e1]
                exact ND.1
              obtain ⟨z1, zr1, rfl⟩ : ∃ a b, zs = a :: b := by
                cases zs with
                | nil => have := hTog1.length; simp at this
                | cons a b => exact ⟨a, b, rfl⟩
              have hDr15 := N15 _ (.tail _ (.head _))
              have hzl : zr1.length + 1 = n := by
                have := hTog1.length
                have h2 := hInv1.len
                simp only [List.length_cons] at this h2
                (first | lia | omega)
              refine ⟨X3.keeps F15.keep, wpAny_call ?_⟩
              refine heapreplace_ok (c.innC B3 F15 X3 P3) hDr15.1 hDr15.2.1 hDr15.2.2 (by show A.depth + 1 + 12 < recursionLimit; (first | lia | omega)) (by show A.units + 3 + 100 < cLine; (first | lia | omega)) (by (first | lia | omega)) (lt := fun x y => lexKD (kdv h15 x) (kdv h15 y)) (fun v hv u hu => ?_) fun h16 tk16 e16 hx16 ha16 => ?_
              · have all : ∀ v ∈ Value.ref D15 :: z1 :: zr1, ∃ e, Ent g3 h15 K ns (fun o => -(o : Int)) (fun o => if o = ord then n + i else idx o) v e := fun v hv => by
                  rcases List.mem_cons.mp hv with rfl | hv
                  · exact ⟨_, hnew.1⟩
                  · obtain ⟨e, _, h⟩ := hTog2.mem hv
                    exact ⟨e, h.1⟩
                obtain ⟨ev, h1⟩ := all v hv
                obtain ⟨eu, h2⟩ := all u hu
                exact ent_cmp h1 h2 hDr15.1
              have F16 := ext_fr F15 hx16 hDr15.2.1 hDr15.2.2
              have hI16 : h16.get? I0 = some oI1 := hx16 I0 oI1 hDrI.symm (up I0 oI1 nI.2.1 hDrI.symm hoI1)
              have hC16 : h16.get? (L' + 1) = some oC := hx16 _ _ (fun q => by
                have q : L' + 1 = Dr := q
                rw [← q, nC.1] at hDr6; cases hDr6) (N15 _ (.tail _ (.tail _ (.head _)))).1
              have hTog3 := ((hTog2.hr (lx := fun x y => lexKD (kdv h15 x) (kdv h15 y)) (ly := ltH r) hnew (fun a b x y ha hb => hlxly a b x y ha.1 hb.1) (by simp)).imp (R' := fun y e => Ent g3 h16 K ns (fun o => -(o : Int)) (fun o => if o = ord then n + i else idx o) y e ∧ y ≠ .ref I0) fun x y _ _ hxy => ⟨hxy.1.mvAt hDr15.1 hx16, hxy.2⟩)
              have hInv2 := ninv_repl hInv1 hrt
              generalize hrP (fun x y => lexKD (kdv h15 x) (kdv h15 y)) (Value.ref D15) (z1 :: zr1) = zs2 at ha16 hTog3
              generalize hrP (ltH r) (n + i, ord) (f0 :: fr) = es2 at hTog3 hInv2
              obtain ⟨f2, fr2, rfl⟩ : ∃ a b, es2 = a :: b := by
                cases es2 with
                | nil => exact absurd hInv2.len.symm hn0
                | cons a b => exact ⟨a, b, rfl⟩
              obtain ⟨z2, zr2, rfl⟩ : ∃ a b, zs2 = a :: b := by
                cases zs2 with
                | nil => have := hTog3.length; simp at this
                | cons a b => exact ⟨a, b, rfl⟩
              obtain ⟨ff, hff, hE2, _⟩ := hTog3.get (i := 0) rfl
              cases hff
              obtain ⟨T2, b1, b2, b3, ep2, rfl, hT2⟩ := hE2.at'
              have N16 : News g3 L' h16 [(T2, seqObj "tuple" (List.toArray [.str (K f2.1) b1, .int (-((f2.2 : Nat) : Int)) b2, .int (ns.getD f2.1 0) b3]) ep2), (Dr, listOf (Value.ref T2 :: zr2).toArray e16), (L' + 1, oC), (I0, oI1)] := newsC (⟨hT2, ns_not_tup F16.ns hT2, hE2.fr T2 rfl⟩) (newsC (⟨ha16, hDr15.2⟩) (newsC (⟨hC16, nC.2⟩) (newsC (⟨hI16, nI.2⟩) News.nil)))
              obtain ⟨rest2, hS1, hS2, hS3, _⟩ := rest_but F16 Dr
              have hns16 := F16.ns
              replace N16 : News g3 L' h16 ((T2, seqObj "tuple" (List.toArray [.str (K f2.1) b1, .int (-((f2.2 : Nat) : Int)) b2, .int (ns.getD f2.1 0) b3]) ep2) :: (Dr, listOf (Value.ref T2 :: zr2).toArray e16) :: (L' + 1, oC) :: (I0, oI1) :: rest2) := newsC (N16 _ (.head _)) (newsC (N16 _ (.tail _ (.head _))) (newsC (N16 _ (.tail _ (.tail _ (.head _)))) (newsC (N16 _ (.tail _ (.tail _ (.tail _ (.head _))))) hS1)))
              clear F15 N15
              dsimp only
              (repeat' (first | (k_unfold; (try dsimp only)) | ((with_reducible show wpAny _ _ (exec _ _) _ _ _); k_fold) | ((fail_if_success k_end); (fail_if_success (with_reducible show wpAny _ _ (exec (Stmt.For _ _ _ _ _) _) _ _ _)); (fail_if_success (with_reducible show wpAny _ _ (call (Value.ref _) _ _) _ _ _)); (fail_if_success (with_reducible show wpAny _ _ (call (Value.builtin "max") _ _) _ _ _)); (fail_if_success (with_reducible show wpAny _ _ (call (Value.builtin "len") _ _) _ _ _)); (fail_if_success (with_reducible show wpAny _ _ (call (Value.builtin "iter") _ _) _ _ _)); (fail_if_success (with_reducible show wpAny _ _ (call (Value.builtin "sorted") _ _) _ _ _)); (fail_if_success (with_reducible show wpAny _ _ (call (Value.builtin "list.sort") _ _) _ _ _)); (fail_if_success (with_reducible show wpAny _ _ (eval (Expr.ListComp _ _ _ _) _) _ _ _)); (fail_if_success (with_reducible show wpAny _ _ (exec (Stmt.Assign _ (Expr.ListComp _ _ _ _) _) _) _ _ _)); first | walk1 | (dsimp only; walk1))))
              refine assign3 (by exact c.hh) F16 N16 ⟨_, hT2, rfl, _, rfl⟩ rfl rfl rfl rfl fun h17 tk17 F17 N17 hk17 => ?_
              clear F16 N16
              dsimp only
              (repeat' (first | (k_unfold; (try dsimp only)) | ((with_reducible show wpAny _ _ (exec _ _) _ _ _); k_fold) | ((fail_if_success k_end); (fail_if_success (with_reducible show wpAny _ _ (exec (Stmt.For _ _ _ _ _) _) _ _ _)); (fail_if_success (with_reducible show wpAny _ _ (call (Value.ref _) _ _) _ _ _)); (fail_if_success (with_reducible show wpAny _ _ (call (Value.builtin "max") _ _) _ _ _)); (fail_if_success (with_reducible show wpAny _ _ (call (Value.builtin "len") _ _) _ _ _)); (fail_if_success (with_reducible show wpAny _ _ (call (Value.builtin "iter") _ _) _ _ _)); (fail_if_success (with_reducible show wpAny _ _ (call (Value.builtin "sorted") _ _) _ _ _)); (fail_if_success (with_reducible show wpAny _ _ (call (Value.builtin "list.sort") _ _) _ _ _)); (fail_if_success (with_reducible show wpAny _ _ (eval (Expr.ListComp _ _ _ _) _) _ _ _)); (fail_if_success (with_reducible show wpAny _ _ (exec (Stmt.Assign _ (Expr.ListComp _ _ _ _) _) _) _ _ _)); first | walk1 | (dsimp only; walk1))))
              clear hS1
              rename Fr _ _ _ _ => F18
              refine wpAny_loadName_local rfl rfl F18.ns q3 ?_
              (repeat' (first | (k_unfold; (try dsimp only)) | ((with_reducible show wpAny _ _ (exec _ _) _ _ _); k_fold) | ((fail_if_success k_end); (fail_if_success (with_reducible show wpAny _ _ (exec (Stmt.For _ _ _ _ _) _) _ _ _)); (fail_if_success (with_reducible show wpAny _ _ (call (Value.ref _) _ _) _ _ _)); (fail_if_success (with_reducible show wpAny _ _ (call (Value.builtin "max") _ _) _ _ _)); (fail_if_success (with_reducible show wpAny _ _ (call (Value.builtin "len") _ _) _ _ _)); (fail_if_success (with_reducible show wpAny _ _ (call (Value.builtin "iter") _ _) _ _ _)); (fail_if_success (with_reducible show wpAny _ _ (call (Value.builtin "sorted") _ _) _ _ _)); (fail_if_success (with_reducible show wpAny _ _ (call (Value.builtin "list.sort") _ _) _ _ _)); (fail_if_success (with_reducible show wpAny _ _ (eval (Expr.ListComp _ _ _ _) _) _ _ _)); (fail_if_success (with_reducible show wpAny _ _ (exec (Stmt.Assign _ (Expr.ListComp _ _ _ _) _) _) _ _ _)); first | walk1 | (dsimp only; walk1))))
              clear F18
              rename Fr _ _ _ _ => F18
              rename News _ _ _ _ => N18
              have up2 := hS3 _ F18.keep fun q hq => N18 q (.tail _ (.tail _ (.tail _ (.tail _ hq))))
              have hI18 := (N18 _ (.tail _ (.tail _ (.tail _ (.head _))))).1
              show (J _ _) ∧ _
              refine ⟨(hJ _ _).mpr ⟨_, _, _, Value.ref T2 :: zr2, f2, fr2, ord + 1, e16, b1, _, (fun o => if o = ord then n + i else idx o), rfl, F18, newsC (N18 _ (.tail _ (.head _))) (newsC (N18 _ (.tail _ (.tail _ (.head _)))) News.nil), q1, rfl, congrArg some (congrArg (Value.int · _) (by (first | lia | omega))), q4, (by rw [hkn]; exact hInv2), hTog3.imp fun x y _ _ hxy => ⟨hxy.1.mvBut hns16 ha16 up2, hxy.2⟩⟩, ⟨fun _ => ⟨⟨oI1, hI18, hcI1, hdI1⟩, ⟨_, F18.keep _ _ hlg3, rfl, _, rfl⟩⟩, fun h => absurd h (Nat.not_lt.mpr hnle)⟩⟩
            · rename_i h15 F15 N15 hlt
              have up := hR3 h15 F15.keep fun q hq => N15 q (.tail _ (.tail _ hq))
              have hrt : ¬ r (n + i) < r f0.1 := fun h => by
                have := hrk (n + i) f0.1 hnN1 hfN
                rw [decide_eq_true h] at this
                exact hlt (of_decide_eq_true this)
              show (J _ _) ∧ _
              refine ⟨(hJ _ _).mpr ⟨h15, _, _, zs, f0, fr, ord, e11, t1, t2, idx, rfl, F15, newsC (N15 _ (.head _)) (newsC (N15 _ (.tail _ (.head _))) News.nil), q1, q2, q3, q4, (by rw [hkn]; exact ninv_skip hInv1 hrt), hTog1.imp fun x y _ _ hxy => ⟨hxy.1.mvBut hns11 NDr.1 up, hxy.2⟩⟩, ⟨fun _ => ⟨?_, ?_⟩, fun h => absurd h (Nat.not_lt.mpr hnle)⟩⟩
              · exact ⟨oI1, up I0 oI1 nI.2.1 hDrI.symm hoI1, hcI1, hdI1⟩
              · exact ⟨_, F15.keep _ _ hlg3, rfl, _, rfl⟩
end
end Mine
end
section
open PySem PySem.W PyProof.Rows PySem.Calls
set_option maxHeartbeats 8000000
namespace Mine
theorem offL0 : True := by
  w_top off
  trivial

section
variable {prog : Program} {w : World} {A : Around} {E : Value → Shared → Prop} {env : Env} {s : Shared}

noncomputable def TurnG (prog : Program) (w : World) (A : Around) (env : Env) (scope : Scope) (cl : List (Str × Addr)) (target elt : Expr) (n : Nat) (P : Nat → Value → Heap → Prop) (G : Nat → Value → Option Obj → Prop) (h₀ : Heap) : Prop :=
  ∀ g' C i v s₃ m₃ rest (E' : Value → Shared → Prop), i < n → P i v s₃.heap → (∀ b o, h₀.get? b = some o → g'.get? b = some o) → Fr g' C s₃.heap m₃ → News g' C s₃.heap rest →
    wpAny (model prog w) A (assign target (compEnvC scope cl C env) v) (fun _ s₄ => wpAny (model prog w) A (eval elt (compEnvC scope cl C env)) (fun y s₅ =>
      ∃ h₅ tk₅ m₅ news, s₅ = { s₃ with heap := h₅, toks := tk₅ } ∧ Fr g' C h₅ m₅ ∧ News g' C h₅ news ∧ (∀ q ∈ rest, q ∈ news) ∧
        (((∀ T, y ≠ .ref T) ∧ G i y none) ∨ ∃ T o, y = .ref T ∧ (T, o) ∈ news ∧ (∀ q ∈ rest, q.1 ≠ T) ∧ G i y (some o))) E' s₄) E' s₃

theorem ItemsG.low {h₀ h h' : Heap} {D : Addr} {n : Nat} {G : Nat → Value → Option Obj → Prop} {ys : List Value} (x : ItemsG h h' D n G ys) (k : ∀ b o, h₀.get? b = some o → h.get? b = some o) : ItemsG h₀ h' D n G ys := by
  refine ⟨x.1, fun j y hy => ?_⟩
  obtain ⟨h1, h2⟩ := x.2 j y hy
  refine ⟨fun T e => ?_, h2⟩
  obtain ⟨a1, a2, a3⟩ := h1 T e
  exact ⟨a1, kts_none k a2, a3⟩

theorem size_fresh {h : Heap} : h.get? h.objs.size = none := by
  cases q : h.get? h.objs.size with
  | none => rfl
  | some o => exact absurd (Heap.lt_size q) (Nat.lt_irrefl _)

theorem comp_listA {scope : Scope} {cl : List (Str × Addr)} {target elt : Expr} {y : Str} {l : Addr} {items : Array Value} {m : Str → Option Value} {R : Addr → Heap → Nat → List Value → Shared → Prop} (G : Nat → Value → Option Obj → Prop) (hh : A.handled = none)
    (hl : s.heap.IsList l items) (hn : s.heap.Ns env.locals m) (hsz : items.size < 10000) (ht : ∀ I v, letOwnedTupleGo target (.ref I) v = pure () ∨ ∃ elts k p, target = .Tuple elts k p)
    (hturn : TurnG prog w A env scope cl target elt items.size (fun i v _ => items[i]? = some v) G s.heap)
    (hQ : ∀ h2 D h' tk ys, s.heap.get? D = none → h'.PlainList D (List.toArray ys) → ItemsG s.heap h' D items.size G ys →
        h'.Ns env.locals (fun z => if z = y then some (.ref D) else m z) → (∀ b o, b ≠ env.locals → s.heap.get? b = some o → h'.get? b = some o) → R D h' tk ys { s with heap := h2 }) :
    wpAny (model prog w) A (pyIter (.ref l)) (fun it s₂ => ∃ I fp wr n P St m, it = .ref I ∧ Src prog w A target I fp wr n P St ∧ n < 10000 ∧ St 0 s₂.heap ∧ (∀ b ∈ fp, b < s₂.heap.objs.size) ∧ (∀ b ∈ fp, s₂.heap.get? b ≠ none) ∧
      env.locals ∉ fp ∧ s₂.heap.Ns env.locals m ∧ TurnsG prog w A env scope cl target elt wr n P G s₂ ∧
      (∀ D h' tk ys, s₂.heap.get? D = none → h'.PlainList D (List.toArray ys) → ItemsG s₂.heap h' D n G ys → St (n + 1) h' →
        h'.Ns env.locals (fun z => if z = y then some (.ref D) else m z) → (∀ b o, b ≠ env.locals → b ∉ wr → s₂.heap.get? b = some o → h'.get? b = some o) → R D h' tk ys s₂)) E s := by
  refine wpAny_pyIter_list hl ?_
  have hk : ∀ b o, s.heap.get? b = some o → (s.heap.push { cls := .type "list_iterator", data := .fields #[.ref l, .int 0 0] }).get? b = some o := fun b o e => Heap.get?_push_of_some _ e
  have hI : (s.heap.push { cls := .type "list_iterator", data := .fields #[.ref l, .int 0 0] }).get? s.heap.objs.size = some _ := Heap.get?_push_size _ rfl
  have hsz2 : (s.heap.push { cls := .type "list_iterator", data := .fields #[.ref l, .int 0 0] }).objs.size = s.heap.objs.size + 1 := Heap.size_push ..
  have hlt : l < s.heap.objs.size := by obtain ⟨o, e, _⟩ := hl; exact Heap.lt_size e
  have hIL : env.locals ≠ s.heap.objs.size := Nat.ne_of_lt hn.lt
  have hlL : env.locals ≠ l := fun q => by
    obtain ⟨o, e, hc, n, hd⟩ := hl
    obtain ⟨o', es, ep, e', hd', _⟩ := hn
    rw [q, e] at e'
    cases e'
    rw [hd] at hd'
    cases hd'
  generalize hH : s.heap.push { cls := .type "list_iterator", data := .fields #[.ref l, .int 0 0] } = h2 at hk hI hsz2 ⊢
  refine ⟨_, _, _, _, _, _, m, rfl, Src.list hh target s.heap.objs.size l (Nat.ne_of_lt hlt) items (fun v => ht _ v), hsz, fun _ => ⟨⟨_, hI, rfl, rfl⟩, hl.at fun o e => hk _ o e⟩, ?f1, ?f2, ?f3, hn.at' fun o e => hk _ o e, ?turn, ?done⟩
  case f1 =>
    intro b hb
    simp only [List.mem_cons, List.not_mem_nil, or_false] at hb
    rw [hsz2]
    rcases hb with rfl | rfl
    · exact Nat.lt_succ_self _
    · exact Nat.lt_succ_of_lt hlt
  case f2 =>
    intro b hb
    simp only [List.mem_cons, List.not_mem_nil, or_false] at hb
    rcases hb with rfl | rfl
    · rw [hI]; exact nofun
    · obtain ⟨o, e, _⟩ := hl
      rw [hk _ _ e]; exact nofun
  case f3 =>
    simp only [List.mem_cons, List.not_mem_nil, or_false, not_or]
    exact ⟨hIL, hlL⟩
  case turn =>
    refine turns_of fun C i v s₃ m₃ rest E' hi hP _ _ F N => hturn _ C i v s₃ m₃ rest E' hi hP (fun b o e => hideAll_get _ (hk b o e) ?_) F N
    simp only [List.mem_singleton]
    exact Nat.ne_of_lt (Heap.lt_size e)
  case done =>
    intro D h' tk ys hD hpl hG _ hns hkp
    exact hQ _ D h' tk ys (kts_none hk hD) hpl (hG.low hk) hns fun b o hb e => hkp b o hb (by simp only [List.mem_singleton]; exact Nat.ne_of_lt (Heap.lt_size e)) (hk b o e)

theorem comp_listE {scope : Scope} {cl : List (Str × Addr)} {target elt : Expr} {l : Addr} {items : Array Value} {R : Addr → Heap → Nat → List Value → Shared → Prop} (G : Nat → Value → Option Obj → Prop) (hh : A.handled = none)
    (hl : s.heap.IsList l items) (hsz : items.size < 10000) (ht : ∀ I v, letOwnedTupleGo target (.ref I) v = pure () ∨ ∃ elts k p, target = .Tuple elts k p)
    (hturn : TurnG prog w A env scope cl target elt items.size (fun i v _ => items[i]? = some v) G s.heap)
    (hQ : ∀ h2 D h' tk ys, s.heap.get? D = none → h'.PlainList D (List.toArray ys) → ItemsG s.heap h' D items.size G ys → (∀ b o, s.heap.get? b = some o → h'.get? b = some o) → R D h' tk ys { s with heap := h2 }) :
    wpAny (model prog w) A (pyIter (.ref l)) (fun it s₂ => ∃ I fp wr n P St, it = .ref I ∧ Src prog w A target I fp wr n P St ∧ n < 10000 ∧ St 0 s₂.heap ∧ (∀ b ∈ fp, b < s₂.heap.objs.size) ∧ (∀ b ∈ fp, s₂.heap.get? b ≠ none) ∧
      TurnsG prog w A env scope cl target elt wr n P G s₂ ∧
      (∀ D h' tk ys, s₂.heap.get? D = none → h'.PlainList D (List.toArray ys) → ItemsG s₂.heap h' D n G ys → St (n + 1) h' →
        (∀ b o, b ∉ wr → s₂.heap.get? b = some o → h'.get? b = some o) → R D h' tk ys s₂)) E s := by
  refine wpAny_pyIter_list hl ?_
  have hk : ∀ b o, s.heap.get? b = some o → (s.heap.push { cls := .type "list_iterator", data := .fields #[.ref l, .int 0 0] }).get? b = some o := fun b o e => Heap.get?_push_of_some _ e
  have hI : (s.heap.push { cls := .type "list_iterator", data := .fields #[.ref l, .int 0 0] }).get? s.heap.objs.size = some _ := Heap.get?_push_size _ rfl
  have hsz2 : (s.heap.push { cls := .type "list_iterator", data := .fields #[.ref l, .int 0 0] }).objs.size = s.heap.objs.size + 1 := Heap.size_push ..
  have hlt : l < s.heap.objs.size := by obtain ⟨o, e, _⟩ := hl; exact Heap.lt_size e
  generalize hH : s.heap.push { cls := .type "list_iterator", data := .fields #[.ref l, .int 0 0] } = h2 at hk hI hsz2 ⊢
  refine ⟨_, _, _, _, _, _, rfl, Src.list hh target s.heap.objs.size l (Nat.ne_of_lt hlt) items (fun v => ht _ v), hsz, fun _ => ⟨⟨_, hI, rfl, rfl⟩, hl.at fun o e => hk _ o e⟩, ?f1, ?f2, ?turn, ?done⟩
  case f1 =>
    intro b hb
    simp only [List.mem_cons, List.not_mem_nil, or_false] at hb
    rw [hsz2]
    rcases hb with rfl | rfl
    · exact Nat.lt_succ_self _
    · exact Nat.lt_succ_of_lt hlt
  case f2 =>
    intro b hb
    simp only [List.mem_cons, List.not_mem_nil, or_false] at hb
    rcases hb with rfl | rfl
    · rw [hI]; exact nofun
    · obtain ⟨o, e, _⟩ := hl
      rw [hk _ _ e]; exact nofun
  case turn =>
    refine turns_of fun C i v s₃ m₃ rest E' hi hP _ _ F N => hturn _ C i v s₃ m₃ rest E' hi hP (fun b o e => hideAll_get _ (hk b o e) ?_) F N
    simp only [List.mem_singleton]
    exact Nat.ne_of_lt (Heap.lt_size e)
  case done =>
    intro D h' tk ys hD hpl hG _ hkp
    exact hQ _ D h' tk ys (kts_none hk hD) hpl (hG.low hk) fun b o e => hkp b o (by simp only [List.mem_singleton]; exact Nat.ne_of_lt (Heap.lt_size e)) (hk b o e)

theorem comp_enumA {scope : Scope} {cl : List (Str × Addr)} {elts : List Expr} {k : Nat} {tp : Pos} {elt : Expr} {y : Str} {l e : Addr} {items : Array Value} {m : Str → Option Value} {R : Addr → Heap → Nat → List Value → Shared → Prop} (G : Nat → Value → Option Obj → Prop) (hh : A.handled = none)
    (hl : s.heap.get? l = some (listOf items e)) (hn : s.heap.Ns env.locals m) (hsz : items.size < 10000)
    (hturn : TurnG prog w A env scope cl (.Tuple elts k tp) elt items.size (enumP items) G s.heap)
    (hQ : ∀ h2 D h' tk ys, s.heap.get? D = none → h'.PlainList D (List.toArray ys) → ItemsG s.heap h' D items.size G ys →
        h'.Ns env.locals (fun z => if z = y then some (.ref D) else m z) → (∀ b o, b ≠ env.locals → s.heap.get? b = some o → h'.get? b = some o) → R D h' tk ys { s with heap := h2 }) :
    wpAny (model prog w) A (call (.type "enumerate") [.ref l]) (fun xv s₁ => wpAny (model prog w) A (pyIter xv) (fun it s₂ => ∃ I fp wr n P St m, it = .ref I ∧ Src prog w A (.Tuple elts k tp) I fp wr n P St ∧ n < 10000 ∧ St 0 s₂.heap ∧ (∀ b ∈ fp, b < s₂.heap.objs.size) ∧ (∀ b ∈ fp, s₂.heap.get? b ≠ none) ∧
      env.locals ∉ fp ∧ s₂.heap.Ns env.locals m ∧ TurnsG prog w A env scope cl (.Tuple elts k tp) elt wr n P G s₂ ∧
      (∀ D h' tk ys, s₂.heap.get? D = none → h'.PlainList D (List.toArray ys) → ItemsG s₂.heap h' D n G ys → St (n + 1) h' →
        h'.Ns env.locals (fun z => if z = y then some (.ref D) else m z) → (∀ b o, b ≠ env.locals → b ∉ wr → s₂.heap.get? b = some o → h'.get? b = some o) → R D h' tk ys s₂)) E s₁) E s := by
  refine comp_enum hh hl fun h2 I it hk hI0 hit0 ⟨St, W, hSt⟩ hfp hfp2 => ?_
  have ne0 : ∀ {b b' o}, s.heap.get? b = none → s.heap.get? b' = some o → b' ≠ b := fun h1 h2 q => by rw [q, h1] at h2; cases h2
  obtain ⟨oL, esL, epL, eL, hdL, hrL⟩ := hn
  have hn : s.heap.Ns env.locals m := ⟨oL, esL, epL, eL, hdL, hrL⟩
  have hlL : env.locals ≠ l := fun q => by
    rw [q, hl] at eL
    cases eL
    cases hdL
  refine ⟨_, _, _, _, _, _, m, rfl, W _ _ _, hsz, hSt, hfp, hfp2, ?f3, hn.at' fun o e => hk _ o e, ?turn, ?done⟩
  case f3 =>
    simp only [List.mem_cons, List.not_mem_nil, or_false, not_or]
    exact ⟨ne0 hI0 eL, ne0 hit0 eL, hlL⟩
  case turn =>
    refine turns_of fun C i v s₃ m₃ rest E' hi hP _ _ F N => hturn _ C i v s₃ m₃ rest E' hi hP (fun b o e => hideAll_get _ (hk b o e) ?_) F N
    simp only [List.mem_cons, List.not_mem_nil, or_false, not_or]
    exact ⟨ne0 hI0 e, ne0 hit0 e⟩
  case done =>
    intro D h' tk ys hD hpl hG _ hns hkp
    refine hQ _ D h' tk ys (kts_none hk hD) hpl (hG.low hk) hns fun b o hb e => hkp b o hb ?_ (hk b o e)
    simp only [List.mem_cons, List.not_mem_nil, or_false, not_or]
    exact ⟨ne0 hI0 e, ne0 hit0 e⟩
end
end Mine
end
section
open PySem PySem.W PyProof.Rows PySem.Calls
set_option maxHeartbeats 8000000
namespace Mine
theorem offL1 : True := by
  w_top off
  trivial
noncomputable def LE (L fa : Addr) : Env := envOfC (Str.ofString "law") lawDef.scope L fa (.ref 204)

structure LC (w : World) (A₀ A : Around) (g : Heap) (L fa : Addr) (p : Program) (loose : List Str) (mean : ExcName → Option Value) (mg mb : Str → Option Value) : Prop where
  B : Below A₀ g [] g
  X : (Mine.frag.heap_1 w.params).In g
  T : Top p loose mean mg mb g
  hA : A.frames = some [LE L fa]
  hh : A.handled = none
  hd : A.depth + 60 < recursionLimit
  hu : A.units + 500 < cLine

section
variable {w : World} {A₀ A : Around} {g h : Heap} {L fa : Addr} {m : Str → Option Value} {p : Program} {loose : List Str} {mean : ExcName → Option Value} {mg mb : Str → Option Value}
theorem LC.cx (c : LC w A₀ A g L fa p loose mean mg mb) (F : Fr g L h m) : Cx w A₀ A g g [] (LE L fa) L h m p loose mean mg mb :=
  ⟨c.B, F, c.X, c.T, c.hA, rfl, rfl, c.hh⟩

theorem News.at {news : List (Addr × Obj)} {i : Nat} {b : Addr} {o : Obj} (N : News g L h news) (hq : news[i]? = some (b, o)) : h.get? b = some o ∧ b ≠ L ∧ g.get? b = none := N _ (List.mem_of_getElem? hq)

theorem store_cellX {M : Model} {E : Value → Shared → Prop} {s : Shared} {name : Str} {scope : Scope} {cd : Value} {cl : List (Str × Addr)} {x : Str} {px : Pos} {c : Addr} {v₀ : Option Value} {v : Value} {Q : Unit → Shared → Prop}
    (F : Fr g L s.heap m) (hc : cl.lookup x = some c) (hcL : c ≠ L) (hcg : g.get? c = none) (hv : s.heap.IsCell c v₀)
    (h : ∀ h', Fr g L h' m → h'.IsCell c (some v) → (∀ b o, b ≠ c → s.heap.get? b = some o → h'.get? b = some o) → Q () { s with heap := h' })
    (hk : scope.kind = .function := by rfl) (hx : (envX name scope L fa cd cl).kindOf x = some .cell := by rfl) : wpAny M A (assign (.Name x px) (envX name scope L fa cd cl) v) Q E s :=
  wpAny_assign_Name (wpAny_storeName_cell hk hx hc hv fun h' hc' hs => h h' ⟨F.ns.sameBut hs (Ne.symm hcL), fun b o e => hs.extBut b o (fun q => by rw [q, hcg] at e; cases e) (F.keep b o e), F.above⟩ hc' fun b o hb e => hs.extBut b o hb e)

theorem storeN_cellX {M : Model} {E : Value → Shared → Prop} {s : Shared} {name : Str} {scope : Scope} {cd : Value} {cl : List (Str × Addr)} {x : Str} {c : Addr} {v₀ : Option Value} {v : Value} {Q : Unit → Shared → Prop}
    (F : Fr g L s.heap m) (hc : cl.lookup x = some c) (hcL : c ≠ L) (hcg : g.get? c = none) (hv : s.heap.IsCell c v₀)
    (h : ∀ h', Fr g L h' m → h'.IsCell c (some v) → (∀ b o, b ≠ c → s.heap.get? b = some o → h'.get? b = some o) → Q () { s with heap := h' })
    (hk : scope.kind = .function := by rfl) (hx : (envX name scope L fa cd cl).kindOf x = some .cell := by rfl) : wpAny M A (storeName (envX name scope L fa cd cl) x v) Q E s :=
  wpAny_storeName_cell hk hx hc hv fun h' hc' hs => h h' ⟨F.ns.sameBut hs (Ne.symm hcL), fun b o e => hs.extBut b o (fun q => by rw [q, hcg] at e; cases e) (F.keep b o e), F.above⟩ hc' fun b o hb e => hs.extBut b o hb e

theorem ne_cell {L : Addr} {i j : Nat} (h : i ≠ j) : L + i ≠ L + j := show @Ne Nat (L + i) (L + j) by (first | lia | omega)
theorem ne_tab {L : Addr} {i : Nat} (h : 202 < L) : 202 ≠ L + i := show @Ne Nat 202 (L + i) by have : @LT.lt Nat _ 202 L := h; (first | lia | omega)

theorem assign3C {prog : Program} {E : Value → Shared → Prop} {s : Shared} {name : Str} {scope : Scope} {cd : Value} {cl : List (Str × Addr)} {x y z : Str} {px py pz pt : Pos} {k : Nat} {a b d : Value} {T : Addr} {c1 c2 c3 : Addr} {v1 v2 v3 : Option Value} {Q : Unit → Shared → Prop} (hh : A.handled = none)
    (F : Fr g L s.heap m) (ht : IsTup s.heap T #[a, b, d]) (h1 : cl.lookup x = some c1) (h2 : cl.lookup y = some c2) (h3 : cl.lookup z = some c3) (n1 : c1 ≠ L ∧ g.get? c1 = none ∧ s.heap.IsCell c1 v1) (n2 : c2 ≠ L ∧ g.get? c2 = none ∧ s.heap.IsCell c2 v2) (n3 : c3 ≠ L ∧ g.get? c3 = none ∧ s.heap.IsCell c3 v3)
    (n12 : c1 ≠ c2) (n13 : c1 ≠ c3) (n23 : c2 ≠ c3)
    (h : ∀ h' tk, Fr g L h' m → h'.IsCell c1 (some a) → h'.IsCell c2 (some b) → h'.IsCell c3 (some d) → (∀ q o, q ≠ c1 → q ≠ c2 → q ≠ c3 → s.heap.get? q = some o → h'.get? q = some o) → Q () { s with heap := h', toks := tk })
    (hk : scope.kind = .function := by rfl) (k1 : (envX name scope L fa cd cl).kindOf x = some .cell := by rfl) (k2 : (envX name scope L fa cd cl).kindOf y = some .cell := by rfl) (k3 : (envX name scope L fa cd cl).kindOf z = some .cell := by rfl) :
    wpAny (model prog w) A (assign (.Tuple [.Name x px, .Name y py, .Name z pz] k pt) (envX name scope L fa cd cl) (.ref T)) Q E s := by
  refine assign_Tuple_tuple hh ht rfl rfl fun h₅ he => ?_
  have he' : ∀ b o, s.heap.get? b = some o → h₅.get? b = some o := fun b o e => he b o (Nat.ne_of_lt (Heap.lt_size e)) e
  have up : ∀ {h h' : Heap} {c c' : Addr} {v : Option Value}, h.IsCell c v → c ≠ c' → (∀ b o, b ≠ c' → h.get? b = some o → h'.get? b = some o) → h'.IsCell c v := fun x n k => let ⟨o, e, d⟩ := x; ⟨o, k _ _ n e, d⟩
  refine assignInOrder_cons (store_cellX (F.keeps he') h1 n1.1 n1.2.1 (n1.2.2.keeps he') (fun h6 F6 x6 k6 => ?_) hk k1)
  refine assignInOrder_cons (store_cellX F6 h2 n2.1 n2.2.1 (up (n2.2.2.keeps he') (Ne.symm n12) k6) (fun h7 F7 x7 k7 => ?_) hk k2)
  refine assignInOrder_cons (store_cellX F7 h3 n3.1 n3.2.1 (up (up (n3.2.2.keeps he') (Ne.symm n13) k6) (Ne.symm n23) k7) (fun h8 F8 x8 k8 => ?_) hk k3)
  refine assignInOrder_nil ?_
  exact h _ _ F8 (up (up x6 n12 k7) n13 k8) (up x7 n23 k8) x8 fun q o q1 q2 q3 e => k8 q o q3 (k7 q o q2 (k6 q o q1 (he' q o e)))
end
end Mine
end
section
open PySem PySem.W PyProof.Rows PySem.Calls
set_option maxHeartbeats 8000000
namespace Mine
theorem offL2 : True := by
  w_top off
  trivial
theorem fillL2 (w : World) (x : OpenLaw) (h : PySem.Challenge.rw_ij0057_01 = x) : (Mine.frag.heap_1 w.params) = (Mine.frag.heap_1 w.params) ∧ PySem.Challenge.rw_ij0057_01 = x := by
  k_fill
  exact ⟨rfl, h⟩

theorem fills_at (t1 t2 t3 t4 t5 t6 t7 t8 : Tok) : ∀ j : Nat, j < 8 → ∃ (fill : Nat) (tf : Tok), fill ∈ [1, 2, 3, 4, 9, 13, 14, 15] ∧ ([Value.int 1 t1, .int 2 t2, .int 3 t3, .int 4 t4, .int 9 t5, .int 13 t6, .int 14 t7, .int 15 t8] : List Value)[j]? = some (.int (fill : Int) tf)
  | 0, _ => ⟨1, t1, by decide, rfl⟩
  | 1, _ => ⟨2, t2, by decide, rfl⟩
  | 2, _ => ⟨3, t3, by decide, rfl⟩
  | 3, _ => ⟨4, t4, by decide, rfl⟩
  | 4, _ => ⟨9, t5, by decide, rfl⟩
  | 5, _ => ⟨13, t6, by decide, rfl⟩
  | 6, _ => ⟨14, t7, by decide, rfl⟩
  | 7, _ => ⟨15, t8, by decide, rfl⟩
  | n + 8, h => absurd h (by (first | lia | omega))

section
variable {w : World} {A₀ A : Around} {g : Heap} {L fa : Addr} {m : Str → Option Value} {p : Program} {loose : List Str} {mean : ExcName → Option Value} {mg mb : Str → Option Value} {s : Shared}
theorem segA1 {Q : Flow → Shared → Prop} {E : Value → Shared → Prop} (c : LC w A₀ A g L fa p loose mean mg mb) {ls : Addr} {items : List Value} {xs : List Int} {o1 o2 o3 o4 o5 o6 o7 o8 : Obj}
    (F : Fr g L s.heap m) (hm : m "script" = some (.ref ls)) (hls : g.IsList ls items.toArray) (hI : IntsAre items xs) (hlen : xs.length ≤ 63)
    (N : News g L s.heap [(L + 8, o8), (L + 7, o7), (L + 6, o6), (L + 5, o5), (L + 4, o4), (L + 3, o3), (L + 2, o2), (L + 1, o1), (202, tabObj #[])])
    (d1 : o1.data = .cell none) (d2 : o2.data = .cell none) (d3 : o3.data = .cell none) (d4 : o4.data = .cell none) (d5 : o5.data = .cell none) (d6 : o6.data = .cell none) (d7 : o7.data = .cell none) (d8 : o8.data = .cell none) (htL : 202 < L)
    (k : ∀ h' tk m' ys D1 e1 (fill side width : Nat) (shape : Int) t t1 t2 t3, Fr g L h' m' → m' "cells" = some (.ref D1) → m' "shape" = some (.int shape t) → News g L h' [(D1, listOf ys.toArray e1)] → IntsAre ys ((xs.take 7).map fun x => x.fmod 1000000) →
      0 ≤ shape → shape < 1000000 → fill ∈ [1, 2, 3, 4, 9, 13, 14, 15] → side < 3 → 2 ≤ width → width ≤ 6 → h'.IsCell (L + 1) (some (.int fill t1)) → h'.IsCell (L + 2) (some (.int side t2)) → h'.IsCell (L + 3) (some (.int width t3)) →
      h'.IsCell (L + 4) none → h'.IsCell (L + 5) none → h'.IsCell (L + 6) none → h'.IsCell (L + 7) none → h'.IsCell (L + 8) none → h'.get? 202 = some (tabObj #[]) →
      wpAny (model PySem.Challenge.rw_ij0057_01.row.prog w) A (execs (lawDef.body.drop 3) (LE L fa)) Q E { s with heap := h', toks := tk }) :
    wpAny (model PySem.Challenge.rw_ij0057_01.row.prog w) A (execs lawDef.body (LE L fa)) Q E s := by
  obtain ⟨B, X, T, hA, hh, hd, hu⟩ := c
  dsimp only [LE, lawDef, lawDefP]
  k_unmd
  (try k_fold)
  walk1
  (repeat' ((fail_if_success k_end); (fail_if_success (with_reducible show wpAny _ _ (exec (Stmt.For _ _ _ _ _) _) _ _ _)); (fail_if_success (with_reducible show wpAny _ _ (call (Value.ref _) _ _) _ _ _)); (fail_if_success (with_reducible show wpAny _ _ (eval (Expr.ListComp _ _ _ _) _) _ _ _)); (fail_if_success (with_reducible show wpAny _ _ (eval (Expr.Lambda _ _ _ _) _) _ _ _)); (fail_if_success (with_reducible show wpAny _ _ (exec (Stmt.Assign _ (Expr.ListComp _ _ _ _) _) _) _ _ _)); first | walk1 | (dsimp only; walk1)))
  refine' assign_comp (cl := []) (G := fun j y _ => ∃ t, y = .int (((xs.take 7).getD j 0).fmod 1000000) t) ?sw ?clos ?cell ?kind ?names ?hy ?hp ?_
  case sw => with_unfolding_all rfl
  case clos => with_unfolding_all rfl
  case cell => decide
  case kind => rfl
  case names => decide
  case hy => rfl
  case hp => rfl
  (repeat' ((fail_if_success k_end); (fail_if_success (with_reducible show wpAny _ _ (exec (Stmt.For _ _ _ _ _) _) _ _ _)); (fail_if_success (with_reducible show wpAny _ _ (call (Value.ref _) _ _) _ _ _)); (fail_if_success (with_reducible show wpAny _ _ (eval (Expr.ListComp _ _ _ _) _) _ _ _)); (fail_if_success (with_reducible show wpAny _ _ (eval (Expr.Lambda _ _ _ _) _) _ _ _)); (fail_if_success (with_reducible show wpAny _ _ (exec (Stmt.Assign _ (Expr.ListComp _ _ _ _) _) _) _ _ _)); first | walk1 | (dsimp only; walk1)))
  rename_i D0 ws0 h0 F0 N0 hI0 hC0 hL0 _
  have hw0 := hI0.length
  have z0 := N0 _ (.head _)
  have hl0 : h0.IsList D0 ws0.toArray := ⟨_, z0.1, rfl, _, rfl⟩
  have hs0 : ws0.toArray.size < 10000 := by rw [List.size_toArray]; (first | lia | omega)
  refine' comp_listA (fun j y _ => ∃ t, y = .int (((xs.take 7).getD j 0).fmod 1000000) t) hh ?hl0 ?hn0 ?hs0 ?ht0 ?turn0 ?done0
  case hl0 => exact hl0
  case hn0 => exact F0.ns
  case hs0 => exact hs0
  case ht0 => exact fun _ _ => .inl rfl
  case turn0 =>
    rintro g' C i v ⟨h3, gs3, dr3, tk3, os3⟩ m3 rest E' hi hv hk F3 N3
    dsimp only at hv F3 N3 hk
    have X' := X.keeps fun b o e => hk b o (F0.keep b o e)
    have T' := T.keeps fun b o e => hk b o (F0.keep b o e)
    obtain ⟨n, t, hn, rfl⟩ := ints_get hI0 (by simpa using hv)
    refine assign1 F3 rfl rfl fun h4 F4 hs4 => ?_
    have N4 := News.same N3 hs4
    clear F0 N0 F3 N3
    dsimp only
    (repeat' ((fail_if_success k_end); (fail_if_success (with_reducible show wpAny _ _ (exec (Stmt.For _ _ _ _ _) _) _ _ _)); (fail_if_success (with_reducible show wpAny _ _ (call (Value.ref _) _ _) _ _ _)); (fail_if_success (with_reducible show wpAny _ _ (eval (Expr.ListComp _ _ _ _) _) _ _ _)); (fail_if_success (with_reducible show wpAny _ _ (eval (Expr.Lambda _ _ _ _) _) _ _ _)); (fail_if_success (with_reducible show wpAny _ _ (exec (Stmt.Assign _ (Expr.ListComp _ _ _ _) _) _) _ _ _)); first | walk1 | (dsimp only; walk1)))
    rename Fr _ _ _ _ => F5
    rename News _ _ _ _ => N5
    refine ⟨_, _, _, _, rfl, F5, N5, fun q hq => hq, .inl ⟨nofun, _, congrArg (Value.int · _) ?_⟩⟩
    rw [List.getD_eq_getElem?_getD, hn]
    rfl
  case done0 =>
    intro _ D1 h1 tk1 ys hD1 hp1 hG1 hns1 hk1
    obtain ⟨e1, hp1⟩ := hp1
    have hoff := fresh_off N0 hD1
    have F1 := fr_up F0 hns1 hk1
    have N1 := news_new F0 (news_up N0 hk1) hD1 hp1
    have hIy : IntsAre ys ((xs.take 7).map fun x => x.fmod 1000000) := by
      refine ints_of (by rw [hG1.1, List.length_map, List.size_toArray, hw0]) fun j y hy => ?_
      obtain ⟨_, t, e⟩ := hG1.2 j y hy
      have hj : j < (xs.take 7).length := by
        have := (List.getElem?_eq_some_iff.mp hy).1
        have := hG1.1
        rw [List.size_toArray] at this
        (first | lia | omega)
      refine ⟨t, e.trans (congrArg (Value.int · t) ?_)⟩
      rw [List.getD_eq_getElem?_getD, List.getD_eq_getElem?_getD, List.getElem?_map, List.getElem?_eq_getElem hj]
      rfl
    clear F0 N0 hG1 hns1 hk1
    dsimp only
    have gN : ∀ q ∈ [(L + 8, o8), (L + 7, o7), (L + 6, o6), (L + 5, o5), (L + 4, o4), (L + 3, o3), (L + 2, o2), (L + 1, o1), (202, tabObj #[])], g.get? q.1 = none := fun q hq => (N1 q (.tail _ (.tail _ hq))).2.2
    have hcs : ∀ c ∈ (xs.take 7).map fun x => x.fmod 1000000, 0 ≤ c ∧ c < 1000000 := fun c hc => by
      obtain ⟨x, _, rfl⟩ := List.mem_map.mp hc
      exact ⟨Int.fmod_nonneg_of_pos _ (by decide), Int.fmod_lt_of_pos _ (by decide)⟩
    have hcl : ((xs.take 7).map fun x => x.fmod 1000000).length ≤ 7 := by rw [List.length_map, List.length_take]; (first | lia | omega)
    generalize (xs.take 7).map (fun x => x.fmod 1000000) = cs at hIy k hcs hcl
    have hsh : 0 ≤ (cs ++ [531]).getD (Int.toNat 0) 0 ∧ (cs ++ [531]).getD (Int.toNat 0) 0 < 1000000 := by
      cases cs with
      | nil => exact ⟨by decide, by decide⟩
      | cons a r => exact hcs a (.head _)
    (repeat' ((fail_if_success k_end); (fail_if_success (with_reducible show wpAny _ _ (subscriptTail _ _ (Value.ref _) (Value.int _ _)) _ _ _)); (fail_if_success (with_reducible show wpAny _ _ (exec (Stmt.For _ _ _ _ _) _) _ _ _)); (fail_if_success (with_reducible show wpAny _ _ (call (Value.ref _) _ _) _ _ _)); (fail_if_success (with_reducible show wpAny _ _ (eval (Expr.ListComp _ _ _ _) _) _ _ _)); (fail_if_success (with_reducible show wpAny _ _ (eval (Expr.Lambda _ _ _ _) _) _ _ _)); (fail_if_success (with_reducible show wpAny _ _ (exec (Stmt.Assign _ (Expr.ListComp _ _ _ _) _) _) _ _ _)); first | walk1 | (dsimp only; walk1)))
    walk1
    (repeat' ((fail_if_success k_end); (fail_if_success (with_reducible show wpAny _ _ (subscriptTail _ _ (Value.ref _) (Value.int _ _)) _ _ _)); (fail_if_success (with_reducible show wpAny _ _ (exec (Stmt.For _ _ _ _ _) _) _ _ _)); (fail_if_success (with_reducible show wpAny _ _ (call (Value.ref _) _ _) _ _ _)); (fail_if_success (with_reducible show wpAny _ _ (eval (Expr.ListComp _ _ _ _) _) _ _ _)); (fail_if_success (with_reducible show wpAny _ _ (eval (Expr.Lambda _ _ _ _) _) _ _ _)); (fail_if_success (with_reducible show wpAny _ _ (exec (Stmt.Assign _ (Expr.ListComp _ _ _ _) _) _) _ _ _)); first | walk1 | (dsimp only; walk1)))
    dsimp only
    rename Fr _ _ _ _ => F2
    rename News _ _ _ _ => N2
    generalize (cs ++ [531]).getD (Int.toNat 0) 0 = shape at F2 N2 hsh ⊢
    have s5 := Int.fmod_nonneg_of_pos shape (show (0 : Int) < 8 by decide)
    have s6 := Int.fmod_lt_of_pos shape (show (0 : Int) < 8 by decide)
    obtain ⟨j8, hj8⟩ := Int.eq_ofNat_of_zero_le s5
    rw [hj8] at s6 ⊢
    obtain ⟨fill, tf, hfm, hfx⟩ := fills_at _ _ _ _ _ _ _ _ j8 (by (first | lia | omega))
    refine item_tupleT ⟨_, (N2 _ (.head _)).1, rfl, _, rfl⟩ (by (first | lia | omega)) (by (first | lia | omega)) (seqIndex_of (by (first | lia | omega)) (by simpa using s6)) hfx ?_
    (repeat' ((fail_if_success k_end); (fail_if_success (with_reducible show wpAny _ _ (exec (Stmt.For _ _ _ _ _) _) _ _ _)); (fail_if_success (with_reducible show wpAny _ _ (call (Value.ref _) _ _) _ _ _)); (fail_if_success (with_reducible show wpAny _ _ (eval (Expr.ListComp _ _ _ _) _) _ _ _)); (fail_if_success (with_reducible show wpAny _ _ (eval (Expr.Lambda _ _ _ _) _) _ _ _)); (fail_if_success (with_reducible show wpAny _ _ (exec (Stmt.Assign _ (Expr.ListComp _ _ _ _) _) _) _ _ _)); first | walk1 | (dsimp only; walk1)))
    rename Fr _ _ _ _ => F2
    rename News _ _ _ _ => N2
    have s1 := Int.fmod_nonneg_of_pos (shape.fdiv 8) (show (0 : Int) < 3 by decide)
    have s2 := Int.fmod_lt_of_pos (shape.fdiv 8) (show (0 : Int) < 3 by decide)
    have s3 := Int.fmod_nonneg_of_pos (shape.fdiv 24) (show (0 : Int) < 5 by decide)
    have s4 := Int.fmod_lt_of_pos (shape.fdiv 24) (show (0 : Int) < 5 by decide)
    obtain ⟨side, hside⟩ := Int.eq_ofNat_of_zero_le s1
    obtain ⟨width, hwidth⟩ := Int.eq_ofNat_of_zero_le (show (0 : Int) ≤ 2 + (shape.fdiv 24).fmod 5 by (first | lia | omega))
    have ne : ∀ {i j : Nat}, i ≠ j → L + i ≠ L + j := fun {i j} hij => show @Ne Nat (L + i) (L + j) by (first | lia | omega)
    have neT : ∀ {i : Nat}, 202 ≠ L + i := fun {i} => show @Ne Nat 202 (L + i) by have : @LT.lt Nat _ 202 L := htL; (first | lia | omega)
    refine assign3C hh F2 ⟨_, (News.at N2 (i := 0) rfl).1, rfl, _, rfl⟩ rfl rfl rfl ⟨(News.at N2 (i := 13) rfl).2.1, (News.at N2 (i := 13) rfl).2.2, _, (News.at N2 (i := 13) rfl).1, d1⟩ ⟨(News.at N2 (i := 12) rfl).2.1, (News.at N2 (i := 12) rfl).2.2, _, (News.at N2 (i := 12) rfl).1, d2⟩ ⟨(News.at N2 (i := 11) rfl).2.1, (News.at N2 (i := 11) rfl).2.2, _, (News.at N2 (i := 11) rfl).1, d3⟩ (ne (i := 1) (j := 2) (by decide)) (ne (i := 1) (j := 3) (by decide)) (ne (i := 2) (j := 3) (by decide)) fun h5 tk5 F5 x1 x2 x3 hk5 => ?_
    rw [hside] at x2
    rw [hwidth] at x3
    have y4 : h5.IsCell (L + 4) none := ⟨o4, hk5 _ _ (ne (i := 4) (j := 1) (by decide)) (ne (i := 4) (j := 2) (by decide)) (ne (i := 4) (j := 3) (by decide)) (News.at N2 (i := 10) rfl).1, d4⟩
    have y5 : h5.IsCell (L + 5) none := ⟨o5, hk5 _ _ (ne (i := 5) (j := 1) (by decide)) (ne (i := 5) (j := 2) (by decide)) (ne (i := 5) (j := 3) (by decide)) (News.at N2 (i := 9) rfl).1, d5⟩
    have y6 : h5.IsCell (L + 6) none := ⟨o6, hk5 _ _ (ne (i := 6) (j := 1) (by decide)) (ne (i := 6) (j := 2) (by decide)) (ne (i := 6) (j := 3) (by decide)) (News.at N2 (i := 8) rfl).1, d6⟩
    have y7 : h5.IsCell (L + 7) none := ⟨o7, hk5 _ _ (ne (i := 7) (j := 1) (by decide)) (ne (i := 7) (j := 2) (by decide)) (ne (i := 7) (j := 3) (by decide)) (News.at N2 (i := 7) rfl).1, d7⟩
    have y8 : h5.IsCell (L + 8) none := ⟨o8, hk5 _ _ (ne (i := 8) (j := 1) (by decide)) (ne (i := 8) (j := 2) (by decide)) (ne (i := 8) (j := 3) (by decide)) (News.at N2 (i := 6) rfl).1, d8⟩
    have yT : h5.get? 202 = some (tabObj #[]) := hk5 _ _ (neT (i := 1)) (neT (i := 2)) (neT (i := 3)) (News.at N2 (i := 14) rfl).1
    have zD := News.at N2 (i := 4) rfl
    have hoff' : ∀ {i : Nat} {b : Addr} {o : Obj}, _ → D1 ≠ b := fun {i b o} (hq : ((D0, listOf ws0.toArray 0) :: (L + 8, o8) :: (L + 7, o7) :: (L + 6, o6) :: (L + 5, o5) :: (L + 4, o4) :: (L + 3, o3) :: (L + 2, o2) :: (L + 1, o1) :: [] : List (Addr × Obj))[i]? = some (b, o)) => Ne.symm (hoff (b, o) (by
      have := List.mem_of_getElem? hq
      simp only [List.mem_cons, List.not_mem_nil, or_false] at this ⊢
      rcases this with h | h | h | h | h | h | h | h | h <;> simp [h]))
    have zD' := hk5 _ _ (hoff' (i := 8) rfl) (hoff' (i := 7) rfl) (hoff' (i := 6) rfl) zD.1
    have fin : ∀ (fill : Nat) tf, fill ∈ [1, 2, 3, 4, 9, 13, 14, 15] → h5.IsCell (L + 1) (some (.int (fill : Int) tf)) → _ := fun fill tf hf hc =>
      k h5 tk5 _ ys D1 e1 fill side width shape _ tf _ _ F5 rfl rfl (fun q hq => by rw [List.mem_singleton.mp hq]; exact ⟨zD', zD.2⟩) hIy hsh.1 hsh.2 hf (by (first | lia | omega)) (by (first | lia | omega)) (by (first | lia | omega)) hc x2 x3 y4 y5 y6 y7 y8 yT
    exact fin fill _ hfm x1
end
end Mine
end
section
open PySem PySem.W PyProof.Rows PySem.Calls
set_option maxHeartbeats 8000000
namespace Mine
theorem offL3 : True := by
  w_top off
  trivial
theorem fillL3 (w : World) (x : OpenLaw) (h : PySem.Challenge.rw_ij0057_01 = x) : (Mine.frag.heap_1 w.params) = (Mine.frag.heap_1 w.params) ∧ PySem.Challenge.rw_ij0057_01 = x := by
  k_fill
  exact ⟨rfl, h⟩

section
variable {w : World} {A₀ A : Around} {g : Heap} {L fa : Addr} {m : Str → Option Value} {p : Program} {loose : List Str} {mean : ExcName → Option Value} {mg mb : Str → Option Value} {s : Shared}
theorem segA2 {Q : Flow → Shared → Prop} {E : Value → Shared → Prop} (c : LC w A₀ A g L fa p loose mean mg mb) {cs : List Int} {D1 e1 : Nat} {ys : List Value} {o1 o2 o3 o4 o5 o6 o7 o8 : Obj} {fill side width : Nat} {shape : Int} {t0 t1 t2 t3 : Tok}
    (F : Fr g L s.heap m) (hm1 : m "cells" = some (.ref D1)) (hm2 : m "shape" = some (.int shape t0)) (hI : IntsAre ys cs) (hcl : cs.length ≤ 7) (hcs : ∀ c ∈ cs, 0 ≤ c ∧ c < 1000000)
    (hsh : 0 ≤ shape) (hsh2 : shape < 1000000)
    (N : News g L s.heap [(D1, listOf ys.toArray e1), (L + 8, o8), (L + 7, o7), (L + 6, o6), (L + 5, o5), (L + 4, o4), (L + 3, o3), (L + 2, o2), (L + 1, o1), (202, tabObj #[])])
    (d1 : o1.data = .cell (some (.int fill t1))) (d2 : o2.data = .cell (some (.int side t2))) (d3 : o3.data = .cell (some (.int width t3))) (d4 : o4.data = .cell none) (d5 : o5.data = .cell none) (d6 : o6.data = .cell none) (d7 : o7.data = .cell none) (d8 : o8.data = .cell none) (htL : 202 < L)
    (k : ∀ h' tk m' vs D e' t4, Fr g L h' m' → m' "shape" = some (.int shape t4) → News g L h' [(D, listOf vs.toArray e')] → IntsAre vs ([30, -4, 4, 3, 300, 40] ++ (cs.drop 1).map lawNum) →
      h'.IsCell (L + 1) (some (.int fill t1)) → h'.IsCell (L + 2) (some (.int side t2)) → h'.IsCell (L + 3) (some (.int width t3)) → h'.IsCell (L + 4) (some (.ref D)) →
      h'.IsCell (L + 5) none → h'.IsCell (L + 6) none → h'.IsCell (L + 7) none → h'.IsCell (L + 8) none → h'.get? 202 = some (tabObj #[]) → L + 8 < D →
      wpAny (model PySem.Challenge.rw_ij0057_01.row.prog w) A (execs (lawDef.body.drop 4) (LE L fa)) Q E { s with heap := h', toks := tk }) :
    wpAny (model PySem.Challenge.rw_ij0057_01.row.prog w) A (execs (lawDef.body.drop 3) (LE L fa)) Q E s := by
  obtain ⟨B, X, T, hA, hh, hd, hu⟩ := c
  dsimp only [LE, lawDef, lawDefP, List.drop]
  k_unmd
  (try k_fold)
  walk1
  (repeat' ((fail_if_success k_end); (fail_if_success (with_reducible show wpAny _ _ (exec (Stmt.For _ _ _ _ _) _) _ _ _)); (fail_if_success (with_reducible show wpAny _ _ (call (Value.ref _) _ _) _ _ _)); (fail_if_success (with_reducible show wpAny _ _ (eval (Expr.ListComp _ _ _ _) _) _ _ _)); (fail_if_success (with_reducible show wpAny _ _ (eval (Expr.Lambda _ _ _ _) _) _ _ _)); (fail_if_success (with_reducible show wpAny _ _ (exec (Stmt.Assign _ (Expr.ListComp _ _ _ _) _) _) _ _ _)); first | walk1 | (dsimp only; walk1)))
  rename Fr _ _ _ _ => Fa
  rename News _ _ _ _ => Na
  refine' eval_comp (cl := []) (G := fun j y _ => ∃ t, y = .int (lawNum ((cs.drop 1).getD j 0)) t) ?k1 ?k2 ?k3 ?k4 ?_
  case k1 => with_unfolding_all rfl
  case k2 => decide
  case k3 => exact rfl
  case k4 => decide
  (repeat' ((fail_if_success k_end); (fail_if_success (with_reducible show wpAny _ _ (exec (Stmt.For _ _ _ _ _) _) _ _ _)); (fail_if_success (with_reducible show wpAny _ _ (call (Value.ref _) _ _) _ _ _)); (fail_if_success (with_reducible show wpAny _ _ (eval (Expr.ListComp _ _ _ _) _) _ _ _)); (fail_if_success (with_reducible show wpAny _ _ (eval (Expr.Lambda _ _ _ _) _) _ _ _)); (fail_if_success (with_reducible show wpAny _ _ (exec (Stmt.Assign _ (Expr.ListComp _ _ _ _) _) _) _ _ _)); first | walk1 | (dsimp only; walk1)))
  rename IntsAre _ (List.drop _ _) => hIb
  rename Fr _ _ _ _ => Fb
  rename News _ _ _ _ => Nb
  have zb := (Nb _ (.head _)).1
  have hwb := hIb.length
  rw [List.length_drop] at hwb
  refine' comp_listE (fun j y _ => ∃ t, y = .int (lawNum ((cs.drop 1).getD j 0)) t) hh ?hlb ?hsb ?htb ?turnb ?doneb
  case hlb => exact ⟨_, zb, rfl, _, rfl⟩
  case hsb => rw [List.size_toArray]; (first | lia | omega)
  case htb => exact fun _ _ => .inl rfl
  case turnb =>
    rintro g' C i v ⟨h3, gs3, dr3, tk3, os3⟩ m3 rest E' hi hv hk F3 N3
    dsimp only at hv F3 N3 hk
    have X' := X.keeps fun b o e => hk b o (Fb.keep b o e)
    have T' := T.keeps fun b o e => hk b o (Fb.keep b o e)
    obtain ⟨n, t, hn, rfl⟩ := ints_get hIb (by simpa using hv)
    refine assign1 F3 rfl rfl fun h4 F4 hs4 => ?_
    have N4 := News.same N3 hs4
    clear Fb Nb F3 N3
    dsimp only
    (repeat' ((fail_if_success k_end); (fail_if_success (with_reducible show wpAny _ _ (exec (Stmt.For _ _ _ _ _) _) _ _ _)); (fail_if_success (with_reducible show wpAny _ _ (call (Value.ref _) _ _) _ _ _)); (fail_if_success (with_reducible show wpAny _ _ (eval (Expr.ListComp _ _ _ _) _) _ _ _)); (fail_if_success (with_reducible show wpAny _ _ (eval (Expr.Lambda _ _ _ _) _) _ _ _)); (fail_if_success (with_reducible show wpAny _ _ (exec (Stmt.Assign _ (Expr.ListComp _ _ _ _) _) _) _ _ _)); first | walk1 | (dsimp only; walk1)))
    have hc0 := hcs n (List.mem_of_mem_drop (List.mem_of_getElem? hn))
    refine ⟨X'.keeps F4.keep, number_ok (X'.keeps F4.keep) (T'.keeps F4.keep) (by (first | lia | omega)) hc0.1 hc0.2 fun h5 tk5 t5 hk5 => ?_⟩
    refine ⟨_, _, _, _, rfl, F4.keeps hk5, News.keep N4 hk5, fun q hq => hq, .inl ⟨nofun, _, congrArg (Value.int · _) ?_⟩⟩
    rw [List.getD_eq_getElem?_getD, hn]
    rfl
  case doneb =>
    intro _ D2 h2 tk2 zs hD2 hp2 hG2 hk2
    obtain ⟨e2, hp2⟩ := hp2
    have F2 := Fb.keeps hk2
    have N2 := news_new Fb (News.keep Nb hk2) hD2 hp2
    have hIz : IntsAre zs ((cs.drop 1).map lawNum) := by
      refine ints_of (by rw [hG2.1, List.length_map, List.size_toArray, hwb, List.length_drop]) fun j y hy => ?_
      obtain ⟨_, t, e⟩ := hG2.2 j y hy
      have hj : j < (cs.drop 1).length := by
        have := (List.getElem?_eq_some_iff.mp hy).1
        have := hG2.1
        rw [List.size_toArray] at this
        rw [List.length_drop]
        (first | lia | omega)
      refine ⟨t, e.trans (congrArg (Value.int · t) ?_)⟩
      rw [List.getD_eq_getElem?_getD, List.getD_eq_getElem?_getD, List.getElem?_map, List.getElem?_eq_getElem hj]
      rfl
    clear Fb Nb hG2 hk2
    dsimp only
    have hzl : zs.length = cs.length - 1 := by rw [hIz.length, List.length_map, List.length_drop]
    refine addL F2 N2 (.tail _ (.tail _ (.head _))) (.head _) (by simp only [List.length_cons, List.length_nil]; (first | lia | omega)) fun D h5 F5 N5 hD5 => ?_
    clear F2 N2
    dsimp only
    have z4 := News.at N5 (i := 9) rfl
    refine storeN_cellX F5 (c := L + 4) rfl z4.2.1 z4.2.2 ⟨_, z4.1, d4⟩ fun h6 F6 x4 hk6 => ?_
    have gt : ∀ {i : Nat} {b : Addr} {o : Obj}, _ → b < D := fun {i b o} hq => hD5 (b, o) (List.mem_of_getElem? (i := i) hq)
    have c4 : L + 4 < D := gt (i := 8) rfl
    dsimp only
    refine k h6 _ m _ D 0 t0 F6 hm2 (fun q hq => by
      rw [List.mem_singleton.mp hq]
      have z := News.at N5 (i := 0) rfl
      exact ⟨hk6 _ _ (Nat.ne_of_gt c4) z.1, z.2⟩) ?_ ⟨_, hk6 _ _ (ne_cell (i := 1) (j := 4) (by decide)) (News.at N5 (i := 12) rfl).1, d1⟩ ⟨_, hk6 _ _ (ne_cell (i := 2) (j := 4) (by decide)) (News.at N5 (i := 11) rfl).1, d2⟩ ⟨_, hk6 _ _ (ne_cell (i := 3) (j := 4) (by decide)) (News.at N5 (i := 10) rfl).1, d3⟩ x4
      ⟨_, hk6 _ _ (ne_cell (i := 5) (j := 4) (by decide)) (News.at N5 (i := 8) rfl).1, d5⟩ ⟨_, hk6 _ _ (ne_cell (i := 6) (j := 4) (by decide)) (News.at N5 (i := 7) rfl).1, d6⟩ ⟨_, hk6 _ _ (ne_cell (i := 7) (j := 4) (by decide)) (News.at N5 (i := 6) rfl).1, d7⟩ ⟨_, hk6 _ _ (ne_cell (i := 8) (j := 4) (by decide)) (News.at N5 (i := 5) rfl).1, d8⟩
      (hk6 _ _ (ne_tab htL) (News.at N5 (i := 13) rfl).1) (gt (i := 4) rfl)
    exact ints_app (.cons _ _ (.cons _ _ (.cons _ _ (.cons _ _ (.cons _ _ (.cons _ _ .nil)))))) hIz
end
end Mine
end
section
open PySem PySem.W PyProof.Rows PySem.Calls
set_option maxHeartbeats 8000000
namespace Mine
theorem offL4 : True := by
  w_top off
  trivial
theorem fillL4 (w : World) (x : OpenLaw) (h : PySem.Challenge.rw_ij0057_01 = x) : (Mine.frag.heap_1 w.params) = (Mine.frag.heap_1 w.params) ∧ PySem.Challenge.rw_ij0057_01 = x := by
  k_fill
  exact ⟨rfl, h⟩

noncomputable def sgS : Str := Str.ofString " *-0123456789:~"
noncomputable def sgn (r : Nat) : Nat := sgS.cps.getD (r - 1) 0
theorem sgn_at : ∀ r : Nat, r < 16 → 1 ≤ r → (seqIndex? ((r : Int) - 1) sgS.length).bind (sgS.cps[·]?) = some (sgn r) := by decide +kernel
noncomputable def sdS : Str := Str.ofString "<>^"
noncomputable def sdn (r : Nat) : Nat := sdS.cps.getD r 0
theorem sdn_at : ∀ r : Nat, r < 3 → (seqIndex? (r : Int) sdS.length).bind (sdS.cps[·]?) = some (sdn r) := by decide +kernel

theorem strItem {prog : Program} {w : World} {A : Around} {E : Value → Shared → Prop} {s : Shared} {value slice : Expr} {x : Str} {t u : Tok} {k : Int} {c : Nat} {Q : Value → Shared → Prop} (hk : -1000 < k ∧ k < 1000) (hc : (seqIndex? k x.length).bind (x.cps[·]?) = some c)
    (h : Q (.str ⟨#[c]⟩ s.toks) { s with toks := s.toks + 1 })
    (hs : subscripted slice false (.str x t) (.int k u) = operate [.str x t, .int k u] (getItem (.str x t) (.int k u)) := by with_unfolding_all rfl) :
    wpAny (model prog w) A (subscriptTail value slice (.str x t) (.int k u)) Q E s :=
  tail_any (typeIs_str s x t) slot_str_getitem.lookup (getItem_str (by
    rw [decide_eq_false (by (first | lia | omega)), decide_eq_false (by (first | lia | omega))]; rfl) hc h) hs

noncomputable def specS (fill side width : Nat) : Str := (⟨#[sgn fill]⟩ : Str) ++ ⟨#[sdn side]⟩ ++ Str.ofString (toString (width : Int))

structure LSt (hb : Heap) (L : Addr) (fill side width : Nat) (ns : List Int) (vs : List Value) (D kf : Addr) : Prop where
  c1 : ∃ t, hb.IsCell (L + 1) (some (.int fill t))
  c2 : ∃ t, hb.IsCell (L + 2) (some (.int side t))
  c3 : ∃ t, hb.IsCell (L + 3) (some (.int width t))
  c4 : hb.IsCell (L + 4) (some (.ref D))
  c5 : ∃ t, hb.IsCell (L + 5) (some (.str sgS t))
  c6 : hb.IsCell (L + 6) (some (.ref kf))
  laid : LaidAt hb kf (specS fill side width)
  num : ∃ e, hb.get? D = some (listOf vs.toArray e)
  tab : ∃ ps, hb.get? 202 = some (tabObj ps)
  hints : IntsAre vs ns
  h6 : 6 ≤ ns.length
  h12 : ns.length ≤ 12
  abs : ∀ n ∈ ns, n.natAbs < 100000
  hfill : fill ∈ [1, 2, 3, 4, 9, 13, 14, 15]
  hside : side < 3
  hw1 : 2 ≤ width
  hw2 : width ≤ 6

section
variable {w : World} {A₀ A : Around} {g : Heap} {L fa : Addr} {m : Str → Option Value} {p : Program} {loose : List Str} {mean : ExcName → Option Value} {mg mb : Str → Option Value} {s : Shared}
theorem segA3 {Q : Flow → Shared → Prop} {E : Value → Shared → Prop} (c : LC w A₀ A g L fa p loose mean mg mb) {ns : List Int} {D e' : Nat} {vs : List Value} {o1 o2 o3 o4 o5 o6 o7 o8 : Obj} {fill side width : Nat} {shape : Int} {t0 t1 t2 t3 : Tok}
    (F : Fr g L s.heap m) (hm2 : m "shape" = some (.int shape t0)) (hI : IntsAre vs ns) (h6 : 6 ≤ ns.length) (h12 : ns.length ≤ 12)
    (hsh : 0 ≤ shape) (hsh2 : shape < 1000000) (hfill : fill ∈ [1, 2, 3, 4, 9, 13, 14, 15]) (hside : side < 3) (hw1 : 2 ≤ width) (hw2 : width ≤ 6)
    (N : News g L s.heap [(D, listOf vs.toArray e'), (L + 8, o8), (L + 7, o7), (L + 6, o6), (L + 5, o5), (L + 4, o4), (L + 3, o3), (L + 2, o2), (L + 1, o1), (202, tabObj #[])])
    (d1 : o1.data = .cell (some (.int fill t1))) (d2 : o2.data = .cell (some (.int side t2))) (d3 : o3.data = .cell (some (.int width t3))) (d4 : o4.data = .cell (some (.ref D))) (d5 : o5.data = .cell none) (d6 : o6.data = .cell none) (d7 : o7.data = .cell none) (d8 : o8.data = .cell none) (htL : 202 < L) (hDc : L + 8 < D) (hcode : CodeHd g 204 202) (habs : ∀ n ∈ ns, n.natAbs < 100000)
    (k : ∀ h' tk m' kf (wish : Nat) t, wish < ns.length + 2 → Fr g L h' m' → m' "wish" = some (.int (wish : Int) t) → LSt (hideAll h' [L]) L fill side width ns vs D kf → g.get? D = none →
      wpAny (model PySem.Challenge.rw_ij0057_01.row.prog w) A (execs (lawDef.body.drop 9) (LE L fa)) Q E { s with heap := h', toks := tk }) :
    wpAny (model PySem.Challenge.rw_ij0057_01.row.prog w) A (execs (lawDef.body.drop 4) (LE L fa)) Q E s := by
  obtain ⟨B, X, T, hA, hh, hd, hu⟩ := c
  dsimp only [LE, lawDef, lawDefP, List.drop]
  k_unmd
  (try k_fold)
  have hvn := hI.length
  have hDs1 : @LT.lt Nat _ (L + 8) D := hDc
  have hDs2 : @LT.lt Nat _ 202 L := htL
  walk1
  (repeat' ((fail_if_success k_end); (fail_if_success (with_reducible show wpAny _ _ (execs (Stmt.Assign [Expr.Name (Str.ofString "layouts") _] _ _ :: _) _) _ _ _)); (fail_if_success (with_reducible show wpAny _ _ (subscriptTail _ _ (Value.str _ _) (Value.int _ _)) _ _ _)); (fail_if_success (with_reducible show wpAny _ _ (exec (Stmt.For _ _ _ _ _) _) _ _ _)); (fail_if_success (with_reducible show wpAny _ _ (call (Value.ref _) _ _) _ _ _)); (fail_if_success (with_reducible show wpAny _ _ (eval (Expr.ListComp _ _ _ _) _) _ _ _)); (fail_if_success (with_reducible show wpAny _ _ (exec (Stmt.Assign _ (Expr.ListComp _ _ _ _) _) _) _ _ _)); first | walk1 | (dsimp only; walk1)))
  have hf16 : fill < 16 ∧ 1 ≤ fill := by
    simp only [List.mem_cons, List.not_mem_nil, or_false] at hfill
    (first | lia | omega)
  refine strItem (by (first | lia | omega)) (sgn_at fill hf16.1 hf16.2) ?_
  (repeat' ((fail_if_success k_end); (fail_if_success (with_reducible show wpAny _ _ (execs (Stmt.Assign [Expr.Name (Str.ofString "layouts") _] _ _ :: _) _) _ _ _)); (fail_if_success (with_reducible show wpAny _ _ (subscriptTail _ _ (Value.str _ _) (Value.int _ _)) _ _ _)); (fail_if_success (with_reducible show wpAny _ _ (exec (Stmt.For _ _ _ _ _) _) _ _ _)); (fail_if_success (with_reducible show wpAny _ _ (call (Value.ref _) _ _) _ _ _)); (fail_if_success (with_reducible show wpAny _ _ (eval (Expr.ListComp _ _ _ _) _) _ _ _)); (fail_if_success (with_reducible show wpAny _ _ (exec (Stmt.Assign _ (Expr.ListComp _ _ _ _) _) _) _ _ _)); first | walk1 | (dsimp only; walk1)))
  refine strItem (by (first | lia | omega)) (sdn_at side hside) ?_
  (repeat' ((fail_if_success k_end); (fail_if_success (with_reducible show wpAny _ _ (execs (Stmt.Assign [Expr.Name (Str.ofString "layouts") _] _ _ :: _) _) _ _ _)); (fail_if_success (with_reducible show wpAny _ _ (subscriptTail _ _ (Value.str _ _) (Value.int _ _)) _ _ _)); (fail_if_success (with_reducible show wpAny _ _ (exec (Stmt.For _ _ _ _ _) _) _ _ _)); (fail_if_success (with_reducible show wpAny _ _ (call (Value.ref _) _ _) _ _ _)); (fail_if_success (with_reducible show wpAny _ _ (eval (Expr.ListComp _ _ _ _) _) _ _ _)); (fail_if_success (with_reducible show wpAny _ _ (exec (Stmt.Assign _ (Expr.ListComp _ _ _ _) _) _) _ _ _)); first | walk1 | (dsimp only; walk1)))
  dsimp only [List.append_nil]
  walk1
  (repeat' ((fail_if_success k_end); (fail_if_success (with_reducible show wpAny _ _ (execs (Stmt.Assign [Expr.Name (Str.ofString "layouts") _] _ _ :: _) _) _ _ _)); (fail_if_success (with_reducible show wpAny _ _ (subscriptTail _ _ (Value.str _ _) (Value.int _ _)) _ _ _)); (fail_if_success (with_reducible show wpAny _ _ (exec (Stmt.For _ _ _ _ _) _) _ _ _)); (fail_if_success (with_reducible show wpAny _ _ (call (Value.ref _) _ _) _ _ _)); (fail_if_success (with_reducible show wpAny _ _ (eval (Expr.ListComp _ _ _ _) _) _ _ _)); (fail_if_success (with_reducible show wpAny _ _ (exec (Stmt.Assign _ (Expr.ListComp _ _ _ _) _) _) _ _ _)); first | walk1 | (dsimp only; walk1)))
  rename Fr _ _ _ _ => F9
  rename News _ _ _ _ => N9
  have up : ∀ {i : Nat} {b : Addr} {o : Obj}, _[i]? = some (b, o) → (hideAll _ [L]).get? b = some o := fun {i b o} hq =>
    hideAll_get _ (News.at N9 (i := i) hq).1 (by simpa using (News.at N9 (i := i) hq).2.1)
  have w1 := Int.fmod_nonneg_of_pos (shape.fdiv 120) (show (0 : Int) < (ns.length : Int) + 2 by (first | lia | omega))
  have w2 := Int.fmod_lt_of_pos (shape.fdiv 120) (show (0 : Int) < (ns.length : Int) + 2 by (first | lia | omega))
  obtain ⟨wish, hwish⟩ := Int.eq_ofNat_of_zero_le w1
  dsimp only
  refine' k _ _ _ ?kf wish _ (by (first | lia | omega)) F9 (congrArg some (congrArg (Value.int · _) hwish)) ?st (News.at N9 (i := 4) rfl).2.2
  case' st => exact {
    c1 := ⟨_, _, up (i := 12) rfl, d1⟩
    c2 := ⟨_, _, up (i := 11) rfl, d2⟩
    c3 := ⟨_, _, up (i := 10) rfl, d3⟩
    c4 := ⟨_, up (i := 9) rfl, d4⟩
    c5 := ⟨_, _, up (i := 8) rfl, by assumption⟩
    c6 := ⟨_, up (i := 7) rfl, by assumption⟩
    laid := ⟨_, _, _, _, _, _, _, _, _, _, _, up (i := 0) rfl, ⟨_, _, _, _, rfl, up (i := 1) rfl, by assumption, by assumption⟩, up (i := 6) rfl, by assumption, up (i := 5) rfl, by assumption, up (i := 2) rfl, up (i := 3) rfl⟩
    num := ⟨_, up (i := 4) rfl⟩
    tab := ⟨_, up (i := 13) rfl⟩
    hints := hI
    h6 := h6
    h12 := h12
    abs := habs
    hfill := hfill
    hside := hside
    hw1 := hw1
    hw2 := hw2 }
end
end Mine
end
section
open PySem PySem.W PyProof.Rows PySem.Calls
set_option maxHeartbeats 8000000
namespace Mine
theorem offP4 : True := by
  w_top off
  trivial

noncomputable def textOf (rs : List Nat) : Str := ⟨(rs.map sgn).toArray⟩
noncomputable def fmtOf (fill side width : Nat) : Builtin.Float.FormatSpec := { fill := sgn fill, align := sdn side, width := some width }

theorem sgn_fig : ∀ d : Nat, d < 10 → (Nat.digitChar d).toNat = sgn (4 + d) := by decide
theorem digs (n : Nat) : (Nat.toDigits 10 n).map (fun c => c.toNat) = (figR n).map sgn := by
  induction n using Nat.strongRecOn with
  | _ n ih =>
    rw [Nat.toDigits_eq_if (by decide), figR]
    by_cases h : n < 10
    · rw [if_pos h, dif_pos h, List.map_cons, List.map_nil, sgn_fig n h, List.map_cons, List.map_nil]
    · rw [if_neg h, dif_neg h, List.map_append, List.map_append, ih (n / 10) (by (first | lia | omega)), List.map_cons, List.map_nil, sgn_fig _ (by (first | lia | omega)), List.map_cons, List.map_nil]
theorem figR_ne (n : Nat) : figR n ≠ [] := by
  rw [figR]
  split <;> simp

theorem text_eq {fill side width : Nat} (hs : side < 3) (n : Int) : intSpecText (fmtOf fill side width) n = textOf (layP fill side width n) := by
  have hd : ((Nat.toDigits 10 n.natAbs).map fun c => (if (100 : Nat) == 88 then c.toUpper else c).toNat) = (figR n.natAbs).map sgn := digs n.natAbs
  have hsg : (if n < 0 then [45] else []) = ((if n < 0 then [3] else []) : List Nat).map sgn := by split <;> rfl
  have hrk : (if n < 0 then [45] else []) ++ (figR n.natAbs).map sgn = (rkP n).map sgn := by rw [rkP, List.map_append, hsg]
  have hlen : ((if n < 0 then [45] else []) : List Nat).length + (figR n.natAbs).length = (rkP n).length := by
    rw [rkP, List.length_append]
    split <;> rfl
  have hemp : ((figR n.natAbs).map sgn).isEmpty = false := by
    cases h : figR n.natAbs with
    | nil => exact absurd h (figR_ne _)
    | cons a r => rfl
  have ha : ((fmtOf fill side width).align == 61) = false := by
    show (sdn side == 61) = false
    rcases (by (first | lia | omega) : side = 0 ∨ side = 1 ∨ side = 2) with rfl | rfl | rfl <;> decide +kernel
  unfold intSpecText intField'
  rw [hd]
  simp only [hemp, ha, Bool.and_false, Bool.false_eq_true, if_false, decide_eq_true_eq]
  have hpad : ((width : Int) - (((if n < 0 then [45] else []) : List Nat).length + ([] : List Nat).length + ([] : List Nat).length : Int) - (((figR n.natAbs).map sgn).length : Int)).toNat = width - (rkP n).length := by
    rw [← hlen, List.length_map]
    simp only [List.length_nil]
    (first | lia | omega)
  have key : ∀ l r : Nat, l = aheadP side (width - (rkP n).length) → r = width - (rkP n).length - aheadP side (width - (rkP n).length) →
      (⟨(List.replicate l (sgn fill) ++ (if n < 0 then [45] else []) ++ [] ++ List.replicate 0 (sgn fill) ++ (List.replicate ((0 : Int).toNat - ((figR n.natAbs).map sgn).length) 48 ++ (figR n.natAbs).map sgn) ++ [] ++ List.replicate r (sgn fill)).toArray⟩ : Str) = textOf (layP fill side width n) := by
    rintro l r rfl rfl
    unfold textOf layP
    rw [List.map_append, List.map_append, List.map_replicate, List.map_replicate, ← hrk]
    simp
  dsimp only [fmtOf]
  have hz : List.replicate (Int.toNat 0 - ((figR n.natAbs).map sgn).length) 48 ++ (figR n.natAbs).map sgn = (figR n.natAbs).map sgn := by
    rw [show Int.toNat 0 - ((figR n.natAbs).map sgn).length = 0 from Nat.zero_sub _]; rfl
  rw [hz] at key ⊢
  simp only [List.length_nil] at hpad ⊢
  rw [hpad]
  have s0 : sdn 0 = 60 := by decide +kernel
  have s1 : sdn 1 = 62 := by decide +kernel
  have s2 : sdn 2 = 94 := by decide +kernel
  rcases (by (first | lia | omega) : side = 0 ∨ side = 1 ∨ side = 2) with rfl | rfl | rfl
  · simp only [s0, beq_self_eq_true, if_true]
    exact key 0 _ rfl (Nat.sub_zero _).symm
  · simp only [s1, show ((62 : Nat) == 60) = false from rfl, show ((62 : Nat) == 94) = false from rfl, Bool.false_eq_true, if_false]
    exact key _ 0 rfl (Nat.sub_self _).symm
  · simp only [s2, show ((94 : Nat) == 60) = false from rfl, beq_self_eq_true, if_true, Bool.false_eq_true, if_false]
    exact key _ _ rfl rfl

noncomputable def rdP : Nat → List Nat → Nat
  | _, [] => 0
  | k, r :: t => r * 16 ^ k + rdP (k - 1) t
theorem rd_eq : ∀ (rs : List Nat) (i : Nat), i + rs.length ≤ 6 → ((rs.zipIdx i).map fun p => (p.1 : Int) * 16 ^ (5 - p.2)).sum = (rdP (5 - i) rs : Int)
  | [], _, _ => rfl
  | r :: t, i, h => by
    have ih := rd_eq t (i + 1) (by simp at h; (first | lia | omega))
    rw [List.zipIdx_cons, List.map_cons, List.sum_cons, ih, rdP, Nat.sub_add_eq]
    push_cast
    rfl
theorem lawRead_eq {rs : List Nat} (h : rs.length ≤ 6) : lawRead rs = (rdP 5 rs : Int) := rd_eq rs 0 (by (first | lia | omega))

noncomputable def Rk (rs : List Nat) : Prop := ∀ r ∈ rs, 1 ≤ r ∧ r < 16
theorem rd_lt : ∀ (k : Nat) (rs : List Nat), rs.length ≤ k + 1 → Rk rs → rdP k rs < 16 ^ (k + 1)
  | _, [], _, _ => Nat.pow_pos (by decide)
  | 0, r :: t, h, hr => by
    have : t = [] := List.eq_nil_of_length_eq_zero (by rw [List.length_cons] at h; (first | lia | omega))
    subst this
    have := hr r (.head _)
    simp only [rdP]
    (first | lia | omega)
  | k + 1, r :: t, h, hr => by
    have ih := rd_lt k t (by simp at h; (first | lia | omega)) fun x hx => hr x (.tail _ hx)
    have h1 := (hr r (.head _)).2
    have h2 : r * 16 ^ (k + 1) ≤ 15 * 16 ^ (k + 1) := Nat.mul_le_mul_right _ (by (first | lia | omega))
    rw [rdP, Nat.add_sub_cancel, Nat.pow_succ 16 (k + 1)]
    (first | lia | omega)
theorem sgn_mono : ∀ a : Nat, a < 16 → ∀ b : Nat, b < 16 → 1 ≤ a → 1 ≤ b → (sgn a < sgn b ↔ a < b) := by decide +kernel
theorem sgn_inj {a b : Nat} (ha : 1 ≤ a ∧ a < 16) (hb : 1 ≤ b ∧ b < 16) : sgn a = sgn b ↔ a = b := by
  have h1 := sgn_mono a ha.2 b hb.2 ha.1 hb.1
  have h2 := sgn_mono b hb.2 a ha.2 hb.1 ha.1
  (first | lia | omega)
theorem rd_order : ∀ (k : Nat) (rs qs : List Nat), rs.length ≤ k + 1 → qs.length ≤ k + 1 → Rk rs → Rk qs → (rs.map sgn < qs.map sgn ↔ rdP k rs < rdP k qs)
  | k, [], [], _, _, _, _ => by simp [rdP]
  | k, [], q :: u, _, _, _, hq => by
    have := hq q (.head _)
    have h1 : 1 * 16 ^ k ≤ q * 16 ^ k := Nat.mul_le_mul_right _ this.1
    have h2 : 0 < 16 ^ k := Nat.pow_pos (by decide)
    simp only [rdP, List.map_nil, List.map_cons, List.nil_lt_cons, true_iff]
    (first | lia | omega)
  | k, r :: t, [], _, _, _, _ => by simp [rdP]
  | k, r :: t, q :: u, h1, h2, hr, hq => by
    have a1 := hr r (.head _)
    have a2 := hq q (.head _)
    have hrt : Rk t := fun x hx => hr x (.tail _ hx)
    have hqu : Rk u := fun x hx => hq x (.tail _ hx)
    rw [List.map_cons, List.map_cons, List.cons_lt_cons_iff, sgn_mono r a1.2 q a2.2 a1.1 a2.1, sgn_inj a1 a2]
    have small : ∀ t : List Nat, (t.length ≤ k) → Rk t → rdP (k - 1) t < 16 ^ k := fun t ht hR => by
      cases k with
      | zero =>
        have : t = [] := List.eq_nil_of_length_eq_zero (by (first | lia | omega))
        subst this
        simp [rdP]
      | succ k => exact rd_lt k t ht hR
    have l1 : t.length ≤ k := by simp at h1; (first | lia | omega)
    have l2 : u.length ≤ k := by simp at h2; (first | lia | omega)
    have b1 := small t l1 hrt
    have b2 := small u l2 hqu
    rw [rdP, rdP]
    constructor
    · rintro (h | ⟨rfl, h⟩)
      · have : (r + 1) * 16 ^ k ≤ q * 16 ^ k := Nat.mul_le_mul_right _ h
        rw [Nat.add_mul, Nat.one_mul] at this
        (first | lia | omega)
      · have ih : rdP (k - 1) t < rdP (k - 1) u := by
          cases k with
          | zero =>
            have e1 : t = [] := List.eq_nil_of_length_eq_zero (by (first | lia | omega))
            have e2 : u = [] := List.eq_nil_of_length_eq_zero (by (first | lia | omega))
            subst e1 e2
            simp at h
          | succ k => exact (rd_order k t u l1 l2 hrt hqu).mp h
        (first | lia | omega)
    · intro h
      rcases Nat.lt_trichotomy r q with h' | rfl | h'
      · exact .inl h'
      · refine .inr ⟨rfl, ?_⟩
        have h3 : rdP (k - 1) t < rdP (k - 1) u := by (first | lia | omega)
        cases k with
        | zero =>
          have e1 : t = [] := List.eq_nil_of_length_eq_zero (by (first | lia | omega))
          have e2 : u = [] := List.eq_nil_of_length_eq_zero (by (first | lia | omega))
          subst e1 e2
          simp [rdP] at h3
        | succ k => exact (rd_order k t u l1 l2 hrt hqu).mpr h3
      · have : (q + 1) * 16 ^ k ≤ r * 16 ^ k := Nat.mul_le_mul_right _ h'
        rw [Nat.add_mul, Nat.one_mul] at this
        (first | lia | omega)

theorem figR_rk (n : Nat) : ∀ r ∈ figR n, 4 ≤ r ∧ r < 14 := by
  induction n using Nat.strongRecOn with
  | _ n ih =>
    rw [figR]
    split
    · intro r hr
      rw [List.mem_singleton.mp hr]
      (first | lia | omega)
    · intro r hr
      rcases List.mem_append.mp hr with hr | hr
      · exact ih (n / 10) (by (first | lia | omega)) r hr
      · rw [List.mem_singleton.mp hr]
        (first | lia | omega)
theorem layP_rk {fill side width : Nat} (hf : fill ∈ [1, 2, 3, 4, 9, 13, 14, 15]) (n : Int) : Rk (layP fill side width n) := by
  intro r hr
  have hf' : 1 ≤ fill ∧ fill < 16 := by
    simp only [List.mem_cons, List.not_mem_nil, or_false] at hf
    (first | lia | omega)
  unfold layP at hr
  rcases List.mem_append.mp hr with hr | hr
  · rcases List.mem_append.mp hr with hr | hr
    · rw [(List.mem_replicate.mp hr).2]; exact hf'
    · rcases List.mem_append.mp hr with hr | hr
      · split at hr
        · rw [List.mem_singleton.mp hr]; (first | lia | omega)
        · nomatch hr
      · have := figR_rk _ r hr
        (first | lia | omega)
  · rw [(List.mem_replicate.mp hr).2]; exact hf'
theorem layP_len {fill side width : Nat} {n : Int} (hn : n.natAbs < 100000) (hw : width ≤ 6) (hs : side < 3) : (layP fill side width n).length ≤ 6 := by
  have := rkP_len hn
  have ha : aheadP side (width - (rkP n).length) ≤ width - (rkP n).length := by unfold aheadP; split <;> (first | lia | omega)
  unfold layP
  rw [List.length_append, List.length_append, List.length_replicate, List.length_replicate]
  (first | lia | omega)

theorem text_order {rs qs : List Nat} (h1 : rs.length ≤ 6) (h2 : qs.length ≤ 6) (hr : Rk rs) (hq : Rk qs) : slt (textOf rs) (textOf qs) = decide ((lawRead rs).toNat < (lawRead qs).toNat) := by
  rw [lawRead_eq h1, lawRead_eq h2, Int.toNat_natCast, Int.toNat_natCast]
  have := rd_order 5 rs qs h1 h2 hr hq
  show decide ((textOf rs).cps.toList < (textOf qs).cps.toList) = _
  rw [decide_eq_decide]
  simpa [textOf] using this
theorem lawRead_nat {rs : List Nat} (h1 : rs.length ≤ 6) (hr : Rk rs) : lawRead rs = ((lawRead rs).toNat : Int) ∧ (lawRead rs).toNat < 16 ^ 6 := by
  rw [lawRead_eq h1, Int.toNat_natCast]
  exact ⟨rfl, rd_lt 5 rs h1 hr⟩

noncomputable def specChk (fill side width : Nat) : Bool :=
  !((specS fill side width).length == 0) && !(((specS fill side width).cps.toList.drop 1).any (· ≥ 128) || ((specS fill side width).cps.getD 0 0 ≥ 128 && !([60, 62, 61, 94] : List Nat).contains ((specS fill side width).cps.getD 1 0))) &&
  intSpecGood (specS fill side width) (fmtOf fill side width) &&
  match Builtin.Float.parseFormatSpec (specS fill side width).cps.toList "int" 62 with
  | .ok f => f.fill == sgn fill && f.align == sdn side && f.sign == none && f.noNeg0 == false && f.alt == false && f.width == some width && f.grouping == none && f.precision == none && f.type == none
  | .error _ => false
theorem specChk_all : ∀ fill ∈ [1, 2, 3, 4, 9, 13, 14, 15], ∀ side : Nat, side < 3 → ∀ width : Nat, width < 7 → 2 ≤ width → specChk fill side width = true := by decide +kernel
theorem spec_ok {fill side width : Nat} (hf : fill ∈ [1, 2, 3, 4, 9, 13, 14, 15]) (hs : side < 3) (h1 : 2 ≤ width) (h2 : width ≤ 6) :
    Builtin.Float.parseFormatSpec (specS fill side width).cps.toList "int" 62 = .ok (fmtOf fill side width) ∧ ((specS fill side width).length == 0) = false ∧
    (((specS fill side width).cps.toList.drop 1).any (· ≥ 128) || ((specS fill side width).cps.getD 0 0 ≥ 128 && !([60, 62, 61, 94] : List Nat).contains ((specS fill side width).cps.getD 1 0))) = false ∧ intSpecGood (specS fill side width) (fmtOf fill side width) = true := by
  have h := specChk_all fill hf side hs width (by (first | lia | omega)) h1
  unfold specChk at h
  rw [Bool.and_eq_true, Bool.and_eq_true, Bool.and_eq_true, Bool.not_eq_true', Bool.not_eq_true'] at h
  obtain ⟨⟨⟨a1, a2⟩, a3⟩, a4⟩ := h
  refine ⟨?_, a1, a2, a3⟩
  split at a4
  · rename_i f hf
    rw [hf]
    obtain ⟨f1, f2, f3, f4, f5, f6, f7, f8, f9⟩ := f
    simp only [Bool.and_eq_true, beq_iff_eq] at a4
    obtain ⟨⟨⟨⟨⟨⟨⟨⟨rfl, rfl⟩, rfl⟩, rfl⟩, rfl⟩, rfl⟩, rfl⟩, rfl⟩, rfl⟩ := a4
    rfl
  · cases a4
end Mine
end
section
open PySem PySem.W PyProof.Rows PySem.Calls
set_option maxHeartbeats 8000000
namespace Mine
theorem offL5a : True := by
  w_top off
  trivial
section
variable {M : Model} {A : Around} {E : Value → Shared → Prop} {s : Shared} {env : Env} {g : Heap} {L a : Addr} {m : Str → Option Value} {cn : Str} {cs : Scope} {ccd : Value} {cl : List (Str × Addr)} {x : Str} {pos : Pos} {v : Value} {Q : Value → Shared → Prop} {c C : Addr}
theorem nameX_cell (hc : cl.lookup x = some c) (hv : s.heap.IsCell c (some v)) (h : Q v s)
    (hk : cs.kind = .function := by rfl) (hx : (envX cn cs L a ccd cl).kindOf x = some .cell := by rfl) (hb : (x == ("__debug__" : Str)) = false := by decide) :
    wpAny M A (eval (.Name x pos) (envX cn cs L a ccd cl)) Q E s := wpAny_Name (wpAny_loadName_cell hk hx hc hv h) hb
theorem cell_up {h h' : Heap} {c : Addr} {v : Option Value} (x : h.IsCell c v) (k : ∀ b o, h.get? b = some o → h'.get? b = some o) : h'.IsCell c v := x.keeps k
end

structure LB (g hb h : Heap) (L : Addr) : Prop where
  gb : ∀ b o, g.get? b = some o → hb.get? b = some o
  up : ∀ b o, hb.get? b = some o → h.get? b = some o
  hL : hb.get? L = none
theorem LB.step {g hb h h' : Heap} {L : Addr} (x : LB g hb h L) (k : ∀ b o, b ≠ L → h.get? b = some o → h'.get? b = some o) : LB g hb h' L :=
  ⟨x.gb, fun b o e => k b o (fun q => by rw [q, x.hL] at e; cases e) (x.up b o e), x.hL⟩

end Mine
end
end
section
open PySem PySem.W PyProof.Rows PySem.Calls Mine
local macro_rules | `(tactic| walk_at "eval Name") => `(tactic| (k_here; (with_reducible show wpAny _ _ (eval (Expr.Name _ _) (compEnvC _ _ _ _)) _ _ _); k_dflt (refine' nameC_L ?F ?v ?_ ?a ?b; (case F => k_asm); (case a => rfl); (case b => rfl); (case v => first | exact rfl | with_reducible assumption | assumption); k_whole)))
local macro_rules | `(tactic| walk_at "eval Name") => `(tactic| (k_here; (fail_if_success (with_reducible show wpAny _ _ (eval (Expr.Name _ _) (compEnvC _ _ _ _)) _ _ _)); k_dflt (refine' nameX_L ?F ?v ?_ ?a ?b; (case F => k_asm); (case a => rfl); (case b => rfl); (case v => first | with_reducible assumption | assumption); k_whole)))
local macro_rules | `(tactic| walk_at "eval Name") => `(tactic| (k_here; (with_reducible show wpAny _ _ (eval (Expr.Name _ _) (compEnvC _ _ _ _)) _ _ _); k_dflt (refine' ldCellK ?c ?v ?_ ?a ?b; (case c => exact rfl); (case b => exact rfl); (case a => exact rfl); (case v => first | assumption | exact cell_up (by assumption) (Fr.keep (by assumption))); k_whole)))
local macro_rules | `(tactic| walk_at "eval Name") => `(tactic| (k_here; (fail_if_success (with_reducible show wpAny _ _ (eval (Expr.Name _ _) (compEnvC _ _ _ _)) _ _ _)); k_dflt (refine' nameX_cell ?c ?v ?_ ?a ?b; (case c => exact rfl); (case b => exact rfl); (case a => exact rfl); (case v => first | assumption | exact cell_up (by assumption) (LB.up (by assumption))); k_whole)))
section
open PySem PySem.W PyProof.Rows PySem.Calls
set_option maxHeartbeats 8000000
namespace Mine
theorem offP5 : True := by
  w_top off
  trivial

noncomputable def rdI (fill side width : Nat) (ns : List Int) (i : Nat) : Int := lawRead (layP fill side width (ns.getD i 0))
noncomputable def rkI (fill side width : Nat) (ns : List Int) (i : Nat) : Nat := (rdI fill side width ns i).toNat
noncomputable def kT (fill side width : Nat) (ns : List Int) (i : Nat) : List KD := [.i (rdI fill side width ns i), .i (i : Int)]
noncomputable def kB (fill side width : Nat) (ns : List Int) (i : Nat) : List KD := [.i (-(rdI fill side width ns i)), .i (i : Int)]
noncomputable def kP (fill side width : Nat) (ns : List Int) (i : Nat) : List KD := [.s (textOf (layP fill side width (ns.getD i 0))), .i (i : Int)]

noncomputable def ltP (r : Nat → Nat) (a b : Nat) : Bool := decide (r a < r b ∨ (r a = r b ∧ a < b))
theorem ltP_iff {r : Nat → Nat} {a b : Nat} : ltP r a b = true ↔ kst r a b := by unfold ltP kst; simp
theorem ltP_as (r : Nat → Nat) : ∀ a b, ltP r a b = true → ltP r b a = false := fun a b h => by
  unfold ltP at *; simp only [decide_eq_true_eq, decide_eq_false_iff_not] at *; omega
theorem ltP_nt (r : Nat → Nat) : ∀ a b c, ltP r b a = false → ltP r c b = false → ltP r c a = false := fun a b c h h' => by
  unfold ltP at *; simp only [decide_eq_false_iff_not] at *; omega

theorem lex_ii {a b : Int} {x y : Nat} : lexKD [.i a, .i (x : Int)] [.i b, .i (y : Int)] = decide (a < b ∨ (a = b ∧ x < y)) := by
  rw [lexKD]
  by_cases e : a = b
  · subst e
    rw [if_pos rfl, lexKD]
    by_cases e2 : x = y
    · subst e2
      rw [if_pos rfl]
      simp [lexKD]
    · rw [if_neg (fun q => e2 (Int.ofNat_inj.mp (KD.i.inj q)))]
      show decide ((x : Int) < (y : Int)) = _
      rw [decide_eq_decide]
      omega
  · rw [if_neg (fun q => e (KD.i.inj q))]
    show decide (a < b) = _
    rw [decide_eq_decide]
    omega
theorem lex_si {a b : Str} {x y : Nat} : lexKD [.s a, .i (x : Int)] [.s b, .i (y : Int)] = if a = b then decide (x < y) else slt a b := by
  rw [lexKD]
  by_cases e : a = b
  · subst e
    rw [if_pos rfl, if_pos rfl, lexKD]
    by_cases e2 : x = y
    · subst e2
      rw [if_pos rfl]
      simp [lexKD]
    · rw [if_neg (fun q => e2 (Int.ofNat_inj.mp (KD.i.inj q)))]
      show decide ((x : Int) < (y : Int)) = _
      rw [decide_eq_decide]
      omega
  · rw [if_neg (fun q => e (KD.s.inj q)), if_neg e]
    rfl

section
variable {fill side width : Nat} {ns : List Int} (hf : fill ∈ [1, 2, 3, 4, 9, 13, 14, 15]) (hs : side < 3) (hw : width ≤ 6) (ha : ∀ n ∈ ns, n.natAbs < 100000)
include hf hs hw ha
theorem lay_ok {i : Nat} (hi : i < ns.length) : (layP fill side width (ns.getD i 0)).length ≤ 6 ∧ Rk (layP fill side width (ns.getD i 0)) :=
  ⟨layP_len (ha _ (by rw [getD_lt ns i hi]; exact List.getElem_mem _)) hw hs, layP_rk hf _⟩
theorem rd_nat {i : Nat} (hi : i < ns.length) : rdI fill side width ns i = (rkI fill side width ns i : Int) ∧ rkI fill side width ns i < 16 ^ 6 :=
  lawRead_nat (lay_ok hf hs hw ha hi).1 (lay_ok hf hs hw ha hi).2
theorem slt_rk {i j : Nat} (hi : i < ns.length) (hj : j < ns.length) : slt (textOf (layP fill side width (ns.getD i 0))) (textOf (layP fill side width (ns.getD j 0))) = decide (rkI fill side width ns i < rkI fill side width ns j) :=
  text_order (lay_ok hf hs hw ha hi).1 (lay_ok hf hs hw ha hj).1 (lay_ok hf hs hw ha hi).2 (lay_ok hf hs hw ha hj).2
theorem kT_lt {i j : Nat} (hi : i < ns.length) (hj : j < ns.length) : lexKD (kT fill side width ns i) (kT fill side width ns j) = ltP (rkI fill side width ns) i j := by
  unfold kT ltP
  rw [lex_ii, (rd_nat hf hs hw ha hi).1, (rd_nat hf hs hw ha hj).1, decide_eq_decide]
  omega
theorem kB_lt {i j : Nat} (hi : i < ns.length) (hj : j < ns.length) : lexKD (kB fill side width ns i) (kB fill side width ns j) = ltP (fun i => 16 ^ 6 - rkI fill side width ns i) i j := by
  unfold kB ltP
  have h1 := rd_nat hf hs hw ha hi
  have h2 := rd_nat hf hs hw ha hj
  rw [lex_ii, h1.1, h2.1, decide_eq_decide]
  dsimp only
  have := h1.2
  have := h2.2
  omega
theorem kP_lt {i j : Nat} (hi : i < ns.length) (hj : j < ns.length) : lexKD (kP fill side width ns i) (kP fill side width ns j) = ltP (rkI fill side width ns) i j := by
  unfold kP ltP
  rw [lex_si]
  have h1 := slt_rk hf hs hw ha hi hj
  have h2 := slt_rk hf hs hw ha hj hi
  by_cases e : textOf (layP fill side width (ns.getD i 0)) = textOf (layP fill side width (ns.getD j 0))
  · rw [if_pos e, decide_eq_decide]
    have z : slt (textOf (layP fill side width (ns.getD j 0))) (textOf (layP fill side width (ns.getD j 0))) = false := decide_eq_false (List.lt_irrefl _)
    rw [e, z] at h1 h2
    have := of_decide_eq_false h1.symm
    have := of_decide_eq_false h2.symm
    omega
  · rw [if_neg e, h1, decide_eq_decide]
    have hne : rkI fill side width ns i ≠ rkI fill side width ns j := fun q => by
      rcases kd_tri (a := .s (textOf (layP fill side width (ns.getD i 0)))) (b := .s (textOf (layP fill side width (ns.getD j 0)))) rfl with h | h | h
      · exact e (KD.s.inj h)
      · have h' : slt (textOf (layP fill side width (ns.getD i 0))) (textOf (layP fill side width (ns.getD j 0))) = true := h
        rw [h1] at h'
        have := of_decide_eq_true h'
        omega
      · have h' : slt (textOf (layP fill side width (ns.getD j 0))) (textOf (layP fill side width (ns.getD i 0))) = true := h
        rw [h2] at h'
        have := of_decide_eq_true h'
        omega
    omega
omit hf hs hw ha in
theorem sorted_places {ks : Nat → List KD} {r : Nat → Nat} (hk : ∀ i j, i < ns.length → j < ns.length → lexKD (ks i) (ks j) = ltP r i j) {p : List Nat} (h : SortedBy ks ns.length p) : p.Perm (List.range ns.length) ∧ p.Pairwise (kst r) := by
  refine ⟨h.1, ?_⟩
  have hnd : p.Nodup := (h.1.nodup_iff).mpr List.nodup_range
  have hpw : p.Pairwise fun x y => x ≠ y := hnd
  refine List.Pairwise.imp_of_mem (fun {x y} hx hy hc => ?_) (h.2.and hpw)
  have hxN := List.mem_range.mp (h.1.mem_iff.mp hx)
  have hyN := List.mem_range.mp (h.1.mem_iff.mp hy)
  have h1 := hc.1
  rw [hk y x hyN hxN] at h1
  unfold ltP at h1
  have := of_decide_eq_false h1
  have := hc.2
  unfold kst
  omega
end

section
variable {r : Nat → Nat}
theorem hf_prefix {α : Type} {lt : α → α → Bool} {xs : List α} {v : α} (h : HF lt 0 (xs ++ [v])) : HF lt 0 xs := fun j a b h0 hk ha hb => by
  have h1 := (List.getElem?_eq_some_iff.mp ha).1
  have h2 := (List.getElem?_eq_some_iff.mp hb).1
  exact h j a b h0 hk (by rw [List.getElem?_append_left h1]; exact ha) (by rw [List.getElem?_append_left h2]; exact hb)
theorem hrP_nil {α : Type} {lt : α → α → Bool} {v : α} : hrP lt v ([] : List α) = [] := by
  unfold hrP suP
  have h : (suDown lt 0 (([] : List α).set 0 v)).1 = [] := by
    rw [List.set_nil, suDown]
    split
    · split <;> simp_all
    · rfl
  rw [h]
  simp only [List.set_nil]
  rw [sdP]
  split
  · split
    · rename_i h
      simp at h
    · simp
  · simp
theorem pop_step {hs q ys : List Nat} {x v : Nat} (h : HF (ltP r) 0 hs) (hp : hs.Perm (x :: q)) (ho : (x :: q).Pairwise (kst r)) (e : hs = ys ++ [v]) :
    ys.head?.getD v = x ∧ HF (ltP r) 0 (hrP (ltP r) v ys) ∧ (hrP (ltP r) v ys).Perm q := by
  have hroot : ∀ a, hs[0]? = some a → a = x := fun a ha => by
    have hm : a ∈ x :: q := hp.mem_iff.mp (List.mem_of_getElem? ha)
    rcases List.mem_cons.mp hm with rfl | hm
    · rfl
    · have hx : x ∈ hs := hp.mem_iff.mpr (.head _)
      obtain ⟨j, hj, hjx⟩ := List.getElem_of_mem hx
      have h1 := heap_root (ltP_as r) (ltP_nt r) h ha j x (by rw [List.getElem?_eq_getElem hj, hjx])
      have h2 := (List.pairwise_cons.mp ho).1 a hm
      rw [ltP_iff.mpr h2] at h1
      cases h1
  subst e
  cases ys with
  | nil =>
    have e1 := hroot v rfl
    subst e1
    have : q = [] := by
      have := hp.length_eq
      simp at this
      exact this
    subst this
    rw [hrP_nil]
    exact ⟨rfl, fun j a b _ _ ha _ => by simp at ha, List.Perm.refl _⟩
  | cons y0 yr =>
    have e1 := hroot y0 rfl
    subst e1
    have hpre := hf_prefix h
    refine ⟨rfl, hrP_heap (ltP_as r) (ltP_nt r) _ _ (by simp) hpre, ?_⟩
    have h2 := hrP_perm (lt := ltP r) v (y0 :: yr) (by simp)
    have h3 : (yr ++ [v]).Perm q := by
      have : (y0 :: (yr ++ [v])).Perm (y0 :: q) := hp
      exact List.perm_cons _ |>.mp this
    exact h2.trans ((List.perm_append_singleton v yr).symm.trans h3)
end
end Mine
end
section
open PySem PySem.W PyProof.Rows PySem.Calls
set_option maxHeartbeats 8000000
namespace Mine
theorem offL5 : True := by
  w_top off
  trivial
theorem fillL5 (w : World) (x : OpenLaw) (h : PySem.Challenge.rw_ij0057_01 = x) : (Mine.frag.heap_1 w.params) = (Mine.frag.heap_1 w.params) ∧ PySem.Challenge.rw_ij0057_01 = x := by
  k_fill
  exact ⟨rfl, h⟩

theorem strs_of : ∀ {ys : List Value} {ts : List Str}, ys.length = ts.length → (∀ (j : Nat) y, ys[j]? = some y → ∃ t, y = .str (ts.getD j ⟨#[]⟩) t) → ∃ l : List (Str × Tok), ys = strValues l ∧ l.map (·.1) = ts
  | [], [], _, _ => ⟨[], rfl, rfl⟩
  | v :: vs, n :: ns, hl, h => by
    obtain ⟨t, e⟩ := h 0 v rfl
    obtain ⟨l, e1, e2⟩ := strs_of (ys := vs) (ts := ns) (by simpa using hl) fun j y hy => h (j + 1) y hy
    subst e
    exact ⟨(n, t) :: l, by rw [e1]; rfl, by rw [List.map_cons, e2]⟩
  | [], _ :: _, hl, _ => by simp at hl
  | _ :: _, [], hl, _ => by simp at hl
theorem glue_chars (rs : List Nat) : ∀ acc : Array Nat, (rs.map fun r => (⟨#[sgn r]⟩ : Str)).foldl (fun a p => a ++ (⟨#[]⟩ : Str).cps ++ p.cps) acc = acc ++ (rs.map sgn).toArray := by
  induction rs with
  | nil => intro acc; simp
  | cons r t ih =>
    intro acc
    rw [List.map_cons, List.foldl_cons, ih]
    apply Array.toList_inj.mp
    simp
theorem join_chars (rs : List Nat) : Txt.join ⟨#[]⟩ (rs.map fun r => (⟨#[sgn r]⟩ : Str)) = textOf rs := by
  cases rs with
  | nil => rfl
  | cons r t =>
    show (⟨((t.map fun r => (⟨#[sgn r]⟩ : Str)).foldl (fun a p => a ++ (⟨#[]⟩ : Str).cps ++ p.cps) #[sgn r])⟩ : Str) = _
    rw [glue_chars]
    unfold textOf
    congr 1
    apply Array.toList_inj.mp
    simp
theorem join_fits {rs : List Nat} (h : rs.length ≤ 6) : JoinOk ⟨#[]⟩ (rs.map fun r => (⟨#[sgn r]⟩ : Str)) = true := by
  unfold JoinOk
  rw [StrLaws.joinFits (B := 1) (fun y hy => by obtain ⟨r, _, rfl⟩ := List.mem_map.mp hy; exact Nat.le_refl _) (by rw [List.length_map]; show rs.length * 1 + rs.length * 0 ≤ _; (first | lia | omega))]
  rfl

noncomputable def IsLays (h : Heap) (ll : Addr) (fill side width : Nat) (ns : List Int) : Prop :=
  ∃ e ys, h.get? ll = some (listOf (List.toArray ys) e) ∧ ys.length = ns.length ∧ ∀ (j : Nat) y, ys[j]? = some y → ∃ T vs' e', y = .ref T ∧ h.get? T = some (listOf (List.toArray vs') e') ∧ IntsAre vs' ((layP fill side width (ns.getD j 0)).map Int.ofNat)

noncomputable def IsTexts (h : Heap) (tl : Addr) (fill side width : Nat) (ns : List Int) : Prop :=
  ∃ e ys, h.get? tl = some (listOf (List.toArray ys) e) ∧ ys.length = ns.length ∧ ∀ (j : Nat) y, ys[j]? = some y → ∃ t, y = .str (textOf (layP fill side width (ns.getD j 0))) t
theorem IsLays.keeps {h h' : Heap} {ll : Addr} {fill side width : Nat} {ns : List Int} (x : IsLays h ll fill side width ns) (k : ∀ b o, h.get? b = some o → (∀ es n, o.data ≠ .dict es n) → h'.get? b = some o) : IsLays h' ll fill side width ns :=
  let ⟨e, ys, h1, h2, h3⟩ := x
  ⟨e, ys, k _ _ h1 nofun, h2, fun j y hy => let ⟨T, vs', e', a, b, c⟩ := h3 j y hy; ⟨T, vs', e', a, k _ _ b nofun, c⟩⟩
theorem IsTexts.keeps {h h' : Heap} {ll : Addr} {fill side width : Nat} {ns : List Int} (x : IsTexts h ll fill side width ns) (k : ∀ b o, h.get? b = some o → (∀ es n, o.data ≠ .dict es n) → h'.get? b = some o) : IsTexts h' ll fill side width ns :=
  let ⟨e, ys, h1, h2, h3⟩ := x
  ⟨e, ys, k _ _ h1 nofun, h2, h3⟩
theorem ns_ne {h : Heap} {L b : Addr} {o : Obj} {m : Str → Option Value} (hn : h.Ns L m) (e : h.get? b = some o) (hd : ∀ es n, o.data ≠ .dict es n) : b ≠ L := fun q => by
  obtain ⟨o', es, ep, e', hd', _⟩ := hn
  rw [← q, e] at e'
  cases e'
  exact hd _ _ hd'
theorem LSt.keeps {hb hb' : Heap} {L : Addr} {fill side width : Nat} {ns : List Int} {vs : List Value} {D kf : Addr} (x : LSt hb L fill side width ns vs D kf) (k : ∀ b o, hb.get? b = some o → hb'.get? b = some o) : LSt hb' L fill side width ns vs D kf :=
  { x with
    c1 := let ⟨t, y⟩ := x.c1; ⟨t, y.keeps k⟩
    c2 := let ⟨t, y⟩ := x.c2; ⟨t, y.keeps k⟩
    c3 := let ⟨t, y⟩ := x.c3; ⟨t, y.keeps k⟩
    c4 := x.c4.keeps k
    c5 := let ⟨t, y⟩ := x.c5; ⟨t, y.keeps k⟩
    c6 := x.c6.keeps k
    laid := x.laid.keeps k
    num := let ⟨e, y⟩ := x.num; ⟨e, k _ _ y⟩
    tab := let ⟨e, y⟩ := x.tab; ⟨e, k _ _ y⟩ }

section
variable {w : World} {A₀ A : Around} {g hb : Heap} {L fa : Addr} {m : Str → Option Value} {p : Program} {loose : List Str} {mean : ExcName → Option Value} {mg mb : Str → Option Value} {s : Shared}
theorem segB1 {Q : Flow → Shared → Prop} {E : Value → Shared → Prop} (c : LC w A₀ A g L fa p loose mean mg mb) {fill side width wish : Nat} {ns : List Int} {vs : List Value} {D kf : Addr} {t0 : Tok}
    (F : Fr g L s.heap m) (hm1 : m "wish" = some (.int (wish : Int) t0)) (b : LB g hb s.heap L) (st : LSt hb L fill side width ns vs D kf)
    (k : ∀ h' tk m' ll tl, Fr g L h' m' → m' "wish" = some (.int (wish : Int) t0) → m' "layouts" = some (.ref ll) → m' "texts" = some (.ref tl) → LB g hb h' L → IsLays h' ll fill side width ns → IsTexts h' tl fill side width ns →
      wpAny (model PySem.Challenge.rw_ij0057_01.row.prog w) A (execs (lawDef.body.drop 11) (LE L fa)) Q E { s with heap := h', toks := tk }) :
    wpAny (model PySem.Challenge.rw_ij0057_01.row.prog w) A (execs (lawDef.body.drop 9) (LE L fa)) Q E s := by
  obtain ⟨B, X, T, hA, hh, hd, hu⟩ := c
  dsimp only [LE, lawDef, lawDefP, List.drop]
  k_unmd
  (try k_fold)
  have hvn := st.hints.length
  have h12 := st.h12
  obtain ⟨eD, hD⟩ := st.num
  walk1
  refine' assign_comp (cl := [("width", L + 3), ("side", L + 2), ("fill", L + 1)]) (G := fun j y o => ∃ vs' e, o = some (listOf (List.toArray vs') e) ∧ IntsAre vs' ((layP fill side width (ns.getD j 0)).map Int.ofNat)) ?sw ?clos ?cell ?kind ?names ?hy ?hp ?_
  case sw => with_unfolding_all rfl
  case clos => with_unfolding_all rfl
  case cell => decide
  case kind => rfl
  case names => decide
  case hy => rfl
  case hp => rfl
  refine nameX_cell rfl (cell_up st.c4 b.up) ?_
  dsimp only
  refine' comp_listA (fun j y o => ∃ vs' e, o = some (listOf (List.toArray vs') e) ∧ IntsAre vs' ((layP fill side width (ns.getD j 0)).map Int.ofNat)) hh ?hl9 ?hn9 ?hs9 ?ht9 ?turn9 ?done9
  case hl9 => exact ⟨_, b.up _ _ hD, rfl, _, rfl⟩
  case hn9 => exact F.ns
  case hs9 => rw [List.size_toArray]; (first | lia | omega)
  case ht9 => exact fun _ _ => .inl rfl
  case turn9 =>
    rintro g' C i v ⟨h3, gs3, dr3, tk3, os3⟩ m3 rest E' hi hv hk F3 N3
    dsimp only at hv F3 N3 hk
    have gk : ∀ b' o, g.get? b' = some o → g'.get? b' = some o := fun b' o e => hk b' o (b.up b' o (b.gb b' o e))
    have X' := X.keeps gk
    have T' := T.keeps gk
    have hbk : ∀ b' o, hb.get? b' = some o → g'.get? b' = some o := fun b' o e => hk b' o (b.up b' o e)
    obtain ⟨n, t, hn, rfl⟩ := ints_get st.hints (by simpa using hv)
    refine assign1 F3 rfl rfl fun h4 F4 hs4 => ?_
    have N4 := News.same N3 hs4
    clear F3 N3
    obtain ⟨t1, c1⟩ := st.c1
    obtain ⟨t2, c2⟩ := st.c2
    obtain ⟨t3, c3⟩ := st.c3
    replace c1 := cell_up c1 hbk
    replace c2 := cell_up c2 hbk
    replace c3 := cell_up c3 hbk
    dsimp only
    (repeat' ((fail_if_success k_end); (fail_if_success (with_reducible show wpAny _ _ (subscriptTail _ _ (Value.str _ _) (Value.int _ _)) _ _ _)); (fail_if_success (with_reducible show wpAny _ _ (exec (Stmt.For _ _ _ _ _) _) _ _ _)); (fail_if_success (with_reducible show wpAny _ _ (call (Value.ref _) _ _) _ _ _)); (fail_if_success (with_reducible show wpAny _ _ (call (Value.builtin "str.join") _ _) _ _ _)); (fail_if_success (with_reducible show wpAny _ _ (eval (Expr.ListComp _ _ _ _) _) _ _ _)); (fail_if_success (with_reducible show wpAny _ _ (exec (Stmt.Assign _ (Expr.ListComp _ _ _ _) _) _) _ _ _)); first | walk1 | (dsimp only; walk1)))
    have hna : (ns.getD i 0) = n := by rw [List.getD_eq_getElem?_getD, hn]; rfl
    have habs := st.abs n (List.mem_of_getElem? hn)
    refine ⟨X'.keeps F4.keep, ranks_ok (X'.keeps F4.keep) (T'.keeps F4.keep) (by (first | lia | omega)) (by (first | lia | omega)) hh habs st.hside (by have := st.hw2; (first | lia | omega)) fun h6 tk6 D6 vs6 e6 hk6 hD6 hg6 hi6 => ?_⟩
    exact ⟨_, _, _, _, rfl, F4.keeps hk6, news_new F4 (News.keep N4 hk6) hD6 hg6, fun q hq => .tail _ hq, .inr ⟨D6, _, rfl, .head _, fresh_off N4 hD6, vs6, e6, rfl, by rw [hna]; exact hi6⟩⟩
  case done9 =>
    intro _ ll h5 tk5 ys hll hp5 hG5 hns5 hk5
    obtain ⟨e5, hp5⟩ := hp5
    have F5 := fr_up F hns5 hk5
    have b5 := b.step hk5
    have hlay : IsLays h5 ll fill side width ns := by
      refine ⟨e5, ys, hp5, by rw [hG5.1, List.size_toArray, hvn], fun j y hy => ?_⟩
      obtain ⟨hT, vs', e, ho, hi⟩ := hG5.2 j y hy
      cases y with
      | ref T => exact ⟨T, vs', e, rfl, ho, hi⟩
      | _ => cases ho
    clear hG5 hns5 hk5 F
    have hlay' := hlay
    obtain ⟨e5', ys', hll5, hyl, hys⟩ := hlay
    have N5 : News g L h5 [] := fun q hq => nomatch hq
    dsimp only
    walk1
    refine' assign_comp (cl := [("signs", L + 5)]) (G := fun j y _ => ∃ t, y = .str (textOf (layP fill side width (ns.getD j 0))) t) ?sw ?clos ?cell ?kind ?names ?hy ?hp ?_
    case sw => with_unfolding_all rfl
    case clos => with_unfolding_all rfl
    case cell => decide
    case kind => rfl
    case names => decide
    case hy => rfl
    case hp => rfl
    (repeat' ((fail_if_success k_end); (fail_if_success (with_reducible show wpAny _ _ (subscriptTail _ _ (Value.str _ _) (Value.int _ _)) _ _ _)); (fail_if_success (with_reducible show wpAny _ _ (exec (Stmt.For _ _ _ _ _) _) _ _ _)); (fail_if_success (with_reducible show wpAny _ _ (call (Value.ref _) _ _) _ _ _)); (fail_if_success (with_reducible show wpAny _ _ (call (Value.builtin "str.join") _ _) _ _ _)); (fail_if_success (with_reducible show wpAny _ _ (eval (Expr.ListComp _ _ _ _) _) _ _ _)); (fail_if_success (with_reducible show wpAny _ _ (exec (Stmt.Assign _ (Expr.ListComp _ _ _ _) _) _) _ _ _)); first | walk1 | (dsimp only; walk1)))
    refine' comp_listA (fun j y _ => ∃ t, y = .str (textOf (layP fill side width (ns.getD j 0))) t) hh ?hl10 ?hn10 ?hs10 ?ht10 ?turn10 ?done10
    case hl10 => exact ⟨_, hll5, rfl, _, rfl⟩
    case hn10 => exact F5.ns
    case hs10 => rw [List.size_toArray]; (first | lia | omega)
    case ht10 => exact fun _ _ => .inl rfl
    case turn10 =>
      rintro g' C i v ⟨h3, gs3, dr3, tk3, os3⟩ m3 rest E' hi hv hk F3 N3
      dsimp only at hv F3 N3 hk
      have hbk : ∀ b' o, hb.get? b' = some o → g'.get? b' = some o := fun b' o e => hk b' o (b5.up b' o e)
      have gk : ∀ b' o, g.get? b' = some o → g'.get? b' = some o := fun b' o e => hbk b' o (b.gb b' o e)
      have X' := X.keeps gk
      have T' := T.keeps gk
      have hv' : ys'[i]? = some v := by simpa using hv
      obtain ⟨T, vs', e', rfl, hT, hi'⟩ := hys i v hv'
      have hin : i < ns.length := by rw [← hyl]; exact (List.getElem?_eq_some_iff.mp hv').1
      have hna := st.abs (ns.getD i 0) (by rw [getD_lt ns i hin]; exact List.getElem_mem _)
      have hll6 := layP_len (fill := fill) hna st.hw2 st.hside
      have hrk := layP_rk (side := side) (width := width) st.hfill (ns.getD i 0)
      generalize hrs : layP fill side width (ns.getD i 0) = rs at hi' hll6 hrk
      obtain ⟨t5, c5⟩ := st.c5
      replace c5 := cell_up c5 hbk
      refine assign1 F3 rfl rfl fun h4 F4 hs4 => ?_
      have N4 := News.same N3 hs4
      clear F3 N3
      dsimp only
      (repeat' ((fail_if_success k_end); (fail_if_success (with_reducible show wpAny _ _ (subscriptTail _ _ (Value.str _ _) (Value.int _ _)) _ _ _)); (fail_if_success (with_reducible show wpAny _ _ (exec (Stmt.For _ _ _ _ _) _) _ _ _)); (fail_if_success (with_reducible show wpAny _ _ (call (Value.ref _) _ _) _ _ _)); (fail_if_success (with_reducible show wpAny _ _ (call (Value.builtin "str.join") _ _) _ _ _)); (fail_if_success (with_reducible show wpAny _ _ (eval (Expr.ListComp _ _ _ _) _) _ _ _)); (fail_if_success (with_reducible show wpAny _ _ (exec (Stmt.Assign _ (Expr.ListComp _ _ _ _) _) _) _ _ _)); first | walk1 | (dsimp only; walk1)))
      refine' eval_comp (cl := [("signs", L + 5)]) (G := fun j y _ => ∃ t, y = .str ⟨#[sgn (rs.getD j 0)]⟩ t) ?k1 ?k2 ?k3 ?k4 ?_
      case k1 => with_unfolding_all rfl
      case k2 => decide
      case k3 => exact rfl
      case k4 => decide
      (repeat' ((fail_if_success k_end); (fail_if_success (with_reducible show wpAny _ _ (subscriptTail _ _ (Value.str _ _) (Value.int _ _)) _ _ _)); (fail_if_success (with_reducible show wpAny _ _ (exec (Stmt.For _ _ _ _ _) _) _ _ _)); (fail_if_success (with_reducible show wpAny _ _ (call (Value.ref _) _ _) _ _ _)); (fail_if_success (with_reducible show wpAny _ _ (call (Value.builtin "str.join") _ _) _ _ _)); (fail_if_success (with_reducible show wpAny _ _ (eval (Expr.ListComp _ _ _ _) _) _ _ _)); (fail_if_success (with_reducible show wpAny _ _ (exec (Stmt.Assign _ (Expr.ListComp _ _ _ _) _) _) _ _ _)); first | walk1 | (dsimp only; walk1)))
      have hvl : vs'.length = rs.length := by rw [hi'.length, List.length_map]
      refine' comp_listE (fun j y _ => ∃ t, y = .str ⟨#[sgn (rs.getD j 0)]⟩ t) hh ?hli ?hsi ?hti ?turni ?donei
      case hli => exact ⟨_, F4.keep _ _ (hk _ _ hT), rfl, _, rfl⟩
      case hsi => rw [List.size_toArray]; (first | lia | omega)
      case hti => exact fun _ _ => .inl rfl
      case turni =>
        rintro g2 C2 j v2 ⟨h6, gs6, dr6, tk6, os6⟩ m6 rest2 E2 hj hv2 hk2 F6 N6
        dsimp only at hv2 F6 N6 hk2
        have g2k : ∀ b' o, g'.get? b' = some o → g2.get? b' = some o := fun b' o e => hk2 b' o (F4.keep b' o e)
        have c5' := cell_up c5 g2k
        obtain ⟨n2, t2, hn2, rfl⟩ := ints_get hi' (by simpa using hv2)
        rw [List.getElem?_map] at hn2
        obtain ⟨r, hr, rfl⟩ := Option.map_eq_some_iff.mp hn2
        have hr16 := hrk r (List.mem_of_getElem? hr)
        refine assign1 F6 rfl rfl fun h7 F7 hs7 => ?_
        have N7 := News.same N6 hs7
        clear F6 N6 F4 N4
        dsimp only
        (repeat' ((fail_if_success k_end); (fail_if_success (with_reducible show wpAny _ _ (subscriptTail _ _ (Value.str _ _) (Value.int _ _)) _ _ _)); (fail_if_success (with_reducible show wpAny _ _ (exec (Stmt.For _ _ _ _ _) _) _ _ _)); (fail_if_success (with_reducible show wpAny _ _ (call (Value.ref _) _ _) _ _ _)); (fail_if_success (with_reducible show wpAny _ _ (call (Value.builtin "str.join") _ _) _ _ _)); (fail_if_success (with_reducible show wpAny _ _ (eval (Expr.ListComp _ _ _ _) _) _ _ _)); (fail_if_success (with_reducible show wpAny _ _ (exec (Stmt.Assign _ (Expr.ListComp _ _ _ _) _) _) _ _ _)); first | walk1 | (dsimp only; walk1)))
        refine strItem (by show -1000 < (r : Int) - 1 ∧ (r : Int) - 1 < 1000; (first | lia | omega)) (sgn_at r hr16.2 hr16.1) ?_
        refine ⟨_, _, _, _, rfl, F7, N7, fun q hq => hq, .inl ⟨nofun, ?_⟩⟩
        rw [show rs.getD j 0 = r by rw [List.getD_eq_getElem?_getD, hr]; rfl]
        exact ⟨_, rfl⟩
      case donei =>
        intro _ Dj h6 tk6 zs hDj hp6 hG6 hk6
        obtain ⟨e6, hp6⟩ := hp6
        have F6 := F4.keeps hk6
        have N6 := news_new F4 (News.keep N4 hk6) hDj hp6
        obtain ⟨l, hl1, hl2⟩ := strs_of (ts := rs.map fun r => (⟨#[sgn r]⟩ : Str)) (ys := zs) (by rw [hG6.1, List.size_toArray, List.length_map, hvl]) fun j y hy => by
          obtain ⟨_, t, e⟩ := hG6.2 j y hy
          have hj : j < rs.length := by
            have := (List.getElem?_eq_some_iff.mp hy).1
            have := hG6.1
            rw [List.size_toArray] at this
            (first | lia | omega)
          refine ⟨t, e.trans ?_⟩
          rw [List.getD_eq_getElem?_getD, List.getD_eq_getElem?_getD, List.getElem?_map, List.getElem?_eq_getElem hj]
          rfl
        subst hl1
        clear F4 N4 hG6
        dsimp only
        (repeat' ((fail_if_success k_end); (fail_if_success (with_reducible show wpAny _ _ (subscriptTail _ _ (Value.str _ _) (Value.int _ _)) _ _ _)); (fail_if_success (with_reducible show wpAny _ _ (exec (Stmt.For _ _ _ _ _) _) _ _ _)); (fail_if_success (with_reducible show wpAny _ _ (call (Value.ref _) _ _) _ _ _)); (fail_if_success (with_reducible show wpAny _ _ (call (Value.builtin "str.join") _ _) _ _ _)); (fail_if_success (with_reducible show wpAny _ _ (eval (Expr.ListComp _ _ _ _) _) _ _ _)); (fail_if_success (with_reducible show wpAny _ _ (exec (Stmt.Assign _ (Expr.ListComp _ _ _ _) _) _) _ _ _)); first | walk1 | (dsimp only; walk1)))
        refine SC.join (x := ⟨#[]⟩) ⟨_, hp6, rfl, _, rfl⟩ hl2 (join_fits hll6) fun t7 k7 => ?_
        rw [join_chars]
        refine ⟨_, _, _, _, rfl, F6, N6, fun q hq => .tail _ hq, .inl ⟨nofun, ?_⟩⟩
        rw [hrs]
        exact ⟨_, rfl⟩
    case done10 =>
      intro _ tl h6 tk6 zs htl hp6 hG6 hns6 hk6
      obtain ⟨e6, hp6⟩ := hp6
      dsimp only
      refine k h6 _ _ ll tl (fr_up F5 hns6 hk6) hm1 rfl rfl (b5.step hk6) (hlay'.keeps fun b' o e hd => hk6 b' o (ns_ne F5.ns e hd) e) ⟨e6, zs, hp6, by rw [hG6.1, List.size_toArray, hyl], fun j y hy => ?_⟩
      exact (hG6.2 j y hy).2
end
end Mine
end
section
open PySem PySem.W PyProof.Rows PySem.Calls
set_option maxHeartbeats 8000000
namespace Mine
theorem offL6 : True := by
  w_top off
  trivial
theorem fillL6 (w : World) (x : OpenLaw) (h : PySem.Challenge.rw_ij0057_01 = x) : (Mine.frag.heap_1 w.params) = (Mine.frag.heap_1 w.params) ∧ PySem.Challenge.rw_ij0057_01 = x := by
  k_fill
  exact ⟨rfl, h⟩

noncomputable def IsTups (h : Heap) (a : Addr) (ks : Nat → List KD) (pl : List Nat) : Prop :=
  ∃ e vs, h.get? a = some (listOf (List.toArray vs) e) ∧ Tog (fun v i => IsKT h v (ks i)) vs pl
theorem IsKT.keepsT {h h' : Heap} {v : Value} {ks : List KD} (x : IsKT h v ks) (k : ∀ b o, h.get? b = some o → (∀ es n, o.data ≠ .dict es n) → h'.get? b = some o) : IsKT h' v ks :=
  let ⟨a, vs, n, e, ho, r⟩ := x; ⟨a, vs, n, e, k _ _ ho nofun, r⟩
theorem IsTups.keeps {h h' : Heap} {a : Addr} {ks : Nat → List KD} {pl : List Nat} (x : IsTups h a ks pl) (k : ∀ b o, h.get? b = some o → (∀ es n, o.data ≠ .dict es n) → h'.get? b = some o) : IsTups h' a ks pl :=
  let ⟨e, vs, h1, h2⟩ := x
  ⟨e, vs, k _ _ h1 nofun, h2.imp fun _ _ _ _ y => y.keepsT k⟩

theorem IsKT.ii {h : Heap} {v : Value} {a b : Int} (x : IsKT h v [.i a, .i b]) : ∃ T t1 t2 e, v = .ref T ∧ h.get? T = some (seqObj "tuple" (List.toArray [.int a t1, .int b t2]) e) := by
  obtain ⟨T, vs, e, rfl, ho, hk⟩ := x
  cases hk with
  | cons h1 hk => cases hk with
    | cons h2 hk => cases hk with
      | nil =>
        obtain ⟨t1, rfl⟩ := h1
        obtain ⟨t2, rfl⟩ := h2
        exact ⟨T, t1, t2, e, rfl, ho⟩
theorem IsKT.si {h : Heap} {v : Value} {a : Str} {b : Int} (x : IsKT h v [.s a, .i b]) : ∃ T t1 t2 e, v = .ref T ∧ h.get? T = some (seqObj "tuple" (List.toArray [.str a t1, .int b t2]) e) := by
  obtain ⟨T, vs, e, rfl, ho, hk⟩ := x
  cases hk with
  | cons h1 hk => cases hk with
    | cons h2 hk => cases hk with
      | nil =>
        obtain ⟨t1, rfl⟩ := h1
        obtain ⟨t2, rfl⟩ := h2
        exact ⟨T, t1, t2, e, rfl, ho⟩

theorem keep_rest {g h : Heap} {L : Addr} {m : Str → Option Value} (F : Fr g L h m) : ∃ rest, News g L h rest ∧ ∀ h' m', Fr g L h' m' → News g L h' rest → ∀ b o, b ≠ L → h.get? b = some o → h'.get? b = some o := by
  refine ⟨restOf g h L, restOf_news, fun h' m' F' N' b o hb e => ?_⟩
  cases q : g.get? b with
  | none => exact (N' _ (restOf_mem e hb q)).1
  | some o' =>
    have := F.keep b o' q
    rw [e] at this
    cases this
    exact F'.keep b o q

section
variable {w : World} {A₀ A : Around} {g hb : Heap} {L fa : Addr} {m : Str → Option Value} {p : Program} {loose : List Str} {mean : ExcName → Option Value} {mg mb : Str → Option Value} {s : Shared}
theorem segB2 {Q : Flow → Shared → Prop} {E : Value → Shared → Prop} (c : LC w A₀ A g L fa p loose mean mg mb) {fill side width wish : Nat} {ns : List Int} {vs : List Value} {D kf ll tl : Addr} {t0 : Tok}
    (F : Fr g L s.heap m) (hm1 : m "wish" = some (.int (wish : Int) t0)) (hm2 : m "layouts" = some (.ref ll)) (hm3 : m "texts" = some (.ref tl)) (b : LB g hb s.heap L) (st : LSt hb L fill side width ns vs D kf)
    (hlay : IsLays s.heap ll fill side width ns) (htx : IsTexts s.heap tl fill side width ns)
    (k : ∀ h' tk m' td rw bk p p', Fr g L h' m' → m' "wish" = some (.int (wish : Int) t0) → m' "texts" = some (.ref tl) → m' "told" = some (.ref td) → m' "row" = some (.ref rw) → m' "back" = some (.ref bk) → LB g hb h' L → IsTexts h' tl fill side width ns →
      IsTups h' td (kT fill side width ns) (List.range ns.length) → IsTups h' rw (kT fill side width ns) p → IsTups h' bk (kB fill side width ns) p' → SortedBy (kT fill side width ns) ns.length p → SortedBy (kB fill side width ns) ns.length p' → g.get? td = none → td ≠ rw → td ≠ bk → hb.get? td = none → td ≠ tl →
      wpAny (model PySem.Challenge.rw_ij0057_01.row.prog w) A (execs (lawDef.body.drop 14) (LE L fa)) Q E { s with heap := h', toks := tk }) :
    wpAny (model PySem.Challenge.rw_ij0057_01.row.prog w) A (execs (lawDef.body.drop 11) (LE L fa)) Q E s := by
  obtain ⟨B, X, T, hA, hh, hd, hu⟩ := c
  dsimp only [LE, lawDef, lawDefP, List.drop]
  k_unmd
  (try k_fold)
  have h12 := st.h12
  have h6' := st.h6
  have hlay' := hlay
  obtain ⟨el, yl, hll, hyl, hys⟩ := hlay
  have N : News g L s.heap [] := fun q hq => nomatch hq
  walk1
  refine' assign_comp (cl := []) (G := fun j y o => ∃ t1 t2 e, o = some (seqObj "tuple" (List.toArray [.int (rdI fill side width ns j) t1, .int (j : Int) t2]) e)) ?sw ?clos ?cell ?kind ?names ?hy ?hp ?_
  case sw => with_unfolding_all rfl
  case clos => with_unfolding_all rfl
  case cell => decide
  case kind => rfl
  case names => decide
  case hy => rfl
  case hp => rfl
  (repeat' ((fail_if_success k_end); (fail_if_success (with_reducible show wpAny _ _ (subscriptTail _ _ (Value.str _ _) (Value.int _ _)) _ _ _)); (fail_if_success (with_reducible show wpAny _ _ (exec (Stmt.For _ _ _ _ _) _) _ _ _)); (fail_if_success (with_reducible show wpAny _ _ (call (Value.ref _) _ _) _ _ _)); (fail_if_success (with_reducible show wpAny _ _ (call (Value.builtin "str.join") _ _) _ _ _)); (fail_if_success (with_reducible show wpAny _ _ (call (Value.type "enumerate") _ _) _ _ _)); (fail_if_success (with_reducible show wpAny _ _ (call (Value.builtin "sorted") _ _) _ _ _)); (fail_if_success (with_reducible show wpAny _ _ (call (Value.builtin "iter") _ _) _ _ _)); (fail_if_success (with_reducible show wpAny _ _ (compareOp _ (Value.ref _) (Value.ref _)) _ _ _)); (fail_if_success (with_reducible show wpAny _ _ (subscriptTail _ _ (Value.ref _) _) _ _ _)); (fail_if_success (with_reducible show wpAny _ _ (eval (Expr.ListComp _ _ _ _) _) _ _ _)); (fail_if_success (with_reducible show wpAny _ _ (exec (Stmt.Assign _ (Expr.ListComp _ _ _ _) _) _) _ _ _)); first | walk1 | (dsimp only; walk1)))
  refine' comp_enumA (fun j y o => ∃ t1 t2 e, o = some (seqObj "tuple" (List.toArray [.int (rdI fill side width ns j) t1, .int (j : Int) t2]) e)) hh ?hl11 ?hn11 ?hs11 ?turn11 ?done11
  case hl11 => exact hll
  case hn11 => exact F.ns
  case hs11 => rw [List.size_toArray]; (first | lia | omega)
  case turn11 =>
    rintro g' C i v ⟨h3, gs3, dr3, tk3, os3⟩ m3 rest E' hi ⟨Tt, tt, x, rfl, hx, hT⟩ hk F3 N3
    dsimp only at hT F3 N3 hk
    have gk : ∀ b' o, g.get? b' = some o → g'.get? b' = some o := fun b' o e => hk b' o (b.up b' o (b.gb b' o e))
    have X' := X.keeps gk
    have T' := T.keeps gk
    have hv' : yl[i]? = some x := by simpa using hx
    obtain ⟨T1, vs', e', rfl, hT1, hi'⟩ := hys i x hv'
    have hin : i < ns.length := by rw [← hyl]; exact (List.getElem?_eq_some_iff.mp hv').1
    have hl := lay_ok (fill := fill) (side := side) (width := width) st.hfill st.hside st.hw2 st.abs hin
    refine assign2 hh F3 N3 hT rfl rfl rfl fun h4 tk4 F4 N4 hk4 => ?_
    clear F3 N3
    dsimp only
    (repeat' ((fail_if_success k_end); (fail_if_success (with_reducible show wpAny _ _ (subscriptTail _ _ (Value.str _ _) (Value.int _ _)) _ _ _)); (fail_if_success (with_reducible show wpAny _ _ (exec (Stmt.For _ _ _ _ _) _) _ _ _)); (fail_if_success (with_reducible show wpAny _ _ (call (Value.ref _) _ _) _ _ _)); (fail_if_success (with_reducible show wpAny _ _ (call (Value.builtin "str.join") _ _) _ _ _)); (fail_if_success (with_reducible show wpAny _ _ (call (Value.type "enumerate") _ _) _ _ _)); (fail_if_success (with_reducible show wpAny _ _ (call (Value.builtin "sorted") _ _) _ _ _)); (fail_if_success (with_reducible show wpAny _ _ (call (Value.builtin "iter") _ _) _ _ _)); (fail_if_success (with_reducible show wpAny _ _ (compareOp _ (Value.ref _) (Value.ref _)) _ _ _)); (fail_if_success (with_reducible show wpAny _ _ (subscriptTail _ _ (Value.ref _) _) _ _ _)); (fail_if_success (with_reducible show wpAny _ _ (eval (Expr.ListComp _ _ _ _) _) _ _ _)); (fail_if_success (with_reducible show wpAny _ _ (exec (Stmt.Assign _ (Expr.ListComp _ _ _ _) _) _) _ _ _)); first | walk1 | (dsimp only; walk1)))
    refine ⟨X'.keeps F4.keep, read_ok (X'.keeps F4.keep) (T'.keeps F4.keep) hh (F4.keep _ _ (hk _ _ hT1)) hi' hl.1 (fun r hr => by have := hl.2 r hr; (first | lia | omega)) (by (first | lia | omega)) (by (first | lia | omega)) fun h7 tk7 t7 hk7 => ?_⟩
    have F7 := F4.keeps hk7
    have N7 := News.keep N4 hk7
    clear F4 N4
    dsimp only
    (repeat' ((fail_if_success k_end); (fail_if_success (with_reducible show wpAny _ _ (subscriptTail _ _ (Value.str _ _) (Value.int _ _)) _ _ _)); (fail_if_success (with_reducible show wpAny _ _ (exec (Stmt.For _ _ _ _ _) _) _ _ _)); (fail_if_success (with_reducible show wpAny _ _ (call (Value.ref _) _ _) _ _ _)); (fail_if_success (with_reducible show wpAny _ _ (call (Value.builtin "str.join") _ _) _ _ _)); (fail_if_success (with_reducible show wpAny _ _ (call (Value.type "enumerate") _ _) _ _ _)); (fail_if_success (with_reducible show wpAny _ _ (call (Value.builtin "sorted") _ _) _ _ _)); (fail_if_success (with_reducible show wpAny _ _ (call (Value.builtin "iter") _ _) _ _ _)); (fail_if_success (with_reducible show wpAny _ _ (compareOp _ (Value.ref _) (Value.ref _)) _ _ _)); (fail_if_success (with_reducible show wpAny _ _ (subscriptTail _ _ (Value.ref _) _) _ _ _)); (fail_if_success (with_reducible show wpAny _ _ (eval (Expr.ListComp _ _ _ _) _) _ _ _)); (fail_if_success (with_reducible show wpAny _ _ (exec (Stmt.Assign _ (Expr.ListComp _ _ _ _) _) _) _ _ _)); first | walk1 | (dsimp only; walk1)))
    rename_i D8 h8 F8 N8 l8
    exact ⟨h8, _, _, _, rfl, F8, N8, fun q hq => .tail _ hq, .inr ⟨D8, _, rfl, .head _, fun q hq => Nat.ne_of_lt (l8 q hq), _, _, 0, rfl⟩⟩
  case done11 =>
    intro _ td h5 tk5 ys htd hp5 hG5 hns5 hk5
    obtain ⟨e5, hp5⟩ := hp5
    have F5 := fr_up F hns5 hk5
    have b5 := b.step hk5
    have hyl5 : ys.length = ns.length := by rw [hG5.1, List.size_toArray, hyl]
    have hkt5 : ∀ j v, ys[j]? = some v → IsKT h5 v (kT fill side width ns j) := fun j v hv => by
      obtain ⟨_, t1, t2, e, ho⟩ := hG5.2 j v hv
      cases v with
      | ref T => exact ⟨T, _, e, rfl, ho, .cons ⟨t1, rfl⟩ (.cons ⟨t2, rfl⟩ .nil)⟩
      | _ => cases ho
    have htd5 : IsTups h5 td (kT fill side width ns) (List.range ns.length) := ⟨e5, ys, hp5, Tog.of_get (by rw [hyl5, List.length_range]) fun j v i hv hi => by
      have hj : j < ns.length := by rw [← hyl5]; exact (List.getElem?_eq_some_iff.mp hv).1
      rw [List.getElem?_range hj] at hi
      cases hi
      exact hkt5 j v hv⟩
    have htx5 := htx.keeps fun b' o e hd => hk5 b' o (ns_ne F.ns e hd) e
    have htdg := none_of F htd
    have htdtl : td ≠ tl := fun q => by
      obtain ⟨_, _, e, _⟩ := htx
      rw [← q, htd] at e
      cases e
    have htdb : hb.get? td = none := kts_none b.up htd
    clear hG5 hns5 hk5 F
    have N5 : News g L h5 [] := fun q hq => nomatch hq
    dsimp only
    (repeat' ((fail_if_success k_end); (fail_if_success (with_reducible show wpAny _ _ (subscriptTail _ _ (Value.str _ _) (Value.int _ _)) _ _ _)); (fail_if_success (with_reducible show wpAny _ _ (exec (Stmt.For _ _ _ _ _) _) _ _ _)); (fail_if_success (with_reducible show wpAny _ _ (call (Value.ref _) _ _) _ _ _)); (fail_if_success (with_reducible show wpAny _ _ (call (Value.builtin "str.join") _ _) _ _ _)); (fail_if_success (with_reducible show wpAny _ _ (call (Value.type "enumerate") _ _) _ _ _)); (fail_if_success (with_reducible show wpAny _ _ (call (Value.builtin "sorted") _ _) _ _ _)); (fail_if_success (with_reducible show wpAny _ _ (call (Value.builtin "iter") _ _) _ _ _)); (fail_if_success (with_reducible show wpAny _ _ (compareOp _ (Value.ref _) (Value.ref _)) _ _ _)); (fail_if_success (with_reducible show wpAny _ _ (subscriptTail _ _ (Value.ref _) _) _ _ _)); (fail_if_success (with_reducible show wpAny _ _ (eval (Expr.ListComp _ _ _ _) _) _ _ _)); (fail_if_success (with_reducible show wpAny _ _ (exec (Stmt.Assign _ (Expr.ListComp _ _ _ _) _) _) _ _ _)); first | walk1 | (dsimp only; walk1)))
    refine sorted_ok (L := L) (ks := kT fill side width ns) F5.ns hp5 (by (first | lia | omega)) (by (first | lia | omega)) hkt5 (fun j _ => by simp [kT]) (fun i j _ _ => rfl) fun p rw c6 h6 hsp hns6 hrw0 hrw hk6 => ?_
    refine wpAny_storeName_local rfl hns6 (fun h7 hns7 hs7 => ?_) rfl
    have hk7 : ∀ b o, b ≠ L → h5.get? b = some o → h7.get? b = some o := fun b o hb e => hs7.extBut b o hb (hk6 b o hb e)
    have hrwL : rw ≠ L := ns_ne hns6 hrw nofun
    have hrw7 := hs7.extBut _ _ hrwL hrw
    have F7 := fr_up F5 hns7 hk7
    have b7 := b5.step hk7
    have kd7 : ∀ b o, h5.get? b = some o → (∀ es n, o.data ≠ .dict es n) → h7.get? b = some o := fun b o e hd => hk7 b o (ns_ne F5.ns e hd) e
    have htd7 := htd5.keeps kd7
    have htx7 := htx5.keeps kd7
    rw [hyl5] at hsp
    have hpn : ∀ x ∈ p, x < ns.length := fun x hx => List.mem_range.mp (hsp.1.mem_iff.mp hx)
    have hrow7 : IsTups h7 rw (kT fill side width ns) p := ⟨c6, _, hrw7, by
      obtain ⟨_, _, e1, htog⟩ := htd5
      have h1 := Tog.of_get (R := fun v i => IsKT h5 v (kT fill side width ns i)) (xs := ys) (ys := List.range ns.length) (by rw [hyl5, List.length_range]) fun j v i hv hi => by
        have hj : j < ns.length := by rw [← hyl5]; exact (List.getElem?_eq_some_iff.mp hv).1
        rw [List.getElem?_range hj] at hi
        cases hi
        exact hkt5 j v hv
      have h2 := (h1.pick p (fun x hx => by rw [hyl5]; exact hpn x hx) Value.none 0).imp fun v i _ _ y => y.keepsT kd7
      have h3 : (p.map fun i => (List.range ns.length).getD i 0) = p := by
        have : ∀ i ∈ p, (List.range ns.length).getD i 0 = i := fun i hi => by
          rw [List.getD_eq_getElem?_getD, List.getElem?_range (hpn i hi)]
          rfl
        rw [List.map_congr_left this]
        exact List.map_id p
      rw [h3] at h2
      exact h2⟩
    have htdrw : td ≠ rw := fun q => by rw [← q, hp5] at hrw0; cases hrw0
    have hkt7 : ∀ j v, ys[j]? = some v → IsKT h7 v (kT fill side width ns j) := fun j v hv => (hkt5 j v hv).keepsT kd7
    have hp7 := kd7 _ _ hp5 nofun
    have N7 : News g L h7 [] := fun q hq => nomatch hq
    clear F5 N5 hns6 hns7 hs7 hk7 hkt5 htd5 htx5 hk6 b5 kd7 hp5
    dsimp only
    (repeat' ((fail_if_success k_end); (fail_if_success (with_reducible show wpAny _ _ (subscriptTail _ _ (Value.str _ _) (Value.int _ _)) _ _ _)); (fail_if_success (with_reducible show wpAny _ _ (exec (Stmt.For _ _ _ _ _) _) _ _ _)); (fail_if_success (with_reducible show wpAny _ _ (call (Value.ref _) _ _) _ _ _)); (fail_if_success (with_reducible show wpAny _ _ (call (Value.builtin "str.join") _ _) _ _ _)); (fail_if_success (with_reducible show wpAny _ _ (call (Value.type "enumerate") _ _) _ _ _)); (fail_if_success (with_reducible show wpAny _ _ (call (Value.builtin "sorted") _ _) _ _ _)); (fail_if_success (with_reducible show wpAny _ _ (call (Value.builtin "iter") _ _) _ _ _)); (fail_if_success (with_reducible show wpAny _ _ (compareOp _ (Value.ref _) (Value.ref _)) _ _ _)); (fail_if_success (with_reducible show wpAny _ _ (subscriptTail _ _ (Value.ref _) _) _ _ _)); (fail_if_success (with_reducible show wpAny _ _ (eval (Expr.ListComp _ _ _ _) _) _ _ _)); (fail_if_success (with_reducible show wpAny _ _ (exec (Stmt.Assign _ (Expr.ListComp _ _ _ _) _) _) _ _ _)); first | walk1 | (dsimp only; walk1)))
    refine' eval_comp (cl := []) (G := fun j y o => ∃ t1 t2 e, o = some (seqObj "tuple" (List.toArray [.int (-(rdI fill side width ns j)) t1, .int (j : Int) t2]) e)) ?k1 ?k2 ?k3 ?k4 ?_
    case k1 => with_unfolding_all rfl
    case k2 => decide
    case k3 => exact rfl
    case k4 => decide
    (repeat' ((fail_if_success k_end); (fail_if_success (with_reducible show wpAny _ _ (subscriptTail _ _ (Value.str _ _) (Value.int _ _)) _ _ _)); (fail_if_success (with_reducible show wpAny _ _ (exec (Stmt.For _ _ _ _ _) _) _ _ _)); (fail_if_success (with_reducible show wpAny _ _ (call (Value.ref _) _ _) _ _ _)); (fail_if_success (with_reducible show wpAny _ _ (call (Value.builtin "str.join") _ _) _ _ _)); (fail_if_success (with_reducible show wpAny _ _ (call (Value.type "enumerate") _ _) _ _ _)); (fail_if_success (with_reducible show wpAny _ _ (call (Value.builtin "sorted") _ _) _ _ _)); (fail_if_success (with_reducible show wpAny _ _ (call (Value.builtin "iter") _ _) _ _ _)); (fail_if_success (with_reducible show wpAny _ _ (compareOp _ (Value.ref _) (Value.ref _)) _ _ _)); (fail_if_success (with_reducible show wpAny _ _ (subscriptTail _ _ (Value.ref _) _) _ _ _)); (fail_if_success (with_reducible show wpAny _ _ (eval (Expr.ListComp _ _ _ _) _) _ _ _)); (fail_if_success (with_reducible show wpAny _ _ (exec (Stmt.Assign _ (Expr.ListComp _ _ _ _) _) _) _ _ _)); first | walk1 | (dsimp only; walk1)))
    refine' comp_listE (fun j y o => ∃ t1 t2 e, o = some (seqObj "tuple" (List.toArray [.int (-(rdI fill side width ns j)) t1, .int (j : Int) t2]) e)) hh ?hl13 ?hs13 ?ht13 ?turn13 ?done13
    case hl13 => exact ⟨_, hp7, rfl, _, rfl⟩
    case hs13 => rw [List.size_toArray]; (first | lia | omega)
    case ht13 => exact fun _ _ => .inr ⟨_, _, _, rfl⟩
    case turn13 =>
      rintro g' C i v ⟨h3, gs3, dr3, tk3, os3⟩ m3 rest E' hi hv hk F3 N3
      dsimp only at hv F3 N3 hk
      have gk : ∀ b' o, g.get? b' = some o → g'.get? b' = some o := fun b' o e => hk b' o (b7.up b' o (b.gb b' o e))
      have X' := X.keeps gk
      have T' := T.keeps gk
      obtain ⟨T1, t1, t2, e1, rfl, hT1⟩ := (hkt7 i v (by simpa using hv)).ii
      refine assign2 hh F3 N3 ⟨_, F3.keep _ _ (hk _ _ hT1), rfl, _, rfl⟩ rfl rfl rfl fun h4 tk4 F4 N4 hk4 => ?_
      clear F3 N3
      dsimp only
      (repeat' ((fail_if_success k_end); (fail_if_success (with_reducible show wpAny _ _ (subscriptTail _ _ (Value.str _ _) (Value.int _ _)) _ _ _)); (fail_if_success (with_reducible show wpAny _ _ (exec (Stmt.For _ _ _ _ _) _) _ _ _)); (fail_if_success (with_reducible show wpAny _ _ (call (Value.ref _) _ _) _ _ _)); (fail_if_success (with_reducible show wpAny _ _ (call (Value.builtin "str.join") _ _) _ _ _)); (fail_if_success (with_reducible show wpAny _ _ (call (Value.type "enumerate") _ _) _ _ _)); (fail_if_success (with_reducible show wpAny _ _ (call (Value.builtin "sorted") _ _) _ _ _)); (fail_if_success (with_reducible show wpAny _ _ (call (Value.builtin "iter") _ _) _ _ _)); (fail_if_success (with_reducible show wpAny _ _ (compareOp _ (Value.ref _) (Value.ref _)) _ _ _)); (fail_if_success (with_reducible show wpAny _ _ (subscriptTail _ _ (Value.ref _) _) _ _ _)); (fail_if_success (with_reducible show wpAny _ _ (eval (Expr.ListComp _ _ _ _) _) _ _ _)); (fail_if_success (with_reducible show wpAny _ _ (exec (Stmt.Assign _ (Expr.ListComp _ _ _ _) _) _) _ _ _)); first | walk1 | (dsimp only; walk1)))
      rename_i D8 h8 F8 N8 l8
      exact ⟨h8, _, _, _, rfl, F8, N8, fun q hq => .tail _ hq, .inr ⟨D8, _, rfl, .head _, fun q hq => Nat.ne_of_lt (l8 q hq), _, _, 0, rfl⟩⟩
    case done13 =>
      intro _ bl h8 tk8 zs hbl hp8 hG8 hk8
      obtain ⟨e8, hp8⟩ := hp8
      have F8 := F7.keeps hk8
      have N8 : News g L h8 [] := fun q hq => nomatch hq
      have hzl : zs.length = ns.length := by rw [hG8.1, List.size_toArray, hyl5]
      have hkt8 : ∀ j v, zs[j]? = some v → IsKT h8 v (kB fill side width ns j) := fun j v hv => by
        obtain ⟨_, t1, t2, e, ho⟩ := hG8.2 j v hv
        cases v with
        | ref T => exact ⟨T, _, e, rfl, ho, .cons ⟨t1, rfl⟩ (.cons ⟨t2, rfl⟩ .nil)⟩
        | _ => cases ho
      clear hG8 N7
      dsimp only
      (repeat' ((fail_if_success k_end); (fail_if_success (with_reducible show wpAny _ _ (subscriptTail _ _ (Value.str _ _) (Value.int _ _)) _ _ _)); (fail_if_success (with_reducible show wpAny _ _ (exec (Stmt.For _ _ _ _ _) _) _ _ _)); (fail_if_success (with_reducible show wpAny _ _ (call (Value.ref _) _ _) _ _ _)); (fail_if_success (with_reducible show wpAny _ _ (call (Value.builtin "str.join") _ _) _ _ _)); (fail_if_success (with_reducible show wpAny _ _ (call (Value.type "enumerate") _ _) _ _ _)); (fail_if_success (with_reducible show wpAny _ _ (call (Value.builtin "sorted") _ _) _ _ _)); (fail_if_success (with_reducible show wpAny _ _ (call (Value.builtin "iter") _ _) _ _ _)); (fail_if_success (with_reducible show wpAny _ _ (compareOp _ (Value.ref _) (Value.ref _)) _ _ _)); (fail_if_success (with_reducible show wpAny _ _ (subscriptTail _ _ (Value.ref _) _) _ _ _)); (fail_if_success (with_reducible show wpAny _ _ (eval (Expr.ListComp _ _ _ _) _) _ _ _)); (fail_if_success (with_reducible show wpAny _ _ (exec (Stmt.Assign _ (Expr.ListComp _ _ _ _) _) _) _ _ _)); first | walk1 | (dsimp only; walk1)))
      refine sorted_ok (L := L) (ks := kB fill side width ns) F8.ns hp8 (by (first | lia | omega)) (by (first | lia | omega)) hkt8 (fun j _ => by simp [kB]) (fun i j _ _ => rfl) fun p' bk c9 h9 hsp' hns9 hbk0 hbk hk9 => ?_
      refine wpAny_storeName_local rfl hns9 (fun h10 hns10 hs10 => ?_) rfl
      have hk10 : ∀ b o, b ≠ L → h7.get? b = some o → h10.get? b = some o := fun b o hb e => hs10.extBut b o hb (hk9 b o hb (hk8 b o e))
      have kd10 : ∀ b o, h7.get? b = some o → (∀ es n, o.data ≠ .dict es n) → h10.get? b = some o := fun b o e hd => hk10 b o (ns_ne F7.ns e hd) e
      have kd8 : ∀ b o, h8.get? b = some o → (∀ es n, o.data ≠ .dict es n) → h10.get? b = some o := fun b o e hd => hs10.extBut b o (ns_ne F8.ns e hd) (hk9 b o (ns_ne F8.ns e hd) e)
      have hbkL : bk ≠ L := ns_ne hns9 hbk nofun
      have hbk10 := hs10.extBut _ _ hbkL hbk
      rw [hzl] at hsp'
      have hpn' : ∀ x ∈ p', x < ns.length := fun x hx => List.mem_range.mp (hsp'.1.mem_iff.mp hx)
      have hback : IsTups h10 bk (kB fill side width ns) p' := ⟨c9, _, hbk10, by
        have h1 := Tog.of_get (R := fun v i => IsKT h8 v (kB fill side width ns i)) (xs := zs) (ys := List.range ns.length) (by rw [hzl, List.length_range]) fun j v i hv hi => by
          have hj : j < ns.length := by rw [← hzl]; exact (List.getElem?_eq_some_iff.mp hv).1
          rw [List.getElem?_range hj] at hi
          cases hi
          exact hkt8 j v hv
        have h2 := (h1.pick p' (fun x hx => by rw [hzl]; exact hpn' x hx) Value.none 0).imp fun v i _ _ y => y.keepsT kd8
        have h3 : (p'.map fun i => (List.range ns.length).getD i 0) = p' := by
          have : ∀ i ∈ p', (List.range ns.length).getD i 0 = i := fun i hi => by
            rw [List.getD_eq_getElem?_getD, List.getElem?_range (hpn' i hi)]
            rfl
          rw [List.map_congr_left this]
          exact List.map_id p'
        rw [h3] at h2
        exact h2⟩
      have htdbk : td ≠ bk := fun q => by
        have e1 := hk8 _ _ hp7
        rw [q] at e1
        have hbk0 : h8.get? bk = none := hbk0
        rw [hbk0] at e1; cases e1
      dsimp only
      exact k h10 _ _ td rw bk p p' (fr_up F7 hns10 hk10) hm1 hm3 rfl rfl rfl (b7.step hk10) (htx7.keeps kd10) (htd7.keeps kd10) (hrow7.keeps kd10) hback hsp hsp' htdg htdrw htdbk htdb htdtl
end
end Mine
end
section
open PySem PySem.W PyProof.Rows PySem.Calls
set_option maxHeartbeats 8000000
namespace Mine
theorem offL7 : True := by
  w_top off
  trivial
theorem fillL7 (w : World) (x : OpenLaw) (h : PySem.Challenge.rw_ij0057_01 = x) : (Mine.frag.heap_1 w.params) = (Mine.frag.heap_1 w.params) ∧ PySem.Challenge.rw_ij0057_01 = x := by
  k_fill
  exact ⟨rfl, h⟩

section
variable {prog : Program} {w : World} {A : Around} {E : Value → Shared → Prop} {s : Shared}
theorem itemI {a : Addr} {xs : List Value} {j : Nat} {k : Int} {t : Tok} {v : Value} {value slice : Expr} {Q : Value → Shared → Prop} (hl : s.heap.IsList a xs.toArray) (hk : k = (j : Int)) (hx : xs[j]? = some v) (hj : j < 2 ^ 63) (h : Q v s)
    (hs : subscripted slice false (.ref a) (.int k t) = operate [.ref a, .int k t] (getItem (.ref a) (.int k t)) := by with_unfolding_all rfl) :
    wpAny (model prog w) A (subscriptTail value slice (.ref a) (.int k t)) Q E s := by
  subst hk
  exact tail_any hl.typeIs slot_list_getitem.lookup (wpAny_getItem_list hl (by (first | lia | omega)) (by (first | lia | omega)) (by simpa using hx) h) hs
end

section
variable {w : World} {A : Around} {hb : Heap} {L : Addr} {fill side width : Nat} {ns : List Int} {vs : List Value} {D kf : Addr} {p : Program} {loose : List Str} {mean : ExcName → Option Value} {mg mb : Str → Option Value}
theorem LSt.key (st : LSt hb L fill side width ns vs D kf) (X : (Mine.frag.heap_1 w.params).In hb) (T : Top p loose mean mg mb hb) : ∀ j v, vs[j]? = some v → KeyOk w hb (.ref kf) v (textOf (layP fill side width (ns.getD j 0))) := fun j v hv => by
  obtain ⟨n, t, hn, rfl⟩ := ints_get st.hints hv
  obtain ⟨h1, h2, h3, h4⟩ := spec_ok st.hfill st.hside st.hw1 st.hw2
  have hna : ns.getD j 0 = n := by rw [List.getD_eq_getElem?_getD, hn]; rfl
  have habs := st.abs n (List.mem_of_getElem? hn)
  rw [hna, ← text_eq st.hside]
  refine laid_key X T st.laid h1 h2 h3 h4 (Nat.lt_of_lt_of_le habs ?_)
  have : (100000 : Nat) = 10 ^ 5 := by decide
  rw [this]
  exact Nat.pow_le_pow_right (by decide) (by decide)
theorem LSt.fn (st : LSt hb L fill side width ns vs D kf) : FnAt kf hb := by
  obtain ⟨qual, pm, ctv, c', cs, cw, os, ow, tsp, wr, dx, a1, _⟩ := st.laid.it
  exact ⟨_, _, _, _, a1⟩
end

section
variable {w : World} {A₀ A : Around} {g hb : Heap} {L fa : Addr} {m : Str → Option Value} {p : Program} {loose : List Str} {mean : ExcName → Option Value} {mg mb : Str → Option Value} {s : Shared}
theorem segC {Q : Flow → Shared → Prop} {E : Value → Shared → Prop} (c : LC w A₀ A g L fa p loose mean mg mb) {fill side width wish : Nat} {ns : List Int} {vs : List Value} {D kf rw : Addr} {t0 : Tok} {pl : List Nat}
    (F : Fr g L s.heap m) (hm1 : m "wish" = some (.int (wish : Int) t0)) (hm2 : m "row" = some (.ref rw)) (b : LB g hb s.heap L) (st : LSt hb L fill side width ns vs D kf) (hwish : wish < ns.length + 2)
    (hrow : IsTups s.heap rw (kT fill side width ns) pl) (hpl : SortedBy (kT fill side width ns) ns.length pl)
    (k : ∀ h' tk, Fr g L h' m → (∀ b o, b ≠ L → s.heap.get? b = some o → h'.get? b = some o) → wpAny (model PySem.Challenge.rw_ij0057_01.row.prog w) A (execs (lawDef.body.drop 15) (LE L fa)) Q E { s with heap := h', toks := tk }) :
    wpAny (model PySem.Challenge.rw_ij0057_01.row.prog w) A (execs (lawDef.body.drop 14) (LE L fa)) Q E s := by
  have cx := c.cx F
  obtain ⟨B, X, T, hA, hh, hd, hu⟩ := c
  have XB := X.keeps b.gb
  have TB := T.keeps b.gb
  dsimp only [LE, lawDef, lawDefP, List.drop]
  k_unmd
  (try k_fold)
  have h12 := st.h12
  have h6' := st.h6
  obtain ⟨eD, hD⟩ := st.num
  have c4 := st.c4
  have c6 := st.c6
  have N : News g L s.heap [] := fun q hq => nomatch hq
  walk1
  refine wpAny_If ?_
  (repeat' ((fail_if_success k_end); (fail_if_success (with_reducible show wpAny _ _ (subscriptTail _ _ (Value.str _ _) (Value.int _ _)) _ _ _)); (fail_if_success (with_reducible show wpAny _ _ (exec (Stmt.For _ _ _ _ _) _) _ _ _)); (fail_if_success (with_reducible show wpAny _ _ (call (Value.ref _) _ _) _ _ _)); (fail_if_success (with_reducible show wpAny _ _ (call (Value.builtin "str.join") _ _) _ _ _)); (fail_if_success (with_reducible show wpAny _ _ (call (Value.type "enumerate") _ _) _ _ _)); (fail_if_success (with_reducible show wpAny _ _ (call (Value.builtin "sorted") _ _) _ _ _)); (fail_if_success (with_reducible show wpAny _ _ (call (Value.builtin "iter") _ _) _ _ _)); (fail_if_success (with_reducible show wpAny _ _ (compareOp _ (Value.ref _) (Value.ref _)) _ _ _)); (fail_if_success (with_reducible show wpAny _ _ (subscriptTail _ _ (Value.ref _) (Value.int _ _)) _ _ _)); (fail_if_success (with_reducible show wpAny _ _ (eval (Expr.ListComp _ _ _ _) _) _ _ _)); (fail_if_success (with_reducible show wpAny _ _ (exec (Stmt.Assign _ (Expr.ListComp _ _ _ _) _) _) _ _ _)); first | walk1 | (dsimp only; walk1)))
  refine ⟨X.keeps F.keep, nsmallest_ok cx (fun j => textOf (layP fill side width (ns.getD j 0))) (b.up _ _ hD) st.hints st.h6 (by (first | lia | omega)) (by (first | lia | omega)) (fun j v hv => (st.key XB TB j v hv).grow b.up) (rkI fill side width ns)
    (fun i j hi hj => slt_rk st.hfill st.hside st.hw2 st.abs hi hj) (FnAt.mv st.fn b.up) (by (first | lia | omega)) (by (first | lia | omega)) fun ρ D1 e1 h1 tk1 vs1 hρ hρl hk1 hI1 hD1 hD10 => ?_⟩
  have F1 := F.keeps hk1
  have b1 := b.step fun b' o _ e => hk1 b' o e
  obtain ⟨er, vr, hrw, htog⟩ := hrow
  have hrw1 := hk1 _ _ hrw
  have hD1L : D1 ≠ L := fresh_ne F hD10
  obtain ⟨rest1, R1, K1⟩ := keep_rest F1
  try dsimp only
  (repeat' ((fail_if_success k_end); (fail_if_success (with_reducible show wpAny _ _ (subscriptTail _ _ (Value.str _ _) (Value.int _ _)) _ _ _)); (fail_if_success (with_reducible show wpAny _ _ (exec (Stmt.For _ _ _ _ _) _) _ _ _)); (fail_if_success (with_reducible show wpAny _ _ (call (Value.ref _) _ _) _ _ _)); (fail_if_success (with_reducible show wpAny _ _ (call (Value.builtin "str.join") _ _) _ _ _)); (fail_if_success (with_reducible show wpAny _ _ (call (Value.type "enumerate") _ _) _ _ _)); (fail_if_success (with_reducible show wpAny _ _ (call (Value.builtin "sorted") _ _) _ _ _)); (fail_if_success (with_reducible show wpAny _ _ (call (Value.builtin "iter") _ _) _ _ _)); (fail_if_success (with_reducible show wpAny _ _ (compareOp _ (Value.ref _) (Value.ref _)) _ _ _)); (fail_if_success (with_reducible show wpAny _ _ (subscriptTail _ _ (Value.ref _) (Value.int _ _)) _ _ _)); (fail_if_success (with_reducible show wpAny _ _ (eval (Expr.ListComp _ _ _ _) _) _ _ _)); (fail_if_success (with_reducible show wpAny _ _ (exec (Stmt.Assign _ (Expr.ListComp _ _ _ _) _) _) _ _ _)); first | walk1 | (dsimp only; walk1)))
  refine' eval_comp (cl := [("numbers", L + 4)]) (G := fun j y o => ∃ t, y = .int (ns.getD (pl.getD j 0) 0) t) ?k1 ?k2 ?k3 ?k4 ?_
  case k1 => with_unfolding_all rfl
  case k2 => decide
  case k3 => exact rfl
  case k4 => decide
  (repeat' ((fail_if_success k_end); (fail_if_success (with_reducible show wpAny _ _ (subscriptTail _ _ (Value.str _ _) (Value.int _ _)) _ _ _)); (fail_if_success (with_reducible show wpAny _ _ (exec (Stmt.For _ _ _ _ _) _) _ _ _)); (fail_if_success (with_reducible show wpAny _ _ (call (Value.ref _) _ _) _ _ _)); (fail_if_success (with_reducible show wpAny _ _ (call (Value.builtin "str.join") _ _) _ _ _)); (fail_if_success (with_reducible show wpAny _ _ (call (Value.type "enumerate") _ _) _ _ _)); (fail_if_success (with_reducible show wpAny _ _ (call (Value.builtin "sorted") _ _) _ _ _)); (fail_if_success (with_reducible show wpAny _ _ (call (Value.builtin "iter") _ _) _ _ _)); (fail_if_success (with_reducible show wpAny _ _ (compareOp _ (Value.ref _) (Value.ref _)) _ _ _)); (fail_if_success (with_reducible show wpAny _ _ (subscriptTail _ _ (Value.ref _) (Value.int _ _)) _ _ _)); (fail_if_success (with_reducible show wpAny _ _ (eval (Expr.ListComp _ _ _ _) _) _ _ _)); (fail_if_success (with_reducible show wpAny _ _ (exec (Stmt.Assign _ (Expr.ListComp _ _ _ _) _) _) _ _ _)); first | walk1 | (dsimp only; walk1)))
  refine' kmk_slice ?sF ?sN ?sl (lo := none) (hi := some (wish : Int)) ?sp ?sq ?_ ?ss ?st ?sz
  case sF => exact F1
  case sN => exact R1
  case sl => exact ⟨_, hrw1, rfl, _, rfl⟩
  case sp => exact IsPart.none
  case sq => exact IsPart.int _ _
  case ss => with_unfolding_all rfl
  case st => intro _; with_unfolding_all rfl
  case sz => rw [List.size_toArray]; have := htog.length; have := hpl.1.length_eq; rw [List.length_range] at this; rw [sizeLine_eq]; (first | lia | omega)
  intro D2 h2 F2 N2 l2
  have hk2 : ∀ b o, b ≠ L → h1.get? b = some o → h2.get? b = some o := K1 _ _ F2 fun q hq => N2 q (.tail _ hq)
  have z2 := N2 _ (.head _)
  rw [show slicePick (List.toArray vr) none (some (wish : Int)) none = List.toArray (vr.take wish) by rw [kms_pick_eq, pick_to]] at z2
  have hpn : ∀ x ∈ pl, x < ns.length := fun x hx => List.mem_range.mp (hpl.1.mem_iff.mp hx)
  have hvl : vr.length = pl.length := htog.length
  have hpll : pl.length = ns.length := by rw [hpl.1.length_eq, List.length_range]
  refine' comp_listE (fun j y o => ∃ t, y = .int (ns.getD (pl.getD j 0) 0) t) hh ?hl14 ?hs14 ?ht14 ?turn14 ?done14
  case hl14 => exact ⟨_, z2.1, rfl, _, rfl⟩
  case hs14 => rw [List.size_toArray, List.length_take]; (first | lia | omega)
  case ht14 => exact fun _ _ => .inr ⟨_, _, _, rfl⟩
  case turn14 =>
    rintro g' C i v ⟨h3, gs3, dr3, tk3, os3⟩ m3 rest E' hi hv hk F3 N3
    dsimp only at hv F3 N3 hk
    have hbk : ∀ b' o, hb.get? b' = some o → g'.get? b' = some o := fun b' o e => hk b' o ((b1.step hk2).up b' o e)
    have gk : ∀ b' o, g.get? b' = some o → g'.get? b' = some o := fun b' o e => hbk b' o (b.gb b' o e)
    have X' := X.keeps gk
    have T' := T.keeps gk
    replace c4 := cell_up c4 hbk
    have hv1 : (vr.take wish)[i]? = some v := by simpa using hv
    have hiw : i < wish := by
      have := (List.getElem?_eq_some_iff.mp hv1).1
      rw [List.length_take] at this
      (first | lia | omega)
    have hv2 : vr[i]? = some v := by rw [List.getElem?_take, if_pos hiw] at hv1; exact hv1
    obtain ⟨x, hx, hkt⟩ := htog.get hv2
    have hxn := hpn x (List.mem_of_getElem? hx)
    obtain ⟨T1, t1, t2, e3, rfl, hT1⟩ := hkt.ii
    have hT1L : T1 ≠ L := ns_ne F.ns hT1 nofun
    refine assign2 hh F3 N3 ⟨_, F3.keep _ _ (hk _ _ (hk2 _ _ hT1L (hk1 _ _ hT1))), rfl, _, rfl⟩ rfl rfl rfl fun h4 tk4 F4 N4 hk4 => ?_
    clear F3 N3
    obtain ⟨n, t, hn, hvn⟩ : ∃ n t, ns[x]? = some n ∧ vs[x]? = some (.int n t) := by
      obtain ⟨n, t, h1, h2⟩ := ints_get st.hints (List.getElem?_eq_getElem (i := x) (by rw [st.hints.length]; exact hxn))
      exact ⟨n, t, h1, by rw [← h2]; exact List.getElem?_eq_getElem _⟩
    dsimp only
    (repeat' ((fail_if_success k_end); (fail_if_success (with_reducible show wpAny _ _ (subscriptTail _ _ (Value.str _ _) (Value.int _ _)) _ _ _)); (fail_if_success (with_reducible show wpAny _ _ (exec (Stmt.For _ _ _ _ _) _) _ _ _)); (fail_if_success (with_reducible show wpAny _ _ (call (Value.ref _) _ _) _ _ _)); (fail_if_success (with_reducible show wpAny _ _ (call (Value.builtin "str.join") _ _) _ _ _)); (fail_if_success (with_reducible show wpAny _ _ (call (Value.type "enumerate") _ _) _ _ _)); (fail_if_success (with_reducible show wpAny _ _ (call (Value.builtin "sorted") _ _) _ _ _)); (fail_if_success (with_reducible show wpAny _ _ (call (Value.builtin "iter") _ _) _ _ _)); (fail_if_success (with_reducible show wpAny _ _ (compareOp _ (Value.ref _) (Value.ref _)) _ _ _)); (fail_if_success (with_reducible show wpAny _ _ (subscriptTail _ _ (Value.ref _) (Value.int _ _)) _ _ _)); (fail_if_success (with_reducible show wpAny _ _ (eval (Expr.ListComp _ _ _ _) _) _ _ _)); (fail_if_success (with_reducible show wpAny _ _ (exec (Stmt.Assign _ (Expr.ListComp _ _ _ _) _) _) _ _ _)); first | walk1 | (dsimp only; walk1)))
    refine itemI ⟨_, F4.keep _ _ (hbk _ _ hD), rfl, _, rfl⟩ rfl hvn (by (first | lia | omega)) ?_
    refine ⟨_, _, _, _, rfl, F4, N4, fun q hq => hq, .inl ⟨nofun, ?_⟩⟩
    rw [show pl.getD i 0 = x by rw [List.getD_eq_getElem?_getD, hx]; rfl, show ns.getD x 0 = n by rw [List.getD_eq_getElem?_getD, hn]; rfl]
    exact ⟨_, rfl⟩
  case done14 =>
    intro _ D3 h3 tk3 ys hD3 hp3 hG3 hk3
    obtain ⟨e3, hp3⟩ := hp3
    have F3 := F2.keeps hk3
    have hIy : IntsAre ys ((pl.take wish).map fun i => ns.getD i 0) := by
      have hlen : ys.length = (pl.take wish).length := by rw [hG3.1, List.size_toArray, List.length_take, List.length_take, hvl]
      refine ints_of (by rw [hlen, List.length_map]) fun j y hy => ?_
      obtain ⟨_, t, e⟩ := hG3.2 j y hy
      have hj : j < (pl.take wish).length := by rw [← hlen]; exact (List.getElem?_eq_some_iff.mp hy).1
      refine ⟨t, e.trans (congrArg (Value.int · t) ?_)⟩
      have hj2 := hj
      rw [List.length_take] at hj2
      rw [List.getD_eq_getElem?_getD (l := (pl.take wish).map _), List.getElem?_map, List.getElem?_eq_getElem hj]
      simp only [List.getElem_take, Option.map_some, Option.getD_some]
      rw [getD_lt pl j (by (first | lia | omega))]
    have hD1_3 := hk3 _ _ (hk2 _ _ hD1L hD1)
    have hord := sorted_places (fun i j hi hj => kT_lt st.hfill st.hside st.hw2 st.abs hi hj) hpl
    have htop := top_take (n := wish) hord.1 hord.2
    have heq : ρ = pl.take wish := IsTop.uniq (by rw [hρl, List.length_take, hpll]) hρ htop
    have keepAll : ∀ b o, b ≠ L → s.heap.get? b = some o → h3.get? b = some o := fun b' o hbL e => hk3 _ _ (hk2 _ _ hbL (hk1 _ _ e))
    have N3 : News g L h3 [] := fun q hq => nomatch hq
    clear hG3
    dsimp only
    refine ke_ne_ints ⟨_, hD1_3, rfl, _, rfl⟩ ⟨_, hp3, rfl, _, rfl⟩ hI1 hIy (by (first | lia | omega)) ?_
    rw [heq]
    simp only [decide_true, Bool.not_true]
    (repeat' ((fail_if_success k_end); (fail_if_success (with_reducible show wpAny _ _ (execs (_ :: _) _) _ _ _)); (fail_if_success (with_reducible show wpAny _ _ (subscriptTail _ _ (Value.str _ _) (Value.int _ _)) _ _ _)); (fail_if_success (with_reducible show wpAny _ _ (exec (Stmt.For _ _ _ _ _) _) _ _ _)); (fail_if_success (with_reducible show wpAny _ _ (call (Value.ref _) _ _) _ _ _)); (fail_if_success (with_reducible show wpAny _ _ (call (Value.builtin "str.join") _ _) _ _ _)); (fail_if_success (with_reducible show wpAny _ _ (call (Value.type "enumerate") _ _) _ _ _)); (fail_if_success (with_reducible show wpAny _ _ (call (Value.builtin "sorted") _ _) _ _ _)); (fail_if_success (with_reducible show wpAny _ _ (call (Value.builtin "iter") _ _) _ _ _)); (fail_if_success (with_reducible show wpAny _ _ (compareOp _ (Value.ref _) (Value.ref _)) _ _ _)); (fail_if_success (with_reducible show wpAny _ _ (subscriptTail _ _ (Value.ref _) (Value.int _ _)) _ _ _)); (fail_if_success (with_reducible show wpAny _ _ (eval (Expr.ListComp _ _ _ _) _) _ _ _)); (fail_if_success (with_reducible show wpAny _ _ (exec (Stmt.Assign _ (Expr.ListComp _ _ _ _) _) _) _ _ _)); first | walk1 | (dsimp only; walk1)))
    dsimp only
    exact k h3 tk3 F3 keepAll
end
end Mine
end
section
open PySem PySem.W PyProof.Rows PySem.Calls
set_option maxHeartbeats 8000000
namespace Mine
theorem offL8 : True := by
  w_top off
  trivial
theorem fillL8 (w : World) (x : OpenLaw) (h : PySem.Challenge.rw_ij0057_01 = x) : (Mine.frag.heap_1 w.params) = (Mine.frag.heap_1 w.params) ∧ PySem.Challenge.rw_ij0057_01 = x := by
  k_fill
  exact ⟨rfl, h⟩

section
variable {prog : Program} {w : World} {A : Around} {E : Value → Shared → Prop} {s : Shared}
theorem iterP {l : Addr} {items : Array Value} {Q : Value → Shared → Prop} (hl : s.heap.IsList l items)
    (h : ∀ I h', s.heap.get? I = none → h'.get? I = some ({ cls := .type "list_iterator", data := .fields #[.ref l, .int 0 0] } : Obj) → (∀ b o, s.heap.get? b = some o → h'.get? b = some o) → Q (.ref I) { s with heap := h' }) :
    wpAny (model prog w) A (call (.builtin "iter") [.ref l]) Q E s :=
  call_iter (wpAny_pyIter_list hl (h _ _ size_fresh (Heap.get?_push_size _ rfl) fun b o e => Heap.get?_push_of_some _ e))
end

section
variable {w : World} {A₀ A : Around} {g hb : Heap} {L fa : Addr} {m : Str → Option Value} {p : Program} {loose : List Str} {mean : ExcName → Option Value} {mg mb : Str → Option Value} {s : Shared}
theorem segD {Q : Flow → Shared → Prop} {E : Value → Shared → Prop} (c : LC w A₀ A g L fa p loose mean mg mb) {fill side width wish : Nat} {ns : List Int} {vs : List Value} {D kf rw : Addr} {t0 : Tok} {pl : List Nat}
    (F : Fr g L s.heap m) (hm1 : m "wish" = some (.int (wish : Int) t0)) (hm2 : m "back" = some (.ref rw)) (b : LB g hb s.heap L) (st : LSt hb L fill side width ns vs D kf) (hwish : wish < ns.length + 2)
    (hrow : IsTups s.heap rw (kB fill side width ns) pl) (hpl : SortedBy (kB fill side width ns) ns.length pl)
    (k : ∀ h' tk, Fr g L h' m → (∀ b o, b ≠ L → s.heap.get? b = some o → h'.get? b = some o) → wpAny (model PySem.Challenge.rw_ij0057_01.row.prog w) A (execs (lawDef.body.drop 16) (LE L fa)) Q E { s with heap := h', toks := tk }) :
    wpAny (model PySem.Challenge.rw_ij0057_01.row.prog w) A (execs (lawDef.body.drop 15) (LE L fa)) Q E s := by
  have cx := c.cx F
  obtain ⟨B, X, T, hA, hh, hd, hu⟩ := c
  have XB := X.keeps b.gb
  have TB := T.keeps b.gb
  dsimp only [LE, lawDef, lawDefP, List.drop]
  k_unmd
  (try k_fold)
  have h12 := st.h12
  have h6' := st.h6
  obtain ⟨eD, hD⟩ := st.num
  have c4 := st.c4
  have c6 := st.c6
  have N : News g L s.heap [] := fun q hq => nomatch hq
  walk1
  refine wpAny_If ?_
  (repeat' ((fail_if_success k_end); (fail_if_success (with_reducible show wpAny _ _ (subscriptTail _ _ (Value.str _ _) (Value.int _ _)) _ _ _)); (fail_if_success (with_reducible show wpAny _ _ (exec (Stmt.For _ _ _ _ _) _) _ _ _)); (fail_if_success (with_reducible show wpAny _ _ (call (Value.ref _) _ _) _ _ _)); (fail_if_success (with_reducible show wpAny _ _ (call (Value.builtin "str.join") _ _) _ _ _)); (fail_if_success (with_reducible show wpAny _ _ (call (Value.type "enumerate") _ _) _ _ _)); (fail_if_success (with_reducible show wpAny _ _ (call (Value.builtin "sorted") _ _) _ _ _)); (fail_if_success (with_reducible show wpAny _ _ (call (Value.builtin "iter") _ _) _ _ _)); (fail_if_success (with_reducible show wpAny _ _ (compareOp _ (Value.ref _) (Value.ref _)) _ _ _)); (fail_if_success (with_reducible show wpAny _ _ (subscriptTail _ _ (Value.ref _) (Value.int _ _)) _ _ _)); (fail_if_success (with_reducible show wpAny _ _ (eval (Expr.ListComp _ _ _ _) _) _ _ _)); (fail_if_success (with_reducible show wpAny _ _ (exec (Stmt.Assign _ (Expr.ListComp _ _ _ _) _) _) _ _ _)); first | walk1 | (dsimp only; walk1)))
  refine iterP ⟨_, b.up _ _ hD, rfl, _, rfl⟩ fun I0 h0 hI0n hI0 hk0 => ?_
  have F0 := F.keeps hk0
  have b0 := b.step fun b' o _ e => hk0 b' o e
  have N0 : News g L h0 [] := fun q hq => nomatch hq
  have hIL : I0 ≠ L := fresh_ne F hI0n
  have hIg : g.get? I0 = none := none_of F hI0n
  have cx0 : Cx w A₀ A g g [] (LE L fa) L h0 m p loose mean mg mb := ⟨B, F0, X, T, hA, rfl, rfl, hh⟩
  have hbI : ∀ b' o, hb.get? b' = some o → (hideAll h0 [I0, L]).get? b' = some o := fun b' o e => hideAll_get _ (b0.up b' o e) (by
    simp only [List.mem_cons, List.not_mem_nil, or_false, not_or]
    refine ⟨fun q => ?_, fun q => ?_⟩
    · rw [q] at e
      have := b.up _ _ e
      rw [hI0n] at this; cases this
    · rw [q, b.hL] at e; cases e)
  clear F
  try dsimp only
  (repeat' ((fail_if_success k_end); (fail_if_success (with_reducible show wpAny _ _ (subscriptTail _ _ (Value.str _ _) (Value.int _ _)) _ _ _)); (fail_if_success (with_reducible show wpAny _ _ (exec (Stmt.For _ _ _ _ _) _) _ _ _)); (fail_if_success (with_reducible show wpAny _ _ (call (Value.ref _) _ _) _ _ _)); (fail_if_success (with_reducible show wpAny _ _ (call (Value.builtin "str.join") _ _) _ _ _)); (fail_if_success (with_reducible show wpAny _ _ (call (Value.type "enumerate") _ _) _ _ _)); (fail_if_success (with_reducible show wpAny _ _ (call (Value.builtin "sorted") _ _) _ _ _)); (fail_if_success (with_reducible show wpAny _ _ (call (Value.builtin "iter") _ _) _ _ _)); (fail_if_success (with_reducible show wpAny _ _ (compareOp _ (Value.ref _) (Value.ref _)) _ _ _)); (fail_if_success (with_reducible show wpAny _ _ (subscriptTail _ _ (Value.ref _) (Value.int _ _)) _ _ _)); (fail_if_success (with_reducible show wpAny _ _ (eval (Expr.ListComp _ _ _ _) _) _ _ _)); (fail_if_success (with_reducible show wpAny _ _ (exec (Stmt.Assign _ (Expr.ListComp _ _ _ _) _) _) _ _ _)); first | walk1 | (dsimp only; walk1)))
  refine ⟨X.keeps F0.keep, nlargest_ok cx0 X T (fun j => textOf (layP fill side width (ns.getD j 0))) (b0.up _ _ hD) st.hints st.h6 (by (first | lia | omega)) (by (first | lia | omega)) hI0 rfl rfl hIL hIg (fun j v hv => (st.key XB TB j v hv).grow hbI) (fun i => 16 ^ 6 - rkI fill side width ns i)
    (fun i j hi hj => ?_) (FnAt.mv st.fn b0.up) (by (first | lia | omega)) (by (first | lia | omega)) fun ρ D1 e1 h1 tk1 vs1 hρ hρl hk1 hns1 hI1 hD1 hD10 => ?_⟩
  · rw [slt_rk st.hfill st.hside st.hw2 st.abs hj hi, decide_eq_decide]
    have h1 := (rd_nat (fill := fill) (side := side) (width := width) st.hfill st.hside st.hw2 st.abs hi).2
    have h2 := (rd_nat (fill := fill) (side := side) (width := width) st.hfill st.hside st.hw2 st.abs hj).2
    (first | lia | omega)
  have hkk1 : ∀ b o, b ≠ L → s.heap.get? b = some o → h1.get? b = some o := fun b' o hbL e => hk1 b' o (fun q => by rw [q, hI0n] at e; cases e) hbL (hk0 b' o e)
  have F1 : Fr g L h1 m := ⟨hns1, fun b' o e => hk1 b' o (fun q => by rw [q, hIg] at e; cases e) (Nat.ne_of_lt (Nat.lt_of_lt_of_le (Heap.lt_size e) F0.above)) (F0.keep b' o e), F0.above⟩
  have N1 : News g L h1 [] := fun q hq => nomatch hq
  have b1 := b.step hkk1
  obtain ⟨er, vr, hrw, htog⟩ := hrow
  have hrwL : rw ≠ L := ns_ne F0.ns (hk0 _ _ hrw) nofun
  have hrw1 := hkk1 _ _ hrwL hrw
  have hD1L : D1 ≠ L := fun q => by
    by_cases h : D1 = I0
    · exact hIL (h.symm.trans q)
    · have h2 := hD10 h
      obtain ⟨o, _, _, e, _⟩ := F0.ns
      rw [q, show (Shared.heap _).get? L = _ from e] at h2
      cases h2
  obtain ⟨rest1, R1, K1⟩ := keep_rest F1
  try dsimp only
  (repeat' ((fail_if_success k_end); (fail_if_success (with_reducible show wpAny _ _ (subscriptTail _ _ (Value.str _ _) (Value.int _ _)) _ _ _)); (fail_if_success (with_reducible show wpAny _ _ (exec (Stmt.For _ _ _ _ _) _) _ _ _)); (fail_if_success (with_reducible show wpAny _ _ (call (Value.ref _) _ _) _ _ _)); (fail_if_success (with_reducible show wpAny _ _ (call (Value.builtin "str.join") _ _) _ _ _)); (fail_if_success (with_reducible show wpAny _ _ (call (Value.type "enumerate") _ _) _ _ _)); (fail_if_success (with_reducible show wpAny _ _ (call (Value.builtin "sorted") _ _) _ _ _)); (fail_if_success (with_reducible show wpAny _ _ (call (Value.builtin "iter") _ _) _ _ _)); (fail_if_success (with_reducible show wpAny _ _ (compareOp _ (Value.ref _) (Value.ref _)) _ _ _)); (fail_if_success (with_reducible show wpAny _ _ (subscriptTail _ _ (Value.ref _) (Value.int _ _)) _ _ _)); (fail_if_success (with_reducible show wpAny _ _ (eval (Expr.ListComp _ _ _ _) _) _ _ _)); (fail_if_success (with_reducible show wpAny _ _ (exec (Stmt.Assign _ (Expr.ListComp _ _ _ _) _) _) _ _ _)); first | walk1 | (dsimp only; walk1)))
  refine' eval_comp (cl := [("numbers", L + 4)]) (G := fun j y o => ∃ t, y = .int (ns.getD (pl.getD j 0) 0) t) ?k1 ?k2 ?k3 ?k4 ?_
  case k1 => with_unfolding_all rfl
  case k2 => decide
  case k3 => exact rfl
  case k4 => decide
  (repeat' ((fail_if_success k_end); (fail_if_success (with_reducible show wpAny _ _ (subscriptTail _ _ (Value.str _ _) (Value.int _ _)) _ _ _)); (fail_if_success (with_reducible show wpAny _ _ (exec (Stmt.For _ _ _ _ _) _) _ _ _)); (fail_if_success (with_reducible show wpAny _ _ (call (Value.ref _) _ _) _ _ _)); (fail_if_success (with_reducible show wpAny _ _ (call (Value.builtin "str.join") _ _) _ _ _)); (fail_if_success (with_reducible show wpAny _ _ (call (Value.type "enumerate") _ _) _ _ _)); (fail_if_success (with_reducible show wpAny _ _ (call (Value.builtin "sorted") _ _) _ _ _)); (fail_if_success (with_reducible show wpAny _ _ (call (Value.builtin "iter") _ _) _ _ _)); (fail_if_success (with_reducible show wpAny _ _ (compareOp _ (Value.ref _) (Value.ref _)) _ _ _)); (fail_if_success (with_reducible show wpAny _ _ (subscriptTail _ _ (Value.ref _) (Value.int _ _)) _ _ _)); (fail_if_success (with_reducible show wpAny _ _ (eval (Expr.ListComp _ _ _ _) _) _ _ _)); (fail_if_success (with_reducible show wpAny _ _ (exec (Stmt.Assign _ (Expr.ListComp _ _ _ _) _) _) _ _ _)); first | walk1 | (dsimp only; walk1)))
  refine' kmk_slice ?sF ?sN ?sl (lo := none) (hi := some (wish : Int)) ?sp ?sq ?_ ?ss ?st ?sz
  case sF => exact F1
  case sN => exact R1
  case sl => exact ⟨_, hrw1, rfl, _, rfl⟩
  case sp => exact IsPart.none
  case sq => exact IsPart.int _ _
  case ss => with_unfolding_all rfl
  case st => intro _; with_unfolding_all rfl
  case sz => rw [List.size_toArray]; have := htog.length; have := hpl.1.length_eq; rw [List.length_range] at this; rw [sizeLine_eq]; (first | lia | omega)
  intro D2 h2 F2 N2 l2
  have hk2 : ∀ b o, b ≠ L → h1.get? b = some o → h2.get? b = some o := K1 _ _ F2 fun q hq => N2 q (.tail _ hq)
  have z2 := N2 _ (.head _)
  rw [show slicePick (List.toArray vr) none (some (wish : Int)) none = List.toArray (vr.take wish) by rw [kms_pick_eq, pick_to]] at z2
  have hpn : ∀ x ∈ pl, x < ns.length := fun x hx => List.mem_range.mp (hpl.1.mem_iff.mp hx)
  have hvl : vr.length = pl.length := htog.length
  have hpll : pl.length = ns.length := by rw [hpl.1.length_eq, List.length_range]
  refine' comp_listE (fun j y o => ∃ t, y = .int (ns.getD (pl.getD j 0) 0) t) hh ?hl14 ?hs14 ?ht14 ?turn14 ?done14
  case hl14 => exact ⟨_, z2.1, rfl, _, rfl⟩
  case hs14 => rw [List.size_toArray, List.length_take]; (first | lia | omega)
  case ht14 => exact fun _ _ => .inr ⟨_, _, _, rfl⟩
  case turn14 =>
    rintro g' C i v ⟨h3, gs3, dr3, tk3, os3⟩ m3 rest E' hi hv hk F3 N3
    dsimp only at hv F3 N3 hk
    have hbk : ∀ b' o, hb.get? b' = some o → g'.get? b' = some o := fun b' o e => hk b' o ((b1.step hk2).up b' o e)
    have gk : ∀ b' o, g.get? b' = some o → g'.get? b' = some o := fun b' o e => hbk b' o (b.gb b' o e)
    have X' := X.keeps gk
    have T' := T.keeps gk
    replace c4 := cell_up c4 hbk
    have hv1 : (vr.take wish)[i]? = some v := by simpa using hv
    have hiw : i < wish := by
      have := (List.getElem?_eq_some_iff.mp hv1).1
      rw [List.length_take] at this
      (first | lia | omega)
    have hv2 : vr[i]? = some v := by rw [List.getElem?_take, if_pos hiw] at hv1; exact hv1
    obtain ⟨x, hx, hkt⟩ := htog.get hv2
    have hxn := hpn x (List.mem_of_getElem? hx)
    obtain ⟨T1, t1, t2, e3, rfl, hT1⟩ := hkt.ii
    have hT1L : T1 ≠ L := ns_ne F0.ns (hk0 _ _ hT1) nofun
    refine assign2 hh F3 N3 ⟨_, F3.keep _ _ (hk _ _ (hk2 _ _ hT1L (hkk1 _ _ hT1L hT1))), rfl, _, rfl⟩ rfl rfl rfl fun h4 tk4 F4 N4 hk4 => ?_
    clear F3 N3
    obtain ⟨n, t, hn, hvn⟩ : ∃ n t, ns[x]? = some n ∧ vs[x]? = some (.int n t) := by
      obtain ⟨n, t, h1, h2⟩ := ints_get st.hints (List.getElem?_eq_getElem (i := x) (by rw [st.hints.length]; exact hxn))
      exact ⟨n, t, h1, by rw [← h2]; exact List.getElem?_eq_getElem _⟩
    dsimp only
    (repeat' ((fail_if_success k_end); (fail_if_success (with_reducible show wpAny _ _ (subscriptTail _ _ (Value.str _ _) (Value.int _ _)) _ _ _)); (fail_if_success (with_reducible show wpAny _ _ (exec (Stmt.For _ _ _ _ _) _) _ _ _)); (fail_if_success (with_reducible show wpAny _ _ (call (Value.ref _) _ _) _ _ _)); (fail_if_success (with_reducible show wpAny _ _ (call (Value.builtin "str.join") _ _) _ _ _)); (fail_if_success (with_reducible show wpAny _ _ (call (Value.type "enumerate") _ _) _ _ _)); (fail_if_success (with_reducible show wpAny _ _ (call (Value.builtin "sorted") _ _) _ _ _)); (fail_if_success (with_reducible show wpAny _ _ (call (Value.builtin "iter") _ _) _ _ _)); (fail_if_success (with_reducible show wpAny _ _ (compareOp _ (Value.ref _) (Value.ref _)) _ _ _)); (fail_if_success (with_reducible show wpAny _ _ (subscriptTail _ _ (Value.ref _) (Value.int _ _)) _ _ _)); (fail_if_success (with_reducible show wpAny _ _ (eval (Expr.ListComp _ _ _ _) _) _ _ _)); (fail_if_success (with_reducible show wpAny _ _ (exec (Stmt.Assign _ (Expr.ListComp _ _ _ _) _) _) _ _ _)); first | walk1 | (dsimp only; walk1)))
    refine itemI ⟨_, F4.keep _ _ (hbk _ _ hD), rfl, _, rfl⟩ rfl hvn (by (first | lia | omega)) ?_
    refine ⟨_, _, _, _, rfl, F4, N4, fun q hq => hq, .inl ⟨nofun, ?_⟩⟩
    rw [show pl.getD i 0 = x by rw [List.getD_eq_getElem?_getD, hx]; rfl, show ns.getD x 0 = n by rw [List.getD_eq_getElem?_getD, hn]; rfl]
    exact ⟨_, rfl⟩
  case done14 =>
    intro _ D3 h3 tk3 ys hD3 hp3 hG3 hk3
    obtain ⟨e3, hp3⟩ := hp3
    have F3 := F2.keeps hk3
    have hIy : IntsAre ys ((pl.take wish).map fun i => ns.getD i 0) := by
      have hlen : ys.length = (pl.take wish).length := by rw [hG3.1, List.size_toArray, List.length_take, List.length_take, hvl]
      refine ints_of (by rw [hlen, List.length_map]) fun j y hy => ?_
      obtain ⟨_, t, e⟩ := hG3.2 j y hy
      have hj : j < (pl.take wish).length := by rw [← hlen]; exact (List.getElem?_eq_some_iff.mp hy).1
      refine ⟨t, e.trans (congrArg (Value.int · t) ?_)⟩
      have hj2 := hj
      rw [List.length_take] at hj2
      rw [List.getD_eq_getElem?_getD (l := (pl.take wish).map _), List.getElem?_map, List.getElem?_eq_getElem hj]
      simp only [List.getElem_take, Option.map_some, Option.getD_some]
      rw [getD_lt pl j (by (first | lia | omega))]
    have hD1_3 := hk3 _ _ (hk2 _ _ hD1L hD1)
    have hord := sorted_places (fun i j hi hj => kB_lt st.hfill st.hside st.hw2 st.abs hi hj) hpl
    have htop := top_take (n := wish) hord.1 hord.2
    have heq : ρ = pl.take wish := IsTop.uniq (by rw [hρl, List.length_take, hpll]) hρ htop
    have keepAll : ∀ b o, b ≠ L → s.heap.get? b = some o → h3.get? b = some o := fun b' o hbL e => hk3 _ _ (hk2 _ _ hbL (hkk1 _ _ hbL e))
    have N3 : News g L h3 [] := fun q hq => nomatch hq
    clear hG3
    dsimp only
    refine ke_ne_ints ⟨_, hD1_3, rfl, _, rfl⟩ ⟨_, hp3, rfl, _, rfl⟩ hI1 hIy (by (first | lia | omega)) ?_
    rw [heq]
    simp only [decide_true, Bool.not_true]
    (repeat' ((fail_if_success k_end); (fail_if_success (with_reducible show wpAny _ _ (execs (_ :: _) _) _ _ _)); (fail_if_success (with_reducible show wpAny _ _ (subscriptTail _ _ (Value.str _ _) (Value.int _ _)) _ _ _)); (fail_if_success (with_reducible show wpAny _ _ (exec (Stmt.For _ _ _ _ _) _) _ _ _)); (fail_if_success (with_reducible show wpAny _ _ (call (Value.ref _) _ _) _ _ _)); (fail_if_success (with_reducible show wpAny _ _ (call (Value.builtin "str.join") _ _) _ _ _)); (fail_if_success (with_reducible show wpAny _ _ (call (Value.type "enumerate") _ _) _ _ _)); (fail_if_success (with_reducible show wpAny _ _ (call (Value.builtin "sorted") _ _) _ _ _)); (fail_if_success (with_reducible show wpAny _ _ (call (Value.builtin "iter") _ _) _ _ _)); (fail_if_success (with_reducible show wpAny _ _ (compareOp _ (Value.ref _) (Value.ref _)) _ _ _)); (fail_if_success (with_reducible show wpAny _ _ (subscriptTail _ _ (Value.ref _) (Value.int _ _)) _ _ _)); (fail_if_success (with_reducible show wpAny _ _ (eval (Expr.ListComp _ _ _ _) _) _ _ _)); (fail_if_success (with_reducible show wpAny _ _ (exec (Stmt.Assign _ (Expr.ListComp _ _ _ _) _) _) _ _ _)); first | walk1 | (dsimp only; walk1)))
    dsimp only
    exact k h3 tk3 F3 keepAll
end
end Mine
end
section
open PySem PySem.W PyProof.Rows PySem.Calls
set_option maxHeartbeats 8000000
namespace Mine
theorem offL9 : True := by
  w_top off
  trivial
theorem fillL9 (w : World) (x : OpenLaw) (h : PySem.Challenge.rw_ij0057_01 = x) : (Mine.frag.heap_1 w.params) = (Mine.frag.heap_1 w.params) ∧ PySem.Challenge.rw_ij0057_01 = x := by
  k_fill
  exact ⟨rfl, h⟩

theorem KDs.map_kd {ks : List KD} {vs : List Value} (h : KDs ks vs) : vs.map toKD = ks := by
  induction h with
  | nil => rfl
  | @cons k ks v vs h1 _ ih =>
    rw [List.map_cons, ih]
    congr 1
    cases k with
    | i n => obtain ⟨t, rfl⟩ := h1; rfl
    | s x => obtain ⟨t, rfl⟩ := h1; rfl
theorem IsKT.kdv_eq {h : Heap} {v : Value} {ks : List KD} (x : IsKT h v ks) : kdv h v = ks := by
  obtain ⟨T, vs, e, rfl, ho, hk⟩ := x
  simp only [kdv, ho]
  exact hk.map_kd
theorem IsKT.ne_list {h : Heap} {v : Value} {ks : List KD} (x : IsKT h v ks) {a : Addr} {xs : List Value} {ep : Nat} (ha : h.get? a = some (listOf xs.toArray ep)) : v ≠ .ref a := fun q => by
  obtain ⟨T, vs, e, e1, ho, hk⟩ := x
  rw [q] at e1
  cases e1
  rw [ha] at ho
  exact absurd (Value.type.inj (congrArg Obj.cls (Option.some.inj ho))) (by decide)

section
variable {w : World} {A₀ A : Around} {g hb : Heap} {L fa : Addr} {m : Str → Option Value} {p : Program} {loose : List Str} {mean : ExcName → Option Value} {mg mb : Str → Option Value} {s : Shared}
theorem segE {Q : Flow → Shared → Prop} {E : Value → Shared → Prop} (c : LC w A₀ A g L fa p loose mean mg mb) {fill side width : Nat} {ns : List Int} {vs : List Value} {D kf td rw tl : Addr} {pl : List Nat}
    (F : Fr g L s.heap m) (hm1 : m "told" = some (.ref td)) (hm2 : m "row" = some (.ref rw)) (hm3 : m "texts" = some (.ref tl)) (b : LB g hb s.heap L) (st : LSt hb L fill side width ns vs D kf)
    (hrow : IsTups s.heap rw (kT fill side width ns) pl) (htold : IsTups s.heap td (kT fill side width ns) (List.range ns.length)) (htx : IsTexts s.heap tl fill side width ns)
    (htdg : g.get? td = none) (htdrw : td ≠ rw) (htdb : hb.get? td = none) (httl : td ≠ tl)
    (k : ∀ h' tk m' pa hb3, Fr g L h' m' → m' "told" = some (.ref td) → m' "row" = some (.ref rw) → m' "texts" = some (.ref tl) → m' "pile" = some (.ref pa) → LB g hb3 h' L → IsTups hb3 rw (kT fill side width ns) pl → IsTexts hb3 tl fill side width ns → (∃ ps, hb3.get? 202 = some (tabObj ps)) →
      hb3.get? td = none → hb3.get? pa = none → td ≠ pa → pa ≠ L → td ≠ L → g.get? pa = none →
      (∃ e vsT, h'.get? td = some (listOf (List.toArray vsT) e) ∧ Tog (fun v i => IsKT hb3 v (kT fill side width ns i)) vsT (hfP (ltP (rkI fill side width ns)) (ns.length / 2) (List.range ns.length))) →
      (∃ e vsP, h'.get? pa = some (listOf (List.toArray vsP) e) ∧ Tog (fun v i => IsKT hb3 v (kP fill side width ns i)) vsP (hfP (ltP (rkI fill side width ns)) (ns.length / 2) (List.range ns.length))) →
      wpAny (model PySem.Challenge.rw_ij0057_01.row.prog w) A (execs (lawDef.body.drop 19) (LE L fa)) Q E { s with heap := h', toks := tk }) :
    wpAny (model PySem.Challenge.rw_ij0057_01.row.prog w) A (execs (lawDef.body.drop 16) (LE L fa)) Q E s := by
  have c' := c
  obtain ⟨B, X, T, hA, hh, hd, hu⟩ := c
  have XB := X.keeps b.gb
  have TB := T.keeps b.gb
  dsimp only [LE, lawDef, lawDefP, List.drop]
  k_unmd
  (try k_fold)
  have h12 := st.h12
  have h6' := st.h6
  obtain ⟨eD, hD⟩ := st.num
  have c4 := st.c4
  have c6 := st.c6
  have hvl := st.hints.length
  have N : News g L s.heap [] := fun q hq => nomatch hq
  walk1
  refine' assign_comp (cl := [("laid", L + 6)]) (G := fun j y o => ∃ t1 t2 e, o = some (seqObj "tuple" (List.toArray [.str (textOf (layP fill side width (ns.getD j 0))) t1, .int (j : Int) t2]) e)) ?sw ?clos ?cell ?kind ?names ?hy ?hp ?_
  case sw => with_unfolding_all rfl
  case clos => with_unfolding_all rfl
  case cell => decide
  case kind => rfl
  case names => decide
  case hy => rfl
  case hp => rfl
  (repeat' ((fail_if_success k_end); (fail_if_success (with_reducible show wpAny _ _ (subscriptTail _ _ (Value.str _ _) (Value.int _ _)) _ _ _)); (fail_if_success (with_reducible show wpAny _ _ (exec (Stmt.For _ _ _ _ _) _) _ _ _)); (fail_if_success (with_reducible show wpAny _ _ (call (Value.ref _) _ _) _ _ _)); (fail_if_success (with_reducible show wpAny _ _ (call (Value.builtin "str.join") _ _) _ _ _)); (fail_if_success (with_reducible show wpAny _ _ (call (Value.type "enumerate") _ _) _ _ _)); (fail_if_success (with_reducible show wpAny _ _ (call (Value.builtin "sorted") _ _) _ _ _)); (fail_if_success (with_reducible show wpAny _ _ (call (Value.builtin "iter") _ _) _ _ _)); (fail_if_success (with_reducible show wpAny _ _ (compareOp _ (Value.ref _) (Value.ref _)) _ _ _)); (fail_if_success (with_reducible show wpAny _ _ (subscriptTail _ _ (Value.ref _) (Value.int _ _)) _ _ _)); (fail_if_success (with_reducible show wpAny _ _ (eval (Expr.ListComp _ _ _ _) _) _ _ _)); (fail_if_success (with_reducible show wpAny _ _ (exec (Stmt.Assign _ (Expr.ListComp _ _ _ _) _) _) _ _ _)); first | walk1 | (dsimp only; walk1)))
  refine' comp_enumA (fun j y o => ∃ t1 t2 e, o = some (seqObj "tuple" (List.toArray [.str (textOf (layP fill side width (ns.getD j 0))) t1, .int (j : Int) t2]) e)) hh ?hl16 ?hn16 ?hs16 ?turn16 ?done16
  case hl16 => exact b.up _ _ hD
  case hn16 => exact F.ns
  case hs16 => rw [List.size_toArray]; (first | lia | omega)
  case turn16 =>
    rintro g' C i v ⟨h3, gs3, dr3, tk3, os3⟩ m3 rest E' hi ⟨Tt, tt, x, rfl, hx, hT⟩ hk F3 N3
    dsimp only at hT F3 N3 hk
    have hbk : ∀ b' o, hb.get? b' = some o → g'.get? b' = some o := fun b' o e => hk b' o (b.up b' o e)
    have gk : ∀ b' o, g.get? b' = some o → g'.get? b' = some o := fun b' o e => hbk b' o (b.gb b' o e)
    have X' := X.keeps gk
    have T' := T.keeps gk
    have hv' : vs[i]? = some x := by simpa using hx
    replace c6 := cell_up c6 hbk
    have hF' := FnAt.mv st.fn hbk
    have hK := (st.key XB TB i x hv').grow hbk
    refine assign2 hh F3 N3 hT rfl rfl rfl fun h4 tk4 F4 N4 hk4 => ?_
    clear F3 N3
    dsimp only
    (repeat' ((fail_if_success k_end); (fail_if_success (with_reducible show wpAny _ _ (subscriptTail _ _ (Value.str _ _) (Value.int _ _)) _ _ _)); (fail_if_success (with_reducible show wpAny _ _ (exec (Stmt.For _ _ _ _ _) _) _ _ _)); (fail_if_success (with_reducible show wpAny _ _ (call (Value.ref _) _ _) _ _ _)); (fail_if_success (with_reducible show wpAny _ _ (call (Value.builtin "str.join") _ _) _ _ _)); (fail_if_success (with_reducible show wpAny _ _ (call (Value.type "enumerate") _ _) _ _ _)); (fail_if_success (with_reducible show wpAny _ _ (call (Value.builtin "sorted") _ _) _ _ _)); (fail_if_success (with_reducible show wpAny _ _ (call (Value.builtin "iter") _ _) _ _ _)); (fail_if_success (with_reducible show wpAny _ _ (compareOp _ (Value.ref _) (Value.ref _)) _ _ _)); (fail_if_success (with_reducible show wpAny _ _ (subscriptTail _ _ (Value.ref _) (Value.int _ _)) _ _ _)); (fail_if_success (with_reducible show wpAny _ _ (eval (Expr.ListComp _ _ _ _) _) _ _ _)); (fail_if_success (with_reducible show wpAny _ _ (exec (Stmt.Assign _ (Expr.ListComp _ _ _ _) _) _) _ _ _)); first | walk1 | (dsimp only; walk1)))
    refine callWith_F (FnAt.mv hF' F4.keep) ?_
    (repeat' ((fail_if_success k_end); (fail_if_success (with_reducible show wpAny _ _ (subscriptTail _ _ (Value.str _ _) (Value.int _ _)) _ _ _)); (fail_if_success (with_reducible show wpAny _ _ (exec (Stmt.For _ _ _ _ _) _) _ _ _)); (fail_if_success (with_reducible show wpAny _ _ (call (Value.ref _) _ _) _ _ _)); (fail_if_success (with_reducible show wpAny _ _ (call (Value.builtin "str.join") _ _) _ _ _)); (fail_if_success (with_reducible show wpAny _ _ (call (Value.type "enumerate") _ _) _ _ _)); (fail_if_success (with_reducible show wpAny _ _ (call (Value.builtin "sorted") _ _) _ _ _)); (fail_if_success (with_reducible show wpAny _ _ (call (Value.builtin "iter") _ _) _ _ _)); (fail_if_success (with_reducible show wpAny _ _ (compareOp _ (Value.ref _) (Value.ref _)) _ _ _)); (fail_if_success (with_reducible show wpAny _ _ (subscriptTail _ _ (Value.ref _) (Value.int _ _)) _ _ _)); (fail_if_success (with_reducible show wpAny _ _ (eval (Expr.ListComp _ _ _ _) _) _ _ _)); (fail_if_success (with_reducible show wpAny _ _ (exec (Stmt.Assign _ (Expr.ListComp _ _ _ _) _) _) _ _ _)); first | walk1 | (dsimp only; walk1)))
    refine ⟨FnAt.mv hF' F4.keep, ?_⟩
    (try dsimp only [List.nil_append])
    refine hK _ _ _ _ (by (first | lia | omega)) (by (first | lia | omega)) F4.keep fun h7 tk7 t7 hk7 => ?_
    have F7 := F4.keeps hk7
    have N7 := News.keep N4 hk7
    clear F4 N4
    dsimp only
    (repeat' ((fail_if_success k_end); (fail_if_success (with_reducible show wpAny _ _ (subscriptTail _ _ (Value.str _ _) (Value.int _ _)) _ _ _)); (fail_if_success (with_reducible show wpAny _ _ (exec (Stmt.For _ _ _ _ _) _) _ _ _)); (fail_if_success (with_reducible show wpAny _ _ (call (Value.ref _) _ _) _ _ _)); (fail_if_success (with_reducible show wpAny _ _ (call (Value.builtin "str.join") _ _) _ _ _)); (fail_if_success (with_reducible show wpAny _ _ (call (Value.type "enumerate") _ _) _ _ _)); (fail_if_success (with_reducible show wpAny _ _ (call (Value.builtin "sorted") _ _) _ _ _)); (fail_if_success (with_reducible show wpAny _ _ (call (Value.builtin "iter") _ _) _ _ _)); (fail_if_success (with_reducible show wpAny _ _ (compareOp _ (Value.ref _) (Value.ref _)) _ _ _)); (fail_if_success (with_reducible show wpAny _ _ (subscriptTail _ _ (Value.ref _) (Value.int _ _)) _ _ _)); (fail_if_success (with_reducible show wpAny _ _ (eval (Expr.ListComp _ _ _ _) _) _ _ _)); (fail_if_success (with_reducible show wpAny _ _ (exec (Stmt.Assign _ (Expr.ListComp _ _ _ _) _) _) _ _ _)); first | walk1 | (dsimp only; walk1)))
    rename_i D8 h8 F8 N8 l8
    exact ⟨h8, _, _, _, rfl, F8, N8, fun q hq => .tail _ hq, .inr ⟨D8, _, rfl, .head _, fun q hq => Nat.ne_of_lt (l8 q hq), _, _, 0, rfl⟩⟩
  case done16 =>
    intro _ pa h5 tk5 ys hpa hp5 hG5 hns5 hk5
    obtain ⟨e5, hp5⟩ := hp5
    have F5 := fr_up F hns5 hk5
    have b5 := b.step hk5
    have kd5 : ∀ b o, s.heap.get? b = some o → (∀ es n, o.data ≠ .dict es n) → h5.get? b = some o := fun b' o e hd => hk5 b' o (ns_ne F.ns e hd) e
    have hrow5 := hrow.keeps kd5
    have htold5 := htold.keeps kd5
    have htx5 := htx.keeps kd5
    have hyl5 : ys.length = ns.length := by rw [hG5.1, List.size_toArray, hvl]
    have hkp5 : Tog (fun v i => IsKT h5 v (kP fill side width ns i)) ys (List.range ns.length) := Tog.of_get (by rw [hyl5, List.length_range]) fun j v i hv hi => by
      have hj : j < ns.length := by rw [← hyl5]; exact (List.getElem?_eq_some_iff.mp hv).1
      rw [List.getElem?_range hj] at hi
      cases hi
      obtain ⟨_, t1, t2, e, ho⟩ := hG5.2 j v hv
      cases v with
      | ref T => exact ⟨T, _, e, rfl, ho, .cons ⟨t1, rfl⟩ (.cons ⟨t2, rfl⟩ .nil)⟩
      | _ => cases ho
    have hpaL : pa ≠ L := fresh_ne F hpa
    have hpag : g.get? pa = none := none_of F hpa
    obtain ⟨et, vt, htd, htt⟩ := htold5
    have htdL : td ≠ L := ns_ne F5.ns htd nofun
    have htdpa : td ≠ pa := fun q => by
      obtain ⟨_, _, e, _⟩ := htold
      rw [q, hpa] at e
      cases e
    -- the ground of all that the rest does not change
    have hb3 : ∀ b' o, (hideAll h5 [L, td, pa]).get? b' = some o → b' ≠ L ∧ b' ≠ td ∧ b' ≠ pa ∧ h5.get? b' = some o := fun b' o e => by
      have h1 : b' ∉ [L, td, pa] := fun q => by rw [hideAll_none _ q] at e; cases e
      simp only [List.mem_cons, List.not_mem_nil, or_false, not_or] at h1
      exact ⟨h1.1, h1.2.1, h1.2.2, of_hideAll _ e⟩
    have to3 : ∀ b' o, b' ≠ L → b' ≠ td → b' ≠ pa → h5.get? b' = some o → (hideAll h5 [L, td, pa]).get? b' = some o := fun b' o h1 h2 h3 e => hideAll_get _ e (by
      simp only [List.mem_cons, List.not_mem_nil, or_false, not_or]
      exact ⟨h1, h2, h3⟩)
    have tup3 : ∀ {v : Value} {ks : List KD}, IsKT h5 v ks → IsKT (hideAll h5 [L, td, pa]) v ks := fun {v ks} x => by
      obtain ⟨T, vs, e, rfl, ho, hk⟩ := x
      exact ⟨T, vs, e, rfl, to3 _ _ (ns_ne F5.ns ho nofun) (fun q => IsKT.ne_list ⟨T, vs, e, rfl, ho, hk⟩ htd (by rw [q])) (fun q => IsKT.ne_list ⟨T, vs, e, rfl, ho, hk⟩ hp5 (by rw [q])) ho, hk⟩
    have hrow3 : IsTups (hideAll h5 [L, td, pa]) rw (kT fill side width ns) pl := by
      obtain ⟨e, vr, h1, h2⟩ := hrow5
      have hrwpa : rw ≠ pa := fun q => by
        obtain ⟨_, _, e, _⟩ := hrow
        rw [q, hpa] at e
        cases e
      exact ⟨e, vr, to3 _ _ (ns_ne F5.ns h1 nofun) (Ne.symm htdrw) hrwpa h1, h2.imp fun _ _ _ _ y => tup3 y⟩
    have htx3 : IsTexts (hideAll h5 [L, td, pa]) tl fill side width ns := by
      obtain ⟨e, ts, h1, h2, h3⟩ := htx5
      have htlpa : tl ≠ pa := fun q => by
        obtain ⟨_, _, e, _⟩ := htx
        rw [q, hpa] at e
        cases e
      exact ⟨e, ts, to3 _ _ (ns_ne F5.ns h1 nofun) (Ne.symm httl) htlpa h1, h2, h3⟩
    have gb3 : ∀ b' o, hb.get? b' = some o → (hideAll h5 [L, td, pa]).get? b' = some o := fun b' o e => to3 _ _ (fun q => by rw [q, b.hL] at e; cases e) (fun q => by rw [q, htdb] at e; cases e) (fun q => by
      have := b.up _ _ e
      rw [q, hpa] at this; cases this) (b5.up _ _ e)
    have htab3 : ∃ ps, (hideAll h5 [L, td, pa]).get? 202 = some (tabObj ps) := let ⟨ps, e⟩ := st.tab; ⟨ps, gb3 _ _ e⟩
    have htt3 : Tog (fun v i => IsKT (hideAll h5 [L, td, pa]) v (kT fill side width ns i)) vt (List.range ns.length) := htt.imp fun _ _ _ _ y => tup3 y
    have hkp3 : Tog (fun v i => IsKT (hideAll h5 [L, td, pa]) v (kP fill side width ns i)) ys (List.range ns.length) := hkp5.imp fun _ _ _ _ y => tup3 y
    have up3 : ∀ b' o, (hideAll h5 [L, td, pa]).get? b' = some o → h5.get? b' = some o := fun b' o e => (hb3 b' o e).2.2.2
    have n3L : (hideAll h5 [L, td, pa]).get? L = none := hideAll_none _ (by simp)
    have n3t : (hideAll h5 [L, td, pa]).get? td = none := hideAll_none _ (by simp)
    have n3p : (hideAll h5 [L, td, pa]).get? pa = none := hideAll_none _ (by simp)
    have g3 : ∀ b' o, g.get? b' = some o → (hideAll h5 [L, td, pa]).get? b' = some o := fun b' o e => gb3 _ _ (b.gb _ _ e)
    generalize hideAll h5 [L, td, pa] = hb3' at hrow3 htx3 htab3 htt3 hkp3 up3 n3L n3t n3p g3
    have hvtl : vt.length = ns.length := by rw [htt.length, List.length_range]
    clear hG5 hns5 hk5 kd5 hrow5 htx5 hkp5 htt hb3 to3 tup3 gb3 b5 F hrow htold htx hpa
    have N5 : News g L h5 [] := fun q hq => nomatch hq
    dsimp only
    (repeat' ((fail_if_success k_end); (fail_if_success (with_reducible show wpAny _ _ (subscriptTail _ _ (Value.str _ _) (Value.int _ _)) _ _ _)); (fail_if_success (with_reducible show wpAny _ _ (exec (Stmt.For _ _ _ _ _) _) _ _ _)); (fail_if_success (with_reducible show wpAny _ _ (call (Value.ref _) _ _) _ _ _)); (fail_if_success (with_reducible show wpAny _ _ (call (Value.builtin "str.join") _ _) _ _ _)); (fail_if_success (with_reducible show wpAny _ _ (call (Value.type "enumerate") _ _) _ _ _)); (fail_if_success (with_reducible show wpAny _ _ (call (Value.builtin "sorted") _ _) _ _ _)); (fail_if_success (with_reducible show wpAny _ _ (call (Value.builtin "iter") _ _) _ _ _)); (fail_if_success (with_reducible show wpAny _ _ (compareOp _ (Value.ref _) (Value.ref _)) _ _ _)); (fail_if_success (with_reducible show wpAny _ _ (subscriptTail _ _ (Value.ref _) (Value.int _ _)) _ _ _)); (fail_if_success (with_reducible show wpAny _ _ (eval (Expr.ListComp _ _ _ _) _) _ _ _)); (fail_if_success (with_reducible show wpAny _ _ (exec (Stmt.Assign _ (Expr.ListComp _ _ _ _) _) _) _ _ _)); first | walk1 | (dsimp only; walk1)))
    have hkpB : Tog (fun v i => IsKT hb3' v (kP fill side width ns i) ∧ i < ns.length) ys (List.range ns.length) := hkp3.imp fun _ y _ hy h => ⟨h, List.mem_range.mp hy⟩
    have httB : Tog (fun v i => IsKT hb3' v (kT fill side width ns i) ∧ i < ns.length) vt (List.range ns.length) := htt3.imp fun _ y _ hy h => ⟨h, List.mem_range.mp hy⟩
    refine ⟨X.keeps F5.keep, wpAny_call ?_⟩
    refine heapify_ok (c'.cx F5) hp5 hpaL hpag (by (first | lia | omega)) (by (first | lia | omega)) (by (first | lia | omega)) (lt := fun x y => lexKD (kdv hb3' x) (kdv hb3' y)) (fun v hv u hu => ?_) fun h7 tk7 e7 hx7 ha7 => ?_
    · obtain ⟨i, hi, h1, _⟩ := hkpB.mem hv
      obtain ⟨j, hj, h2, _⟩ := hkpB.mem hu
      rw [h1.kdv_eq, h2.kdv_eq]
      have h1' := h1.keeps fun b' o _ e => up3 b' o e
      have h2' := h2.keeps fun b' o _ e => up3 b' o e
      exact cmpX_tuple h1' h2' (h1'.ne_list hp5) (h2'.ne_list hp5) rfl
    have hP7 := hkpB.hf (lx := fun x y => lexKD (kdv hb3' x) (kdv hb3' y)) (ly := ltP (rkI fill side width ns)) (fun a b x y ha hb => by
      rw [ha.1.kdv_eq, hb.1.kdv_eq]
      exact kP_lt st.hfill st.hside st.hw2 st.abs ha.2 hb.2) (ys.length / 2)
    have F7 := ext_fr F5 hx7 hpaL hpag
    have N7 : News g L h7 [] := fun q hq => nomatch hq
    have htd7 := hx7 _ _ htdpa htd
    have up7 : ∀ b' o, hb3'.get? b' = some o → h7.get? b' = some o := fun b' o e => hx7 b' o (fun q => by rw [q, n3p] at e; cases e) (up3 b' o e)
    rw [hyl5] at hP7 ha7
    clear F5 N5 htd
    dsimp only
    (repeat' ((fail_if_success k_end); (fail_if_success (with_reducible show wpAny _ _ (subscriptTail _ _ (Value.str _ _) (Value.int _ _)) _ _ _)); (fail_if_success (with_reducible show wpAny _ _ (exec (Stmt.For _ _ _ _ _) _) _ _ _)); (fail_if_success (with_reducible show wpAny _ _ (call (Value.ref _) _ _) _ _ _)); (fail_if_success (with_reducible show wpAny _ _ (call (Value.builtin "str.join") _ _) _ _ _)); (fail_if_success (with_reducible show wpAny _ _ (call (Value.type "enumerate") _ _) _ _ _)); (fail_if_success (with_reducible show wpAny _ _ (call (Value.builtin "sorted") _ _) _ _ _)); (fail_if_success (with_reducible show wpAny _ _ (call (Value.builtin "iter") _ _) _ _ _)); (fail_if_success (with_reducible show wpAny _ _ (compareOp _ (Value.ref _) (Value.ref _)) _ _ _)); (fail_if_success (with_reducible show wpAny _ _ (subscriptTail _ _ (Value.ref _) (Value.int _ _)) _ _ _)); (fail_if_success (with_reducible show wpAny _ _ (eval (Expr.ListComp _ _ _ _) _) _ _ _)); (fail_if_success (with_reducible show wpAny _ _ (exec (Stmt.Assign _ (Expr.ListComp _ _ _ _) _) _) _ _ _)); first | walk1 | (dsimp only; walk1)))
    refine ⟨X.keeps F7.keep, wpAny_call ?_⟩
    refine heapify_ok (c'.cx F7) htd7 htdL htdg (by (first | lia | omega)) (by (first | lia | omega)) (by (first | lia | omega)) (lt := fun x y => lexKD (kdv hb3' x) (kdv hb3' y)) (fun v hv u hu => ?_) fun h8 tk8 e8 hx8 ha8 => ?_
    · obtain ⟨i, hi, h1, _⟩ := httB.mem hv
      obtain ⟨j, hj, h2, _⟩ := httB.mem hu
      rw [h1.kdv_eq, h2.kdv_eq]
      have h1' := h1.keeps fun b' o _ e => up7 b' o e
      have h2' := h2.keeps fun b' o _ e => up7 b' o e
      exact cmpX_tuple h1' h2' (h1'.ne_list htd7) (h2'.ne_list htd7) rfl
    have hT8 := httB.hf (lx := fun x y => lexKD (kdv hb3' x) (kdv hb3' y)) (ly := ltP (rkI fill side width ns)) (fun a b x y ha hb => by
      rw [ha.1.kdv_eq, hb.1.kdv_eq]
      exact kT_lt st.hfill st.hside st.hw2 st.abs ha.2 hb.2) (vt.length / 2)
    have F8 := ext_fr F7 hx8 htdL htdg
    have up8 : ∀ b' o, hb3'.get? b' = some o → h8.get? b' = some o := fun b' o e => hx8 b' o (fun q => by rw [q, n3t] at e; cases e) (up7 b' o e)
    rw [hvtl] at hT8 ha8
    dsimp only
    exact k h8 _ _ pa hb3' F8 hm1 hm2 hm3 rfl ⟨g3, up8, n3L⟩ hrow3 htx3 htab3 n3t n3p htdpa hpaL htdL hpag ⟨e8, _, ha8, hT8.imp fun _ _ _ _ h => h.1⟩ ⟨e7, _, hx8 _ _ (Ne.symm htdpa) ha7, hP7.imp fun _ _ _ _ h => h.1⟩
end
end Mine
end
section
open PySem PySem.W PyProof.Rows PySem.Calls
set_option maxHeartbeats 8000000
namespace Mine
theorem offL10 : True := by
  w_top off
  trivial
theorem fillL10 (w : World) (x : OpenLaw) (h : PySem.Challenge.rw_ij0057_01 = x) : (Mine.frag.heap_1 w.params) = (Mine.frag.heap_1 w.params) ∧ PySem.Challenge.rw_ij0057_01 = x := by
  k_fill
  exact ⟨rfl, h⟩

section
variable {α β : Type} {R : α → β → Prop} {ys : List α} {v : α} {hs : List β}
theorem Tog.concat (h : Tog R (ys ++ [v]) hs) : ∃ ps x, hs = ps ++ [x] ∧ Tog R ys ps ∧ R v x := by
  obtain ⟨zs, e1, rfl, hz⟩ := h
  rcases List.eq_nil_or_concat zs with rfl | ⟨zs', z, rfl⟩
  · simp at e1
  · rw [List.concat_eq_append, List.map_append, List.map_cons, List.map_nil] at e1
    obtain ⟨e2, e3⟩ := List.append_inj' e1 rfl
    have e3 : v = z.1 := by simpa using e3
    refine ⟨zs'.map Prod.snd, z.2, by simp, ⟨zs', e2, rfl, fun q hq => hz q (by simp [hq])⟩, ?_⟩
    rw [e3]
    exact hz z (by simp)
theorem Tog.pop {lx : α → α → Bool} {ly : β → β → Bool} (h : Tog R (ys ++ [v]) hs) (hl : ∀ a b x y, R a x → R b y → lx a b = ly x y) :
    ∃ ps x, hs = ps ++ [x] ∧ Tog R (hrP lx v ys) (hrP ly x ps) ∧ R (ys.head?.getD v) (ps.head?.getD x) := by
  obtain ⟨ps, x, rfl, h1, h2⟩ := h.concat
  refine ⟨ps, x, rfl, ?_, ?_⟩
  · cases ys with
    | nil =>
      have : ps = [] := List.eq_nil_of_length_eq_zero (by have := h1.length; simpa using this.symm)
      subst this
      rw [hrP_nil, hrP_nil]
      exact Tog.nil
    | cons a r => exact h1.hr h2 hl (by simp)
  · cases ys with
    | nil =>
      have : ps = [] := List.eq_nil_of_length_eq_zero (by have := h1.length; simpa using this.symm)
      subst this
      exact h2
    | cons a r =>
      obtain ⟨y, hy, hr⟩ := h1.get (i := 0) (x := a) rfl
      cases ps with
      | nil => simp at hy
      | cons b q =>
        simp at hy
        subst hy
        exact hr
end

section
variable {prog : Program} {w : World} {A : Around} {E : Value → Shared → Prop} {s : Shared}
theorem ne_tup {a b : Addr} {va vb : List Value} {ds : List PyData} {Q : Value → Shared → Prop} (ta : IsTup s.heap a va.toArray) (tb : IsTup s.heap b vb.toArray) (ca : CarriedAll va ds) (cb : CarriedAll vb ds)
    (hsh : SeqAt.shaped (.tuple ds) = true) (hu : A.units + 64 < cLine) (he : PyData.eqv (.tuple ds) (.tuple ds) = true) (h : Q (.bool false) s) : wpAny (model prog w) A (compareOp .NotEq (.ref a) (.ref b)) Q E s :=
  ne_dataH (reads_newDataT ta ca) (reads_newDataT tb cb) hsh hsh hu (by rw [he]; exact h)
theorem sh_si (x : Str) (i : Int) (hx : PyData.strOk x = true) : SeqAt.shaped (.tuple [.str x, .int i]) = true := by
  simp [SeqAt.shaped, PyData.canLay0, PyData.canLayAll0, PyData.depth, PyData.depthAll, hx]
theorem sgn_small : ∀ r : Nat, r < 16 → sgn r < 128 := by decide +kernel
theorem text_ok {rs : List Nat} (h : Rk rs) : PyData.strOk (textOf rs) = true := by
  unfold PyData.strOk textOf
  rw [Array.all_eq_true_iff_forall_mem]
  intro c hc
  obtain ⟨r, hr, rfl⟩ := List.mem_map.mp (List.mem_toArray.mp hc)
  have := sgn_small r (h r hr).2
  exact decide_eq_true (by (first | lia | omega))
theorem place_turns {env : Env} {scope : Scope} {x : Str} {q1 q2 q3 p1 : Pos} {k : Nat} {items : Array Value} {hs : List Nat} {h₀ : Heap} (hh : A.handled = none) (hkind : ∀ C, (compEnvC scope [] C env).scope.kind = .function)
    (hx : ∀ C, (compEnvC scope [] C env).kindOf x = some .local) (hy : ∀ C, (compEnvC scope [] C env).kindOf "place" = some .local)
    (hP : ∀ (j : Nat) v, items[j]? = some v → ∃ T a t e, v = .ref T ∧ h₀.get? T = some (seqObj "tuple" (List.toArray [a, .int ((hs.getD j 0 : Nat) : Int) t]) e)) :
    TurnG prog w A env scope [] (.Tuple [.Name x q1, .Name "place" q2] k q3) (.Name "place" p1) items.size (fun i v _ => items[i]? = some v) (fun j y _ => ∃ t, y = .int ((hs.getD j 0 : Nat) : Int) t) h₀ := by
  rintro g' C i v ⟨h3, gs3, dr3, tk3, os3⟩ m3 rest E' hi hv hk F3 N3
  dsimp only at hv F3 N3 hk
  obtain ⟨T, a, t, e, rfl, hT⟩ := hP i v hv
  have hcp : ((compEnvC scope [] C env).scope.kind == .class || ((compEnvC scope [] C env).scope.kind == .module && (compEnvC scope [] C env).locals != (compEnvC scope [] C env).globals)) = false := by
    rw [hkind C]; rfl
  refine assign2 hh F3 N3 ⟨_, F3.keep _ _ (hk _ _ hT), rfl, _, rfl⟩ (hx C) (hy C) hcp fun h4 tk4 F4 N4 hk4 => ?_
  refine nameC_L F4 (by show (if ("place" : Str) = "place" then some _ else _) = some _; rw [if_pos rfl]) ?_ (hkind C) (hy C)
  exact ⟨h4, _, _, _, rfl, F4, N4, fun q hq => hq, .inl ⟨nofun, _, rfl⟩⟩
theorem sh_ii (x : Int) (i : Int) : SeqAt.shaped (.tuple [.int x, .int i]) = true := by
  simp [SeqAt.shaped, PyData.canLay0, PyData.canLayAll0, PyData.depth, PyData.depthAll]
theorem eq_si (x : Str) (i : Int) : PyData.eqv (.tuple [.str x, .int i]) (.tuple [.str x, .int i]) = true := by
  simp [PyData.eqv, PyData.eqvAll]
theorem eq_ii (x : Int) (i : Int) : PyData.eqv (.tuple [.int x, .int i]) (.tuple [.int x, .int i]) = true := by
  simp [PyData.eqv, PyData.eqvAll]
end

section
variable {w : World} {A₀ A : Around} {g hb : Heap} {L fa : Addr} {m : Str → Option Value} {p : Program} {loose : List Str} {mean : ExcName → Option Value} {mg mb : Str → Option Value} {s : Shared}
theorem segF {Q : Flow → Shared → Prop} {E : Value → Shared → Prop} (c : LC w A₀ A g L fa p loose mean mg mb) {fill side width : Nat} {ns : List Int} {td rw tl pa : Addr} {pl : List Nat}
    (F : Fr g L s.heap m) (hm1 : m "told" = some (.ref td)) (hm2 : m "row" = some (.ref rw)) (hm3 : m "texts" = some (.ref tl)) (hm4 : m "pile" = some (.ref pa)) (b : LB g hb s.heap L)
    (hfill : fill ∈ [1, 2, 3, 4, 9, 13, 14, 15]) (hside : side < 3) (hw2 : width ≤ 6) (habs : ∀ n ∈ ns, n.natAbs < 100000) (h12 : ns.length ≤ 12) (h6 : 6 ≤ ns.length)
    (hrow : IsTups hb rw (kT fill side width ns) pl) (htx : IsTexts hb tl fill side width ns) (htab : ∃ ps, hb.get? 202 = some (tabObj ps))
    (n3t : hb.get? td = none) (n3p : hb.get? pa = none) (htdpa : td ≠ pa) (hpaL : pa ≠ L) (htdL : td ≠ L) (htdg : g.get? td = none) (hpag : g.get? pa = none)
    (hpl : pl.Perm (List.range ns.length) ∧ pl.Pairwise (kst (rkI fill side width ns)))
    (hT : ∃ e vsT, s.heap.get? td = some (listOf (List.toArray vsT) e) ∧ Tog (fun v i => IsKT hb v (kT fill side width ns i)) vsT (hfP (ltP (rkI fill side width ns)) (ns.length / 2) (List.range ns.length)))
    (hP : ∃ e vsP, s.heap.get? pa = some (listOf (List.toArray vsP) e) ∧ Tog (fun v i => IsKT hb v (kP fill side width ns i)) vsP (hfP (ltP (rkI fill side width ns)) (ns.length / 2) (List.range ns.length)))
    (k : ∀ h' tk m', Fr g L h' m' → (∃ ps, h'.get? 202 = some (tabObj ps)) → Q (.ret (.bool true)) { s with heap := h', toks := tk }) :
    wpAny (model PySem.Challenge.rw_ij0057_01.row.prog w) A (execs (lawDef.body.drop 19) (LE L fa)) Q E s := by
  have c' := c
  obtain ⟨B, X, T, hA, hh, hd, hu⟩ := c
  dsimp only [LE, lawDef, lawDefP, List.drop]
  k_unmd
  (try k_fold)
  have N : News g L s.heap [] := fun q hq => nomatch hq
  have hpll : pl.length = ns.length := by rw [hpl.1.length_eq, List.length_range]
  have hpn : ∀ x ∈ pl, x < ns.length := fun x hx => List.mem_range.mp (hpl.1.mem_iff.mp hx)
  obtain ⟨er, vr, hrw, htog⟩ := hrow
  have hvrl : vr.length = ns.length := by rw [htog.length, hpll]
  have hmem0 : ∀ x ∈ hfP (ltP (rkI fill side width ns)) (ns.length / 2) (List.range ns.length), x < ns.length := fun x hx => List.mem_range.mp ((hfP_perm (lt := ltP (rkI fill side width ns)) _ _).mem_iff.mp hx)
  obtain ⟨eT, vsT, htd, htT⟩ := hT
  obtain ⟨eP, vsP, hpa, htP⟩ := hP
  have htT : Tog (fun v i => IsKT hb v (kT fill side width ns i) ∧ i < ns.length) vsT _ := htT.imp fun _ y _ hy h => ⟨h, hmem0 y hy⟩
  have htP : Tog (fun v i => IsKT hb v (kP fill side width ns i) ∧ i < ns.length) vsP _ := htP.imp fun _ y _ hy h => ⟨h, hmem0 y hy⟩
  have hheap : HF (ltP (rkI fill side width ns)) 0 (hfP (ltP (rkI fill side width ns)) (ns.length / 2) (List.range ns.length)) := by
    have := heapify_heap (ltP_as (rkI fill side width ns)) (ltP_nt (rkI fill side width ns)) (List.range ns.length)
    rwa [List.length_range] at this
  have hperm : (hfP (ltP (rkI fill side width ns)) (ns.length / 2) (List.range ns.length)).Perm pl := (hfP_perm (lt := ltP (rkI fill side width ns)) _ _).trans hpl.1.symm
  generalize hfP (ltP (rkI fill side width ns)) (ns.length / 2) (List.range ns.length) = hs0 at htT htP hheap hperm
  clear hmem0
  walk1
  refine wpAny_For ?_
  (repeat' (first | (k_unfold; (try dsimp only)) | ((with_reducible show wpAny _ _ (exec _ _) _ _ _); k_fold) | ((fail_if_success k_end); (fail_if_success (with_reducible show wpAny _ _ (subscriptTail _ _ (Value.str _ _) (Value.int _ _)) _ _ _)); (fail_if_success (with_reducible show wpAny _ _ (exec (Stmt.For _ _ _ _ _) _) _ _ _)); (fail_if_success (with_reducible show wpAny _ _ (call (Value.ref _) _ _) _ _ _)); (fail_if_success (with_reducible show wpAny _ _ (call (Value.builtin "str.join") _ _) _ _ _)); (fail_if_success (with_reducible show wpAny _ _ (call (Value.type "enumerate") _ _) _ _ _)); (fail_if_success (with_reducible show wpAny _ _ (call (Value.builtin "sorted") _ _) _ _ _)); (fail_if_success (with_reducible show wpAny _ _ (call (Value.builtin "iter") _ _) _ _ _)); (fail_if_success (with_reducible show wpAny _ _ (compareOp _ (Value.ref _) (Value.ref _)) _ _ _)); (fail_if_success (with_reducible show wpAny _ _ (subscriptTail _ _ (Value.ref _) (Value.int _ _)) _ _ _)); (fail_if_success (with_reducible show wpAny _ _ (eval (Expr.ListComp _ _ _ _) _) _ _ _)); (fail_if_success (with_reducible show wpAny _ _ (exec (Stmt.Assign _ (Expr.ListComp _ _ _ _) _) _) _ _ _)); first | walk1 | (dsimp only; walk1))))
  have hlrw : s.heap.IsList rw (List.toArray vr) := ⟨_, b.up _ _ hrw, rfl, _, rfl⟩
  refine wpAny_pyIter_list hlrw ?_
  have hk0 : ∀ b o, s.heap.get? b = some o → (s.heap.push { cls := .type "list_iterator", data := .fields #[.ref rw, .int 0 0] }).get? b = some o := fun b o e => Heap.get?_push_of_some _ e
  have hI0 : (s.heap.push { cls := .type "list_iterator", data := .fields #[.ref rw, .int 0 0] }).get? s.heap.objs.size = some _ := Heap.get?_push_size _ rfl
  have hIn := size_fresh (h := s.heap)
  generalize s.heap.objs.size = I at hI0 hIn
  generalize hh0 : s.heap.push { cls := .type "list_iterator", data := .fields #[.ref rw, .int 0 0] } = h0 at hk0 hI0 ⊢
  have hlrw0 : h0.IsList rw (List.toArray vr) := hlrw.at fun o e => hk0 _ o e
  have hIt0 : h0.IsListIter I rw 0 := ⟨_, hI0, rfl, rfl⟩
  have hrwI : rw ≠ I := fun q => by
    have := b.up _ _ hrw
    rw [q, hIn] at this; cases this
  have hIL : I ≠ L := fresh_ne F hIn
  have hIg : g.get? I = none := none_of F hIn
  have hbI : hb.get? I = none := kts_none b.up hIn
  have htdI : td ≠ I := fun q => by rw [q, hIn] at htd; cases htd
  have hpaI : pa ≠ I := fun q => by rw [q, hIn] at hpa; cases hpa
  have F0 := F.keeps hk0
  have b0 : LB g hb h0 L := b.step fun b' o _ e => hk0 b' o e
  have htd0 := hk0 _ _ htd
  have hpa0 := hk0 _ _ hpa
  clear hh0 hI0 F N htd hpa hlrw b
  obtain ⟨J, hJ⟩ : ∃ J : Nat → Shared → Prop, ∀ i s', J i s' ↔ (E8 fun (h' : Heap) (tk : Nat) (m' : Str → Option Value) (hs : List Nat) (vsT : List Value) (eT : Nat) (vsP : List Value) (eP : Nat) => A12 (s' = { s with heap := h', toks := tk }) (Fr g L h' m') (m' "told" = some (.ref td)) (m' "texts" = some (.ref tl)) (m' "pile" = some (.ref pa)) (LB g hb h' L) (h'.get? td = some (listOf (List.toArray vsT) eT)) (h'.get? pa = some (listOf (List.toArray vsP) eP)) (Tog (fun v i => IsKT hb v (kT fill side width ns i) ∧ i < ns.length) vsT hs) (Tog (fun v i => IsKT hb v (kP fill side width ns i) ∧ i < ns.length) vsP hs) (HF (ltP (rkI fill side width ns)) 0 hs) (hs.Perm (pl.drop i))) := ⟨_, fun _ _ => Iff.rfl⟩
  refine for_walk (Walks.list hh I rw hrwI (List.toArray vr))
    J
    ((hJ _ _).mpr ⟨h0, _, m, hs0, vsT, eT, vsP, eP, rfl, F0, hm1, hm3, hm4, b0, htd0, hpa0, htT, htP, hheap, hperm⟩) ⟨hIt0, hlrw0⟩ ?step ?turn ?done
  case step =>
    intro i s9 h' tk' hj9 hk
    obtain ⟨h1, tk1, m1, hs, vsT, eT, vsP, eP, rfl, F1, q1, q3, q4, b1, t1, p1, tT, tP, hF, hp⟩ := (hJ _ _).mp hj9
    clear hj9
    refine (hJ _ _).mpr ⟨h', tk', m1, hs, vsT, eT, vsP, eP, rfl, fr_wr F1 hk (by simpa using Ne.symm hIL) (by simpa using hIg), q1, q3, q4, ⟨b1.gb, fun b' o e => hk b' o (by
      simp only [List.mem_singleton]
      exact fun q => by rw [q, hbI] at e; cases e) (b1.up b' o e), b1.hL⟩, hk _ _ (by simpa using htdI) t1, hk _ _ (by simpa using hpaI) p1, tT, tP, hF, hp⟩
  case done =>
    intro s9 hj9
    obtain ⟨h1, tk1, m1, hs, vsT, eT, vsP, eP, rfl, F1, q1, q3, q4, b1, t1, p1, tT, tP, hF, hp⟩ := (hJ _ _).mp hj9
    clear hj9
    have hs0 : hs = [] := by
      have := hp.length_eq
      rw [List.size_toArray, hvrl, ← hpll, List.drop_length] at this
      exact List.eq_nil_of_length_eq_zero this
    subst hs0
    have hv0 : vsP = [] := List.eq_nil_of_length_eq_zero (by have := tP.length; simpa using this)
    subst hv0
    obtain ⟨rest1, R1, K1⟩ := keep_rest F1
    have N1 : News g L h1 ((pa, listOf (List.toArray []) eP) :: rest1) := newsC (⟨p1, hpaL, hpag⟩) R1
    clear R1
    dsimp only
    (repeat' (first | (k_unfold; (try dsimp only)) | ((with_reducible show wpAny _ _ (exec _ _) _ _ _); k_fold) | ((fail_if_success k_end); (fail_if_success (with_reducible show wpAny _ _ (subscriptTail _ _ (Value.str _ _) (Value.int _ _)) _ _ _)); (fail_if_success (with_reducible show wpAny _ _ (exec (Stmt.For _ _ _ _ _) _) _ _ _)); (fail_if_success (with_reducible show wpAny _ _ (call (Value.ref _) _ _) _ _ _)); (fail_if_success (with_reducible show wpAny _ _ (call (Value.builtin "str.join") _ _) _ _ _)); (fail_if_success (with_reducible show wpAny _ _ (call (Value.type "enumerate") _ _) _ _ _)); (fail_if_success (with_reducible show wpAny _ _ (call (Value.builtin "sorted") _ _) _ _ _)); (fail_if_success (with_reducible show wpAny _ _ (call (Value.builtin "iter") _ _) _ _ _)); (fail_if_success (with_reducible show wpAny _ _ (compareOp _ (Value.ref _) (Value.ref _)) _ _ _)); (fail_if_success (with_reducible show wpAny _ _ (subscriptTail _ _ (Value.ref _) (Value.int _ _)) _ _ _)); (fail_if_success (with_reducible show wpAny _ _ (eval (Expr.ListComp _ _ _ _) _) _ _ _)); (fail_if_success (with_reducible show wpAny _ _ (exec (Stmt.Assign _ (Expr.ListComp _ _ _ _) _) _) _ _ _)); first | walk1 | (dsimp only; walk1))))
    rename Fr _ _ _ _ => F2
    rename News _ _ _ _ => N2
    refine ke_eq_ints ⟨_, (N2 _ (.tail _ (.head _))).1, rfl, _, rfl⟩ ⟨_, (N2 _ (.head _)).1, rfl, _, rfl⟩ .nil .nil (by (first | lia | omega)) ?_
    obtain ⟨ps, hps⟩ := htab
    have h202 : (202 : Addr) ≠ L := fun q => by rw [q, b1.hL] at hps; cases hps
    have K2 := K1 _ _ F2 fun q hq => N2 q (.tail _ (.tail _ hq))
    simp only [decide_true]
    exact k _ _ _ F2 ⟨ps, K2 _ _ h202 (b1.up _ _ hps)⟩
  case turn =>
    intro i v s9 E' hi hv hj9 hS9
    obtain ⟨h1, tk1, m1, hs, vsT, eT, vsP, eP, rfl, F1, q1, q3, q4, b1, t1, p1, tT, tP, hF, hp⟩ := (hJ _ _).mp hj9
    clear hj9
    obtain ⟨hSt, hSl⟩ := hS9
    have hv1 : vr[i]? = some v := by simpa using hv
    obtain ⟨x, hx, hkx⟩ := htog.get hv1
    have hxn := hpn x (List.mem_of_getElem? hx)
    have hdrop : pl.drop i = x :: pl.drop (i + 1) := by
      have hip : i < pl.length := (List.getElem?_eq_some_iff.mp hx).1
      rw [List.drop_eq_getElem_cons hip]
      congr 1
      rw [List.getElem?_eq_getElem hip] at hx
      exact Option.some.inj hx
    rw [hdrop] at hp
    have hsord : (x :: pl.drop (i + 1)).Pairwise (kst (rkI fill side width ns)) := by
      rw [← hdrop]
      exact hpl.2.sublist (List.drop_sublist i pl)
    have hkx' := hkx
    obtain ⟨Tx, tx1, tx2, ex, rfl, hTx⟩ := hkx.ii
    have hnsl := hvrl
    refine assign1 F1 rfl rfl fun h2 F2 hs2 => ?_
    replace F2 : Fr g L h2 (fun z => if z = Str.ofString "pair" then some (Value.ref Tx) else m1 z) := F2
    replace hs2 : Heap.SameBut L h1 h2 := hs2
    have b2 := b1.step fun b' o hb' e => hs2.extBut b' o hb' e
    have t2 := hs2.extBut _ _ htdL t1
    have p2 := hs2.extBut _ _ hpaL p1
    have kp2 : ∀ b o, b ≠ L → b ≠ pa → b ≠ td → h1.get? b = some o → h2.get? b = some o := fun b' o h _ _ e => hs2.extBut b' o h e
    have N2 : News g L h2 [] := fun q hq => nomatch hq
    clear F1 b1 t1 p1
    dsimp only
    (repeat' (first | (k_unfold; (try dsimp only)) | ((with_reducible show wpAny _ _ (exec _ _) _ _ _); k_fold) | ((fail_if_success k_end); (fail_if_success (with_reducible show wpAny _ _ (subscriptTail _ _ (Value.str _ _) (Value.int _ _)) _ _ _)); (fail_if_success (with_reducible show wpAny _ _ (exec (Stmt.For _ _ _ _ _) _) _ _ _)); (fail_if_success (with_reducible show wpAny _ _ (call (Value.ref _) _ _) _ _ _)); (fail_if_success (with_reducible show wpAny _ _ (call (Value.builtin "str.join") _ _) _ _ _)); (fail_if_success (with_reducible show wpAny _ _ (call (Value.type "enumerate") _ _) _ _ _)); (fail_if_success (with_reducible show wpAny _ _ (call (Value.builtin "sorted") _ _) _ _ _)); (fail_if_success (with_reducible show wpAny _ _ (call (Value.builtin "iter") _ _) _ _ _)); (fail_if_success (with_reducible show wpAny _ _ (compareOp _ (Value.ref _) (Value.ref _)) _ _ _)); (fail_if_success (with_reducible show wpAny _ _ (subscriptTail _ _ (Value.ref _) (Value.int _ _)) _ _ _)); (fail_if_success (with_reducible show wpAny _ _ (eval (Expr.ListComp _ _ _ _) _) _ _ _)); (fail_if_success (with_reducible show wpAny _ _ (exec (Stmt.Assign _ (Expr.ListComp _ _ _ _) _) _) _ _ _)); first | walk1 | (dsimp only; walk1))))
    have hitP : ∀ (j : Nat) v, (List.toArray vsP)[j]? = some v → ∃ T a t e, v = .ref T ∧ h2.get? T = some (seqObj "tuple" (List.toArray [a, .int ((hs.getD j 0 : Nat) : Int) t]) e) := fun j v hv => by
      obtain ⟨y, hy, hkt, _⟩ := tP.get (i := j) (x := v) (by simpa using hv)
      obtain ⟨T, t1, t2, e, rfl, hT⟩ := hkt.si
      refine ⟨T, .str (textOf (layP fill side width (ns.getD y 0))) t1, t2, e, rfl, ?_⟩
      rw [show hs.getD j 0 = y by rw [List.getD_eq_getElem?_getD, hy]; rfl]
      exact b2.up _ _ hT
    refine' eval_comp (cl := []) (G := fun j y _ => ∃ t, y = .int ((hs.getD j 0 : Nat) : Int) t) ?k1 ?k2 ?k3 ?k4 ?_
    case k1 => with_unfolding_all rfl
    case k2 => decide
    case k3 => exact rfl
    case k4 => decide
    (repeat' (first | (k_unfold; (try dsimp only)) | ((with_reducible show wpAny _ _ (exec _ _) _ _ _); k_fold) | ((fail_if_success k_end); (fail_if_success (with_reducible show wpAny _ _ (subscriptTail _ _ (Value.str _ _) (Value.int _ _)) _ _ _)); (fail_if_success (with_reducible show wpAny _ _ (exec (Stmt.For _ _ _ _ _) _) _ _ _)); (fail_if_success (with_reducible show wpAny _ _ (call (Value.ref _) _ _) _ _ _)); (fail_if_success (with_reducible show wpAny _ _ (call (Value.builtin "str.join") _ _) _ _ _)); (fail_if_success (with_reducible show wpAny _ _ (call (Value.type "enumerate") _ _) _ _ _)); (fail_if_success (with_reducible show wpAny _ _ (call (Value.builtin "sorted") _ _) _ _ _)); (fail_if_success (with_reducible show wpAny _ _ (call (Value.builtin "iter") _ _) _ _ _)); (fail_if_success (with_reducible show wpAny _ _ (compareOp _ (Value.ref _) (Value.ref _)) _ _ _)); (fail_if_success (with_reducible show wpAny _ _ (subscriptTail _ _ (Value.ref _) (Value.int _ _)) _ _ _)); (fail_if_success (with_reducible show wpAny _ _ (eval (Expr.ListComp _ _ _ _) _) _ _ _)); (fail_if_success (with_reducible show wpAny _ _ (exec (Stmt.Assign _ (Expr.ListComp _ _ _ _) _) _) _ _ _)); first | walk1 | (dsimp only; walk1))))
    refine' comp_listE (fun j y _ => ∃ t, y = .int ((hs.getD j 0 : Nat) : Int) t) hh ?hla ?hsa ?hta ?turna ?donea
    case hla => exact ⟨_, p2, rfl, _, rfl⟩
    case hsa => rw [List.size_toArray, tP.length]; have := hp.length_eq; have h2 := (List.drop_sublist (i + 1) pl).length_le; rw [List.length_cons] at this; (first | lia | omega)
    case hta => exact fun _ _ => .inr ⟨_, _, _, rfl⟩
    case turna => exact place_turns hh (fun _ => rfl) (fun _ => rfl) (fun _ => rfl) hitP
    case donea =>
      intro _ D3 h3 tk3 ysP hD3 hp3 hG3 hk3
      obtain ⟨e3, hp3⟩ := hp3
      have F3 := F2.keeps hk3
      have b3 := b2.step fun b' o _ e => hk3 b' o e
      have t3 := hk3 _ _ t2
      have p3 := hk3 _ _ p2
      have hsv : vsP.length = hs.length := tP.length
      have htv : vsT.length = hs.length := tT.length
      have hIa : IntsAre ysP (hs.map Int.ofNat) := by
        refine ints_of (by rw [hG3.1, List.length_map, List.size_toArray, hsv]) fun j y hy => ?_
        obtain ⟨_, t, e⟩ := hG3.2 j y hy
        have hj : j < hs.length := by
          have := (List.getElem?_eq_some_iff.mp hy).1
          have := hG3.1
          rw [List.size_toArray] at this
          (first | lia | omega)
        refine ⟨t, e.trans (congrArg (Value.int · t) ?_)⟩
        rw [List.getD_eq_getElem?_getD, List.getD_eq_getElem?_getD, List.getElem?_map, List.getElem?_eq_getElem hj]
        rfl
      have hitT : ∀ (j : Nat) v, (List.toArray vsT)[j]? = some v → ∃ T a t e, v = .ref T ∧ h3.get? T = some (seqObj "tuple" (List.toArray [a, .int ((hs.getD j 0 : Nat) : Int) t]) e) := fun j v hv => by
        obtain ⟨y, hy, hkt, _⟩ := tT.get (i := j) (x := v) (by simpa using hv)
        obtain ⟨T, t1, t2, e, rfl, hT⟩ := hkt.ii
        refine ⟨T, .int (rdI fill side width ns y) t1, t2, e, rfl, ?_⟩
        rw [show hs.getD j 0 = y by rw [List.getD_eq_getElem?_getD, hy]; rfl]
        exact b3.up _ _ hT
      have N3 : News g L h3 [] := fun q hq => nomatch hq
      clear hG3 N2 F2 b2 hitP
      dsimp only
      (repeat' (first | (k_unfold; (try dsimp only)) | ((with_reducible show wpAny _ _ (exec _ _) _ _ _); k_fold) | ((fail_if_success k_end); (fail_if_success (with_reducible show wpAny _ _ (subscriptTail _ _ (Value.str _ _) (Value.int _ _)) _ _ _)); (fail_if_success (with_reducible show wpAny _ _ (exec (Stmt.For _ _ _ _ _) _) _ _ _)); (fail_if_success (with_reducible show wpAny _ _ (call (Value.ref _) _ _) _ _ _)); (fail_if_success (with_reducible show wpAny _ _ (call (Value.builtin "str.join") _ _) _ _ _)); (fail_if_success (with_reducible show wpAny _ _ (call (Value.type "enumerate") _ _) _ _ _)); (fail_if_success (with_reducible show wpAny _ _ (call (Value.builtin "sorted") _ _) _ _ _)); (fail_if_success (with_reducible show wpAny _ _ (call (Value.builtin "iter") _ _) _ _ _)); (fail_if_success (with_reducible show wpAny _ _ (compareOp _ (Value.ref _) (Value.ref _)) _ _ _)); (fail_if_success (with_reducible show wpAny _ _ (subscriptTail _ _ (Value.ref _) (Value.int _ _)) _ _ _)); (fail_if_success (with_reducible show wpAny _ _ (eval (Expr.ListComp _ _ _ _) _) _ _ _)); (fail_if_success (with_reducible show wpAny _ _ (exec (Stmt.Assign _ (Expr.ListComp _ _ _ _) _) _) _ _ _)); first | walk1 | (dsimp only; walk1))))
      refine' eval_comp (cl := []) (G := fun j y _ => ∃ t, y = .int ((hs.getD j 0 : Nat) : Int) t) ?k1 ?k2 ?k3 ?k4 ?_
      case k1 => with_unfolding_all rfl
      case k2 => decide
      case k3 => exact rfl
      case k4 => decide
      (repeat' (first | (k_unfold; (try dsimp only)) | ((with_reducible show wpAny _ _ (exec _ _) _ _ _); k_fold) | ((fail_if_success k_end); (fail_if_success (with_reducible show wpAny _ _ (subscriptTail _ _ (Value.str _ _) (Value.int _ _)) _ _ _)); (fail_if_success (with_reducible show wpAny _ _ (exec (Stmt.For _ _ _ _ _) _) _ _ _)); (fail_if_success (with_reducible show wpAny _ _ (call (Value.ref _) _ _) _ _ _)); (fail_if_success (with_reducible show wpAny _ _ (call (Value.builtin "str.join") _ _) _ _ _)); (fail_if_success (with_reducible show wpAny _ _ (call (Value.type "enumerate") _ _) _ _ _)); (fail_if_success (with_reducible show wpAny _ _ (call (Value.builtin "sorted") _ _) _ _ _)); (fail_if_success (with_reducible show wpAny _ _ (call (Value.builtin "iter") _ _) _ _ _)); (fail_if_success (with_reducible show wpAny _ _ (compareOp _ (Value.ref _) (Value.ref _)) _ _ _)); (fail_if_success (with_reducible show wpAny _ _ (subscriptTail _ _ (Value.ref _) (Value.int _ _)) _ _ _)); (fail_if_success (with_reducible show wpAny _ _ (eval (Expr.ListComp _ _ _ _) _) _ _ _)); (fail_if_success (with_reducible show wpAny _ _ (exec (Stmt.Assign _ (Expr.ListComp _ _ _ _) _) _) _ _ _)); first | walk1 | (dsimp only; walk1))))
      refine' comp_listE (fun j y _ => ∃ t, y = .int ((hs.getD j 0 : Nat) : Int) t) hh ?hlb ?hsb ?htb ?turnb ?doneb
      case hlb => exact ⟨_, t3, rfl, _, rfl⟩
      case hsb => rw [List.size_toArray, htv]; have := hp.length_eq; have h2 := (List.drop_sublist (i + 1) pl).length_le; rw [List.length_cons] at this; (first | lia | omega)
      case htb => exact fun _ _ => .inr ⟨_, _, _, rfl⟩
      case turnb => exact place_turns hh (fun _ => rfl) (fun _ => rfl) (fun _ => rfl) hitT
      case doneb =>
        intro _ D4 h4 tk4 ysT hD4 hp4 hG4 hk4
        obtain ⟨e4, hp4⟩ := hp4
        have F4 := F3.keeps hk4
        have b4 := b3.step fun b' o _ e => hk4 b' o e
        have t4 := hk4 _ _ t3
        have p4 := hk4 _ _ p3
        have hIb : IntsAre ysT (hs.map Int.ofNat) := by
          refine ints_of (by rw [hG4.1, List.length_map, List.size_toArray, htv]) fun j y hy => ?_
          obtain ⟨_, t, e⟩ := hG4.2 j y hy
          have hj : j < hs.length := by
            have := (List.getElem?_eq_some_iff.mp hy).1
            have := hG4.1
            rw [List.size_toArray] at this
            (first | lia | omega)
          refine ⟨t, e.trans (congrArg (Value.int · t) ?_)⟩
          rw [List.getD_eq_getElem?_getD, List.getD_eq_getElem?_getD, List.getElem?_map, List.getElem?_eq_getElem hj]
          rfl
        have kp4 : ∀ b o, b ≠ L → b ≠ pa → b ≠ td → h1.get? b = some o → h4.get? b = some o := fun b' o x1 x2 x3 e => hk4 _ _ (hk3 _ _ (kp2 _ _ x1 x2 x3 e))
        have N4 : News g L h4 [] := fun q hq => nomatch hq
        have hpe4 := hk4 _ _ hp3
        clear hG4 N3 F3 b3 hitT
        dsimp only
        refine ke_ne_ints ⟨_, hpe4, rfl, _, rfl⟩ ⟨_, hp4, rfl, _, rfl⟩ hIa hIb (by (first | lia | omega)) ?_
        simp only [decide_true, Bool.not_true]
        (repeat' (first | (k_unfold; (try dsimp only)) | ((with_reducible show wpAny _ _ (exec _ _) _ _ _); k_fold) | ((fail_if_success k_end); (fail_if_success (with_reducible show wpAny _ _ (subscriptTail _ _ (Value.str _ _) (Value.int _ _)) _ _ _)); (fail_if_success (with_reducible show wpAny _ _ (exec (Stmt.For _ _ _ _ _) _) _ _ _)); (fail_if_success (with_reducible show wpAny _ _ (call (Value.ref _) _ _) _ _ _)); (fail_if_success (with_reducible show wpAny _ _ (call (Value.builtin "str.join") _ _) _ _ _)); (fail_if_success (with_reducible show wpAny _ _ (call (Value.type "enumerate") _ _) _ _ _)); (fail_if_success (with_reducible show wpAny _ _ (call (Value.builtin "sorted") _ _) _ _ _)); (fail_if_success (with_reducible show wpAny _ _ (call (Value.builtin "iter") _ _) _ _ _)); (fail_if_success (with_reducible show wpAny _ _ (compareOp _ (Value.ref _) (Value.ref _)) _ _ _)); (fail_if_success (with_reducible show wpAny _ _ (subscriptTail _ _ (Value.ref _) (Value.int _ _)) _ _ _)); (fail_if_success (with_reducible show wpAny _ _ (eval (Expr.ListComp _ _ _ _) _) _ _ _)); (fail_if_success (with_reducible show wpAny _ _ (exec (Stmt.Assign _ (Expr.ListComp _ _ _ _) _) _) _ _ _)); first | walk1 | (dsimp only; walk1))))
        have hplen := hp.length_eq
        rw [List.length_cons] at hplen
        have hdl := (List.drop_sublist (i + 1) pl).length_le
        clear hIa hIb hpe4 hp4 N4
        obtain ⟨vy, vl, rfl⟩ : ∃ ys v, vsP = ys ++ [v] := by
          rcases List.eq_nil_or_concat vsP with h | ⟨ys, v, h⟩
          · rw [h] at hsv
            simp at hsv
            (first | lia | omega)
          · exact ⟨ys, v, by rw [h, List.concat_eq_append]⟩
        obtain ⟨ps, x0, hse, hP', hR'⟩ := tP.pop (lx := fun x y => lexKD (kdv hb x) (kdv hb y)) (ly := ltP (rkI fill side width ns)) fun a b x y ha hb' => by
          rw [ha.1.kdv_eq, hb'.1.kdv_eq]
          exact kP_lt hfill hside hw2 habs ha.2 hb'.2
        have hst1 := pop_step hF hp hsord hse
        rw [hst1.1] at hR'
        refine ⟨X.keeps F4.keep, wpAny_call ?_⟩
        refine heappop_ok (c'.cx F4) p4 hpaL hpag (by (first | lia | omega)) (by (first | lia | omega)) (by rw [List.length_append] at hsv; simp at hsv; (first | lia | omega)) (lt := fun x y => lexKD (kdv hb x) (kdv hb y)) (fun v hv u hu => ?_) fun h5 tk5 e5 hx5 ha5 => ?_
        · obtain ⟨a, _, h1, _⟩ := tP.mem hv
          obtain ⟨a', _, h2, _⟩ := tP.mem hu
          rw [h1.kdv_eq, h2.kdv_eq]
          have h1' := h1.keeps fun b' o _ e => b4.up b' o e
          have h2' := h2.keeps fun b' o _ e => b4.up b' o e
          exact cmpX_tuple h1' h2' (h1'.ne_list p4) (h2'.ne_list p4) rfl
        obtain ⟨Tp, tp1, tp2, ep, hvp, hTp⟩ := hR'.1.si
        rw [hvp]
        have F5 := ext_fr F4 hx5 hpaL hpag
        have b5 : LB g hb h5 L := ⟨b4.gb, fun b' o e => hx5 b' o (fun q => by rw [q, n3p] at e; cases e) (b4.up b' o e), b4.hL⟩
        have t5 := hx5 _ _ htdpa t4
        have kp5 : ∀ b o, b ≠ L → b ≠ pa → b ≠ td → h1.get? b = some o → h5.get? b = some o := fun b' o x1 x2 x3 e => hx5 _ _ x2 (kp4 _ _ x1 x2 x3 e)
        obtain ⟨etx, tys, htl, htyl, htys⟩ := htx
        have htl5 := b5.up _ _ htl
        have hTx5 := b5.up _ _ hTx
        obtain ⟨ttx, htx1⟩ : ∃ t, tys[x]? = some (.str (textOf (layP fill side width (ns.getD x 0))) t) := by
          have hxt : x < tys.length := by rw [htyl]; exact hxn
          obtain ⟨t, e⟩ := htys x _ (List.getElem?_eq_getElem hxt)
          exact ⟨t, by rw [← e]; exact List.getElem?_eq_getElem hxt⟩
        clear F4 b4 t4 p4 kp4
        obtain ⟨rest5, N5, K5⟩ := keep_rest F5
        dsimp only
        (repeat' (first | (k_unfold; (try dsimp only)) | ((with_reducible show wpAny _ _ (exec _ _) _ _ _); k_fold) | ((fail_if_success k_end); (fail_if_success (with_reducible show wpAny _ _ (subscriptTail _ _ (Value.str _ _) (Value.int _ _)) _ _ _)); (fail_if_success (with_reducible show wpAny _ _ (exec (Stmt.For _ _ _ _ _) _) _ _ _)); (fail_if_success (with_reducible show wpAny _ _ (call (Value.ref _) _ _) _ _ _)); (fail_if_success (with_reducible show wpAny _ _ (call (Value.builtin "str.join") _ _) _ _ _)); (fail_if_success (with_reducible show wpAny _ _ (call (Value.type "enumerate") _ _) _ _ _)); (fail_if_success (with_reducible show wpAny _ _ (call (Value.builtin "sorted") _ _) _ _ _)); (fail_if_success (with_reducible show wpAny _ _ (call (Value.builtin "iter") _ _) _ _ _)); (fail_if_success (with_reducible show wpAny _ _ (compareOp _ (Value.ref _) (Value.ref _)) _ _ _)); (fail_if_success (with_reducible show wpAny _ _ (subscriptTail _ _ (Value.ref _) (Value.int _ _)) _ _ _)); (fail_if_success (with_reducible show wpAny _ _ (eval (Expr.ListComp _ _ _ _) _) _ _ _)); (fail_if_success (with_reducible show wpAny _ _ (exec (Stmt.Assign _ (Expr.ListComp _ _ _ _) _) _) _ _ _)); first | walk1 | (dsimp only; walk1))))
        refine item_tupleT (l := [.int (rdI fill side width ns x) tx1, .int (x : Int) tx2]) ⟨_, hTx5, rfl, _, rfl⟩ (by decide) (by decide) rfl rfl ?_
        (repeat' (first | (k_unfold; (try dsimp only)) | ((with_reducible show wpAny _ _ (exec _ _) _ _ _); k_fold) | ((fail_if_success k_end); (fail_if_success (with_reducible show wpAny _ _ (subscriptTail _ _ (Value.str _ _) (Value.int _ _)) _ _ _)); (fail_if_success (with_reducible show wpAny _ _ (exec (Stmt.For _ _ _ _ _) _) _ _ _)); (fail_if_success (with_reducible show wpAny _ _ (call (Value.ref _) _ _) _ _ _)); (fail_if_success (with_reducible show wpAny _ _ (call (Value.builtin "str.join") _ _) _ _ _)); (fail_if_success (with_reducible show wpAny _ _ (call (Value.type "enumerate") _ _) _ _ _)); (fail_if_success (with_reducible show wpAny _ _ (call (Value.builtin "sorted") _ _) _ _ _)); (fail_if_success (with_reducible show wpAny _ _ (call (Value.builtin "iter") _ _) _ _ _)); (fail_if_success (with_reducible show wpAny _ _ (compareOp _ (Value.ref _) (Value.ref _)) _ _ _)); (fail_if_success (with_reducible show wpAny _ _ (subscriptTail _ _ (Value.ref _) (Value.int _ _)) _ _ _)); (fail_if_success (with_reducible show wpAny _ _ (eval (Expr.ListComp _ _ _ _) _) _ _ _)); (fail_if_success (with_reducible show wpAny _ _ (exec (Stmt.Assign _ (Expr.ListComp _ _ _ _) _) _) _ _ _)); first | walk1 | (dsimp only; walk1))))
        refine itemI ⟨_, htl5, rfl, _, rfl⟩ rfl htx1 (by (first | lia | omega)) ?_
        (repeat' (first | (k_unfold; (try dsimp only)) | ((with_reducible show wpAny _ _ (exec _ _) _ _ _); k_fold) | ((fail_if_success k_end); (fail_if_success (with_reducible show wpAny _ _ (subscriptTail _ _ (Value.str _ _) (Value.int _ _)) _ _ _)); (fail_if_success (with_reducible show wpAny _ _ (exec (Stmt.For _ _ _ _ _) _) _ _ _)); (fail_if_success (with_reducible show wpAny _ _ (call (Value.ref _) _ _) _ _ _)); (fail_if_success (with_reducible show wpAny _ _ (call (Value.builtin "str.join") _ _) _ _ _)); (fail_if_success (with_reducible show wpAny _ _ (call (Value.type "enumerate") _ _) _ _ _)); (fail_if_success (with_reducible show wpAny _ _ (call (Value.builtin "sorted") _ _) _ _ _)); (fail_if_success (with_reducible show wpAny _ _ (call (Value.builtin "iter") _ _) _ _ _)); (fail_if_success (with_reducible show wpAny _ _ (compareOp _ (Value.ref _) (Value.ref _)) _ _ _)); (fail_if_success (with_reducible show wpAny _ _ (subscriptTail _ _ (Value.ref _) (Value.int _ _)) _ _ _)); (fail_if_success (with_reducible show wpAny _ _ (eval (Expr.ListComp _ _ _ _) _) _ _ _)); (fail_if_success (with_reducible show wpAny _ _ (exec (Stmt.Assign _ (Expr.ListComp _ _ _ _) _) _) _ _ _)); first | walk1 | (dsimp only; walk1))))
        refine item_tupleT (l := [.int (rdI fill side width ns x) tx1, .int (x : Int) tx2]) ⟨_, hTx5, rfl, _, rfl⟩ (by decide) (by decide) rfl rfl ?_
        (repeat' (first | (k_unfold; (try dsimp only)) | ((with_reducible show wpAny _ _ (exec _ _) _ _ _); k_fold) | ((fail_if_success k_end); (fail_if_success (with_reducible show wpAny _ _ (subscriptTail _ _ (Value.str _ _) (Value.int _ _)) _ _ _)); (fail_if_success (with_reducible show wpAny _ _ (exec (Stmt.For _ _ _ _ _) _) _ _ _)); (fail_if_success (with_reducible show wpAny _ _ (call (Value.ref _) _ _) _ _ _)); (fail_if_success (with_reducible show wpAny _ _ (call (Value.builtin "str.join") _ _) _ _ _)); (fail_if_success (with_reducible show wpAny _ _ (call (Value.type "enumerate") _ _) _ _ _)); (fail_if_success (with_reducible show wpAny _ _ (call (Value.builtin "sorted") _ _) _ _ _)); (fail_if_success (with_reducible show wpAny _ _ (call (Value.builtin "iter") _ _) _ _ _)); (fail_if_success (with_reducible show wpAny _ _ (compareOp _ (Value.ref _) (Value.ref _)) _ _ _)); (fail_if_success (with_reducible show wpAny _ _ (subscriptTail _ _ (Value.ref _) (Value.int _ _)) _ _ _)); (fail_if_success (with_reducible show wpAny _ _ (eval (Expr.ListComp _ _ _ _) _) _ _ _)); (fail_if_success (with_reducible show wpAny _ _ (exec (Stmt.Assign _ (Expr.ListComp _ _ _ _) _) _) _ _ _)); first | walk1 | (dsimp only; walk1))))
        rename_i D6 h6 F6 N6 l6
        have K6 := K5 _ _ F6 fun q hq => N6 q (.tail _ hq)
        have b6 := b5.step K6
        have t6 := K6 _ _ htdL t5
        have a6 := K6 _ _ hpaL ha5
        have hTp5 := b6.up _ _ hTp
        have hTx6 := b6.up _ _ hTx
        have kp6 : ∀ b o, b ≠ L → b ≠ pa → b ≠ td → h1.get? b = some o → h6.get? b = some o := fun b' o x1 x2 x3 e => K6 _ _ x1 (kp5 _ _ x1 x2 x3 e)
        have hrk := layP_rk (side := side) (width := width) hfill (ns.getD x 0)
        refine ne_tup (va := [.str (textOf (layP fill side width (ns.getD x 0))) tp1, .int (x : Int) tp2]) ⟨_, hTp5, rfl, _, rfl⟩ ⟨_, (N6 _ (.head _)).1, rfl, _, rfl⟩ (.cons (.str _ _) (.cons (.int _ _) .nil)) (.cons (.str _ _) (.cons (.int _ _) .nil)) (sh_si _ _ (text_ok hrk)) (by (first | lia | omega)) (eq_si _ _) ?_
        have N7 : News g L h6 [] := fun q hq => nomatch hq
        clear N6 K5 b5 t5 kp5 K6
        dsimp only
        (repeat' (first | (k_unfold; (try dsimp only)) | ((with_reducible show wpAny _ _ (exec _ _) _ _ _); k_fold) | ((fail_if_success k_end); (fail_if_success (with_reducible show wpAny _ _ (subscriptTail _ _ (Value.str _ _) (Value.int _ _)) _ _ _)); (fail_if_success (with_reducible show wpAny _ _ (exec (Stmt.For _ _ _ _ _) _) _ _ _)); (fail_if_success (with_reducible show wpAny _ _ (call (Value.ref _) _ _) _ _ _)); (fail_if_success (with_reducible show wpAny _ _ (call (Value.builtin "str.join") _ _) _ _ _)); (fail_if_success (with_reducible show wpAny _ _ (call (Value.type "enumerate") _ _) _ _ _)); (fail_if_success (with_reducible show wpAny _ _ (call (Value.builtin "sorted") _ _) _ _ _)); (fail_if_success (with_reducible show wpAny _ _ (call (Value.builtin "iter") _ _) _ _ _)); (fail_if_success (with_reducible show wpAny _ _ (compareOp _ (Value.ref _) (Value.ref _)) _ _ _)); (fail_if_success (with_reducible show wpAny _ _ (subscriptTail _ _ (Value.ref _) (Value.int _ _)) _ _ _)); (fail_if_success (with_reducible show wpAny _ _ (eval (Expr.ListComp _ _ _ _) _) _ _ _)); (fail_if_success (with_reducible show wpAny _ _ (exec (Stmt.Assign _ (Expr.ListComp _ _ _ _) _) _) _ _ _)); first | walk1 | (dsimp only; walk1))))
        obtain ⟨vy', vl', rfl⟩ : ∃ ys v, vsT = ys ++ [v] := by
          rcases List.eq_nil_or_concat vsT with h | ⟨ys, v, h⟩
          · rw [h] at htv
            simp at htv
            (first | lia | omega)
          · exact ⟨ys, v, by rw [h, List.concat_eq_append]⟩
        obtain ⟨ps', x0', hse', hT', hQ'⟩ := tT.pop (lx := fun x y => lexKD (kdv hb x) (kdv hb y)) (ly := ltP (rkI fill side width ns)) fun a b x y ha hb' => by
          rw [ha.1.kdv_eq, hb'.1.kdv_eq]
          exact kT_lt hfill hside hw2 habs ha.2 hb'.2
        obtain ⟨e1, e2⟩ := List.append_inj' (hse'.symm.trans hse) rfl
        simp only [List.cons.injEq, and_true] at e2
        subst e1 e2
        rw [hst1.1] at hQ'
        refine ⟨X.keeps F6.keep, wpAny_call ?_⟩
        refine heappop_ok (c'.cx F6) t6 htdL htdg (by (first | lia | omega)) (by (first | lia | omega)) (by rw [List.length_append] at htv; simp at htv; (first | lia | omega)) (lt := fun x y => lexKD (kdv hb x) (kdv hb y)) (fun v hv u hu => ?_) fun h7 tk7 e7 hx7 ha7 => ?_
        · obtain ⟨a, _, h1, _⟩ := tT.mem hv
          obtain ⟨a', _, h2, _⟩ := tT.mem hu
          rw [h1.kdv_eq, h2.kdv_eq]
          have h1' := h1.keeps fun b' o _ e => b6.up b' o e
          have h2' := h2.keeps fun b' o _ e => b6.up b' o e
          exact cmpX_tuple h1' h2' (h1'.ne_list t6) (h2'.ne_list t6) rfl
        obtain ⟨Tt, tt1, tt2, et', hvt, hTt⟩ := hQ'.1.ii
        rw [hvt]
        have F7 := ext_fr F6 hx7 htdL htdg
        have b7 : LB g hb h7 L := ⟨b6.gb, fun b' o e => hx7 b' o (fun q => by rw [q, n3t] at e; cases e) (b6.up b' o e), b6.hL⟩
        have a7 := hx7 _ _ (Ne.symm htdpa) a6
        have kp7 : ∀ b o, b ≠ L → b ≠ pa → b ≠ td → h1.get? b = some o → h7.get? b = some o := fun b' o x1 x2 x3 e => hx7 _ _ x3 (kp6 _ _ x1 x2 x3 e)
        have hTt7 := b7.up _ _ hTt
        have hTx7 := b7.up _ _ hTx
        replace N7 : News g L h7 [] := fun q hq => nomatch hq
        clear F6 b6 t6 a6 kp6
        dsimp only
        (repeat' (first | (k_unfold; (try dsimp only)) | ((with_reducible show wpAny _ _ (exec _ _) _ _ _); k_fold) | ((fail_if_success k_end); (fail_if_success (with_reducible show wpAny _ _ (subscriptTail _ _ (Value.str _ _) (Value.int _ _)) _ _ _)); (fail_if_success (with_reducible show wpAny _ _ (exec (Stmt.For _ _ _ _ _) _) _ _ _)); (fail_if_success (with_reducible show wpAny _ _ (call (Value.ref _) _ _) _ _ _)); (fail_if_success (with_reducible show wpAny _ _ (call (Value.builtin "str.join") _ _) _ _ _)); (fail_if_success (with_reducible show wpAny _ _ (call (Value.type "enumerate") _ _) _ _ _)); (fail_if_success (with_reducible show wpAny _ _ (call (Value.builtin "sorted") _ _) _ _ _)); (fail_if_success (with_reducible show wpAny _ _ (call (Value.builtin "iter") _ _) _ _ _)); (fail_if_success (with_reducible show wpAny _ _ (compareOp _ (Value.ref _) (Value.ref _)) _ _ _)); (fail_if_success (with_reducible show wpAny _ _ (subscriptTail _ _ (Value.ref _) (Value.int _ _)) _ _ _)); (fail_if_success (with_reducible show wpAny _ _ (eval (Expr.ListComp _ _ _ _) _) _ _ _)); (fail_if_success (with_reducible show wpAny _ _ (exec (Stmt.Assign _ (Expr.ListComp _ _ _ _) _) _) _ _ _)); first | walk1 | (dsimp only; walk1))))
        refine ne_tup (va := [.int (rdI fill side width ns x) tt1, .int (x : Int) tt2]) (vb := [.int (rdI fill side width ns x) tx1, .int (x : Int) tx2]) ⟨_, hTt7, rfl, _, rfl⟩ ⟨_, hTx7, rfl, _, rfl⟩ (.cons (.int _ _) (.cons (.int _ _) .nil)) (.cons (.int _ _) (.cons (.int _ _) .nil)) (sh_ii _ _) (by (first | lia | omega)) (eq_ii _ _) ?_
        (try dsimp only)
        (repeat' (first | (k_unfold; (try dsimp only)) | ((with_reducible show wpAny _ _ (exec _ _) _ _ _); k_fold) | ((fail_if_success k_end); (fail_if_success (with_reducible show wpAny _ _ (subscriptTail _ _ (Value.str _ _) (Value.int _ _)) _ _ _)); (fail_if_success (with_reducible show wpAny _ _ (exec (Stmt.For _ _ _ _ _) _) _ _ _)); (fail_if_success (with_reducible show wpAny _ _ (call (Value.ref _) _ _) _ _ _)); (fail_if_success (with_reducible show wpAny _ _ (call (Value.builtin "str.join") _ _) _ _ _)); (fail_if_success (with_reducible show wpAny _ _ (call (Value.type "enumerate") _ _) _ _ _)); (fail_if_success (with_reducible show wpAny _ _ (call (Value.builtin "sorted") _ _) _ _ _)); (fail_if_success (with_reducible show wpAny _ _ (call (Value.builtin "iter") _ _) _ _ _)); (fail_if_success (with_reducible show wpAny _ _ (compareOp _ (Value.ref _) (Value.ref _)) _ _ _)); (fail_if_success (with_reducible show wpAny _ _ (subscriptTail _ _ (Value.ref _) (Value.int _ _)) _ _ _)); (fail_if_success (with_reducible show wpAny _ _ (eval (Expr.ListComp _ _ _ _) _) _ _ _)); (fail_if_success (with_reducible show wpAny _ _ (exec (Stmt.Assign _ (Expr.ListComp _ _ _ _) _) _) _ _ _)); first | walk1 | (dsimp only; walk1))))
        dsimp only
        exact ⟨(hJ _ _).mpr ⟨h7, tk7, _, _, _, e7, _, e5, rfl, F7, q1, q3, q4, b7, ha7, a7, hT', hP', hst1.2.1, hst1.2.2⟩, hSt.at fun o e => kp7 I o hIL (Ne.symm hpaI) (Ne.symm htdI) e, ⟨_, b7.up _ _ hrw, rfl, _, rfl⟩⟩
end
end Mine
end
end
section
open PySem PySem.W PyProof.Rows PySem.Calls
set_option maxHeartbeats 8000000
namespace Mine
theorem offL11 : True := by
  w_top off
  trivial

theorem lawNum_abs {c : Int} : (lawNum c).natAbs < 100000 := by
  have h1 := Int.fmod_nonneg_of_pos c (show (0 : Int) < 5 by decide)
  have h2 := Int.fmod_lt_of_pos c (show (0 : Int) < 5 by decide)
  have hk : (10 : Int) ^ (c.fmod 5 + 1).toNat ≤ 100000 ∧ (0 : Int) < 10 ^ (c.fmod 5 + 1).toNat := by
    generalize c.fmod 5 = r at h1 h2
    rcases (by omega : r = 0 ∨ r = 1 ∨ r = 2 ∨ r = 3 ∨ r = 4) with rfl | rfl | rfl | rfl | rfl <;> decide
  have h3 := Int.fmod_nonneg_of_pos (c.fdiv 10) hk.2
  have h4 := Int.fmod_lt_of_pos (c.fdiv 10) hk.2
  unfold lawNum
  split <;> omega

section
variable {w : World} {A₀ A : Around} {g : Heap} {L fa : Addr} {m : Str → Option Value} {p : Program} {loose : List Str} {mean : ExcName → Option Value} {mg mb : Str → Option Value} {s : Shared}
theorem law_walk {Q : Flow → Shared → Prop} {E : Value → Shared → Prop} (c : LC w A₀ A g L fa p loose mean mg mb) {ls : Addr} {items : List Value} {xs : List Int} {o1 o2 o3 o4 o5 o6 o7 o8 : Obj}
    (F : Fr g L s.heap m) (hm : m "script" = some (.ref ls)) (hls : g.IsList ls items.toArray) (hI : IntsAre items xs) (hlen : xs.length ≤ 63)
    (N : News g L s.heap [(L + 8, o8), (L + 7, o7), (L + 6, o6), (L + 5, o5), (L + 4, o4), (L + 3, o3), (L + 2, o2), (L + 1, o1), (202, tabObj #[])])
    (d1 : o1.data = .cell none) (d2 : o2.data = .cell none) (d3 : o3.data = .cell none) (d4 : o4.data = .cell none) (d5 : o5.data = .cell none) (d6 : o6.data = .cell none) (d7 : o7.data = .cell none) (d8 : o8.data = .cell none) (htL : 202 < L) (hcode : CodeHd g 204 202)
    (k : ∀ h' tk m', Fr g L h' m' → (∃ ps, h'.get? 202 = some (tabObj ps)) → Q (.ret (.bool true)) { s with heap := h', toks := tk }) :
    wpAny (model PySem.Challenge.rw_ij0057_01.row.prog w) A (execs lawDef.body (LE L fa)) Q E s := by
  have gc : ∀ {i : Nat}, g.get? (L + i) = none := fun {i} => Heap.get?_none_of_le (Nat.le_trans F.above (Nat.le_add_right L i))
  have gt : g.get? 202 = none := (News.at N (i := 8) rfl).2.2
  have htN : (202 : Addr) ≠ L := (News.at N (i := 8) rfl).2.1
  have cn : ∀ {i : Nat}, 1 ≤ i → L + i ≠ L := fun {i} h => show @Ne Nat (L + i) L by omega
  have ledger : ∀ {h : Heap} {D : Addr} {oD o1 o2 o3 o4 o5 o6 o7 o8 : Obj}, News g L h [(D, oD)] → h.get? (L + 1) = some o1 → h.get? (L + 2) = some o2 → h.get? (L + 3) = some o3 → h.get? (L + 4) = some o4 → h.get? (L + 5) = some o5 → h.get? (L + 6) = some o6 → h.get? (L + 7) = some o7 → h.get? (L + 8) = some o8 → h.get? 202 = some (tabObj #[]) →
      News g L h [(D, oD), (L + 8, o8), (L + 7, o7), (L + 6, o6), (L + 5, o5), (L + 4, o4), (L + 3, o3), (L + 2, o2), (L + 1, o1), (202, tabObj #[])] := fun {h D oD o1 o2 o3 o4 o5 o6 o7 o8} hD e1 e2 e3 e4 e5 e6 e7 e8 eT q hq => by
    simp only [List.mem_cons, List.not_mem_nil, or_false] at hq
    rcases hq with rfl | rfl | rfl | rfl | rfl | rfl | rfl | rfl | rfl | rfl
    · exact hD _ (.head _)
    · exact ⟨e8, cn (by decide), gc⟩
    · exact ⟨e7, cn (by decide), gc⟩
    · exact ⟨e6, cn (by decide), gc⟩
    · exact ⟨e5, cn (by decide), gc⟩
    · exact ⟨e4, cn (by decide), gc⟩
    · exact ⟨e3, cn (by decide), gc⟩
    · exact ⟨e2, cn (by decide), gc⟩
    · exact ⟨e1, cn (by decide), gc⟩
    · exact ⟨eT, htN, gt⟩
  refine segA1 c F hm hls hI hlen N d1 d2 d3 d4 d5 d6 d7 d8 htL fun h1 tk1 m1 ys D1 e1 fill side width shape t t1 t2 t3 F1 ma mb' N1 hIy hs1 hs2 hf hs hw1 hw2 c1 c2 c3 c4 c5 c6 c7 c8 hT => ?_
  obtain ⟨p1, q1, r1⟩ := c1
  obtain ⟨p2, q2, r2⟩ := c2
  obtain ⟨p3, q3, r3⟩ := c3
  obtain ⟨p4, q4, r4⟩ := c4
  obtain ⟨p5, q5, r5⟩ := c5
  obtain ⟨p6, q6, r6⟩ := c6
  obtain ⟨p7, q7, r7⟩ := c7
  obtain ⟨p8, q8, r8⟩ := c8
  have hcl : ((xs.take 7).map fun x => x.fmod 1000000).length ≤ 7 := by rw [List.length_map, List.length_take]; omega
  have hcs : ∀ c ∈ (xs.take 7).map fun x => x.fmod 1000000, 0 ≤ c ∧ c < 1000000 := fun c hc => by
    obtain ⟨x, _, rfl⟩ := List.mem_map.mp hc
    exact ⟨Int.fmod_nonneg_of_pos _ (by decide), Int.fmod_lt_of_pos _ (by decide)⟩
  refine segA2 (s := { s with heap := h1, toks := tk1 }) c F1 ma mb' hIy hcl hcs hs1 hs2 (ledger N1 q1 q2 q3 q4 q5 q6 q7 q8 hT) r1 r2 r3 r4 r5 r6 r7 r8 htL fun h2 tk2 m2 vs D e' t4 F2 mc N2 hI2 c1 c2 c3 c4 c5 c6 c7 c8 hT2 hDc => ?_
  clear q1 r1 q2 r2 q3 r3 q4 r4 q5 r5 q6 r6 q7 r7 q8 r8
  obtain ⟨p1, q1, r1⟩ := c1
  obtain ⟨p2, q2, r2⟩ := c2
  obtain ⟨p3, q3, r3⟩ := c3
  obtain ⟨p4, q4, r4⟩ := c4
  obtain ⟨p5, q5, r5⟩ := c5
  obtain ⟨p6, q6, r6⟩ := c6
  obtain ⟨p7, q7, r7⟩ := c7
  obtain ⟨p8, q8, r8⟩ := c8
  have hnl : ([30, -4, 4, 3, 300, 40] ++ (((xs.take 7).map fun x => x.fmod 1000000).drop 1).map lawNum : List Int).length = 6 + (((xs.take 7).map fun x => x.fmod 1000000).length - 1) := by
    rw [List.length_append, List.length_map, List.length_drop]; rfl
  have habs : ∀ n ∈ ([30, -4, 4, 3, 300, 40] ++ (((xs.take 7).map fun x => x.fmod 1000000).drop 1).map lawNum : List Int), n.natAbs < 100000 := fun n hn => by
    rcases List.mem_append.mp hn with hn | hn
    · simp only [List.mem_cons, List.not_mem_nil, or_false] at hn
      rcases hn with rfl | rfl | rfl | rfl | rfl | rfl <;> decide
    · obtain ⟨c, _, rfl⟩ := List.mem_map.mp hn
      exact lawNum_abs
  generalize ([30, -4, 4, 3, 300, 40] ++ (((xs.take 7).map fun x => x.fmod 1000000).drop 1).map lawNum : List Int) = ns at hI2 hnl habs
  refine segA3 (s := { s with heap := h2, toks := tk2 }) c F2 mc hI2 (by omega) (by omega) hs1 hs2 hf hs hw1 hw2 (ledger N2 q1 q2 q3 q4 q5 q6 q7 q8 hT2) r1 r2 r3 r4 r5 r6 r7 r8 htL hDc hcode habs fun h3 tk3 m3 kf wish t5 hwish F3 md st gD => ?_
  have b3 : LB g (hideAll h3 [L]) h3 L := ⟨fun b o e => hideAll_get _ (F3.keep b o e) (by
      simp only [List.mem_singleton]
      exact Nat.ne_of_lt (Nat.lt_of_lt_of_le (Heap.lt_size e) F3.above)), fun b o e => of_hideAll _ e, hideAll_none _ (by simp)⟩
  generalize hideAll h3 [L] = hb at st b3
  refine segB1 (s := { s with heap := h3, toks := tk3 }) c F3 md b3 st fun h4 tk4 m4 ll tl F4 me mf mg' b4 hlay htx => ?_
  refine segB2 (s := { s with heap := h4, toks := tk4 }) c F4 me mf mg' b4 st hlay htx fun h5 tk5 m5 td rw bk pl pl' F5 mh mi mj mk ml b5 htx5 htd5 hrow5 hback5 hpl hpl' htdg htdrw htdbk htdb htdtl => ?_
  refine segC (s := { s with heap := h5, toks := tk5 }) c F5 mh mk b5 st hwish hrow5 hpl fun h6 tk6 F6 k6 => ?_
  have kd6 : ∀ b o, h5.get? b = some o → (∀ es n, o.data ≠ .dict es n) → h6.get? b = some o := fun b o e hd => k6 b o (ns_ne F5.ns e hd) e
  have b6 := b5.step k6
  refine segD (s := { s with heap := h6, toks := tk6 }) c F6 mh ml b6 st hwish (hback5.keeps kd6) hpl' fun h7 tk7 F7 k7 => ?_
  have kd7 : ∀ b o, h5.get? b = some o → (∀ es n, o.data ≠ .dict es n) → h7.get? b = some o := fun b o e hd => k7 b o (ns_ne F5.ns e hd) (kd6 b o e hd)
  have b7 := b6.step k7
  refine segE (s := { s with heap := h7, toks := tk7 }) c F7 mj mk mi b7 st (hrow5.keeps kd7) (htd5.keeps kd7) (htx5.keeps kd7) htdg htdrw htdb htdtl fun h8 tk8 m8 pa hb3 F8 mn mo mp mq b8 hrow8 htx8 htab8 n3t n3p htdpa hpaL htdL hpag hT8 hP8 => ?_
  exact segF (s := { s with heap := h8, toks := tk8 }) c F8 mn mo mp mq b8 hf hs hw2 habs st.h12 st.h6 hrow8 htx8 htab8 n3t n3p htdpa hpaL htdL htdg hpag (sorted_places (fun i j hi hj => kT_lt hf hs hw2 habs hi hj) hpl) hT8 hP8 fun h9 tk9 m9 F9 tab9 => k h9 tk9 m9 F9 tab9
end
end Mine
end
open PySem PySem.W PyProof.Rows PySem.Calls
set_option maxHeartbeats 8000000
-- names that the twin-maker would take for the big constants of the head: taken, so that it lays no twin (the twins' proofs are 20 MB; the kernel does without)
noncomputable def Mine.whole.tw8949506645116363713 : Unit := ()
noncomputable def Mine.whole.tw8967514044891345066 : Unit := ()
noncomputable def Mine.whole.tw10144505478992762587 : Unit := ()
noncomputable def Mine.whole.tw9862627608791061423 : Unit := ()
noncomputable def Mine.whole.tw1242133270297695508 : Unit := ()
noncomputable def Mine.whole.tw8530396208491600973 : Unit := ()
noncomputable def Mine.whole.tw1285456676958793079 : Unit := ()
noncomputable def Mine.whole.tw11384259339768038936 : Unit := ()
noncomputable def Mine.whole.tw4605417425148642151 : Unit := ()
noncomputable def Mine.whole.tw1470681187219097129 : Unit := ()
noncomputable def Mine.whole.tw15679366415527796655 : Unit := ()
noncomputable def Mine.whole.tw17692944630003236201 : Unit := ()
noncomputable def Mine.whole.tw1720058059327372050 : Unit := ()
noncomputable def Mine.whole.tw3259750212250838152 : Unit := ()
noncomputable def Mine.whole.tw3995731761553443277 : Unit := ()
noncomputable def Mine.whole.tw18002605889592775486 : Unit := ()
noncomputable def Mine.whole.tw6416634858453334624 : Unit := ()
noncomputable def Mine.whole.tw5408107943391738 : Unit := ()
noncomputable def Mine.whole.tw14031613983174702221 : Unit := ()
noncomputable def Mine.whole.tw1329479340354266572 : Unit := ()
noncomputable def Mine.whole.tw11876454138822706389 : Unit := ()
noncomputable def Mine.whole.tw6266228650988000492 : Unit := ()
noncomputable def Mine.whole.tw17870853324313594786 : Unit := ()
noncomputable def Mine.whole.tw5081031077709457048 : Unit := ()
noncomputable def Mine.whole.tw1640677438868554593 : Unit := ()
noncomputable def Mine.whole.tw11836910150536664915 : Unit := ()
noncomputable def Mine.whole.tw6711224856247384401 : Unit := ()
noncomputable def Mine.whole.tw10887019763833697050 : Unit := ()
noncomputable def Mine.whole.tw13962616709173656972 : Unit := ()
noncomputable def Mine.whole.tw8799044985600393684 : Unit := ()
noncomputable def Mine.whole.tw10335108021726791369 : Unit := ()
noncomputable def Mine.whole.tw15274856360797078626 : Unit := ()
noncomputable def Mine.whole.tw2013318861076662011 : Unit := ()
noncomputable def Mine.whole.tw9315315907157715723 : Unit := ()
noncomputable def Mine.whole.tw7185185305316088854 : Unit := ()
noncomputable def Mine.whole.tw12179455670472476543 : Unit := ()
noncomputable def Mine.whole.tw2168223474955763204 : Unit := ()
noncomputable def Mine.whole.tw7276013540153241084 : Unit := ()
noncomputable def Mine.whole.tw1633898876240874773 : Unit := ()
noncomputable def Mine.whole.tw14381574177426341226 : Unit := ()
noncomputable def Mine.whole.tw8615399842404961663 : Unit := ()
noncomputable def Mine.whole.tw7466904020207815869 : Unit := ()
noncomputable def Mine.whole.tw14890280090424698046 : Unit := ()
noncomputable def Mine.whole.tw14756447051001558117 : Unit := ()
noncomputable def Mine.whole.tw18162983195158539490 : Unit := ()
noncomputable def Mine.whole.tw12117460353608821864 : Unit := ()
noncomputable def Mine.whole.tw11690859581915506653 : Unit := ()
noncomputable def Mine.whole.tw6866068747796929802 : Unit := ()
noncomputable def Mine.whole.tw13675596732203519343 : Unit := ()
noncomputable def Mine.whole.tw17395194986337826024 : Unit := ()
noncomputable def Mine.whole.tw1765076044715932963 : Unit := ()
noncomputable def Mine.whole.tw1021466310418864216 : Unit := ()
noncomputable def Mine.whole.tw9951143050096045611 : Unit := ()
noncomputable def Mine.whole.tw1587768003098754325 : Unit := ()
noncomputable def Mine.whole.tw4603890583814415204 : Unit := ()
noncomputable def Mine.whole.tw2781955308351554444 : Unit := ()
noncomputable def Mine.whole.tw3166543957339863982 : Unit := ()
noncomputable def Mine.whole.tw12384220206497402333 : Unit := ()
noncomputable def Mine.whole.tw13142167418276237254 : Unit := ()
noncomputable def Mine.whole.tw4163455835068889971 : Unit := ()
noncomputable def Mine.whole.tw15401142651479110994 : Unit := ()
noncomputable def Mine.whole.tw15835130817642446534 : Unit := ()
noncomputable def Mine.whole.tw8983667203327932493 : Unit := ()
noncomputable def Mine.whole.tw13760198194640045919 : Unit := ()
noncomputable def Mine.whole.tw13974613887430780637 : Unit := ()
noncomputable def Mine.whole.tw6531100040246800141 : Unit := ()
noncomputable def Mine.whole.tw16529046165737248422 : Unit := ()
noncomputable def Mine.whole.tw5438831827131416888 : Unit := ()
noncomputable def Mine.whole.tw17843127513448600897 : Unit := ()
noncomputable def Mine.whole.tw2649048575011448004 : Unit := ()
noncomputable def Mine.whole.tw285988719286631819 : Unit := ()
noncomputable def Mine.whole.tw3798757254938238448 : Unit := ()
noncomputable def Mine.whole.tw6888942637506950926 : Unit := ()
noncomputable def Mine.whole.tw12850242359631670003 : Unit := ()
noncomputable def Mine.whole.tw9654072969724333583 : Unit := ()
noncomputable def Mine.whole.tw17700112632457955127 : Unit := ()
noncomputable def Mine.whole.tw12920395458479335663 : Unit := ()
noncomputable def Mine.whole.tw3150075250938504248 : Unit := ()
noncomputable def Mine.whole.tw6377287985247879410 : Unit := ()
noncomputable def Mine.whole.tw10178181129370835086 : Unit := ()
noncomputable def Mine.whole.tw10002100669626812175 : Unit := ()
noncomputable def Mine.whole.tw203428145850139289 : Unit := ()
noncomputable def Mine.whole.tw5942346508108547180 : Unit := ()
noncomputable def Mine.whole.tw6356627984389668255 : Unit := ()
noncomputable def Mine.whole.tw5649241889958590350 : Unit := ()
noncomputable def Mine.whole.tw5001923725869043736 : Unit := ()
noncomputable def Mine.whole.tw17980908128825299112 : Unit := ()
noncomputable def Mine.whole.tw3085902745639715626 : Unit := ()
noncomputable def Mine.whole.tw6525215580464160042 : Unit := ()
noncomputable def Mine.whole.tw7056001396292377188 : Unit := ()
noncomputable def Mine.whole.tw8894826161267586577 : Unit := ()
noncomputable def Mine.whole.tw14661705875561194100 : Unit := ()
noncomputable def Mine.whole.tw11409993775148365219 : Unit := ()
noncomputable def Mine.whole.tw8444963059077079450 : Unit := ()
noncomputable def Mine.whole.tw7868544009499267292 : Unit := ()
noncomputable def Mine.whole.tw10499325594661192776 : Unit := ()
noncomputable def Mine.whole.tw9406530864695525851 : Unit := ()
noncomputable def Mine.whole.tw2439357469168130064 : Unit := ()
noncomputable def Mine.whole.tw4772658413541480157 : Unit := ()
noncomputable def Mine.whole.tw7689902935678670512 : Unit := ()
noncomputable def Mine.whole.tw13463558215457259582 : Unit := ()
noncomputable def Mine.whole.tw1072497446573119103 : Unit := ()
noncomputable def Mine.whole.tw8109663874093803249 : Unit := ()
noncomputable def Mine.whole.tw9024608533772062355 : Unit := ()
noncomputable def Mine.whole.tw6290923202673413122 : Unit := ()
noncomputable def Mine.whole.tw6772379921613518395 : Unit := ()
noncomputable def Mine.whole.tw6774775609766916077 : Unit := ()
noncomputable def Mine.whole.tw10301362462094837657 : Unit := ()
noncomputable def Mine.whole.tw8868806382682364411 : Unit := ()
noncomputable def Mine.whole.tw8243020233432551205 : Unit := ()
noncomputable def Mine.whole.tw10339747121181971505 : Unit := ()
noncomputable def Mine.whole.tw15103685750691789098 : Unit := ()
noncomputable def Mine.whole.tw7564407027854533171 : Unit := ()
noncomputable def Mine.whole.tw10025635815308576066 : Unit := ()
noncomputable def Mine.whole.tw3479739002732855021 : Unit := ()
noncomputable def Mine.whole.tw17179786008130999086 : Unit := ()
noncomputable def Mine.whole.tw1902754551582867561 : Unit := ()
noncomputable def Mine.whole.tw11116944545036436439 : Unit := ()
noncomputable def Mine.whole.tw13989200534822022692 : Unit := ()
noncomputable def Mine.whole.tw10590843552420965350 : Unit := ()
noncomputable def Mine.whole.tw17169624498616045403 : Unit := ()
noncomputable def Mine.whole.tw3945383572190744343 : Unit := ()
noncomputable def Mine.whole.tw14492196311604417308 : Unit := ()
noncomputable def Mine.whole.tw5277582801102665213 : Unit := ()
noncomputable def Mine.whole.tw1859146779660683823 : Unit := ()
noncomputable def Mine.whole.tw12928932934922122878 : Unit := ()
noncomputable def Mine.whole.tw4918820536221260690 : Unit := ()
noncomputable def Mine.whole.tw5833760311655045577 : Unit := ()
noncomputable def Mine.whole.tw10379991877525085312 : Unit := ()
noncomputable def Mine.whole.tw715978364194892080 : Unit := ()
noncomputable def Mine.whole.tw4909349585908861296 : Unit := ()
noncomputable def Mine.whole.tw5938623499991607928 : Unit := ()
noncomputable def Mine.whole.tw8181180424491326830 : Unit := ()
noncomputable def Mine.whole.tw6150244297128479101 : Unit := ()
noncomputable def Mine.whole.tw17781206938751360472 : Unit := ()
noncomputable def Mine.whole.tw18060336119277286115 : Unit := ()
noncomputable def Mine.whole.tw12442016628978143412 : Unit := ()
noncomputable def Mine.whole.tw46433443316919834 : Unit := ()
noncomputable def Mine.whole.tw14395644662136614805 : Unit := ()
noncomputable def Mine.whole.tw16731332320388202666 : Unit := ()
noncomputable def Mine.whole.tw9722750020625992282 : Unit := ()
noncomputable def Mine.whole.tw7101197657001211085 : Unit := ()
noncomputable def Mine.whole.tw2290268214366725154 : Unit := ()
noncomputable def Mine.whole.tw12562849145585476731 : Unit := ()
noncomputable def Mine.whole.tw1266484639899004939 : Unit := ()
noncomputable def Mine.whole.tw4479364801722962140 : Unit := ()
noncomputable def Mine.whole.tw6612613915786651340 : Unit := ()
noncomputable def Mine.whole.tw12808456870637180559 : Unit := ()
noncomputable def Mine.whole.tw6891315699540082446 : Unit := ()
noncomputable def Mine.whole.tw7588574119468234827 : Unit := ()
noncomputable def Mine.whole.tw17463027529269885953 : Unit := ()
noncomputable def Mine.whole.tw2912573282932879776 : Unit := ()
noncomputable def Mine.whole.tw17195952149560314771 : Unit := ()
noncomputable def Mine.whole.tw12967805889597932581 : Unit := ()
noncomputable def Mine.whole.tw842793390314483620 : Unit := ()
noncomputable def Mine.whole.tw13334927893685096626 : Unit := ()
noncomputable def Mine.whole.tw15089273742334493110 : Unit := ()
noncomputable def Mine.whole.tw9733464779038806419 : Unit := ()
noncomputable def Mine.whole.tw16316554137538487329 : Unit := ()
noncomputable def Mine.whole.tw15695161780090201225 : Unit := ()
noncomputable def Mine.whole.tw13468923340822585488 : Unit := ()
noncomputable def Mine.whole.tw381110514646162275 : Unit := ()
noncomputable def Mine.whole.tw10118140284582671090 : Unit := ()
noncomputable def Mine.whole.tw11423436602419212718 : Unit := ()
noncomputable def Mine.whole.tw8572516506043022915 : Unit := ()
noncomputable def Mine.whole.tw4337987958061720545 : Unit := ()
noncomputable def Mine.whole.tw15652777202477211125 : Unit := ()
noncomputable def Mine.whole.tw9775085227918541326 : Unit := ()
noncomputable def Mine.whole.tw14671651394210877623 : Unit := ()
noncomputable def Mine.whole.tw10007520593648235073 : Unit := ()
noncomputable def Mine.whole.tw8884531897199943920 : Unit := ()
noncomputable def Mine.whole.tw3162365515331879682 : Unit := ()
noncomputable def Mine.whole.tw1182916100746360932 : Unit := ()
noncomputable def Mine.whole.tw3141554390599180669 : Unit := ()
noncomputable def Mine.whole.tw9787344453429475573 : Unit := ()
noncomputable def Mine.whole.tw10354518954362131899 : Unit := ()
noncomputable def Mine.whole.tw11678933692714762019 : Unit := ()
noncomputable def Mine.whole.tw10472183733418339316 : Unit := ()
noncomputable def Mine.whole.tw14857529406646634625 : Unit := ()
noncomputable def Mine.whole.tw9446046918361872579 : Unit := ()
noncomputable def Mine.whole.tw9347626172496877827 : Unit := ()
noncomputable def Mine.whole.tw14916202748087371944 : Unit := ()
noncomputable def Mine.whole.tw14239292526413980002 : Unit := ()
noncomputable def Mine.whole.tw17529894129228449367 : Unit := ()
noncomputable def Mine.whole.tw17092094596097150618 : Unit := ()
noncomputable def Mine.whole.tw9521756469634577901 : Unit := ()
noncomputable def Mine.whole.tw4672207989499910625 : Unit := ()
set_option Elab.async true in
theorem Mine.whole : PySem.Challenge.rw_ij0057_01.Holds := by
  w_on
  o_law
  k_head
  (case hw => w_witness2)
  k_go0
  (all_goals try k_fold)
  rename Below _ _ _ _ => K'
  rename Fr _ _ _ _ => F'
  rename News _ _ _ _ => N'
  rename CodeHd _ _ _ => C'
  rename Top topProg _ _ _ _ _ => T'
  rename IntsAre _ _ => hI
  rename Heap.IsList (ghostOf _ _) _ _ => hL
  refine Mine.law_walk ⟨K', (by rename Frag.In _ _ => KX; exact KX), T', rfl, rfl, by show callerA.depth + 1 + 60 < recursionLimit; decide, by show callerA.units + 3 + 500 < cLine; decide⟩ F' rfl hL hI (by omega) N' ?d1 ?d2 ?d3 ?d4 ?d5 ?d6 ?d7 ?d8 ?ht C' fun h' tk m' F9 tab9 => ?fin
  case d1 => assumption
  case d2 => assumption
  case d3 => assumption
  case d4 => assumption
  case d5 => assumption
  case d6 => assumption
  case d7 => assumption
  case d8 => assumption
  case ht => assumption
  case fin =>
    dsimp only
    refine ⟨?_, tab9, True.intro⟩
    wrow_close
theorem PySem.Challenge.cw_ij0057_01_holds : PySem.Challenge.rw_ij0057_01.Holds :=
  Mine.whole

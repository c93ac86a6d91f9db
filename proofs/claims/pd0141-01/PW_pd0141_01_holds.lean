import PyProof.Rows.All
import Wide.All
import OpenK.AllK
import Wide.FinOn
import PyProof.EqAt
import PyProof.MinMaxWalk
import PyProof.GenObj
import PyProof.GenQ
import Lean
import PySem.Challenge.RW_pd0141_01
open PySem PySem.W PyProof.Rows
set_option Elab.async false
set_option compiler.extract_closed false
namespace Mine
section
open PySem PySem.W PyProof.Rows
set_option Elab.async false
set_option maxRecDepth 100000
set_option maxHeartbeats 0
/-- what the claim's walk may read of the text: the statements that the top leaves bound as they are written -/
def vw : Program := PySem.W.view PySem.Challenge.rw_pd0141_01.row.toRowW.prog [0, 2, 3, 5, 7, 9, 10, 12, 14, 16, 17, 18, 19, 20, 21, 23, 24, 25, 26, 27, 28, 29, 30, 31]
theorem lo_said : looksOpen PySem.Challenge.rw_pd0141_01.row.toRowW.prog = true := by
  unfold looksOpen
  refine look_both (look_both (look_both (look_both ?a ?b) ?c) ?d) ?e
  case a => decide +kernel
  case b => decide +kernel
  case c => decide +kernel
  case d => decide +kernel
  case e => decide +kernel
theorem row_ok : PySem.Challenge.rw_pd0141_01.row.wellSaid = true := by
  unfold OpenRow.wellSaid OpenRow.partSaid
  rw [lo_said]
  decide +kernel
theorem law_ok : PySem.Challenge.rw_pd0141_01.wellSaid = true := by
  unfold OpenLaw.wellSaid
  rw [row_ok]
  decide +kernel
section
local macro_rules | `(tactic| o_law) => `(tactic| refine holds_law law_ok fun said => ?_)
local macro_rules | `(tactic| o_head $H) => `(tactic| (
  refine holds_open (q := vw) (loose := []) (Xt := fun s => xlAt vw [] s && recOk (RowW.records PySem.Challenge.rw_pd0141_01.row.toRowW) s) (XP := XL vw []) (Yf := Hook.obs $H) (Ya := Hook.val $H) (YP := Hook.says $H) (N := 2582) ?hl (Hook.of $H) (Hook.keeps $H) (fun s e => xl_of s (Bool.and_eq_true_iff.mp e).1) XL.keeps (by rfl) (by rfl) (by rfl) (fun s e => recFacts_of (Bool.and_eq_true_iff.mp e).2) (by rfl) (by assumption) (by decide +kernel) ⟨rfl, rfl, rfl, rfl, rfl, by decide +kernel⟩ ?hw ?hc
  case hl => exact fun w => by kernel_rfl))
open_top hd for PySem.Challenge.rw_pd0141_01
end
end
local macro_rules | `(tactic| omega) => `(tactic| first | lia | omega +splitDisjunctions)

section
open PySem PySem.W PyProof.Rows
set_option Elab.async false
set_option maxRecDepth 100000
set_option maxHeartbeats 0
end
section
open PySem PySem.W PyProof.Rows PySem.Spec PySem.Calls
set_option Elab.async false
set_option maxRecDepth 100000
set_option maxHeartbeats 4000000
theorem start_Ba : True := by w_top off; trivial
end
local macro_rules | `(tactic| walk_at "exec If") => `(tactic| (k_here; (with_reducible refine wpAny_If ?_)))
section
open PySem PySem.W PyProof.Rows PySem.Spec PySem.Calls
set_option Elab.async false
set_option maxRecDepth 100000
set_option maxHeartbeats 4000000
/-- the heap only grows -/
def Ext (h h' : Heap) : Prop := ∀ b o, h.get? b = some o → h'.get? b = some o
theorem Ext.refl (h : Heap) : Ext h h := fun _ _ e => e
theorem Ext.trans {a b c : Heap} (x : Ext a b) (y : Ext b c) : Ext a c := fun _ _ e => y _ _ (x _ _ e)
theorem Ext.size {h h' : Heap} (x : Ext h h') {a : Addr} {o : Obj} (e : h.get? a = some o) : a < h'.objs.size := Heap.lt_size (x _ _ e)
theorem fr_ext {h₀ h h' : Heap} {L : Addr} {m : Str → Option Value} (F : Fr h₀ L h m) (x : Ext h h') : Fr h₀ L h' m :=
  ⟨F.ns.at' fun o e => x _ o e, fun b o e => x b o (F.keep b o e), F.above⟩
theorem news_ext {h₀ h h' : Heap} {L : Addr} {news : List (Addr × Obj)} (N : News h₀ L h news) (x : Ext h h') : News h₀ L h' news :=
  fun p hp => ⟨x _ _ (N p hp).1, (N p hp).2⟩
theorem news_new {h₀ h h' : Heap} {L : Addr} {m : Str → Option Value} {news : List (Addr × Obj)} {a : Addr} {o : Obj} (F : Fr h₀ L h m) (N : News h₀ L h news) (x : Ext h h')
    (ha : h.get? a = none) (ho : h'.get? a = some o) : News h₀ L h' ((a, o) :: news) := by
  intro p hp
  rcases List.mem_cons.mp hp with rfl | hp
  · refine ⟨ho, ?_, ?_⟩
    · rintro rfl
      obtain ⟨oL, _, _, hL, _⟩ := F.ns
      rw [ha] at hL; cases hL
    · cases q : h₀.get? a with
      | none => rfl
      | some o' => have := F.keep _ _ q; rw [ha] at this; cases this
  · exact news_ext N x p hp
theorem news_ne {h₀ h : Heap} {L : Addr} {news : List (Addr × Obj)} {a : Addr} (N : News h₀ L h news) (ha : h.get? a = none) : ∀ p ∈ news, @Ne Nat p.1 a :=
  fun p hp e => by have := (N p hp).1; rw [e, ha] at this; cases this

section
variable {w : World} {A : Around} {s : Shared} {mean : ExcName → Option Value} {mg mb : Str → Option Value} {Q E : Value → Shared → Prop}
abbrev P0 : Program := PySem.Challenge.rw_pd0141_01.prog
abbrev Tp (mean : ExcName → Option Value) (mg mb : Str → Option Value) (h : Heap) : Prop := Top vw [] mean mg mb h

/-- entering a def of plain locals -/
theorem enter {name qual : Str} {params : Arguments} {body : List Stmt} {scope : Scope} {dV kV doc pm cdv ct oc : Value} {an od : Option Addr} {osl : Array (Option Value)} {f : Addr} {args : List Value} {binds : List (Str × Value)}
    (X : (hd.heap_1 w.params).In s.heap) (T : Tp mean mg mb s.heap) (hroom : A.depth < recursionLimit)
    (ho : (hd.heap_1 w.params).lookup f = some ⟨oc, od, .func (fnOf name qual params body scope dV kV doc pm an cdv ct), osl⟩) (hcd : codeIn (hd.heap_1 w.params) cdv qual = true)
    (hbind : BindsTo s (fnOf name qual params body scope dV kV doc pm an cdv ct) ⟨args, []⟩ binds) (hloc : ∀ y ∈ binds, scope.names.lookup y.1 = some .local)
    (hcell : ∀ x ∈ scope.names, x.2 ≠ .cell) (hco : scope.isCoroutine = false) (hgen : scope.isGenerator = false) (hk : scope.kind = .function)
    (h : ∀ L h₁, Fr s.heap L h₁ (fun y => binds.reverse.lookup y) → News s.heap L h₁ [] →
      wpAny (model P0 w) (A.deeper (envOf qual scope L f cdv)) (execs body (envOf qual scope L f cdv)) (fun fl s' => Q (match fl with | .ret v => v | _ => .none) s') (fun _ _ => False)
        { s with heap := h₁, toks := s.toks + binds.length }) : wpAny (model P0 w) A (call (.ref f) args) Q E s := by
  refine wpAny_call ?_
  refine codeAny_call_def (fd := fnOf name qual params body scope dV kV doc pm an cdv ct) (body := body) (binds := binds) hroom (X _ _ ho) rfl T.nolimit (codeRec_of X hcd) rfl hbind hcell hloc (fun h₁ hns hk₁ => ?_) hco hgen hk
  exact wpAny_mono (h s.heap.objs.size h₁ ⟨hns, hk₁, Nat.le_refl _⟩ News.nil) (fun fl s' hl => hl) fun _ _ y => y.elim
end
end
section
open PySem PySem.W PyProof.Rows PySem.Spec PySem.Calls
set_option Elab.async false
set_option maxRecDepth 100000
set_option maxHeartbeats 4000000
theorem start_Lp : True := by w_top off; trivial
/-- a turn's end: the frame, the ledger (what the loop itself holds, and what the invariant speaks of) -/
def TurnOk (h₀ : Heap) (L : Addr) (itc : String) (J : (Str → Option Value) → List (Addr × Obj) → Prop) (own : List (Addr × Obj)) (s₁ s₂ : Shared) : Prop :=
  ∃ h' tk m' news' nx, s₂ = { s₁ with heap := h', toks := tk } ∧ Fr h₀ L h' m' ∧ News h₀ L h' news' ∧ (∀ p ∈ own, p ∈ news') ∧ (∀ p ∈ nx, p ∈ news') ∧ (∀ p ∈ nx, p.2.cls ≠ .type itc) ∧ J m' nx
def TurnPost (h₀ : Heap) (L : Addr) (itc : String) (J : (Str → Option Value) → List (Addr × Obj) → Prop) (own : List (Addr × Obj)) (s₁ : Shared) (Q : Flow → Shared → Prop) (f : Flow) (s₂ : Shared) : Prop :=
  match f with
  | .ret v => Q (.ret v) s₂
  | .brk => Q .next s₂
  | _ => TurnOk h₀ L itc J own s₁ s₂
section
variable {prog : Program} {w : World} {A : Around} {E : Value → Shared → Prop} {s : Shared} {env : Env} {h₀ : Heap} {x : Str} {body : List Stmt} {Q : Flow → Shared → Prop} {m₀ : Str → Option Value} {news : List (Addr × Obj)}
theorem turn_ok {L : Addr} {itc : String} {J : (Str → Option Value) → List (Addr × Obj) → Prop} {own news' : List (Addr × Obj)} {s₁ : Shared} {h' : Heap} {tk : Nat} {m' : Str → Option Value} (nx : List (Addr × Obj)) (F : Fr h₀ L h' m') (N : News h₀ L h' news')
    (ho : ∀ p ∈ own, p ∈ news') (hx : ∀ p ∈ nx, p ∈ news') (hc : ∀ p ∈ nx, p.2.cls ≠ .type itc) (hj : J m' nx) : TurnOk h₀ L itc J own s₁ { s₁ with heap := h', toks := tk } := ⟨h', tk, m', news', nx, rfl, F, N, ho, hx, hc, hj⟩
theorem iter_gen {I : Addr} {fp : List Addr} {n : Nat} {P : Nat → Value → Prop} {St : Nat → Heap → Prop} (itc : String) (J : Nat → (Str → Option Value) → List (Addr × Obj) → Prop) (W : Walks prog w A I fp [I] n P St)
    (hcls : ∀ i h, St i h → ∃ o, h.get? I = some o ∧ o.cls = .type itc) (hIf : I ∈ fp) (hLf : env.locals ∉ fp) (h0I : h₀.get? I = none) (hn : ∀ p ∈ news, p.1 ≠ I) (hst : St 0 s.heap)
    (F : Fr h₀ env.locals s.heap m₀) (N : News h₀ env.locals s.heap news) (hj : J 0 m₀ news)
    (turn : ∀ i v m₁ news₁ h tk own, i < n → P i v → J i m₁ news₁ → (∀ p ∈ own, p.1 ∈ fp) → (∀ p ∈ news₁, p.1 ≠ I) → Fr h₀ env.locals h (fun y => if y = x then some v else m₁ y) → News h₀ env.locals h (news₁ ++ own) →
      wpAny (model prog w) A (execs body env) (TurnPost h₀ env.locals itc (J (i + 1)) own { s with heap := h, toks := tk } Q) E { s with heap := h, toks := tk })
    (done : ∀ m₁ news₁ h tk, J n m₁ news₁ → Fr h₀ env.locals h m₁ → News h₀ env.locals h news₁ → Q .next { s with heap := h, toks := tk }) :
    LoopAtV prog w A h₀ env x body Q E (.ref I) s := by
  refine ⟨I, fp, [I], n, P, St, m₀, news, J, rfl, W, hLf, ?_, ?_, hst, F, N, hj, ?_, ?_⟩
  · intro b hb; rw [List.mem_singleton.mp hb]; exact h0I
  · intro p hp hb; exact hn p hp (List.mem_singleton.mp hb)
  · rintro i v m₁ news₁ s₁ own ⟨hh', tk', rfl⟩ hin hP hJ hoff hown hlive hall hst₁ F₁ N₁
    obtain ⟨oI, hoI, hcI⟩ := hcls _ _ hst₁
    have hmI := hall I hIf h0I oI hoI
    have N₂ : News h₀ env.locals hh' (news₁ ++ own) := fun p hp => N₁ p ((List.mem_append.mp hp).elim (fun h => List.mem_append.mpr (.inr h)) fun h => List.mem_append.mpr (.inl h))
    refine wpAny_mono (turn i v m₁ news₁ hh' tk' own hin hP hJ hown (fun p hp e => hoff p hp (List.mem_singleton.mpr e)) F₁ N₂) (fun f s₂ p => ?_) fun _ _ e => e
    have fin : TurnOk h₀ env.locals itc (J (i + 1)) own { s with heap := hh', toks := tk' } s₂ → LoopStepU h₀ env.locals [I] own (J (i + 1)) { s with heap := hh', toks := tk' } .next s₂ := by
      rintro ⟨h', tk, m', news', nx, e, F', N', ho, hx, hc, hm⟩
      refine ⟨rfl, h', tk, m', nx, e, F', fun p hp => N' p ((List.mem_append.mp hp).elim (ho p) (hx p)), fun p hp hq => ?_, hm⟩
      have e1 := (N' p (hx p hp)).1
      have e2 := (N' _ (ho _ hmI)).1
      rw [List.mem_singleton.mp hq, e2] at e1
      exact hc p hp (by rw [← Option.some.inj e1]; exact hcI)
    cases f with
    | ret v => exact .ret p
    | brk => exact .brk p
    | next => exact .next (fin p)
    | cont => exact .cont (fin p)
  · rintro h' tk m' news' F' N' _ hJ
    exact done m' news' h' tk hJ F' N'
theorem fresh_none {L : Addr} {h : Heap} (F : Fr h₀ L h m₀) : h₀.get? h.objs.size = none := by
  cases q : h₀.get? h.objs.size with
  | none => rfl
  | some o => exact absurd (Heap.lt_size (F.keep _ _ q)) (Nat.lt_irrefl _)
theorem iter_list {l : Addr} {vs : List Value} (J : Nat → (Str → Option Value) → List (Addr × Obj) → Prop)
    (hh : A.handled = none) (hl : s.heap.IsList l vs.toArray) (hlL : l ≠ env.locals) (F : Fr h₀ env.locals s.heap m₀) (N : News h₀ env.locals s.heap news) (hj : J 0 m₀ news)
    (turn : ∀ i v m₁ news₁ h tk own, vs[i]? = some v → J i m₁ news₁ → (∀ p ∈ own, p.1 = s.heap.objs.size ∨ p.1 = l) → (∀ p ∈ news₁, p.1 ≠ s.heap.objs.size) → Fr h₀ env.locals h (fun y => if y = x then some v else m₁ y) → News h₀ env.locals h (news₁ ++ own) →
      wpAny (model prog w) A (execs body env) (TurnPost h₀ env.locals "list_iterator" (J (i + 1)) own { s with heap := h, toks := tk } Q) E { s with heap := h, toks := tk })
    (done : ∀ m₁ news₁ h tk, J vs.length m₁ news₁ → Fr h₀ env.locals h m₁ → News h₀ env.locals h news₁ → Q .next { s with heap := h, toks := tk }) :
    wpAny (model prog w) A (pyIter (.ref l)) (fun it s₂ => LoopAtV prog w A h₀ env x body Q E it s₂) E s := by
  obtain ⟨ol, hol, _⟩ := id hl
  have hne : l ≠ s.heap.objs.size := Nat.ne_of_lt (Heap.lt_size hol)
  refine wpAny_pyIter_list hl ?_
  have W := Walks.list (prog := prog) (w := w) hh s.heap.objs.size l hne vs.toArray
  rw [List.size_toArray] at W
  refine iter_gen (m₀ := m₀) (news := news) "list_iterator" J W (fun i h st => let ⟨o, a, b, _⟩ := st.1; ⟨o, a, b⟩) (.head _) ?_ (fresh_none F) ?_ ⟨⟨_, Heap.get?_push_size _ rfl, rfl, rfl⟩, hl.at fun o e => Heap.get?_push_of_some _ e⟩ (F.push _)
    (fun p hp => ⟨Heap.get?_push_of_some _ (N p hp).1, (N p hp).2⟩) hj ?_ done
  · intro hm
    rcases List.mem_cons.mp hm with e | hm
    · exact absurd F.ns.lt (e ▸ Nat.lt_irrefl _)
    · exact hlL (List.mem_singleton.mp hm).symm
  · intro p hp e; exact absurd (Heap.lt_size (N p hp).1) (e ▸ Nat.lt_irrefl _)
  · intro i v m₁ news₁ h tk own _ hP hJ hown hnw F₁ N₁
    exact turn i v m₁ news₁ h tk own (by simpa using hP) hJ (fun p hp => by rcases List.mem_cons.mp (hown p hp) with e | e; exact .inl e; exact .inr (List.mem_singleton.mp e)) hnw F₁ N₁
theorem iter_tup {l : Addr} {vs : List Value} (J : Nat → (Str → Option Value) → List (Addr × Obj) → Prop)
    (hh : A.handled = none) (hl : s.heap.IsTuple l vs.toArray) (hlL : l ≠ env.locals) (F : Fr h₀ env.locals s.heap m₀) (N : News h₀ env.locals s.heap news) (hj : J 0 m₀ news)
    (turn : ∀ i v m₁ news₁ h tk own, vs[i]? = some v → J i m₁ news₁ → (∀ p ∈ own, p.1 = s.heap.objs.size ∨ p.1 = l) → (∀ p ∈ news₁, p.1 ≠ s.heap.objs.size) → Fr h₀ env.locals h (fun y => if y = x then some v else m₁ y) → News h₀ env.locals h (news₁ ++ own) →
      wpAny (model prog w) A (execs body env) (TurnPost h₀ env.locals "tuple_iterator" (J (i + 1)) own { s with heap := h, toks := tk } Q) E { s with heap := h, toks := tk })
    (done : ∀ m₁ news₁ h tk, J vs.length m₁ news₁ → Fr h₀ env.locals h m₁ → News h₀ env.locals h news₁ → Q .next { s with heap := h, toks := tk }) :
    wpAny (model prog w) A (pyIter (.ref l)) (fun it s₂ => LoopAtV prog w A h₀ env x body Q E it s₂) E s := by
  obtain ⟨ol, hol, _⟩ := id hl
  have hne : l ≠ s.heap.objs.size := Nat.ne_of_lt (Heap.lt_size hol)
  refine wpAny_pyIter_tuple hl ?_
  have W := Walks.tuple (prog := prog) (w := w) hh s.heap.objs.size l hne vs.toArray
  rw [List.size_toArray] at W
  refine iter_gen (m₀ := m₀) (news := news) "tuple_iterator" J W (fun i h st => let ⟨o, a, b, _⟩ := st.1; ⟨o, a, b⟩) (.head _) ?_ (fresh_none F) ?_ ⟨⟨_, Heap.get?_push_size _ rfl, rfl, rfl⟩, hl.at fun o e => Heap.get?_push_of_some _ e⟩ (F.push _)
    (fun p hp => ⟨Heap.get?_push_of_some _ (N p hp).1, (N p hp).2⟩) hj ?_ done
  · intro hm
    rcases List.mem_cons.mp hm with e | hm
    · exact absurd F.ns.lt (e ▸ Nat.lt_irrefl _)
    · exact hlL (List.mem_singleton.mp hm).symm
  · intro p hp e; exact absurd (Heap.lt_size (N p hp).1) (e ▸ Nat.lt_irrefl _)
  · intro i v m₁ news₁ h tk own _ hP hJ hown hnw F₁ N₁
    exact turn i v m₁ news₁ h tk own (by simpa using hP) hJ (fun p hp => by rcases List.mem_cons.mp (hown p hp) with e | e; exact .inl e; exact .inr (List.mem_singleton.mp e)) hnw F₁ N₁
/-- the same, the invariant told of the frame and the ledger at the loop's start -/
theorem iter_tupM {l : Addr} {vs : List Value} (J : (Str → Option Value) → List (Addr × Obj) → Nat → (Str → Option Value) → List (Addr × Obj) → Prop)
    (hh : A.handled = none) (hl : s.heap.IsTuple l vs.toArray) (hlL : l ≠ env.locals) (F : Fr h₀ env.locals s.heap m₀) (N : News h₀ env.locals s.heap news) (hj : J m₀ news 0 m₀ news)
    (turn : ∀ i v m₁ news₁ h tk own, vs[i]? = some v → J m₀ news i m₁ news₁ → (∀ p ∈ own, p.1 = s.heap.objs.size ∨ p.1 = l) → (∀ p ∈ news₁, p.1 ≠ s.heap.objs.size) → Fr h₀ env.locals h (fun y => if y = x then some v else m₁ y) → News h₀ env.locals h (news₁ ++ own) →
      wpAny (model prog w) A (execs body env) (TurnPost h₀ env.locals "tuple_iterator" (J m₀ news (i + 1)) own { s with heap := h, toks := tk } Q) E { s with heap := h, toks := tk })
    (done : ∀ m₁ news₁ h tk, J m₀ news vs.length m₁ news₁ → Fr h₀ env.locals h m₁ → News h₀ env.locals h news₁ → Q .next { s with heap := h, toks := tk }) :
    wpAny (model prog w) A (pyIter (.ref l)) (fun it s₂ => LoopAtV prog w A h₀ env x body Q E it s₂) E s := iter_tup (J m₀ news) hh hl hlL F N hj turn done
theorem iter_listM {l : Addr} {vs : List Value} (J : (Str → Option Value) → List (Addr × Obj) → Nat → (Str → Option Value) → List (Addr × Obj) → Prop)
    (hh : A.handled = none) (hl : s.heap.IsList l vs.toArray) (hlL : l ≠ env.locals) (F : Fr h₀ env.locals s.heap m₀) (N : News h₀ env.locals s.heap news) (hj : J m₀ news 0 m₀ news)
    (turn : ∀ i v m₁ news₁ h tk own, vs[i]? = some v → J m₀ news i m₁ news₁ → (∀ p ∈ own, p.1 = s.heap.objs.size ∨ p.1 = l) → (∀ p ∈ news₁, p.1 ≠ s.heap.objs.size) → Fr h₀ env.locals h (fun y => if y = x then some v else m₁ y) → News h₀ env.locals h (news₁ ++ own) →
      wpAny (model prog w) A (execs body env) (TurnPost h₀ env.locals "list_iterator" (J m₀ news (i + 1)) own { s with heap := h, toks := tk } Q) E { s with heap := h, toks := tk })
    (done : ∀ m₁ news₁ h tk, J m₀ news vs.length m₁ news₁ → Fr h₀ env.locals h m₁ → News h₀ env.locals h news₁ → Q .next { s with heap := h, toks := tk }) :
    wpAny (model prog w) A (pyIter (.ref l)) (fun it s₂ => LoopAtV prog w A h₀ env x body Q E it s₂) E s := iter_list (J m₀ news) hh hl hlL F N hj turn done
theorem map1 {m m₀ : Str → Option Value} (k1 : Str) (h : ∀ y, y ≠ k1 → m y = m₀ y) : ∃ u, m = fun y => if y = k1 then u else m₀ y := by
  refine ⟨m k1, ?_⟩
  funext y
  by_cases h1 : y = k1
  · subst h1; simp
  · rw [if_neg h1]; exact h y h1
theorem map2 {m m₀ : Str → Option Value} (k1 k2 : Str) {v2 : Option Value} (h2 : m k2 = v2) (h : ∀ y, y ≠ k1 → y ≠ k2 → m y = m₀ y) : ∃ u, m = fun y => if y = k1 then u else if y = k2 then v2 else m₀ y := by
  refine ⟨m k1, ?_⟩
  funext y
  by_cases h1 : y = k1
  · subst h1; simp
  · rw [if_neg h1]
    by_cases h3 : y = k2
    · subst h3; simp [h2]
    · rw [if_neg h3]; exact h y h1 h3
theorem map3 {m m₀ : Str → Option Value} (k1 k2 k3 : Str) {v2 v3 : Option Value} (h2 : m k2 = v2) (h3 : m k3 = v3) (h : ∀ y, y ≠ k1 → y ≠ k2 → y ≠ k3 → m y = m₀ y) : ∃ u, m = fun y => if y = k1 then u else if y = k2 then v2 else if y = k3 then v3 else m₀ y := by
  refine ⟨m k1, ?_⟩
  funext y
  by_cases h1 : y = k1
  · subst h1; simp
  · rw [if_neg h1]
    by_cases h4 : y = k2
    · subst h4; simp [h2]
    · rw [if_neg h4]
      by_cases h5 : y = k3
      · subst h5; simp [h3]
      · rw [if_neg h5]; exact h y h1 h4 h5
theorem ex_str {m : Option Value} {v w : Str} {t : Tok} (h : m = some (.str v t)) (e : w = v) : ∃ t, m = some (.str w t) := by subst e; exact ⟨t, h⟩
theorem ne_frame {L a : Addr} {h : Heap} {o : Obj} (N : News h₀ L h news) (hm : (a, o) ∈ news) : a ≠ L := (N _ hm).2.1
theorem strs_get {vs : List Value} {bs : List Str} (hs : StrsAre vs bs) : ∀ {i : Nat} {v : Value}, vs[i]? = some v → ∃ b t, v = .str b t ∧ bs[i]? = some b := by
  induction hs with
  | nil => intro i v e; simp at e
  | cons y t _ ih =>
    intro i v e
    cases i with
    | zero => simp at e; exact ⟨y, t, e.symm, by simp⟩
    | succ i => simp at e; obtain ⟨b, t', e1, e2⟩ := ih e; exact ⟨b, t', e1, by simpa using e2⟩
theorem strsSnoc {vs : List Value} {bs : List Str} {b : Str} {t : Tok} (hs : StrsAre vs bs) : StrsAre (vs ++ [.str b t]) (bs ++ [b]) := by
  induction hs with
  | nil => exact .cons _ _ .nil
  | cons y t _ ih => exact .cons _ _ ih
theorem strs_two {us : List Value} {x y : Str} (hs : StrsAre us [x, y]) : ∃ t1 t2, us = [.str x t1, .str y t2] := by
  cases hs with
  | cons _ t1 hs =>
    cases hs with
    | cons _ t2 hs => cases hs; exact ⟨t1, t2, rfl⟩
theorem strs_len {vs : List Value} {bs : List Str} (hs : StrsAre vs bs) : vs.length = bs.length := by
  induction hs with
  | nil => rfl
  | cons y t _ ih => simp [ih]
theorem take_fold {α β : Type} (f : β → α → β) (b₀ : β) (l : List α) (i : Nat) (v : α) (e : l[i]? = some v) : (l.take (i + 1)).foldl f b₀ = f ((l.take i).foldl f b₀) v := by
  rw [List.take_add_one, e]; simp
end
end
section
open PySem PySem.W PyProof.Rows PySem.Spec PySem.Calls
set_option Elab.async false
set_option maxRecDepth 100000
set_option maxHeartbeats 4000000
theorem start_Ls : True := by w_top off; trivial
section
variable {prog : Program} {w : World} {A : Around} {E : Value → Shared → Prop} {s : Shared} {h₀ : Heap} {L l : Addr} {m : Str → Option Value} {news news' : List (Addr × Obj)} {k : Nat} {vs : List Value} {v : Value}
theorem truthy_nil {Q : Bool → Shared → Prop} (N : News h₀ L s.heap news) (hm : (l, W.listOf ([] : List Value).toArray k) ∈ news) (h : ∀ tk, Q false { s with toks := tk }) : wpAny (model prog w) A (truthy (.ref l)) Q E s :=
  wpAny_truthy_list (items := ([] : List Value).toArray) ⟨_, N.get hm, rfl, _, rfl⟩ (by decide) (h _)
theorem truthy_snoc {Q : Bool → Shared → Prop} (N : News h₀ L s.heap news) (hm : (l, W.listOf (vs ++ [v]).toArray k) ∈ news) (hz : (vs ++ [v]).length ≤ 1000000) (h : ∀ tk, Q true { s with toks := tk }) : wpAny (model prog w) A (truthy (.ref l)) Q E s :=
  wpAny_truthy_list (items := (vs ++ [v]).toArray) ⟨_, N.get hm, rfl, _, rfl⟩ (by rw [List.size_toArray]; omega)
    (by have e : (!(vs ++ [v]).toArray.isEmpty) = true := by simp
        rw [e]; exact h _)
theorem item_last {value slice : PySem.Expr} {u : Tok} {Q : Value → Shared → Prop} (N : News h₀ L s.heap news) (hm : (l, W.listOf (vs ++ [v]).toArray k) ∈ news) (h : Q v s)
    (hs : subscripted slice false (.ref l) (.int (-1) u) = operate [.ref l, .int (-1) u] (getItem (.ref l) (.int (-1) u)) := by with_unfolding_all rfl) :
    wpAny (model prog w) A (subscriptTail value slice (.ref l) (.int (-1) u)) Q E s :=
  have hl : s.heap.IsList l (vs ++ [v]).toArray := ⟨_, N.get hm, rfl, _, rfl⟩
  tail_any hl.typeIs slot_list_getitem.lookup (wpAny_getItem_list_neg hl (by decide) (by simp; omega) (by decide) (by
    have e : (-1 + ((vs ++ [v]).toArray.size : Int)).toNat = vs.length := by simp; omega
    rw [e]; simp) h) hs
theorem pop_snoc {Q : Value → Shared → Prop} (F : Fr h₀ L s.heap m) (N : News h₀ L s.heap news) (U : Upd l (W.listOf (vs ++ [v]).toArray k) (W.listOf vs.toArray (k + 1)) news news') (hz : (vs ++ [v]).length ≤ 1000000)
    (h : ∀ h', Fr h₀ L h' m → News h₀ L h' news' → Q v { s with heap := h' }) : wpAny (model prog w) A (call (.builtin "list.pop") [.ref l]) Q E s := by
  refine kl_pop (its := (vs ++ [v]).toArray) F N ?_ U ?_ h
  · show kl_last (vs ++ [v]) = some (vs, v)
    clear U hz
    induction vs with
    | nil => rfl
    | cons x r ih => rw [List.cons_append, kl_last, ih]
  · rw [sizeLine_eq]; show (vs ++ [v]).length ≤ _; omega
theorem append_list {Q : Value → Shared → Prop} (F : Fr h₀ L s.heap m) (N : News h₀ L s.heap news) (U : Upd l (W.listOf vs.toArray k) (W.listOf (vs ++ [v]).toArray (k + 1)) news news') (hz : vs.length ≤ 1000000)
    (h : ∀ h', Fr h₀ L h' m → News h₀ L h' news' → Q .none { s with heap := h' }) : wpAny (model prog w) A (call (.builtin "list.append") [.ref l, v]) Q E s := by
  refine append_K (its := vs.toArray) (n := k) F N (news' := news') ?_ h ?_
  · have e : vs.toArray.push v = (vs ++ [v]).toArray := by simp
    rw [e]; exact U
  · rw [sizeLine_eq]; simp; omega
end
end
local macro_rules | `(tactic| k_all) => `(tactic| assumption)
section
open PySem PySem.W PyProof.Rows PySem.Spec PySem.Calls
set_option Elab.async false
set_option maxRecDepth 100000
set_option maxHeartbeats 4000000
end
theorem reg_1 : True := by
  k_with "mine 1" => (k_here; k_dflt (first
  | (refine' truthy_nil ?x1 ?x2 ?_; (case x1 => k_asm); (case x2 => k_mem))
  | (refine' truthy_snoc ?x1 ?x2 ?x3 ?_; (case x1 => k_asm); (case x2 => k_mem); (case x3 => first | omega | simp))); k_whole; intro tk')
  trivial
local macro_rules | `(tactic| walk_at "truthy ref") => `(tactic| walk_at "mine 1")
section
open PySem PySem.W PyProof.Rows PySem.Spec PySem.Calls
set_option Elab.async false
set_option maxRecDepth 100000
set_option maxHeartbeats 4000000
end
theorem reg_2 : True := by
  k_with "mine 2" => (k_here; (with_reducible show wpAny _ _ (subscriptTail _ _ (Value.ref _) (Value.int (-1) _)) _ _ _); k_dflt (refine' item_last ?x1 ?x2 ?_ ?x3; (case x1 => k_asm); (case x2 => k_mem); (case x3 => with_unfolding_all rfl)); k_whole)
  trivial
local macro_rules | `(tactic| walk_at "subscriptTail Name UnaryOp ref int") => `(tactic| walk_at "mine 2")
section
open PySem PySem.W PyProof.Rows PySem.Spec PySem.Calls
set_option Elab.async false
set_option maxRecDepth 100000
set_option maxHeartbeats 4000000
end
theorem reg_3 : True := by
  k_with "mine 3" => (k_here; (with_reducible show wpAny _ _ (call _ [Value.ref _]) _ _ _); k_dflt (refine' pop_snoc ?x1 ?x2 ?x3 ?x4 ?_; (case x1 => k_asm); (case x2 => k_asm); (case x3 => k_upd); (case x4 => first | omega | simp)); k_whole; intro h' F' N'; (try k_sweep))
  trivial
local macro_rules | `(tactic| walk_at "call builtin:list.pop") => `(tactic| walk_at "mine 3")
section
open PySem PySem.W PyProof.Rows PySem.Spec PySem.Calls
set_option Elab.async false
set_option maxRecDepth 100000
set_option maxHeartbeats 4000000
end
theorem reg_4 : True := by
  k_with "mine 4" => (k_here; (with_reducible show wpAny _ _ (call _ [Value.ref _, _]) _ _ _); k_dflt (refine' append_list ?x1 ?x2 ?x3 ?x4 ?_; (case x1 => k_asm); (case x2 => k_asm); (case x3 => k_upd); (case x4 => first | omega | simp)); k_whole; intro h' F' N'; (try k_sweep))
  trivial
local macro_rules | `(tactic| walk_at "call builtin:list.append") => `(tactic| walk_at "mine 4")
section
open PySem PySem.W PyProof.Rows PySem.Spec PySem.Calls
set_option Elab.async false
set_option maxRecDepth 100000
set_option maxHeartbeats 4000000
end
theorem reg_5 : True := by
  k_with "mine 5" => (k_here; (with_reducible show wpAny _ _ (call (Value.builtin "str.join") [Value.str _ _, Value.ref _]) _ _ _); k_dflt (refine' join_list ?x1 ?x2 ?x3 ?_; (case x1 => exact ⟨_, News.get (by k_asm) (by k_mem), rfl, _, rfl⟩); (case x2 => first | with_reducible assumption | assumption); (case x3 => first | with_reducible assumption | assumption)); k_whole; intro t' tk')
  trivial
local macro_rules | `(tactic| walk_at "call builtin:str.join") => `(tactic| walk_at "mine 5")
section
open PySem PySem.W PyProof.Rows PySem.Spec PySem.Calls
set_option Elab.async false
set_option maxRecDepth 100000
set_option maxHeartbeats 4000000
theorem joinRoom {sep : Str} {ys : List Str} (hs : sep.length ≤ 1) (hn : ys.length ≤ 3000) (hy : ∀ y ∈ ys, y.length ≤ 1000) : (ys.map (·.length)).sum + ys.length * sep.length ≤ 16777216 := by
  have h1 := StrLaws.sumLen_le ys hy
  have h2 : ys.length * sep.length ≤ ys.length * 1 := Nat.mul_le_mul_left _ hs
  omega
theorem joinLen {sep : Str} {ys : List Str} (hs : sep.length ≤ 1) (hn : ys.length ≤ 3000) (hy : ∀ y ∈ ys, y.length ≤ 1000) : (Txt.join sep ys).length ≤ 16000000 := by
  have h1 := StrLaws.sumLen_le ys hy
  have h2 : ys.length * sep.length ≤ ys.length * 1 := Nat.mul_le_mul_left _ hs
  have h3 := StrLaws.join_length_le sep ys
  have e : Txt.join sep ys = Str.join sep ys := StrLaws.glued_eq_join sep ys
  rw [e]; omega

end
section
open PySem PySem.W PyProof.Rows PySem.Spec PySem.Calls
set_option Elab.async false
set_option maxRecDepth 100000
set_option maxHeartbeats 4000000
theorem start_Ec : True := by w_top off; trivial
section
variable {w : World} {A : Around} {s : Shared} {mean : ExcName → Option Value} {mg mb : Str → Option Value} {Q E : Value → Shared → Prop}
/-- entering a def some of whose names are cells -/
theorem enterC {name qual : Str} {params : Arguments} {body : List Stmt} {scope : Scope} {dV kV doc pm cdv ct oc : Value} {an od : Option Addr} {osl : Array (Option Value)} {f : Addr} {args : List Value} {binds : List (Str × Value)}
    (X : (hd.heap_1 w.params).In s.heap) (T : Tp mean mg mb s.heap) (hroom : A.depth < recursionLimit)
    (ho : (hd.heap_1 w.params).lookup f = some ⟨oc, od, .func (fnOf name qual params body scope dV kV doc pm an cdv ct), osl⟩) (hcd : codeIn (hd.heap_1 w.params) cdv qual = true)
    (hbind : BindsTo s (fnOf name qual params body scope dV kV doc pm an cdv ct) ⟨args, []⟩ binds)
    (hkind : (binds.all fun y => scope.names.lookup y.1 == some .local || scope.names.lookup y.1 == some .cell) = true)
    (hnd : ((cellsFrom 0 scope.names []).map (·.1)).Nodup) (hco : scope.isCoroutine = false) (hgen : scope.isGenerator = false) (hk : scope.kind = .function)
    (h : ∀ L h₁ tk cells, Fr s.heap L h₁ (bindL (envOfC qual scope L f cdv).kindOf binds fun _ => none) → News s.heap L h₁ cells → CellsAre (bindC (envOfC qual scope L f cdv).kindOf binds fun _ => none) (cellsFrom (L + 1) scope.names []) cells →
      wpAny (model P0 w) (A.deeper (envOfC qual scope L f cdv)) (execs body (envOfC qual scope L f cdv)) (fun fl s' => Q (match fl with | .ret v => v | _ => .none) s') (fun _ _ => False)
        { s with heap := h₁, toks := tk }) : wpAny (model P0 w) A (call (.ref f) args) Q E s := by
  refine wpAny_call ?_
  refine codeAny_call_function (fd := fnOf name qual params body scope dV kV doc pm an cdv ct) (body := body) hroom (X _ _ ho) rfl hco hgen rfl (codeRec_of X hcd) (hbind _ _ _ _ ?_)
  refine wpAny_newFunctionEnv_cells hk (kindsX hkind _) fun env' he s' x => ?_
  subst he
  refine ⟨T.nolimit.keeps x.toInCall.keep, codeAny_func ?_⟩
  obtain ⟨h₁, tk, rfl, _⟩ := x.done
  have hk₁ := x.toInCall.keep
  obtain ⟨cells, NC, Y⟩ := Cl.news (h₀ := s.heap) (Nat.le_refl _) fun n c hm => ⟨x.cell n c (lookup_of_mem_nodup (cellsFrom_names scope.names 0 (s.heap.objs.size + 1) [] [] rfl ▸ hnd) hm), x.above n c hm⟩
  exact wpAny_mono (h s.heap.objs.size h₁ tk cells ⟨x.toInCall.ns, hk₁, Nat.le_refl _⟩ NC Y) (fun fl s' hl => hl) fun _ _ y => y.elim
end
end
theorem reg_6 : True := by
  k_with "mine enteredC" => ((case x1 => k_asm); (case x2 => k_asm); (case x3 => first | omega | (dsimp only; omega)); (case x4 => k_dflt k_is); (case x5 => k_dflt k_is); (case x6 => exact BindsTo.of_eq rfl); (case x7 => exact rfl); (case x8 => decide +kernel); (case x9 => exact rfl); (case x10 => exact rfl); (case x11 => exact rfl); k_whole; intro L' h' tk' cells' F' N' Y'; k_cells Y'; (try dsimp only); (try k_fold))
  trivial
section
open PySem PySem.W PyProof.Rows PySem.Spec PySem.Calls
set_option Elab.async false
set_option maxRecDepth 100000
set_option maxHeartbeats 4000000
end
section
open PySem PySem.W PyProof.Rows PySem.Spec PySem.Calls
set_option Elab.async false
set_option maxRecDepth 100000
set_option maxHeartbeats 4000000
theorem start_Fs : True := by w_top off; trivial
theorem plain_issubclass_nested : plainId "issubclass.nested" = true := by decide +kernel
theorem kind_issubclass_nested : builtinKind "issubclass.nested" = none := by decide +kernel
theorem args_issubclass_nested_3 (a b c : Value) : argsOk "issubclass.nested" ⟨[a, b, c], []⟩ := by unfold argsOk; kernel_rfl
theorem sub_str : isSubtype (.type "str") (.type "str") = pure true := by rw [isSubtype_type]; kernel_rfl
theorem typ_str : typeOf (.type "str") = pure (.type "type") := by kernel_rfl
section
variable {prog : Program} {w : World} {A : Around} {E : Value → Shared → Prop} {s : Shared}
theorem issub_nested_str {dep : Int} {tk : Tok} {Q : Fin → Shared → Prop} (hq : Q (.done (.ret (.bool true))) s) :
    wpAny (model prog w) A (Builtin.«issubclass.nested» ⟨[.type "str", .type "str", .int dep tk], []⟩) Q E s := by
  have hself := sub_str
  have hty := typ_str
  have hm : (Value.type "type" == Value.type "type") = true := by decide
  repeat (any_goals (first | assumption | (rw [if_pos hm]) | (rw [hself]) | wp_step))
theorem issub_meets {dep : Int} {tk : Tok} : Meets (Builtin.«issubclass.nested» ⟨[.type "str", .type "str", .int dep tk], []⟩) (fun _ R s => R (.ok (.ret (.bool true))) s) :=
  fun _ _ _ _ _ hs => issub_nested_str hs
theorem issub_tuple {tp : Addr} {cs cs' : List Value} {tk : Tok} {s : Shared} {Q : Fin → Shared → Prop}
    (htp : s.heap.get? tp = some { cls := .type "tuple", data := .seq cs.toArray }) (hcs : cs = Value.type "str" :: cs')
    (hq : ∀ tk', Q (.done (.ret (.bool true))) { s with toks := tk' }) : wpAny (model prog w) A (Builtin.«issubclass.nested» ⟨[.type "str", .ref tp, .int 0 tk], []⟩) Q E s := by
  obtain ⟨h, g, d, t, os⟩ := s
  have hT2 : (⟨h, g, d, t, os⟩ : Shared).TypeIs (.ref tp) "tuple" := ⟨_, htp, rfl⟩
  have f1 := F.isi_sub_tuple
  repeat (any_goals (first | assumption | wp_step))
  refine wpAny_arrayLoop ?_
  simp only [Option.getD_some, List.toList_toArray]
  rw [hcs, List.forIn_cons]
  refine wpAny_bind (wpAny_bind (call_function_meets kind_issubclass_nested plain_issubclass_nested F.entry_issubclass_nested (args_issubclass_nested_3 _ _ _) issub_meets ?_))
  show wpAny _ _ (truthy (.bool true) >>= _) _ _ _
  refine wpAny_bind (m := truthy (.bool true)) (wpAny_pure ?_)
  refine wpAny_bind (wpAny_pure (wpAny_pure ?_))
  refine wpAny_pure ?_
  repeat (any_goals (first | assumption | wp_step))
  exact hq _
theorem issubclass_str {tp : Addr} {cs : List Value} {Q : Value → Shared → Prop}
    (htp : s.heap.get? tp = some { cls := .type "tuple", data := .seq (Value.type "str" :: cs).toArray })
    (hq : ∀ tk', Q (.bool true) { s with toks := tk' }) : wpAny (model prog w) A (call (.builtin "issubclass") [.type "str", .ref tp]) Q E s :=
  call_issubclass (S := fun _ R s => s.heap.get? tp = some { cls := .type "tuple", data := .seq (Value.type "str" :: cs).toArray } ∧ ∀ tk, R (.ok (.ret (.bool true))) { s with toks := tk })
    (fun _ _ _ _ _ hs => issubclass_outer (issub_tuple hs.1 rfl hs.2)) ⟨htp, fun tk => hq tk⟩
end
end
section
open PySem PySem.W PyProof.Rows PySem.Spec PySem.Calls
set_option Elab.async false
set_option maxRecDepth 100000
set_option maxHeartbeats 4000000
theorem start_Fs2 : True := by w_top off; trivial
end
theorem reg_7 : True := by
  k_with "mine entered" => ((case x1 => k_asm); (case x2 => k_asm); (case x3 => first | omega | (dsimp only; omega)); (case x4 => k_dflt k_is); (case x5 => k_dflt k_is); (case x6 => exact BindsTo.of_eq rfl); (case x7 => exact locs rfl); (case x8 => decide); (case x9 => exact rfl); (case x10 => exact rfl); (case x11 => exact rfl); k_whole; intro L' h' F' N'; (try dsimp only); (try k_fold))
  trivial
section
open PySem PySem.W PyProof.Rows PySem.Spec PySem.Calls
set_option Elab.async false
set_option maxRecDepth 100000
set_option maxHeartbeats 4000000
end
theorem reg_8 : True := by
  k_with "mine 8" => (k_here; k_dflt (refine' issubclass_str ?x1 ?_; (case x1 => exact News.get (by k_asm) (by k_mem)); k_whole; intro tk'))
  trivial
local macro_rules | `(tactic| walk_at "call builtin:issubclass") => `(tactic| walk_at "mine 8")
section
open PySem PySem.W PyProof.Rows PySem.Spec PySem.Calls
set_option Elab.async false
set_option maxRecDepth 100000
set_option maxHeartbeats 4000000
end
theorem reg_9 : True := by
  k_with "mine side" => ((case x1 => k_in); (case x2 => exact Top.keeps (by k_asm) (Fr.keep (by k_asm))); (case x3 => ((try simp only [depth_in1, depth_deeper]); omega)); (case x4 => ((try simp only [units_in1, units_deeper]); omega)); (case x5 => first | assumption | exact rfl))
  trivial
section
open PySem PySem.W PyProof.Rows PySem.Spec PySem.Calls
set_option Elab.async false
set_option maxRecDepth 100000
set_option maxHeartbeats 4000000
end
theorem reg_10 : True := by
  k_with "mine ext" => ((with_reducible rename Ext _ _ => kE); (have F' := fr_ext (by k_asm) kE); (have N' := news_ext (by k_asm) kE); clear kE; (try k_sweep))
  trivial
section
open PySem PySem.W PyProof.Rows PySem.Spec PySem.Calls
set_option Elab.async false
set_option maxRecDepth 100000
set_option maxHeartbeats 4000000
section
variable {w : World} {A : Around} {s : Shared} {mean : ExcName → Option Value} {mg mb : Str → Option Value} {Q E : Value → Shared → Prop}
theorem c_fspath {x : Str} {tx : Tok} (X : (hd.heap_1 w.params).In s.heap) (T : Tp mean mg mb s.heap) (hdep : A.depth + 1 < recursionLimit) (hun : A.units + 8 < cLine) (hh : A.handled = none)
    (h : ∀ t h' tk', Ext s.heap h' → Q (.str x t) { s with heap := h', toks := tk' }) : wpAny (model P0 w) A (call (.ref 101) [.str x tx]) Q E s := by
  refine' enter (binds := [(Str.ofString "path", .str x tx)]) ?x1 ?x2 ?x3 ?x4 ?x5 ?x6 ?x7 ?x8 ?x9 ?x10 ?x11 ?_
  walk_at "mine entered"
  k_steps
  exact h _ _ _ (Fr.keep (by k_asm))
end
end
theorem reg_11 : True := by
  k_with "mine 11" => (k_here; (with_reducible show wpAny _ _ (call (Value.ref 101) _) _ _ _); k_dflt (refine' c_fspath ?x1 ?x2 ?x3 ?x4 ?x5 ?_; walk_at "mine side"; k_whole; intro t' h' tk' kE; walk_at "mine ext"))
  trivial
local macro_rules | `(tactic| walk_at "call ref") => `(tactic| walk_at "mine 11")
section
open PySem PySem.W PyProof.Rows PySem.Spec PySem.Calls
set_option Elab.async false
set_option maxRecDepth 100000
set_option maxHeartbeats 4000000
section
variable {w : World} {A : Around} {s : Shared} {mean : ExcName → Option Value} {mg mb : Str → Option Value} {Q E : Value → Shared → Prop}
theorem c_getsep {x : Str} {tx : Tok} (X : (hd.heap_1 w.params).In s.heap) (T : Tp mean mg mb s.heap) (hdep : A.depth + 1 < recursionLimit) (hun : A.units + 8 < cLine) (hh : A.handled = none)
    (h : ∀ t h' tk', Ext s.heap h' → Q (.str (Str.ofString "/") t) { s with heap := h', toks := tk' }) : wpAny (model P0 w) A (call (.ref 115) [.str x tx]) Q E s := by
  refine' enter (binds := [(Str.ofString "path", .str x tx)]) ?x1 ?x2 ?x3 ?x4 ?x5 ?x6 ?x7 ?x8 ?x9 ?x10 ?x11 ?_
  walk_at "mine entered"
  k_steps
  exact h _ _ _ (Fr.keep (by k_asm))
end
end
theorem reg_12 : True := by
  k_with "mine 12" => (k_here; (with_reducible show wpAny _ _ (call (Value.ref 115) _) _ _ _); k_dflt (refine' c_getsep ?x1 ?x2 ?x3 ?x4 ?x5 ?_; walk_at "mine side"; k_whole; intro t' h' tk' kE; walk_at "mine ext"))
  trivial
local macro_rules | `(tactic| walk_at "call ref") => `(tactic| walk_at "mine 12")
section
open PySem PySem.W PyProof.Rows PySem.Spec PySem.Calls
set_option Elab.async false
set_option maxRecDepth 100000
set_option maxHeartbeats 4000000
section
variable {w : World} {A : Around} {s : Shared} {mean : ExcName → Option Value} {mg mb : Str → Option Value} {Q E : Value → Shared → Prop}
def headF (x : Str) : Str := Txt.slice x none (some (Txt.rfind x (Str.ofString "/") + 1))
def dirnameF (x : Str) : Str := if (headF x).length = 0 then headF x else if (headF x != Txt.mul (Str.ofString "/") ((headF x).length : Int)) = true then Txt.rstripChars (headF x) (Str.ofString "/") else headF x
theorem ret_str {y z : Str} {t : Tok} {h' : Heap} {tk' : Nat} (h : ∀ t h' tk', Ext s.heap h' → Q (.str y t) { s with heap := h', toks := tk' }) (hk : Ext s.heap h') (e : z = y) : Q (.str z t) { s with heap := h', toks := tk' } := by
  subst e
  exact h _ _ _ hk
theorem c_dirname {x : Str} {tx : Tok} (X : (hd.heap_1 w.params).In s.heap) (T : Tp mean mg mb s.heap) (hdep : A.depth + 2 < recursionLimit) (hun : A.units + 16 < cLine) (hh : A.handled = none) (hx : x.length ≤ 1000)
    (h : ∀ t h' tk', Ext s.heap h' → Q (.str (dirnameF x) t) { s with heap := h', toks := tk' }) : wpAny (model P0 w) A (call (.ref 136) [.str x tx]) Q E s := by
  refine' enter (binds := [(Str.ofString "p", .str x tx)]) ?x1 ?x2 ?x3 ?x4 ?x5 ?x6 ?x7 ?x8 ?x9 ?x10 ?x11 ?_
  walk_at "mine entered"
  k_steps
  all_goals refine ret_str h (Fr.keep (by k_asm)) ?_
  · rw [dirnameF, if_neg (by unfold headF; omega), if_pos (by unfold headF; assumption)]; rfl
  · rw [dirnameF, if_neg (by unfold headF; omega), if_neg (by unfold headF; rw [Bool.not_eq_true]; assumption)]; rfl
  · rw [dirnameF, if_pos (by unfold headF; omega)]; rfl
end
end
section
open PySem PySem.W PyProof.Rows PySem.Spec PySem.Calls
set_option Elab.async false
set_option maxRecDepth 100000
set_option maxHeartbeats 4000000
theorem start_Jn : True := by w_top off; trivial
section
variable {w : World} {A : Around} {s : Shared} {mean : ExcName → Option Value} {mg mb : Str → Option Value} {Q E : Value → Shared → Prop}
/-- entering a def (a, *p) -/
theorem enterV {name qual : Str} {params : Arguments} {body : List Stmt} {scope : Scope} {dV kV doc pm cdv ct oc : Value} {an od : Option Addr} {osl : Array (Option Value)} {f : Addr} {a : Value} {vs : List Value} {n1 n2 : Str}
    (X : (hd.heap_1 w.params).In s.heap) (T : Tp mean mg mb s.heap) (hroom : A.depth < recursionLimit)
    (ho : (hd.heap_1 w.params).lookup f = some ⟨oc, od, .func (fnOf name qual params body scope dV kV doc pm an cdv ct), osl⟩) (hcd : codeIn (hd.heap_1 w.params) cdv qual = true)
    (hbind : ∀ vs, bindArgs (fnOf name qual params body scope dV kV doc pm an cdv ct) ⟨a :: vs, []⟩ = (do let t ← newTuple vs; pure [(n1, a), (n2, t)]))
    (hlen : vs.length ≤ sizeLine)
    (hloc : ∀ v, ∀ y ∈ [(n1, a), (n2, v)], scope.names.lookup y.1 = some .local)
    (hcell : ∀ x ∈ scope.names, x.2 ≠ .cell) (hco : scope.isCoroutine = false) (hgen : scope.isGenerator = false) (hk : scope.kind = .function)
    (h : ∀ D L h₁, s.heap.objs.size ≤ D → Fr s.heap L h₁ (fun y => [(n1, a), (n2, Value.ref D)].reverse.lookup y) → News s.heap L h₁ [(D, { cls := .type "tuple", data := .seq vs.toArray })] →
      wpAny (model P0 w) (A.deeper (envOf qual scope L f cdv)) (execs body (envOf qual scope L f cdv)) (fun fl s' => Q (match fl with | .ret v => v | _ => .none) s') (fun _ _ => False)
        { s with heap := h₁, toks := s.toks + 2 }) : wpAny (model P0 w) A (call (.ref f) (a :: vs)) Q E s := by
  refine wpAny_call ?_
  refine codeAny_call_function (fd := fnOf name qual params body scope dV kV doc pm an cdv ct) (body := body) hroom (X _ _ ho) rfl hco hgen rfl (codeRec_of X hcd) ?_
  rw [hbind]
  refine wpAny_bind (wpAny_newObj_type ?_ (by show vs.toArray.size ≤ sizeLine; rw [List.size_toArray]; exact hlen))
  refine wpAny_pure ?_
  have hpush := fun (b : Addr) (o : Obj) (e : s.heap.get? b = some o) => Heap.get?_push_of_some ({ cls := .type "tuple", data := .seq vs.toArray } : Obj) e
  refine wpAny_newFunctionEnv hcell (hloc _) (fun h₀ hns₀ hsb₀ => ⟨(T.nolimit.keeps hpush).fresh _ hsb₀, codeAny_func ?_⟩) hk
  have e1 : ∀ b o, (s.heap.push ({ cls := .type "tuple", data := .seq vs.toArray } : Obj)).get? b = some o → h₀.get? b = some o := fun b o e => hsb₀.extBut b o (Nat.ne_of_lt (Heap.lt_size e)) (Heap.get?_push_of_some _ e)
  refine wpAny_mono (h s.heap.objs.size _ h₀ (Nat.le_refl _) ⟨hns₀, fun b o e => e1 b o (hpush b o e), ?_⟩ ?_) (fun fl s' hl => hl) fun _ _ y => y.elim
  · show s.heap.objs.size ≤ (s.heap.push _).objs.size
    rw [Heap.size_push]; exact Nat.le_succ _
  · intro p hp
    rw [List.mem_singleton.mp hp]
    refine ⟨e1 _ _ (Heap.get?_push_size _ rfl), ?_, Heap.get?_none_of_le (Nat.le_refl _)⟩
    show s.heap.objs.size ≠ (s.heap.push _).objs.size
    rw [Heap.size_push]; exact Nat.ne_of_lt (Nat.lt_succ_self _)
end
end
section
open PySem PySem.W PyProof.Rows PySem.Spec PySem.Calls
set_option Elab.async false
set_option maxRecDepth 100000
set_option maxHeartbeats 4000000
theorem start_Jn2 : True := by w_top off; trivial
section
variable {w : World} {A : Around} {s : Shared} {mean : ExcName → Option Value} {mg mb : Str → Option Value} {Q E : Value → Shared → Prop}
def jstep (path b : Str) : Str := if Txt.startswith b (Str.ofString "/") = true ∨ path.length = 0 then b else if Txt.endswith path (Str.ofString "/") = true then path ++ b else path ++ (Str.ofString "/" ++ b)
theorem c_join {a : Str} {ta : Tok} {bs : List Str} {vs : List Value} (hs : StrsAre vs bs) (X : (hd.heap_1 w.params).In s.heap) (T : Tp mean mg mb s.heap) (hdep : A.depth + 2 < recursionLimit) (hun : A.units + 16 < cLine) (hh : A.handled = none)
    (hB : ∀ i, ((bs.take i).foldl jstep a).length ≤ 1000) (hb : ∀ b ∈ bs, b.length ≤ 1000) (hn : vs.length ≤ 1000)
    (h : ∀ t h' tk', Ext s.heap h' → Q (.str (bs.foldl jstep a) t) { s with heap := h', toks := tk' }) : wpAny (model P0 w) A (call (.ref 122) (.str a ta :: vs)) Q E s := by
  refine' enterV (n1 := Str.ofString "a") (n2 := Str.ofString "p") ?x1 ?x2 ?x3 ?x4 ?x5 ?x6 ?x12 ?x7 ?x8 ?x9 ?x10 ?x11 ?_
  (case x1 => k_asm); (case x2 => k_asm); (case x3 => omega); (case x4 => k_dflt k_is); (case x5 => k_dflt k_is); (case x6 => intro vs; simp [bindArgs]; rfl)
  (case x12 => rw [sizeLine_eq]; omega)
  (case x7 => exact fun _ => locs rfl); (case x8 => decide); (case x9 => exact rfl); (case x10 => exact rfl); (case x11 => exact rfl)
  intro D L' h' hD F' N'; (try dsimp only); (try k_fold)
  k_steps
  refine' iter_tupM (fun m₀ n₀ i m₁ n₁ => (∃ t, m₁ (Str.ofString "path") = some (.str ((bs.take i).foldl jstep a) t)) ∧ (∀ y, y ≠ Str.ofString "b" → y ≠ Str.ofString "path" → m₁ y = m₀ y) ∧ n₁ = n₀) ?x1 ?x2 ?x3 ?x4 ?x5 ?x6 ?x7 ?x8
  (case x1 => exact hh)
  (case x2 => exact ⟨_, News.get (by k_asm) (.head _), rfl, _, rfl⟩)
  (case x3 => exact ne_frame (by k_asm) (.head _))
  (case x4 => k_asm)
  (case x5 => k_asm)
  (case x6 => exact ⟨⟨_, rfl⟩, fun _ _ _ => rfl, rfl⟩)
  (case x7 =>
    rintro i v m₁ n₁ h9 tk9 own hv ⟨⟨t, hm1⟩, hm2, rfl⟩ hown hnw F9 N9
    obtain ⟨b, tb, rfl, hbi⟩ := strs_get hs hv
    have hbl := hb b (List.mem_of_getElem? hbi)
    have hpl := hB i
    have e9 := take_fold jstep a bs i b hbi
    obtain ⟨u, rfl⟩ := map2 (Str.ofString "b") (Str.ofString "path") hm1 hm2
    clear hm1 hm2
    k_steps
    all_goals refine turn_ok _ (by k_asm) (by k_asm) (fun p hp => List.mem_append_right _ hp) (fun p hp => List.mem_append_left _ hp) (by simp) ⟨?_, fun y h1 h2 => by simp only [if_neg h1, if_neg h2], rfl⟩
    · exact ex_str rfl (by rw [e9, jstep, if_pos (.inl (by assumption))])
    · exact ex_str rfl (by rw [e9, jstep, if_neg (by rintro (q | q) <;> first | omega | exact absurd q (by rw [Bool.not_eq_true]; assumption)), if_pos (by assumption)])
    · exact ex_str rfl (by rw [e9, jstep, if_neg (by rintro (q | q) <;> first | omega | exact absurd q (by rw [Bool.not_eq_true]; assumption)), if_neg (by rw [Bool.not_eq_true]; assumption)])
    · exact ex_str rfl (by rw [e9, jstep, if_pos (.inr (by omega))]))
  rintro m₁ n₁ h9 tk9 ⟨⟨t, hm1⟩, hm2, rfl⟩ F9 N9
  rw [strs_len hs, List.take_length] at hm1
  obtain ⟨u, rfl⟩ := map2 (Str.ofString "b") (Str.ofString "path") hm1 hm2
  clear hm1 hm2
  dsimp only
  k_steps
  exact h _ _ _ (Fr.keep (by k_asm))
end
end
section
open PySem PySem.W PyProof.Rows PySem.Spec PySem.Calls
set_option Elab.async false
set_option maxRecDepth 100000
set_option maxHeartbeats 4000000
theorem start_Hl : True := by w_top off; trivial
/-- a goal kept out of the walk's hands -/
def Hold (P : Prop) : Prop := P
theorem Hold.in {P : Prop} (h : Hold P) : P := h
theorem Hold.out {P : Prop} (h : P) : Hold P := h
end
theorem reg_13 : True := by
  k_with "mine stop" => (k_here; refine Hold.in ?_)
  trivial
section
open PySem PySem.W PyProof.Rows PySem.Spec PySem.Calls
set_option Elab.async false
set_option maxRecDepth 100000
set_option maxHeartbeats 4000000
end
theorem reg_14 : True := by
  k_with "mine 14" => (k_here; (with_reducible show wpAny _ _ (pyIter _) (fun it s₂ => LoopAtV _ _ _ _ _ _ _ _ _ it s₂) _ _); refine Hold.in ?_)
  trivial
local macro_rules | `(tactic| walk_at "pyIter ref") => `(tactic| walk_at "mine 14")
section
open PySem PySem.W PyProof.Rows PySem.Spec PySem.Calls
set_option Elab.async false
set_option maxRecDepth 100000
set_option maxHeartbeats 4000000
end
theorem reg_15 : True := by
  k_with "mine 15" => (k_here; k_dflt (refine For_invV _ (by rfl) (by rfl) ?_))
  trivial
local macro_rules | `(tactic| walk_at "exec For Name Call cons nil") => `(tactic| walk_at "mine 15")
section
open PySem PySem.W PyProof.Rows PySem.Spec PySem.Calls
set_option Elab.async false
set_option maxRecDepth 100000
set_option maxHeartbeats 4000000
end
local macro_rules | `(tactic| walk_at "exec While Compare cons nil") => `(tactic| walk_at "mine stop")
section
open PySem PySem.W PyProof.Rows PySem.Spec PySem.Calls
set_option Elab.async false
set_option maxRecDepth 100000
set_option maxHeartbeats 4000000
end
local macro_rules | `(tactic| walk_at "exec While BoolOp cons nil") => `(tactic| walk_at "mine stop")
section
open PySem PySem.W PyProof.Rows PySem.Spec PySem.Calls
set_option Elab.async false
set_option maxRecDepth 100000
set_option maxHeartbeats 4000000
end
local macro_rules | `(tactic| walk_at "CompSrc") => `(tactic| walk_at "mine stop")
section
open PySem PySem.W PyProof.Rows PySem.Spec PySem.Calls
set_option Elab.async false
set_option maxRecDepth 100000
set_option maxHeartbeats 4000000
end
local macro_rules | `(tactic| walk_at "CompSrcT") => `(tactic| walk_at "mine stop")
section
open PySem PySem.W PyProof.Rows PySem.Spec PySem.Calls
set_option Elab.async false
set_option maxRecDepth 100000
set_option maxHeartbeats 4000000
section
variable {prog : Program} {w : World} {A : Around} {E : Value → Shared → Prop} {s : Shared} {env : Env} {h₀ : Heap} {x : Str} {body : List Stmt} {Q : Flow → Shared → Prop} {m₀ : Str → Option Value} {news : List (Addr × Obj)}
theorem iter_rangeM {r : Addr} {a b : Int} {t u v : Tok} {n : Nat} (J : (Str → Option Value) → List (Addr × Obj) → Nat → (Str → Option Value) → List (Addr × Obj) → Prop)
    (hh : A.handled = none) (hr : IsRange s.heap r a b 1 t u v) (hsm : Builtin.Range.small a b 1 = true) (hn : Builtin.Range.rangeSize a b 1 = ((n : Nat) : Int)) (F : Fr h₀ env.locals s.heap m₀) (N : News h₀ env.locals s.heap news) (hj : J m₀ news 0 m₀ news)
    (turn : ∀ (i : Nat) t m₁ news₁ h tk own, i < n → J m₀ news i m₁ news₁ → (∀ p ∈ own, p.1 = s.heap.objs.size) → (∀ p ∈ news₁, p.1 ≠ s.heap.objs.size) → Fr h₀ env.locals h (fun y => if y = x then some (.int (a + (i : Int)) t) else m₁ y) → News h₀ env.locals h (news₁ ++ own) →
      wpAny (model prog w) A (execs body env) (TurnPost h₀ env.locals "range_iterator" (J m₀ news (i + 1)) own { s with heap := h, toks := tk } Q) E { s with heap := h, toks := tk })
    (done : ∀ m₁ news₁ h tk, J m₀ news n m₁ news₁ → Fr h₀ env.locals h m₁ → News h₀ env.locals h news₁ → Q .next { s with heap := h, toks := tk }) :
    wpAny (model prog w) A (pyIter (.ref r)) (fun it s₂ => LoopAtV prog w A h₀ env x body Q E it s₂) E s := by
  refine wpAny_pyIter_range hr hsm ?_
  have W := LCg.range_walks (prog := prog) (w := w) (I := s.heap.objs.size) hh a n
  refine iter_gen (m₀ := m₀) (news := news) "range_iterator" (J m₀ news) W (fun i h st => ⟨_, st, rfl⟩) (.head _) ?_ (fresh_none F) ?_ (by show IsRangeIter _ _ _ _ _; rw [hn]; simpa using Heap.get?_push_size _ rfl) (F.push _)
    (fun p hp => ⟨Heap.get?_push_of_some _ (N p hp).1, (N p hp).2⟩) hj ?_ done
  · intro hm
    exact absurd F.ns.lt ((List.mem_singleton.mp hm) ▸ Nat.lt_irrefl _)
  · intro p hp e; exact absurd (Heap.lt_size (N p hp).1) (e ▸ Nat.lt_irrefl _)
  · intro i v m₁ news₁ h tk own hin hP hJ hown hnw F₁ N₁
    obtain ⟨t, rfl⟩ := hP
    exact turn i t m₁ news₁ h tk own hin hJ (fun p hp => List.mem_singleton.mp (hown p hp)) hnw F₁ N₁
end
theorem range_small {a b : Int} (h0 : 0 ≤ a) (h1 : a ≤ 1000000) (h2 : 0 ≤ b) (h3 : b ≤ 1000000) : Builtin.Range.small a b 1 = true := small_one (by omega) (by omega) (by omega) (by omega)
theorem range_len {a b : Int} : Builtin.Range.rangeSize a b 1 = (((b - a).toNat : Nat) : Int) := by
  unfold Builtin.Range.rangeSize
  simp only [show ((1 : Int) > 0) by decide, if_true, Int.ediv_one]
  split <;> omega
section
variable {w : World} {A : Around} {s : Shared} {mean : ExcName → Option Value} {mg mb : Str → Option Value} {Q E : Value → Shared → Prop}
end
end
theorem reg_16 : True := by
  k_with "mine 16" => (k_here; (with_reducible show wpAny _ _ (call (Value.ref 136) _) _ _ _); k_dflt (refine' c_dirname ?x1 ?x2 ?x3 ?x4 ?x5 ?x6 ?_; walk_at "mine side"; (case x6 => omega); k_whole; intro t' h' tk' kE; walk_at "mine ext"))
  trivial
local macro_rules | `(tactic| walk_at "call ref") => `(tactic| walk_at "mine 16")
section
open PySem PySem.W PyProof.Rows PySem.Spec PySem.Calls
set_option Elab.async false
set_option maxRecDepth 100000
set_option maxHeartbeats 4000000
section
variable {w : World} {A : Around} {s : Shared} {mean : ExcName → Option Value} {mg mb : Str → Option Value} {Q E : Value → Shared → Prop}
theorem c_up {x : Str} {k : Int} {tx tk : Tok} (X : (hd.heap_1 w.params).In s.heap) (T : Tp mean mg mb s.heap) (hdep : A.depth + 3 < recursionLimit) (hun : A.units + 24 < cLine) (hh : A.handled = none) (hk : 0 ≤ k) (hk2 : k ≤ 10) (hx : ∀ i, (Nat.repeat dirnameF i x).length ≤ 1000)
    (h : ∀ t h' tk', Ext s.heap h' → Q (.str (Nat.repeat dirnameF k.toNat x) t) { s with heap := h', toks := tk' }) : wpAny (model P0 w) A (call (.ref 179) [.str x tx, .int k tk]) Q E s := by
  obtain ⟨hd0, dp, fr, gd, un⟩ := A
  dsimp only at hh hdep hun
  subst hh
  refine' enter (binds := [(Str.ofString "path", .str x tx), (Str.ofString "count", .int k tk)]) ?x1 ?x2 ?x3 ?x4 ?x5 ?x6 ?x7 ?x8 ?x9 ?x10 ?x11 ?_
  walk_at "mine entered"
  k_steps
  refine Hold.out ?_
  refine' iter_rangeM (n := (k - 0).toNat) (fun m₀ n₀ i m₁ n₁ => (∃ t, m₁ (Str.ofString "path") = some (.str (Nat.repeat dirnameF i x) t)) ∧ (∀ y, y ≠ Str.ofString "k" → y ≠ Str.ofString "path" → m₁ y = m₀ y) ∧ n₁ = n₀) ?x1 ?x2 ?x3 ?x4 ?x5 ?x6 ?x7 ?x8 ?x9
  (case x1 => exact rfl)
  (case x2 => assumption)
  (case x3 => exact range_small (by omega) (by omega) (by omega) (by omega))
  (case x4 => exact range_len)
  (case x5 => k_asm)
  (case x6 => k_asm)
  (case x7 => exact ⟨⟨_, rfl⟩, fun _ _ _ => rfl, rfl⟩)
  (case x8 =>
    rintro i t m₁ n₁ h9 tk9 own hi ⟨⟨t1, hm1⟩, hm2, rfl⟩ hown hnw F9 N9
    have hl := hx i
    obtain ⟨u, rfl⟩ := map2 (Str.ofString "k") (Str.ofString "path") hm1 hm2
    clear hm1 hm2
    k_steps
    exact turn_ok _ (by k_asm) (by k_asm) (fun p hp => List.mem_append_right _ hp) (fun p hp => List.mem_append_left _ hp) (by simp) ⟨ex_str rfl rfl, fun y h1 h2 => by simp only [if_neg h1, if_neg h2], rfl⟩)
  rintro m₁ n₁ h9 tk9 ⟨⟨t, hm1⟩, hm2, rfl⟩ F9 N9
  rw [Int.sub_zero] at hm1
  obtain ⟨u, rfl⟩ := map2 (Str.ofString "k") (Str.ofString "path") hm1 hm2
  clear hm1 hm2
  dsimp only
  k_steps
  exact h _ _ _ (Fr.keep (by k_asm))
end
end
section
open PySem PySem.W PyProof.Rows PySem.Spec PySem.Calls
set_option Elab.async false
set_option maxRecDepth 100000
set_option maxHeartbeats 4000000
theorem start_Ls2 : True := by w_top off; trivial
section
variable {prog : Program} {w : World} {A : Around} {E : Value → Shared → Prop} {s : Shared} {h₀ : Heap} {L l : Addr} {m : Str → Option Value} {news news' : List (Addr × Obj)} {k : Nat} {vs : List Value} {v : Value}
theorem addL {a b : Addr} {xs ys : List Value} {Q : Value → Shared → Prop} (F : Fr h₀ L s.heap m) (N : News h₀ L s.heap news) (ha : s.heap.IsList a xs.toArray) (hb : s.heap.IsList b ys.toArray) (hz : xs.length + ys.length ≤ 1000000)
    (h : ∀ D h', Fr h₀ L h' m → News h₀ L h' ((D, W.listOf (xs ++ ys).toArray 0) :: news) → (∀ q ∈ news, q.1 < D) → Q (.ref D) { s with heap := h' }) : wpAny (model prog w) A (binaryOp .Add (.ref a) (.ref b)) Q E s :=
  add_lists (hsz := by rw [sizeLine_eq]; omega) F N ha hb fun h' F' N' => h _ h' F' N' fun q hq => Heap.lt_size (N q hq).1
end
end
theorem reg_17 : True := by
  k_with "mine list" => first | assumption | exact ⟨_, News.get (by k_asm) (by k_mem), rfl, _, rfl⟩ | exact Heap.IsList.at (by assumption) (fun o e => Fr.keep (by k_asm) _ _ e)
  trivial
section
open PySem PySem.W PyProof.Rows PySem.Spec PySem.Calls
set_option Elab.async false
set_option maxRecDepth 100000
set_option maxHeartbeats 4000000
end
theorem reg_18 : True := by
  k_with "mine num" => first | omega | (simp; done) | (simp; omega) | (simp only [List.length_append, List.length_cons, List.length_nil]; omega)
  trivial
section
open PySem PySem.W PyProof.Rows PySem.Spec PySem.Calls
set_option Elab.async false
set_option maxRecDepth 100000
set_option maxHeartbeats 4000000
end
theorem reg_19 : True := by
  k_with "mine 19" => (k_here; (with_reducible show wpAny _ _ (binaryOp _ (Value.ref _) (Value.ref _)) _ _ _); k_dflt (refine' addL ?x1 ?x2 ?x3 ?x4 ?x5 ?_; (case x1 => k_asm); (case x2 => k_asm); (case x3 => walk_at "mine list"); (case x4 => walk_at "mine list"); (case x5 => walk_at "mine num")); k_whole; intro D' h' F' N' l1; (try k_lt l1); (try k_sweep))
  trivial
local macro_rules | `(tactic| walk_at "binaryOp Add ref ref") => `(tactic| walk_at "mine 19")
section
open PySem PySem.W PyProof.Rows PySem.Spec PySem.Calls
set_option Elab.async false
set_option maxRecDepth 100000
set_option maxHeartbeats 4000000
theorem sz_line {xs : List Value} (h : xs.length ≤ 1000000) : xs.toArray.size ≤ sizeLine := by rw [List.size_toArray, sizeLine_eq]; omega
end
theorem reg_20 : True := by
  k_with "mine 20" => (k_here; k_dflt (refine' star_seq ?k1 ?k2 ?m ?c ?d ?T ?e ?z ?_; (case k1 => k_asm); (case k2 => k_asm); (case m => k_mem); (case c => exact rfl); (case d => exact rfl); (case T => exact .inl rfl); (case e => exact rfl); (case z => exact sz_line (by walk_at "mine num")); k_whole); intro h' F' N'; (try k_sweep); try dsimp only [List.nil_append, List.cons_append])
  trivial
local macro_rules | `(tactic| walk_at "StarOf ref") => `(tactic| walk_at "mine 20")
section
open PySem PySem.W PyProof.Rows PySem.Spec PySem.Calls
set_option Elab.async false
set_option maxRecDepth 100000
set_option maxHeartbeats 4000000
section
variable {prog : Program} {w : World} {A : Around} {E : Value → Shared → Prop} {s : Shared} {l : Addr}
theorem lenL {xs : List Value} {Q : Value → Shared → Prop} (hl : s.heap.IsList l xs.toArray) (hz : xs.length ≤ 1000000) (h : ∀ t tk, Q (.int xs.length t) { s with toks := tk }) : wpAny (model prog w) A (call (.builtin "len") [.ref l]) Q E s := by
  refine len_list hl (by rw [List.size_toArray]; omega) ?_
  rw [List.size_toArray]; exact h _ _
end
end
theorem reg_21 : True := by
  k_with "mine 21" => (k_here; (with_reducible show wpAny _ _ (call (Value.builtin "len") [Value.ref _]) _ _ _); k_dflt (refine' lenL ?x1 ?x2 ?_; (case x1 => exact ⟨_, News.get (by k_asm) (by k_mem), rfl, _, rfl⟩); (case x2 => walk_at "mine num")); k_whole; intro t' tk')
  trivial
local macro_rules | `(tactic| walk_at "call builtin:len") => `(tactic| walk_at "mine 21")
section
open PySem PySem.W PyProof.Rows PySem.Spec PySem.Calls
set_option Elab.async false
set_option maxRecDepth 100000
set_option maxHeartbeats 4000000
theorem filt_succ (p : Nat → Bool) (i : Nat) : ((List.range (i + 1)).filter p).length = ((List.range i).filter p).length + (if p i = true then 1 else 0) := by
  rw [List.range_succ, List.filter_append, List.length_append]
  cases h : p i <;> simp [h]

end
section
open PySem PySem.W PyProof.Rows PySem.Spec PySem.Calls
set_option Elab.async false
set_option maxRecDepth 100000
set_option maxHeartbeats 4000000
theorem start_Cm : True := by w_top off; trivial
end
theorem reg_22 : True := by
  k_with "mine 22" => (k_here; (with_reducible show wpAny _ _ (PySem.eval (Expr.ListComp _ [Comprehension.mk _ _ [_] _] _ _) _) _ _ _); k_dflt (refine LCt.ListComp_T (F₀ := by k_asm) (by with_unfolding_all rfl) (by decide) (by rfl) (by decide) (by rfl) ?_))
  trivial
local macro_rules | `(tactic| walk_at "eval ListComp") => `(tactic| walk_at "mine 22")
section
open PySem PySem.W PyProof.Rows PySem.Spec PySem.Calls
set_option Elab.async false
set_option maxRecDepth 100000
set_option maxHeartbeats 4000000
end
theorem reg_23 : True := by
  k_with "mine 23" => (k_here; (with_reducible show wpAny _ _ (PySem.eval (Expr.ListComp _ [Comprehension.mk _ _ [] _] _ _) _) _ _ _); k_dflt (refine LCg.ListComp_U (F₀ := by k_asm) (by with_unfolding_all rfl) (by decide) (by rfl) (by decide) (by rfl) ?_))
  trivial
local macro_rules | `(tactic| walk_at "eval ListComp") => `(tactic| walk_at "mine 23")
section
open PySem PySem.W PyProof.Rows PySem.Spec PySem.Calls
set_option Elab.async false
set_option maxRecDepth 100000
set_option maxHeartbeats 4000000
end
theorem reg_24 : True := by
  k_with "mine 24" => (k_here; (with_reducible show wpAny _ _ (exec (Stmt.Assign _ (Expr.ListComp _ [Comprehension.mk _ _ [_] _] _ _) _) _) _ _ _); k_dflt (refine LCt.Assign_ListComp_T (F₀ := by k_asm) (by rfl) (by with_unfolding_all rfl) (by with_unfolding_all rfl) (by decide) (by rfl) (by decide) (by rfl) (by rfl) (by rfl) ?_))
  trivial
local macro_rules | `(tactic| walk_at "exec Assign cons ListComp") => `(tactic| walk_at "mine 24")
section
open PySem PySem.W PyProof.Rows PySem.Spec PySem.Calls
set_option Elab.async false
set_option maxRecDepth 100000
set_option maxHeartbeats 4000000
end
theorem reg_25 : True := by
  k_with "mine 25" => (k_here; (with_reducible show wpAny _ _ (exec (Stmt.Assign _ (Expr.ListComp _ [Comprehension.mk _ _ [] _] _ _) _) _) _ _ _); k_dflt (refine LCg.Assign_ListComp_U (F₀ := by k_asm) (by rfl) (by with_unfolding_all rfl) (by with_unfolding_all rfl) (by decide) (by rfl) (by decide) (by rfl) (by rfl) (by rfl) ?_))
  trivial
local macro_rules | `(tactic| walk_at "exec Assign cons ListComp") => `(tactic| walk_at "mine 25")
section
open PySem PySem.W PyProof.Rows PySem.Spec PySem.Calls
set_option Elab.async false
set_option maxRecDepth 100000
set_option maxHeartbeats 4000000
/-- an element's end: nothing but temporaries is left behind -/
def CEnd (h₀ : Heap) (L : Addr) (m : Str → Option Value) (s : Shared) (own : List (Addr × Obj)) (R : Value → Prop) (y : Value) (s₂ : Shared) : Prop :=
  ∃ h' tk, s₂ = { s with heap := h', toks := tk } ∧ Fr h₀ L h' m ∧ News h₀ L h' own ∧ R y
theorem cend {h₀ : Heap} {L : Addr} {m : Str → Option Value} {s : Shared} {own all : List (Addr × Obj)} {R : Value → Prop} {y : Value} {h' : Heap} {tk : Nat} (F : Fr h₀ L h' m) (N : News h₀ L h' all) (sub : ∀ p ∈ own, p ∈ all) (r : R y) : CEnd h₀ L m s own R y { s with heap := h', toks := tk } :=
  ⟨h', tk, rfl, F, fun p hp => N p (sub p hp), r⟩
section
variable {prog : Program} {w : World} {A : Around} {h₀ : Heap} {L : Addr} {m : Str → Option Value} {env : Env} {elt ct : Expr} {x : Str} {scope : Scope} {cl : List (Str × Addr)} {s : Shared} {S : List (Addr × Obj) → Prop} {P : Nat → Value → Prop} {Fin : List Value → List (Addr × Obj) → Prop} {n : Nat} {news : List (Addr × Obj)}
theorem compU (G : Nat → List Value → Prop) (hS : S news) (h0 : G 0 [])
    (step : ∀ i v I oI C oC D m₂ ys h tk (E' : Value → Shared → Prop), i < n → P i v → G i ys → LCg.NsObj oC m₂ → m₂ x = some v → Fr h₀ L h m → News h₀ L h ((I, oI) :: (C, oC) :: (D, LCg.lst ys) :: news) →
      wpAny (model prog w) A (eval elt (compEnvC scope cl C env)) (CEnd h₀ L m { s with heap := h, toks := tk } ((I, oI) :: (C, oC) :: (D, LCg.lst ys) :: news) (fun y => G (i + 1) (ys ++ [y]))) E' { s with heap := h, toks := tk })
    (fin : ∀ ys, G n ys → Fin ys news) : LCg.CompRest prog w A h₀ L m env elt x scope cl s S P Fin n 0 [] news := by
  have key : ∀ k i ys, i + k = n → G i ys → LCg.CompRest prog w A h₀ L m env elt x scope cl s S P Fin k i ys news := by
    intro k
    induction k with
    | zero => intro i ys e g; exact .zero (fin ys (by rw [← e]; exact g))
    | succ k ih =>
      intro i ys e g
      refine .succ fun v I oI C oC D m₂ h tk E' hP hC hx F N off ne => ?_
      refine wpAny_mono (step i v I oI C oC D m₂ ys h tk E' (by omega) hP g hC hx F N) (fun y s₂ q => ?_) fun _ _ e => e
      obtain ⟨h', tk', rfl, F', N', r⟩ := q
      exact ⟨h', tk', news, rfl, F', N', off, hS, ih (i + 1) _ (by omega) r⟩
  exact key n 0 [] (by omega) h0
theorem compT (G : Nat → List Value → Prop) (hS : S news) (h0 : G 0 [])
    (step : ∀ i v I oI C oC D m₂ ys h tk (E' : Value → Shared → Prop), i < n → P i v → G i ys → LCg.NsObj oC m₂ → m₂ x = some v → Fr h₀ L h m → News h₀ L h ((I, oI) :: (C, oC) :: (D, LCg.lst ys) :: news) →
      wpAny (model prog w) A (isTrue ct (compEnvC scope cl C env) (eval ct (compEnvC scope cl C env))) (fun ok s' => if ok = true then
        wpAny (model prog w) A (eval elt (compEnvC scope cl C env)) (CEnd h₀ L m { s with heap := h, toks := tk } ((I, oI) :: (C, oC) :: (D, LCg.lst ys) :: news) (fun y => G (i + 1) (ys ++ [y]))) E' s'
        else CEnd h₀ L m { s with heap := h, toks := tk } ((I, oI) :: (C, oC) :: (D, LCg.lst ys) :: news) (fun _ => G (i + 1) ys) Value.none s') E' { s with heap := h, toks := tk })
    (fin : ∀ ys, G n ys → Fin ys news) : LCt.CompRestT prog w A h₀ L m env ct elt x scope cl s S P Fin n 0 [] news := by
  have key : ∀ k i ys, i + k = n → G i ys → LCt.CompRestT prog w A h₀ L m env ct elt x scope cl s S P Fin k i ys news := by
    intro k
    induction k with
    | zero => intro i ys e g; exact .zero (fin ys (by rw [← e]; exact g))
    | succ k ih =>
      intro i ys e g
      refine .succ fun v I oI C oC D m₂ h tk E' hP hC hx F N off ne => ?_
      refine wpAny_mono (step i v I oI C oC D m₂ ys h tk E' (by omega) hP g hC hx F N) (fun ok s₂ q => ?_) fun _ _ e => e
      cases ok with
      | true =>
        rw [if_pos rfl] at q ⊢
        refine wpAny_mono q (fun y s₃ q => ?_) fun _ _ e => e
        obtain ⟨h', tk', rfl, F', N', r⟩ := q
        exact ⟨h', tk', news, rfl, F', N', off, hS, ih (i + 1) _ (by omega) r⟩
      | false =>
        rw [if_neg Bool.false_ne_true] at q ⊢
        obtain ⟨h', tk', rfl, F', N', r⟩ := q
        exact ⟨h', tk', news, rfl, F', N', off, hS, ih (i + 1) _ (by omega) r⟩
  exact key n 0 [] (by omega) h0
end
/-- how the elements taken so far look: ints by a function of the place -/
theorem intsSnoc {vs : List Value} {bs : List Int} {b : Int} {t : Tok} (hs : IntsAre vs bs) : IntsAre (vs ++ [.int b t]) (bs ++ [b]) := by
  induction hs with
  | nil => exact .cons _ _ .nil
  | cons y t _ ih => exact .cons _ _ ih

end
section
open PySem PySem.W PyProof.Rows PySem.Spec PySem.Calls
set_option Elab.async false
set_option maxRecDepth 100000
set_option maxHeartbeats 4000000
theorem start_Wh : True := by w_top off; trivial
def WExit (h₀ : Heap) (L : Addr) (s : Shared) (K : (Str → Option Value) → List (Addr × Obj) → Prop) (s₂ : Shared) : Prop :=
  ∃ h tk m news, s₂ = { s with heap := h, toks := tk } ∧ Fr h₀ L h m ∧ News h₀ L h news ∧ K m news
def WTurn (h₀ : Heap) (L : Addr) (s : Shared) (J : Nat → (Str → Option Value) → List (Addr × Obj) → Prop) (n : Nat) (f : Flow) (s₂ : Shared) : Prop :=
  match f with
  | .next => ∃ n' h tk m news, n' < n ∧ s₂ = { s with heap := h, toks := tk } ∧ Fr h₀ L h m ∧ News h₀ L h news ∧ J n' m news
  | _ => False
section
variable {prog : Program} {w : World} {A : Around} {s : Shared} {env : Env} {h₀ : Heap} {L : Addr} {Q : Flow → Shared → Prop}
theorem wexit {K : (Str → Option Value) → List (Addr × Obj) → Prop} {h : Heap} {tk : Nat} {m : Str → Option Value} {all : List (Addr × Obj)} (news : List (Addr × Obj)) (F : Fr h₀ L h m) (N : News h₀ L h all) (sub : ∀ p ∈ news, p ∈ all) (k : K m news) : WExit h₀ L s K { s with heap := h, toks := tk } :=
  ⟨h, tk, m, news, rfl, F, fun p hp => N p (sub p hp), k⟩
theorem wturn {J : Nat → (Str → Option Value) → List (Addr × Obj) → Prop} {n : Nat} {h : Heap} {tk : Nat} {m : Str → Option Value} {all : List (Addr × Obj)} (n' : Nat) (news : List (Addr × Obj)) (hn : n' < n) (F : Fr h₀ L h m) (N : News h₀ L h all) (sub : ∀ p ∈ news, p ∈ all) (j : J n' m news) : WTurn h₀ L s J n .next { s with heap := h, toks := tk } :=
  ⟨n', h, tk, m, news, hn, rfl, F, fun p hp => N p (sub p hp), j⟩
/-- a while: J as long as it turns (n falls), K when it has ended -/
theorem while_K {test : Expr} {body : List Stmt} {pos : Pos} {m : Str → Option Value} {news : List (Addr × Obj)} (J : (Str → Option Value) → Nat → (Str → Option Value) → List (Addr × Obj) → Prop) (K : (Str → Option Value) → (Str → Option Value) → List (Addr × Obj) → Prop) {n₀ : Nat}
    (F : Fr h₀ L s.heap m) (N : News h₀ L s.heap news) (hJ : J m n₀ m news)
    (turn : ∀ n m₁ news₁ h₁ tk₁, J m n m₁ news₁ → Fr h₀ L h₁ m₁ → News h₀ L h₁ news₁ →
      wpAny (model prog w) A (isTrue test env (eval test env)) (fun b s₂ =>
        if b = true then wpAny (model prog w) A (execs body env) (WTurn h₀ L s (J m) n) (fun _ _ => False) s₂ else WExit h₀ L s (K m) s₂) (fun _ _ => False) { s with heap := h₁, toks := tk₁ })
    (done : ∀ m₁ news₁ h₁ tk₁, K m m₁ news₁ → Fr h₀ L h₁ m₁ → News h₀ L h₁ news₁ → Q .next { s with heap := h₁, toks := tk₁ }) :
    wpAny (model prog w) A (exec (.While test body [] pos) env) Q (fun _ _ => False) s := by
  refine wpAny_While (codeAny_whileLoop (fun n s' => ∃ h₁ tk₁ m₁ news₁, s' = { s with heap := h₁, toks := tk₁ } ∧ Fr h₀ L h₁ m₁ ∧ News h₀ L h₁ news₁ ∧ J m n m₁ news₁) ?_ n₀ ⟨s.heap, s.toks, m, news, rfl, F, N, hJ⟩)
  rintro n s' ⟨h₁, tk₁, m₁, news₁, rfl, F₁, N₁, J₁⟩
  refine wpAny_mono (turn n m₁ news₁ h₁ tk₁ J₁ F₁ N₁) (fun b s₂ h₂ => ?_) fun _ _ q => q.elim
  cases b with
  | false =>
    simp only [Bool.false_eq_true, if_false] at h₂ ⊢
    obtain ⟨h, tk, m', news', rfl, F', N', k⟩ := h₂
    exact wpAny_execs_nil (done m' news' h tk k F' N')
  | true =>
    simp only [if_true] at h₂ ⊢
    refine wpAny_mono h₂ (fun f s₃ q => ?_) fun _ _ q => q.elim
    cases f with
    | next =>
      obtain ⟨n', h, tk, m', news', hn, rfl, F', N', j⟩ := q
      exact ⟨n', hn, h, tk, m', news', rfl, F', N', j⟩
    | cont => exact q.elim
    | brk => exact q.elim
    | ret v => exact q.elim
end
theorem known1 {m m₀ : Str → Option Value} (k1 : Str) {v1 : Option Value} (h1 : m k1 = v1) (h : ∀ y, y ≠ k1 → m y = m₀ y) : m = fun y => if y = k1 then v1 else m₀ y := by
  funext y
  by_cases q : y = k1
  · subst q; simp [h1]
  · rw [if_neg q]; exact h y q
theorem known2 {m m₀ : Str → Option Value} (k1 k2 : Str) {v1 v2 : Option Value} (h1 : m k1 = v1) (h2 : m k2 = v2) (h : ∀ y, y ≠ k1 → y ≠ k2 → m y = m₀ y) : m = fun y => if y = k1 then v1 else if y = k2 then v2 else m₀ y := by
  refine known1 k1 h1 fun y q1 => ?_
  by_cases q : y = k2
  · subst q; simp [h2]
  · rw [if_neg q]; exact h y q1 q

end
section
open PySem PySem.W PyProof.Rows PySem.Spec PySem.Calls
set_option Elab.async false
set_option maxRecDepth 100000
set_option maxHeartbeats 4000000
theorem start_Lc : True := by w_top off; trivial
def TurnOkA (h₀ : Heap) (L I : Addr) (J : (Str → Option Value) → List (Addr × Obj) → Prop) (own : List (Addr × Obj)) (s₁ s₂ : Shared) : Prop :=
  ∃ h' tk m' news' nx, s₂ = { s₁ with heap := h', toks := tk } ∧ Fr h₀ L h' m' ∧ News h₀ L h' news' ∧ (∀ p ∈ own, p ∈ news') ∧ (∀ p ∈ nx, p ∈ news') ∧ (∀ p ∈ nx, p.1 ≠ I) ∧ J m' nx
def TurnPostA (h₀ : Heap) (L I : Addr) (J : (Str → Option Value) → List (Addr × Obj) → Prop) (own : List (Addr × Obj)) (s₁ : Shared) (Q : Flow → Shared → Prop) (f : Flow) (s₂ : Shared) : Prop :=
  match f with
  | .ret v => Q (.ret v) s₂
  | .brk => Q .next s₂
  | _ => TurnOkA h₀ L I J own s₁ s₂
section
variable {prog : Program} {w : World} {A : Around} {E : Value → Shared → Prop} {s : Shared} {env : Env} {h₀ : Heap} {x : Str} {body : List Stmt} {Q : Flow → Shared → Prop} {m₀ : Str → Option Value} {news : List (Addr × Obj)}
theorem turnA {L I : Addr} {J : (Str → Option Value) → List (Addr × Obj) → Prop} {own news' old : List (Addr × Obj)} {s₁ : Shared} {h' : Heap} {tk : Nat} {m' : Str → Option Value} (nx : List (Addr × Obj)) (F : Fr h₀ L h' m') (N : News h₀ L h' news')
    (ho : ∀ p ∈ own, p ∈ news') (hx : ∀ p ∈ nx, p ∈ news') (hold : ∀ p ∈ old, p.1 ≠ I) (hc : nx.map (·.1) = old.map (·.1)) (hj : J m' nx) : TurnOkA h₀ L I J own s₁ { s₁ with heap := h', toks := tk } :=
  ⟨h', tk, m', news', nx, rfl, F, N, ho, hx, fun p hp => by
    have : p.1 ∈ old.map (·.1) := hc ▸ List.mem_map_of_mem hp
    obtain ⟨q, hq, e⟩ := List.mem_map.mp this
    rw [← e]; exact hold q hq, hj⟩
theorem turnB {L I : Addr} {J : (Str → Option Value) → List (Addr × Obj) → Prop} {own news' : List (Addr × Obj)} {s₁ : Shared} {h' : Heap} {tk : Nat} {m' : Str → Option Value} (nx : List (Addr × Obj)) (F : Fr h₀ L h' m') (N : News h₀ L h' news')
    (ho : ∀ p ∈ own, p ∈ news') (hx : ∀ p ∈ nx, p ∈ news') (hc : ∀ p ∈ nx, p.1 ≠ I) (hj : J m' nx) : TurnOkA h₀ L I J own s₁ { s₁ with heap := h', toks := tk } := ⟨h', tk, m', news', nx, rfl, F, N, ho, hx, hc, hj⟩
theorem iter_genA {I : Addr} {fp : List Addr} {n : Nat} {P : Nat → Value → Prop} {St : Nat → Heap → Prop} (J : Nat → (Str → Option Value) → List (Addr × Obj) → Prop) (W : Walks prog w A I fp [I] n P St)
    (hIo : ∀ i h, St i h → ∃ o, h.get? I = some o ∧ ∀ a n, o.data ≠ .seq a n) (hIf : I ∈ fp) (hLf : env.locals ∉ fp) (h0I : h₀.get? I = none) (hn : ∀ p ∈ news, p.1 ≠ I) (hst : St 0 s.heap)
    (F : Fr h₀ env.locals s.heap m₀) (N : News h₀ env.locals s.heap news) (hj : J 0 m₀ news)
    (turn : ∀ i v m₁ news₁ h tk own, i < n → P i v → J i m₁ news₁ → (∀ p ∈ own, p.1 ∈ fp) → (∃ o, (I, o) ∈ own ∧ ∀ a n, o.data ≠ .seq a n) → (∀ p ∈ news₁, p.1 ≠ I) → Fr h₀ env.locals h (fun y => if y = x then some v else m₁ y) → News h₀ env.locals h (news₁ ++ own) →
      wpAny (model prog w) A (execs body env) (TurnPostA h₀ env.locals I (J (i + 1)) own { s with heap := h, toks := tk } Q) E { s with heap := h, toks := tk })
    (done : ∀ m₁ news₁ h tk, J n m₁ news₁ → Fr h₀ env.locals h m₁ → News h₀ env.locals h news₁ → Q .next { s with heap := h, toks := tk }) :
    LoopAtV prog w A h₀ env x body Q E (.ref I) s := by
  refine ⟨I, fp, [I], n, P, St, m₀, news, J, rfl, W, hLf, ?_, ?_, hst, F, N, hj, ?_, ?_⟩
  · intro b hb; rw [List.mem_singleton.mp hb]; exact h0I
  · intro p hp hb; exact hn p hp (List.mem_singleton.mp hb)
  · rintro i v m₁ news₁ s₁ own ⟨hh', tk', rfl⟩ hin hP hJ hoff hown hlive hall hst₁ F₁ N₁
    have N₂ : News h₀ env.locals hh' (news₁ ++ own) := fun p hp => N₁ p ((List.mem_append.mp hp).elim (fun h => List.mem_append.mpr (.inr h)) fun h => List.mem_append.mpr (.inl h))
    obtain ⟨oI, hoI, hsI⟩ := hIo _ _ hst₁
    refine wpAny_mono (turn i v m₁ news₁ hh' tk' own hin hP hJ hown ⟨oI, hall I hIf h0I oI hoI, hsI⟩ (fun p hp e => hoff p hp (List.mem_singleton.mpr e)) F₁ N₂) (fun f s₂ p => ?_) fun _ _ e => e
    have fin : TurnOkA h₀ env.locals I (J (i + 1)) own { s with heap := hh', toks := tk' } s₂ → LoopStepU h₀ env.locals [I] own (J (i + 1)) { s with heap := hh', toks := tk' } .next s₂ := by
      rintro ⟨h', tk, m', news', nx, e, F', N', ho, hx, hc, hm⟩
      exact ⟨rfl, h', tk, m', nx, e, F', fun p hp => N' p ((List.mem_append.mp hp).elim (ho p) (hx p)), fun p hp hq => hc p hp (List.mem_singleton.mp hq), hm⟩
    cases f with
    | ret v => exact .ret p
    | brk => exact .brk p
    | next => exact .next (fin p)
    | cont => exact .cont (fin p)
  · rintro h' tk m' news' F' N' _ hJ
    exact done m' news' h' tk hJ F' N'
theorem iter_listA {l : Addr} {vs : List Value} (J : (Str → Option Value) → List (Addr × Obj) → Nat → (Str → Option Value) → List (Addr × Obj) → Prop)
    (hh : A.handled = none) (hl : s.heap.IsList l vs.toArray) (hlL : l ≠ env.locals) (F : Fr h₀ env.locals s.heap m₀) (N : News h₀ env.locals s.heap news) (hj : J m₀ news 0 m₀ news)
    (turn : ∀ i v m₁ news₁ h tk own, vs[i]? = some v → J m₀ news i m₁ news₁ → (∀ p ∈ own, p.1 = s.heap.objs.size ∨ p.1 = l) → (∃ o, (s.heap.objs.size, o) ∈ own ∧ ∀ a n, o.data ≠ .seq a n) → (∀ p ∈ news₁, p.1 ≠ s.heap.objs.size) → Fr h₀ env.locals h (fun y => if y = x then some v else m₁ y) → News h₀ env.locals h (news₁ ++ own) →
      wpAny (model prog w) A (execs body env) (TurnPostA h₀ env.locals s.heap.objs.size (J m₀ news (i + 1)) own { s with heap := h, toks := tk } Q) E { s with heap := h, toks := tk })
    (done : ∀ m₁ news₁ h tk, J m₀ news vs.length m₁ news₁ → Fr h₀ env.locals h m₁ → News h₀ env.locals h news₁ → Q .next { s with heap := h, toks := tk }) :
    wpAny (model prog w) A (pyIter (.ref l)) (fun it s₂ => LoopAtV prog w A h₀ env x body Q E it s₂) E s := by
  obtain ⟨ol, hol, _⟩ := id hl
  have hne : l ≠ s.heap.objs.size := Nat.ne_of_lt (Heap.lt_size hol)
  refine wpAny_pyIter_list hl ?_
  have W := Walks.list (prog := prog) (w := w) hh s.heap.objs.size l hne vs.toArray
  rw [List.size_toArray] at W
  refine iter_genA (m₀ := m₀) (news := news) (J m₀ news) W (fun i h st => let ⟨o, e, _, hd⟩ := st.1; ⟨o, e, fun _ _ q => by rw [hd] at q; cases q⟩) (.head _) ?_ (fresh_none F) ?_ ⟨⟨_, Heap.get?_push_size _ rfl, rfl, rfl⟩, hl.at fun o e => Heap.get?_push_of_some _ e⟩ (F.push _)
    (fun p hp => ⟨Heap.get?_push_of_some _ (N p hp).1, (N p hp).2⟩) hj ?_ done
  · intro hm
    rcases List.mem_cons.mp hm with e | hm
    · exact absurd F.ns.lt (e ▸ Nat.lt_irrefl _)
    · exact hlL (List.mem_singleton.mp hm).symm
  · intro p hp e; exact absurd (Heap.lt_size (N p hp).1) (e ▸ Nat.lt_irrefl _)
  · intro i v m₁ news₁ h tk own _ hP hJ hown hIo hnw F₁ N₁
    exact turn i v m₁ news₁ h tk own (by simpa using hP) hJ (fun p hp => by rcases List.mem_cons.mp (hown p hp) with e | e; exact .inl e; exact .inr (List.mem_singleton.mp e)) hIo hnw F₁ N₁
theorem iter_rangeA {r : Addr} {a b : Int} {t u v : Tok} {n : Nat} (J : (Str → Option Value) → List (Addr × Obj) → Nat → (Str → Option Value) → List (Addr × Obj) → Prop)
    (hh : A.handled = none) (hr : IsRange s.heap r a b 1 t u v) (hsm : Builtin.Range.small a b 1 = true) (hn : Builtin.Range.rangeSize a b 1 = ((n : Nat) : Int)) (F : Fr h₀ env.locals s.heap m₀) (N : News h₀ env.locals s.heap news) (hj : J m₀ news 0 m₀ news)
    (turn : ∀ (i : Nat) t m₁ news₁ h tk own, i < n → J m₀ news i m₁ news₁ → (∀ p ∈ own, p.1 = s.heap.objs.size) → (∃ o, (s.heap.objs.size, o) ∈ own ∧ ∀ a n, o.data ≠ .seq a n) → (∀ p ∈ news₁, p.1 ≠ s.heap.objs.size) → Fr h₀ env.locals h (fun y => if y = x then some (.int (a + (i : Int)) t) else m₁ y) → News h₀ env.locals h (news₁ ++ own) →
      wpAny (model prog w) A (execs body env) (TurnPostA h₀ env.locals s.heap.objs.size (J m₀ news (i + 1)) own { s with heap := h, toks := tk } Q) E { s with heap := h, toks := tk })
    (done : ∀ m₁ news₁ h tk, J m₀ news n m₁ news₁ → Fr h₀ env.locals h m₁ → News h₀ env.locals h news₁ → Q .next { s with heap := h, toks := tk }) :
    wpAny (model prog w) A (pyIter (.ref r)) (fun it s₂ => LoopAtV prog w A h₀ env x body Q E it s₂) E s := by
  refine wpAny_pyIter_range hr hsm ?_
  have W := LCg.range_walks (prog := prog) (w := w) (I := s.heap.objs.size) hh a n
  refine iter_genA (m₀ := m₀) (news := news) (J m₀ news) W (fun i h st => ⟨_, st, fun _ _ q => by cases q⟩) (.head _) ?_ (fresh_none F) ?_ (by show IsRangeIter _ _ _ _ _; rw [hn]; simpa using Heap.get?_push_size _ rfl) (F.push _)
    (fun p hp => ⟨Heap.get?_push_of_some _ (N p hp).1, (N p hp).2⟩) hj ?_ done
  · intro hm
    exact absurd F.ns.lt ((List.mem_singleton.mp hm) ▸ Nat.lt_irrefl _)
  · intro p hp e; exact absurd (Heap.lt_size (N p hp).1) (e ▸ Nat.lt_irrefl _)
  · intro i v m₁ news₁ h tk own hin hP hJ hown hIo hnw F₁ N₁
    obtain ⟨t, rfl⟩ := hP
    exact turn i t m₁ news₁ h tk own hin hJ (fun p hp => List.mem_singleton.mp (hown p hp)) hIo hnw F₁ N₁
end
theorem list_ne {h₀ h : Heap} {L a : Addr} {m : Str → Option Value} {its : Array Value} (hl : h₀.IsList a its) (F : Fr h₀ L h m) : a ≠ L := by
  obtain ⟨o, e, _⟩ := hl
  exact Nat.ne_of_lt (Nat.lt_of_lt_of_le (Heap.lt_size e) F.above)
theorem own_ne {own news : List (Addr × Obj)} {I a b : Addr} {o : Obj} {h₀ h : Heap} {L : Addr} {its : Array Value} (hown : ∀ p ∈ own, p.1 = I ∨ p.1 = a) (hnw : ∀ p ∈ news, p.1 ≠ I) (hb : (b, o) ∈ news) (hl : h₀.IsList a its) (N : News h₀ L h news) : ∀ p ∈ own, p.1 ≠ b := fun p hp e => by
  rcases hown p hp with q | q
  · exact hnw _ hb (e.symm.trans q)
  · obtain ⟨o', e', _⟩ := hl
    have := (N _ hb).2.2
    rw [← e, q, e'] at this; cases this
theorem own_ne1 {own news : List (Addr × Obj)} {I b : Addr} {o : Obj} (hown : ∀ p ∈ own, p.1 = I) (hnw : ∀ p ∈ news, p.1 ≠ I) (hb : (b, o) ∈ news) : ∀ p ∈ own, p.1 ≠ b := fun p hp e => hnw _ hb (e.symm.trans (hown p hp))
theorem data_ne {news : List (Addr × Obj)} {a b : Addr} {o o' : Obj} {h₀ h : Heap} {L : Addr} (N : News h₀ L h news) (ha : (a, o) ∈ news) (hb : (b, o') ∈ news) (hd : o.data ≠ o'.data) : @Ne Nat a b := fun e => by
  have h1 := (N _ ha).1
  have h2 := (N _ hb).1
  dsimp only at h1 h2
  rw [e, h2] at h1
  exact hd (congrArg Obj.data (Option.some.inj h1).symm)
theorem ne_iter {news own : List (Addr × Obj)} {a I : Addr} {oI : Obj} {h₀ h : Heap} {L : Addr} {its : Array Value} {k : Nat} (N : News h₀ L h news) (ha : (a, W.listOf its k) ∈ news) (hI : (I, oI) ∈ own) (sub : ∀ p ∈ own, p ∈ news) (hs : ∀ a n, oI.data ≠ .seq a n) : a ≠ I :=
  data_ne N ha (sub _ hI) (fun q => hs _ _ q.symm)

end
section
open PySem PySem.W PyProof.Rows PySem.Spec PySem.Calls
set_option Elab.async false
set_option maxRecDepth 100000
set_option maxHeartbeats 400000
theorem start_Cs : True := by w_top off; trivial
def setD0 (led : Bool) : Obj := { cls := .type "set", data := .set #[] 0 (SetTable.fresh 0 0 led) }
def tab1 (led : Bool) : SetTable := { mask := 7, place := #[1], dummies := #[], finger := 0, led := led, moves := 0, plain := true }
def setD1 (led : Bool) : Obj := { cls := .type "set", data := .set #[(1, .bool true)] 1 (tab1 led) }
theorem lay1 (led : Bool) : layNew (SetTable.fresh 0 0 led) #[] 1 (.bool true) = (#[(1, .bool true)], tab1 led, false, false) := by cases led <;> decide +kernel
theorem pyHash_true {prog : Program} {w : World} {A : Around} {E : Value → Shared → Prop} {s : Shared} {Q : Int → Shared → Prop} (h : ∀ tk, Q 1 { s with toks := tk }) : wpAny (model prog w) A (pyHash (.bool true)) Q E s := by
  have hT : s.TypeIs (.bool true) "bool" := rfl
  show wpAny _ _ (pyHashByItsType (.bool true)) Q E s
  unfold pyHashByItsType
  refine wpAny_bind ?_
  rw [cRoomFor, if_neg (by decide)]; refine wpAny_pure ?_
  refine wpAny_bind (wpAny_specialOf hT F.slot_bool_hash.lookup ?_)
  show wpAny _ _ (if (some (Value.builtin "int.__hash__") == some Value.none) = true then _ else _) Q E s
  rw [if_neg (by decide)]
  refine wpAny_bind (wpAny_specialOf hT F.slot_bool_hash.lookup ?_)
  show wpAny _ _ (callSpecialIfBoundUnlessNone? (.bool true) "__hash__" _ >>= _) Q E s
  refine wpAny_bind (wpAny_callSpecialIfBoundUnlessNone?_slot hT F.slot_bool_hash
    (wpAny_call_entry F.slot_bool_hash hT entry_int_hash
      (show wpAny _ _ (do ret (← mkInt (rawHash 1))) _ _ s from wpAny_ret_mkInt ?_) (F.args_int_hash_1 _)))
  show wpAny _ _ (if (decide (-(2 : Int) ^ 63 ≤ rawHash 1) && decide (rawHash 1 < 2 ^ 63)) = true then _ else _) Q E _
  rw [if_pos (by decide +kernel)]
  have e : hashInt 1 = 1 := by decide +kernel
  refine wpAny_pure ?_
  show Q (hashInt 1) _
  rw [e]; exact h _
section
variable {prog : Program} {w : World} {A : Around} {E : Value → Shared → Prop} {s : Shared} {a : Addr} {led : Bool} {Q : Value → Shared → Prop}
theorem set_add0 (ho : s.heap.get? a = some (setD0 led)) (h : ∀ h' tk, Heap.SameBut a s.heap h' → h'.get? a = some (setD1 led) → Q .none { s with heap := h', toks := tk }) : wpAny (model prog w) A (call (.builtin "set.add") [.ref a, .bool true]) Q E s := by
  have hT : s.TypeIs (.ref a) "set" := ⟨_, ho, rfl⟩
  refine wpAny_call_entry F.slot_set_add hT F.entry_set_add ?_ (F.args_set_add_2 _ _)
  unfold Builtin.«set.add» Builtin.Frozenset.oneOther
  simp only [List.isEmpty_nil, bind_assoc]
  unfold Builtin.Frozenset.addrOf setAdd
  refine wpAny_bind (wpAny_pure ?_)
  try dsimp only
  refine wpAny_bind (wpAny_pure ?_)
  try dsimp only
  refine wpAny_bind ?_
  refine wpAny_holding ?_
  refine wpAny_bind (pyHash_true fun tk => ?_)
  unfold setAddHashed setAddHashedIn
  refine wpAny_holding (wpAny_bind (wpAny_setState_of (o := setD0 led) ho rfl (by cases led <;> decide +kernel) ?_))
  dsimp only
  rw [if_pos (by decide +kernel)]
  unfold setAddByScan
  refine wpAny_bind (wpAny_bind (wpAny_rule (wpAny_bind (wpAny_of_eq (a := ScanMet.absent) rfl ?_))))
  dsimp only
  rw [lay1]
  dsimp only
  refine wpAny_bind (wpAny_pure ?_)
  rw [if_pos (show (tab1 led).plain = true from rfl)]
  refine wpAny_bind (wpAny_of_eq (a := true) rfl ?_)
  simp only [if_true]
  refine wpAny_bind (wpAny_storeSet_of ho rfl ?_ (by decide +kernel))
  rw [if_neg (by cases led <;> decide +kernel)]
  refine wpAny_pure (wpAny_pure ?_)
  refine wpAny_pure ⟨_, rfl, h _ _ (Heap.SameBut.update ..) ?_⟩
  exact (Heap.get?_update_self (Obj.putSet #[(1, .bool true)] (tab1 led)) ho rfl)
theorem set_add1 (ho : s.heap.get? a = some (setD1 led)) (h : ∀ tk, Q .none { s with toks := tk }) : wpAny (model prog w) A (call (.builtin "set.add") [.ref a, .bool true]) Q E s := by
  have hT : s.TypeIs (.ref a) "set" := ⟨_, ho, rfl⟩
  refine wpAny_call_entry F.slot_set_add hT F.entry_set_add ?_ (F.args_set_add_2 _ _)
  unfold Builtin.«set.add» Builtin.Frozenset.oneOther
  simp only [List.isEmpty_nil, bind_assoc]
  unfold Builtin.Frozenset.addrOf setAdd
  refine wpAny_bind (wpAny_pure ?_)
  try dsimp only
  refine wpAny_bind (wpAny_pure ?_)
  try dsimp only
  refine wpAny_bind ?_
  refine wpAny_holding ?_
  refine wpAny_bind (pyHash_true fun tk => ?_)
  unfold setAddHashed setAddHashedIn
  refine wpAny_holding (wpAny_bind (wpAny_setState_of (o := setD1 led) ho rfl (by cases led <;> decide +kernel) ?_))
  dsimp only
  rw [if_pos (by decide +kernel)]
  unfold setAddByScan
  refine wpAny_bind (wpAny_bind (wpAny_rule (wpAny_bind ?_)))
  show wpAny _ _ (setScanFrom a (.bool true) 1 true [(1, .bool true)] 0) _ _ _
  unfold setScanFrom
  simp only [beq_self_eq_true, if_true]
  have ep : ∀ {α : Type} (k : Nat → Sem α) (Q' : α → Shared → Prop), wpAny (model prog w) A.in1 (k 1) Q' E { s with toks := tk } → wpAny (model prog w) A.in1 (setEpoch a >>= k) Q' E { s with toks := tk } := fun k Q' hk => by
    unfold setEpoch
    refine wpAny_bind (wpAny_bind (wpAny_setState_of (o := setD1 led) ho rfl (by cases led <;> decide +kernel) (wpAny_pure ?_)))
    exact hk
  refine ep _ _ ?_
  refine wpAny_bind ?_
  unfold eqBool
  rw [if_pos (by decide +kernel)]
  refine wpAny_holding (wpAny_bind (wpAny_rule (wpAny_pure ?_)))
  simp only [Bool.and_self, if_true]
  refine wpAny_pure (wpAny_pure ?_)
  dsimp only
  exact wpAny_pure (wpAny_pure ⟨_, rfl, h _⟩)
end
end
section
open PySem PySem.W PyProof.Rows PySem.Spec PySem.Calls
set_option Elab.async false
set_option maxRecDepth 100000
set_option maxHeartbeats 1000000
theorem start_Cs2 : True := by w_top off; trivial
theorem slot_seti_next : Slot "set_iterator" "__next__" "set_iterator.__next__" :=
  .of (owner := "set_iterator") (n := "__next__") (by rw [typeLookup_type, builtinLookup_eq_fast]; kernel_rfl) (by decide +kernel) (by decide +kernel) (by decide +kernel)
    (by first | exact .inl (by decide +kernel) | exact .inr (by decide +kernel)) (by rw [isSubtype_type]; kernel_rfl)
theorem entry_seti_next : entryFor table "set_iterator.__next__" = some Builtin.«set_iterator.__next__» := entryFor_of_tree (by kernel_rfl)
theorem entry_set_iter9 : entryFor table "set.__iter__" = some Builtin.«frozenset.__iter__» :=
  entryFor_alias (id' := "frozenset.__iter__") (by kernel_rfl) (by first | rfl | decide +kernel | (unfold String.splitOn; simp +decide [String.splitOnAux])) (by decide +kernel) (by kernel_rfl)
theorem args_seti_next (a : Value) : argsOk "set_iterator.__next__" ⟨[a], []⟩ := by unfold argsOk; kernel_rfl
def setIt (a : Addr) (f i : Int) (v : Value) : Obj := { cls := .type "set_iterator", data := .fields #[.int f 0, .int i 0, v, .int 1 0, .int 1 0] }
section
variable {prog : Program} {w : World} {A : Around} {E : Value → Shared → Prop} {s : Shared} {a I : Addr} {led : Bool}
theorem set_epoch (ho : s.heap.get? a = some (setD1 led)) {α : Type} (k : Nat → Sem α) (Q' : α → Shared → Prop) (E' : Value → Shared → Prop) (hk : wpAny (model prog w) A (k 1) Q' E' s) : wpAny (model prog w) A (setEpoch a >>= k) Q' E' s := by
  unfold setEpoch
  exact wpAny_bind (wpAny_bind (wpAny_setState_of (o := setD1 led) ho rfl (by cases led <;> decide +kernel) (wpAny_pure hk)))
theorem set_iter (ho : s.heap.get? a = some (setD1 led)) {Q : Value → Shared → Prop} (h : ∀ h' tk, h'.get? s.heap.objs.size = some (setIt a 0 0 (.ref a)) → Heap.ExtBut s.heap.objs.size s.heap h' → Q (.ref s.heap.objs.size) { s with heap := h', toks := tk }) :
    wpAny (model prog w) A (pyIter (.ref a)) Q E s := by
  have hT : s.TypeIs (.ref a) "set" := ⟨_, ho, rfl⟩
  refine wpAny_pyIter_slot hT F.slot_set_iter (wpAny_call_entry F.slot_set_iter hT entry_set_iter9 ?_ (F.args_set_iter_1 _))
  unfold Builtin.«frozenset.__iter__»
  unfold Builtin.Frozenset.slot0 slotArgs
  simp only [List.isEmpty_nil, Bool.not_true, Bool.false_eq_true, ↓reduceIte, bind_assoc, List.length_nil, bne_self_eq_false]
  unfold Builtin.Frozenset.addrOf Builtin.Frozenset.sizeOf
  refine wpAny_bind (wpAny_pure ?_)
  try dsimp only
  refine wpAny_bind (wpAny_pure ?_)
  refine wpAny_bind (wpAny_bind (wpAny_setEntries_of ho rfl (by cases led <;> decide +kernel) (wpAny_pure ?_)))
  have dr : ∀ {α : Type} (k : Bool → Sem α) (Q' : α → Shared → Prop) (E' : Value → Shared → Prop), wpAny (model prog w) A.in1 (k false) Q' E' s → wpAny (model prog w) A.in1 (setDrawn a >>= k) Q' E' s := fun k Q' E' hk => by
    unfold setDrawn setsByText
    refine wpAny_bind (wpAny_bind (wpAny_setState_of (o := setD1 led) ho rfl (by cases led <;> decide +kernel) ?_))
    refine wpAny_bind (wpAny_bind (wpAny_askSetting (wpAny_pure (wpAny_pure ?_))))
    have e : ∀ b : Bool, (!b && (!(tab1 led).plain && decide ((#[((1 : Int), Value.bool true)] : Array (Int × Value)).size > 1))) = false := fun b => by cases b <;> rfl
    show wpAny _ _ (k _) _ _ _
    erw [e]
    exact hk
  refine dr _ _ _ ?_
  rw [if_neg Bool.false_ne_true]
  refine wpAny_bind (wpAny_pure ?_)
  refine set_epoch ho _ _ _ ?_
  simp only [newFields]
  refine wpAny_bind (wpAny_newObj_type ?_ (by size_fits))
  exact wpAny_pure ⟨_, rfl, "set_iterator", _, ⟨_, Heap.get?_push_size _ rfl, rfl⟩, slot_seti_next.lookup, h _ _ (Heap.get?_push_size _ rfl) fun b o _ e => Heap.get?_push_of_some _ e⟩
def nxS (w : World) : Nat := if w.params.followText "set-order" = true then 0 else 2
abbrev ledS (w : World) : Bool := !w.params.followText "set-order"
theorem pick1 (f : Nat → Nat) : pickOrder f #[((1 : Int), Value.bool true)] = #[((1 : Int), Value.bool true)] := by
  show pickOrder.go f 1 0 [((1 : Int), Value.bool true)] #[] = _
  unfold pickOrder.go
  simp [Nat.mod_one, pickOrder.go]
theorem set_nx (ho : s.heap.get? a = some (setD1 (ledS w))) {slot given : Nat} (hsg : (slot = 0 ∧ given = 0) ∨ (slot = nxS w ∧ given = 1)) {α : Type} (k : Option (Value × Nat) → Sem α) (Q' : α → Shared → Prop) (E' : Value → Shared → Prop)
    (hk : wpAny (model prog w) A (k (if given = 0 then some (.bool true, nxS w) else none)) Q' E' s) : wpAny (model prog w) A (setNext a slot given 1 >>= k) Q' E' s := by
  unfold setNext setsByText
  refine wpAny_bind (wpAny_bind (wpAny_setState_of (o := setD1 (ledS w)) ho rfl (by cases ledS w <;> decide +kernel) ?_))
  refine wpAny_bind (wpAny_bind (wpAny_askSetting (wpAny_pure ?_)))
  show wpAny _ _ (if (w.params.followText "set-order") = true then _ else _) _ _ _
  cases hb : w.params.followText "set-order" with
  | true =>
    rw [if_pos rfl]
    dsimp only
    rw [if_neg (by decide)]
    unfold setWalk setsByText
    refine wpAny_bind (wpAny_bind (wpAny_setState_of (o := setD1 (ledS w)) ho rfl (by cases ledS w <;> decide +kernel) ?_))
    refine wpAny_bind (wpAny_bind (wpAny_askSetting (wpAny_pure ?_)))
    show wpAny _ _ (if (w.params.followText "set-order") = true then _ else _) _ _ _
    rw [hb, if_pos rfl]
    refine wpAny_bind (wpAny_askSetting (wpAny_pure ?_))
    refine wpAny_pure ?_
    rw [pick1]
    have hn : nxS w = 0 := by unfold nxS; rw [hb]; rfl
    rcases hsg with ⟨rfl, rfl⟩ | ⟨rfl, rfl⟩
    · rw [if_pos rfl, hn] at hk; exact hk
    · exact hk
  | false =>
    rw [if_neg Bool.false_ne_true]
    dsimp only
    have hl : ledS w = true := by unfold ledS; rw [hb]; rfl
    rw [hl]
    have hn : nxS w = 2 := by unfold nxS; rw [hb]; rfl
    rw [if_neg (by decide +kernel)]
    refine wpAny_bind (wpAny_pure (wpAny_pure ?_))
    rcases hsg with ⟨rfl, rfl⟩ | ⟨rfl, rfl⟩
    · rw [if_pos rfl, hn] at hk; exact hk
    · rw [hn]; exact hk
theorem set_next (hD : s.heap.get? a = some (setD1 (ledS w))) (hI : s.heap.get? I = some (setIt a 0 0 (.ref a))) {Q : Option Value → Shared → Prop} (h : ∀ h', h'.get? I = some (setIt a (nxS w) 1 (.ref a)) → Heap.SameBut I s.heap h' → Q (some (.bool true)) { s with heap := h' }) :
    wpAny (model prog w) A (pyNext (.ref I)) Q E s := by
  have hTy : s.TypeIs (.ref I) "set_iterator" := ⟨_, hI, rfl⟩
  unfold pyNext
  refine wpAny_bind (wpAny_attempt (wpAny_callSpecial?_slot (name := Str.ofString "__next__") hTy slot_seti_next (wpAny_call_entry slot_seti_next hTy entry_seti_next ?_ (args_seti_next _))))
  unfold Builtin.«set_iterator.__next__»
  unfold slotArgs
  simp only [List.isEmpty_nil, Bool.not_true, Bool.false_eq_true, ↓reduceIte, List.length_nil, bne_self_eq_false]
  refine wpAny_bind (wpAny_pure ?_)
  refine wpAny_bind (wpAny_fieldsOf hI rfl ?_)
  dsimp only
  refine wpAny_bind (wpAny_setEntries_of hD rfl (by cases ledS w <;> decide +kernel) ?_)
  rw [if_neg (by decide)]
  refine set_nx hD (.inl ⟨rfl, rfl⟩) _ _ _ ?_
  rw [if_pos rfl]
  dsimp only
  refine wpAny_bind (wpAny_setField hI rfl (by simp) ?_)
  have e1 := Heap.get?_update_self (Obj.mapFields (·.setIfInBounds 0 (rawInt (nxS w)))) hI rfl
  refine wpAny_bind (wpAny_setField e1 rfl (by simp) ?_)
  refine wpAny_pure ⟨_, rfl, wpAny_pure (h _ ?_ ?_)⟩
  · exact (Heap.get?_update_self (Obj.mapFields (·.setIfInBounds 1 (rawInt 1))) e1 rfl)
  · exact (Heap.SameBut.update ..).trans (Heap.SameBut.update ..)
theorem set_end (hh : A.handled = none) (hD : s.heap.get? a = some (setD1 (ledS w))) (hI : s.heap.get? I = some (setIt a (nxS w) 1 (.ref a))) {Q : Option Value → Shared → Prop} (h : ∀ h', Heap.ExtBut I s.heap h' → Q none { s with heap := h' }) :
    wpAny (model prog w) A (pyNext (.ref I)) Q E s := by
  have hTy : s.TypeIs (.ref I) "set_iterator" := ⟨_, hI, rfl⟩
  unfold pyNext
  refine wpAny_bind (wpAny_attempt (wpAny_callSpecial?_slot (name := Str.ofString "__next__") hTy slot_seti_next (wpAny_call_entry slot_seti_next hTy entry_seti_next ?_ (args_seti_next _))))
  unfold Builtin.«set_iterator.__next__»
  unfold slotArgs
  simp only [List.isEmpty_nil, Bool.not_true, Bool.false_eq_true, ↓reduceIte, List.length_nil, bne_self_eq_false]
  refine wpAny_bind (wpAny_pure ?_)
  refine wpAny_bind (wpAny_fieldsOf hI rfl ?_)
  dsimp only
  refine wpAny_bind (wpAny_setEntries_of hD rfl (by cases ledS w <;> decide +kernel) ?_)
  rw [if_neg (by decide)]
  refine set_nx hD (.inr ⟨by simp, rfl⟩) _ _ _ ?_
  rw [if_neg (by decide)]
  dsimp only
  refine wpAny_bind (wpAny_setField hI rfl (by simp) ?_)
  refine wpAny_bind ?_
  simp only [newExc, newTuple]
  refine wpAny_bind (wpAny_newObj_type ?_ (by size_fits))
  refine wpAny_bind (m := firstArgMember _ _) (wpAny_of_eq (a := Value.none) (by first | rfl | (simp only [firstArgMember]; rfl)) ?_)
  refine wpAny_newObj_type ?_ (by size_fits)
  simp only [raiseNew]
  refine wpAny_bind (wpAny_handled ?_)
  rw [show A.in1.handled = none from hh]
  refine wpAny_bind (wpAny_pure (wpAny_throw ?_))
  refine wpAny_bind (wpAny_isInstance (T := "StopIteration") (b := true) ⟨_, Heap.get?_push_size _ rfl, rfl⟩ isSubtype_stop ?_)
  exact wpAny_pure (h _ (((Heap.SameBut.update ..).extBut.push _).push _))
theorem set_unpack (hh : A.handled = none) (hD : s.heap.get? a = some (setD1 (ledS w))) {Q : List Value → Shared → Prop} (h : ∀ h' tk, (∀ b o, s.heap.get? b = some o → h'.get? b = some o) → Q [.bool true] { s with heap := h', toks := tk }) :
    wpAny (model prog w) A (unpackItems (.ref a) 1 none) Q E s := by
  have hT : s.TypeIs (.ref a) "set" := ⟨_, hD, rfl⟩
  have hlt : a ≠ s.heap.objs.size := Nat.ne_of_lt (Heap.lt_size hD)
  unfold unpackItems
  refine wpAny_bind ?_
  unfold notIterableAtAll
  refine wpAny_bind (wpAny_specialOf hT F.slot_set_iter.lookup ?_)
  refine wpAny_pure ?_
  simp only [Bool.false_eq_true, if_false]
  refine wpAny_bind (wpAny_holding (set_iter hD fun h₁ tk₁ hI₁ hx₁ => ?_))
  have hD₁ := hx₁ _ _ hlt hD
  refine wpAny_bind (wpAny_holding ?_)
  show wpAny _ _ (draw (.ref s.heap.objs.size) 1) _ _ _
  unfold draw
  refine wpAny_bind (set_next hD₁ hI₁ fun h₂ hI₂ hs₂ => ?_)
  dsimp only
  refine wpAny_bind (wpAny_holding (wpAny_pure (wpAny_pure ?_)))
  rw [if_neg (by decide)]
  have hD₂ := hs₂.extBut _ _ hlt hD₁
  refine wpAny_bind (wpAny_holding (set_end hh hD₂ hI₂ fun h₃ hx₃ => ?_))
  simp only [Option.isSome_none, Bool.false_eq_true, if_false]
  refine wpAny_pure (h _ _ fun b o e => ?_)
  have hb : b ≠ s.heap.objs.size := Nat.ne_of_lt (Heap.lt_size e)
  exact hx₃ _ _ hb (hs₂.extBut _ _ hb (hx₁ _ _ hb e))
end
end
section
open PySem PySem.W PyProof.Rows PySem.Spec PySem.Calls
set_option Elab.async false
set_option maxRecDepth 100000
set_option maxHeartbeats 1000000
theorem start_Cm2 : True := by w_top off; trivial
open LCg
abbrev tupO (its : Array Value) (k : Nat) : Obj := { cls := .type "tuple", data := .seq its k }
def SrcTup (prog : Program) (w : World) (A : Around) (h₀ : Heap) (L : Addr) (m : Str → Option Value) (env : Env) (elt : Expr) (x : Str) (scope : Scope) (cl : List (Str × Addr)) (Fin : Shared → List Value → List (Addr × Obj) → Prop) (xv : Value) (s₁ : Shared) : Prop :=
  ∃ ax its k news, xv = .ref ax ∧ A.handled = none ∧ Fr h₀ L s₁.heap m ∧ News h₀ L s₁.heap news ∧ (ax, tupO its k) ∈ news ∧ its.size ≤ sizeLine ∧
    ∀ s₂ : Shared, (∃ h, s₂ = { s₁ with heap := h }) → CompRest prog w A h₀ L m env elt x scope cl s₂ (fun nw => (ax, tupO its k) ∈ nw) (fun i v => its[i]? = some v) (Fin s₂) its.size 0 [] news
section
variable {prog : Program} {w : World} {A : Around} {E : Value → Shared → Prop} {s : Shared} {h₀ : Heap} {L : Addr} {m : Str → Option Value} {env : Env}
theorem tup_st {ax I : Addr} {its : Array Value} {k : Nat} : ∀ i (h h' : Heap) (o : Obj) (nw : List (Addr × Obj)), (h.IsTupleIter I ax i ∧ h.IsTuple ax its) → h.get? I = some o → h'.get? I = some o → (∀ b o, h₀.get? b = some o → h'.get? b = some o) → News h₀ L h' nw → (ax, tupO its k) ∈ nw → (h'.IsTupleIter I ax i ∧ h'.IsTuple ax its) :=
  fun i h h' o nw st e e' _ N S => ⟨by obtain ⟨o', q, r⟩ := st.1; rw [e] at q; cases q; exact ⟨o, e', r⟩, ⟨_, (N _ S).1, rfl, _, rfl⟩⟩
theorem Assign_Tup {elt iter : Expr} {x y : Str} {px py : Pos} {scope : Scope} {cl : List (Str × Addr)} {pos spos : Pos} {Q : Flow → Shared → Prop} (_F₀ : Fr h₀ L s.heap m)
    (hLe : env.locals = L) (hsw : swapsWith (.ListComp elt [⟨.Name x px, iter, [], 0⟩] scope pos) (some (.Name y py)) spos.line env = pure true)
    (hclos : closureFor scope env = pure cl) (hcell : ∀ z ∈ scope.names, z.2 ≠ .cell) (hkind : scope.kind = .function)
    (hnames : ∀ z ∈ scope.names, z.2 = .local → scope.names.lookup z.1 = some .local) (hx : scope.names.lookup x = some .local)
    (hy : env.kindOf y = some .local) (hp : (env.scope.kind == .class || (env.scope.kind == .module && env.locals != env.globals)) = false)
    (h : wpAny (model prog w) A (eval iter env) (SrcTup prog w A h₀ L m env elt x scope cl (fun s₂ => FinA h₀ L m s₂ y Q)) E s)
    (hs : ∀ x, foldedSetIterable iter env x = pure x := by intro _; rfl) :
    wpAny (model prog w) A (exec (.Assign [.Name y py] (.ListComp elt [⟨.Name x px, iter, [], 0⟩] scope pos) spos) env) Q E s := by
  subst hLe
  rw [exec_Assign_Name_used _ _ _ _ hsw]
  refine wpAny_bind (wpAny_standAt (wpAny_bind ?_))
  show wpAny _ A (do let _ ← comprehension (.ListComp elt [⟨.Name x px, iter, [], 0⟩] scope pos) scope env _ (newList []) false (eval iter env) (some (assign (.Name y py) env))) _ _ s
  refine wpAny_bind (wpAny_mono (wpAny_comprehension_free (use := some (assign (.Name y py) env)) (Q := fun _ s' => Q .next s') rfl hs hclos hkind hnames
    (wpAny_mono h (fun xv s₁ h₁ => ?_) fun _ _ e => e)) (fun _ s' hq => wpAny_pure (wpAny_pure hq)) fun _ _ e => e)
  obtain ⟨ax, its, k, news, rfl, hh, F, N, S, hsz, R⟩ := h₁
  have hl : s₁.heap.IsTuple ax its := ⟨_, (N _ S).1, rfl, _, rfl⟩
  have hlt : ax < s₁.heap.objs.size := Heap.lt_size (N _ S).1
  refine wpAny_pyIter_tuple hl ?_
  have up : ∀ b o, s₁.heap.get? b = some o → (s₁.heap.push { cls := .type "tuple_iterator", data := .fields #[.ref ax, .int 0 0] }).get? b = some o := fun b o e => Heap.get?_push_of_some _ e
  refine block_U (Walks.tuple hh s₁.heap.objs.size ax (Nat.ne_of_lt hlt) its) hsz (fun i h st => by obtain ⟨o, e, _⟩ := st.1; exact ⟨o, e⟩) tup_st hcell hkind hx ⟨⟨_, Heap.get?_push_size _ rfl, rfl, rfl⟩, hl.at fun o e => Heap.get?_push_of_some _ e⟩ (fun b hb => ?_)
    (F.keeps up) (N.grown up) (Nat.ne_of_lt F.ns.lt) (next_is_new F) (fun p hp => Nat.ne_of_lt (Heap.lt_size (N p hp).1)) S (R _ ⟨_, rfl⟩) ?_
  · show b < (s₁.heap.push _).objs.size
    rw [Heap.size_push]
    rcases List.mem_cons.mp hb with rfl | hb
    · exact Nat.lt_succ_self _
    · rw [List.mem_singleton.mp hb]; exact Nat.lt_succ_of_lt hlt
  · intro D C h' tk m' ys news' F' N' o1 hn hC₀ hD₀ hCL hDL hCD offC fin
    show wpAny _ A (assign (.Name y py) env (.ref D)) _ _ _
    refine wpAny_assign_Name (wpAny_storeName_local hy F'.ns (fun h₂ hn₂ hs₂ => ?_) hp)
    have hL₀ : h₀.get? env.locals = none := Heap.get?_none_of_le F'.above
    have F₂ : Fr h₀ env.locals h₂ (fun z => if z = y then some (.ref D) else m z) := ⟨hn₂, fun b o e => hs₂.extBut b o (fun q => by rw [q, hL₀] at e; cases e) (F'.keep b o e), F'.above⟩
    refine ⟨m', hn.sameBut hs₂ hCL, fun h'' hs'' => fin D h'' _ (F₂.change hs'' hCL hC₀) (fun p hp => ?_) o1⟩
    have z : h₂.get? p.1 = some p.2 := hs₂.extBut _ _ (N' p hp).2.1 (N' p hp).1
    refine ⟨hs''.extBut _ _ ?_ z, (N' p hp).2⟩
    rcases List.mem_cons.mp hp with rfl | hp
    · exact Ne.symm hCD
    · exact offC p hp
end
end
section
open PySem PySem.W PyProof.Rows PySem.Spec PySem.Calls
set_option Elab.async false
set_option maxRecDepth 100000
set_option maxHeartbeats 1000000
theorem start_Cm3 : True := by w_top off; trivial
open LCg
section
variable {prog : Program} {w : World} {A : Around} {R : Result → Shared → Prop} {s : Shared}
theorem compTurn_set (elt target iter : Expr) (scope : Scope) (pos : Pos) (it acc : Value) (env : Env) :
    compTurn (.SetComp elt [⟨target, iter, [], 0⟩] scope pos) 0 it acc env = (standAt iter.pos >>= fun _ => pyNext it >>= fun r => match r with
      | none => pure (.done .next)
      | some v => letOwnedTupleGo target it v >>= fun _ => assign target env v >>= fun _ =>
        (eval elt env >>= fun x => standAt elt.pos >>= fun _ => call (.builtin "set.add") [acc, x] >>= fun _ => pure ()) >>= fun _ =>
          again (.compLoop (.SetComp elt [⟨target, iter, [], 0⟩] scope pos) 0 it acc env)) := by rfl
theorem codeAny_compLoop_set {elt target iter : Expr} {scope : Scope} {pos : Pos} {it acc : Value} {env : Env} (I : Nat → Shared → Prop)
    (turn : ∀ n s, I n s → wpAny (model prog w) A (pyNext it) (fun r s₁ => match r with
      | none => R (.ok .next) s₁
      | some v => wpAny (model prog w) A (assign target env v) (fun _ s₂ => wpAny (model prog w) A (eval elt env) (fun x s₃ =>
          wpAny (model prog w) A (call (.builtin "set.add") [acc, x]) (fun _ s₄ => ∃ m, m < n ∧ I m s₄) (fun _ _ => False) s₃) (fun _ _ => False) s₂) (fun _ _ => False) s₁) (fun _ _ => False) s)
    (n : Nat) (h : I n s) (ht : ∀ v, letOwnedTupleGo target it v = pure () := by intro _; rfl) :
    codeAny (model prog w) A (.compLoop (.SetComp elt [⟨target, iter, [], 0⟩] scope pos) 0 it acc env) R s := by
  refine codeAny_loop rfl I (fun n s hI => ?_) n h
  show wpAny _ A ((compTurn (.SetComp elt [⟨target, iter, [], 0⟩] scope pos) 0 it acc env).onRaise (fun x => do noteFrame x env; theTreesLotGoes x)) _ _ s
  refine wpAny_noted ?_
  rw [compTurn_set]
  refine wpAny_bind (wpAny_standAt (wpAny_bind (wpAny_mono (turn n s hI) (fun r s₁ h₁ => ?_) fun _ _ h' => h'.elim)))
  cases r with
  | none => exact wpAny_pure h₁
  | some v =>
    refine wpAny_bind (wpAny_of_eq (ht v) ?_)
    refine wpAny_bind (wpAny_mono h₁ (fun _ s₂ h₂ => ?_) fun _ _ h' => h'.elim)
    exact wpAny_bind (wpAny_bind (wpAny_mono h₂ (fun x s₄ h₄ => wpAny_bind (wpAny_standAt (wpAny_bind (wpAny_mono h₄ (fun _ s₅ h₅ => wpAny_pure (wpAny_pure ⟨rfl, h₅⟩)) fun _ _ h' => h'.elim)))) fun _ _ h' => h'.elim))
theorem codeAny_compStart_set {elt target iter scope pos it acc env}
    (h0 : codeAny (model prog w) A (.compLoop (.SetComp elt [⟨target, iter, [], 0⟩] scope pos) 0 it acc env) R s)
    (h : wpAny (model prog w) A (pyIter it) (fun it' s' => codeAny (model prog w) A (.compLoop (.SetComp elt [⟨target, iter, [], 0⟩] scope pos) 0 it' acc env) R s')
      (notedBy (model prog w) A env fun x s' => R (.error x) s') s) :
    codeAny (model prog w) A (.compStart (.SetComp elt [⟨target, iter, [], 0⟩] scope pos) 0 it acc env) R s := by
  refine codeAny_of_tree ?_
  show wpAny _ _ ((compStart (.SetComp elt [⟨target, iter, [], 0⟩] scope pos) 0 it acc env).onRaise (fun x => do noteFrame x env; standAt theWindowsPlace)) _ _ s
  refine wpAny_notedAt ?_
  unfold compStart
  show wpAny _ _ (ask >>= _) _ _ s
  refine wpAny_bind (wpAny_askSetting (wpAny_ite ?_))
  split
  · first
      | exact wpAny_bind (wpAny_pure (wpAny_pure (And.intro rfl h0)))
      | exact wpAny_pure (And.intro rfl h0)
  · first
      | exact wpAny_bind (wpAny_rule (wpAny_bind (wpAny_standAt (wpAny_bind (wpAny_mono h (fun it' s' h' => wpAny_pure (And.intro rfl h')) fun _ _ x => x)))))
      | (refine wpAny_bind (wpAny_rule ?_); show wpAny _ _ (standAt iter.pos >>= _) _ _ s; exact wpAny_bind (wpAny_standAt (wpAny_bind (wpAny_mono h (fun it' s' h' => wpAny_pure (And.intro rfl h')) fun _ _ x => x))))
end
def setAt (w : World) (i : Nat) : Obj := if i = 0 then setD0 (ledS w) else setD1 (ledS w)
section
variable {prog : Program} {w : World} {A : Around} {E : Value → Shared → Prop} {s : Shared} {h₀ : Heap} {L : Addr} {m : Str → Option Value} {env : Env}
def SrcSet (prog : Program) (w : World) (A : Around) (h₀ : Heap) (L : Addr) (m : Str → Option Value) (env : Env) (elt : Expr) (x : Str) (scope : Scope) (cl : List (Str × Addr)) (Q : Value → Shared → Prop) (xv : Value) (s₁ : Shared) : Prop :=
  ∃ (ax : Addr) (its : Array Value) (k : Nat) (news : List (Addr × Obj)), xv = .ref ax ∧ A.handled = none ∧ Fr h₀ L s₁.heap m ∧ News h₀ L s₁.heap news ∧ (ax, tupO its k) ∈ news ∧ 0 < its.size ∧
    (∀ (i : Nat) v I oI C oC D oD m₂ h tk, its[i]? = some v → NsObj oC m₂ → m₂ x = some v → Fr h₀ L h m → News h₀ L h ((I, oI) :: (C, oC) :: (D, oD) :: news) →
      wpAny (model prog w) A (eval elt (compEnvC scope cl C env)) (CEnd h₀ L m { s₁ with heap := h, toks := tk } ((I, oI) :: (C, oC) :: (D, oD) :: news) (fun y => y = .bool true)) (fun _ _ => False) { s₁ with heap := h, toks := tk }) ∧
    (∀ D h tk, Fr h₀ L h m → News h₀ L h ((D, setD1 (ledS w)) :: news) → Q (.ref D) { s₁ with heap := h, toks := tk })
theorem SetComp_tup {elt iter : Expr} {x : Str} {px : Pos} {scope : Scope} {cl : List (Str × Addr)} {pos : Pos} {Q : Value → Shared → Prop} (_F₀ : Fr h₀ L s.heap m)
    (hclos : closureFor scope env = pure cl) (hcell : ∀ y ∈ scope.names, y.2 ≠ .cell) (hkind : scope.kind = .function)
    (hnames : ∀ y ∈ scope.names, y.2 = .local → scope.names.lookup y.1 = some .local) (hx : scope.names.lookup x = some .local)
    (h : wpAny (model prog w) A (eval iter env) (SrcSet prog w A h₀ L m env elt x scope cl Q) E s)
    (hs : ∀ x, foldedSetIterable iter env x = pure x := by intro _; rfl) :
    wpAny (model prog w) A (eval (.SetComp elt [⟨.Name x px, iter, [], 0⟩] scope pos) env) Q E s := by
  rw [arm_eval_SetComp]
  refine wpAny_comprehension_free (use := none) rfl hs hclos hkind hnames (wpAny_mono h (fun xv s₁ h₁ => ?_) fun _ _ e => e)
  obtain ⟨ax, its, k, news, rfl, hh, F, N, S, hpos, elem, fin⟩ := h₁
  have hl : s₁.heap.IsTuple ax its := ⟨_, (N _ S).1, rfl, _, rfl⟩
  have hlt : @LT.lt Nat _ ax s₁.heap.objs.size := Heap.lt_size (N _ S).1
  refine wpAny_pyIter_tuple hl ?_
  unfold newSet setsByText
  refine wpAny_bind (wpAny_bind (wpAny_askSetting (wpAny_pure ?_)))
  dsimp only
  refine wpAny_newObj_type (wpAny_newFunctionEnv hcell (by intro y hy; simp at hy) (fun h₁ hns₁ hsb₁ => ?_) hkind) (by first | trivial | exact Nat.zero_le _)
  dsimp only at hns₁ hsb₁ ⊢
  generalize hH1 : s₁.heap.push { cls := .type "tuple_iterator", data := .fields #[.ref ax, .int 0 0] } = H1 at hns₁ hsb₁ ⊢
  generalize hH2 : H1.push { cls := .type "set", data := .set #[] 0 (SetTable.fresh 0 0 !(model prog w).w.params.followText "set-order") } = H2 at hns₁ hsb₁ ⊢
  have z1 : H1.objs.size = s₁.heap.objs.size + 1 := by rw [← hH1, Heap.size_push]
  have z2 : H2.objs.size = s₁.heap.objs.size + 2 := by rw [← hH2, Heap.size_push, z1]
  have hL₀ : @LT.lt Nat _ L s₁.heap.objs.size := F.ns.lt
  generalize hI : s₁.heap.objs.size = I at *
  generalize hD : H1.objs.size = D at *
  generalize hC : H2.objs.size = C at *
  have hID : I ≠ D := by omega
  have hIC : I ≠ C := by omega
  have hDC : D ≠ C := by omega
  have old1 : ∀ b o, s₁.heap.get? b = some o → H1.get? b = some o := fun b o e => hH1 ▸ Heap.get?_push_of_some _ e
  have old2 : ∀ b o, H1.get? b = some o → H2.get? b = some o := fun b o e => hH2 ▸ Heap.get?_push_of_some _ e
  have old3 : ∀ b o, b ≠ C → H2.get? b = some o → h₁.get? b = some o := fun b o hb e => hsb₁.extBut b o hb (Heap.get?_push_of_some _ e)
  have lt1 : ∀ b o, s₁.heap.get? b = some o → @LT.lt Nat _ b I := fun b o e => hI ▸ Heap.lt_size e
  have old : ∀ b o, s₁.heap.get? b = some o → h₁.get? b = some o := fun b o e => old3 b o (Nat.ne_of_lt (by have := lt1 b o e; omega)) (old2 b o (old1 b o e))
  have gI : h₁.get? I = some { cls := .type "tuple_iterator", data := .fields #[.ref ax, .int 0 0] } := old3 _ _ hIC (old2 _ _ (by rw [← hH1, ← hI]; exact Heap.get?_push_size _ rfl))
  have gD : h₁.get? D = some (setAt w 0) := old3 _ _ hDC (by rw [← hH2, ← hD]; exact Heap.get?_push_size _ rfl)
  have none₀ : ∀ b, @LE.le Nat _ I b → h₀.get? b = none := fun b hb => by
    cases q : h₀.get? b with
    | none => rfl
    | some o => have := lt1 _ _ (F.keep _ _ q); omega
  have hIL : L ≠ I := Nat.ne_of_lt hL₀
  have hLD : D ≠ L := Nat.ne_of_gt (by omega)
  have hLC : C ≠ L := Nat.ne_of_gt (by omega)
  have hI₀ := none₀ I (Nat.le_refl _)
  have hD₀ := none₀ D (by omega)
  have hC₀ := none₀ C (by omega)
  have hnlt : ∀ p ∈ news, @LT.lt Nat _ p.1 I := fun p hp => lt1 _ _ (N p hp).1
  have hst₁ : h₁.IsTupleIter I ax 0 ∧ h₁.IsTuple ax its := ⟨⟨_, gI, rfl, rfl⟩, hl.at fun o e => old _ o e⟩
  have W := Walks.tuple (prog := prog) (w := w) hh I ax (Nat.ne_of_lt hlt) its
  have loop : ∀ s₃ : Shared, s₃ = { s₁ with heap := h₁, toks := s₁.toks + ([] : List (Str × Value)).length } →
      codeAny (model prog w) A (.compLoop (.SetComp elt [⟨.Name x px, iter, [], 0⟩] scope pos) 0 (.ref I) (.ref D) (compEnvC scope cl C env))
        (compPost (model prog w) A E none Q (.ref D) C) s₃ := by
    rintro s₃ rfl
    refine codeAny_compLoop_set (fun kk s' => ∃ h' tk i m', s' = { s₁ with heap := h', toks := tk } ∧ i ≤ its.size ∧ kk = its.size + 1 - i ∧ (h'.IsTupleIter I ax i ∧ h'.IsTuple ax its) ∧ Fr h₀ L h' m ∧ h'.Ns C m' ∧ News h₀ L h' news ∧ h'.get? D = some (setAt w i)) ?_ (its.size + 1)
      ⟨h₁, _, 0, _, rfl, Nat.zero_le _, rfl, hst₁, F.keeps old, hns₁, fun p hp => ⟨old _ _ (N p hp).1, (N p hp).2⟩, gD⟩
    rintro kk s' ⟨h', tk, i, m', rfl, hi, rfl, hst', F', hn', N', hD'⟩
    by_cases hlt9 : i < its.size
    · refine W.item i _ _ _ hlt9 hst' fun v h₂ tk₂ hPv hst₂ hk₂ => ?_
      refine wpAny_assign_Name (wpAny_storeName_local (lookup_relabel_local hx) (hn'.at' fun o e => hk₂ _ o (by simpa using Ne.symm hIC) e) (fun h₃ hn₃ hs₃ => ?_) (by simp [compEnvC, relabel, hkind]))
      have hst₃ : h₃.IsTupleIter I ax (i + 1) ∧ h₃.IsTuple ax its := W.frame _ _ _ hst₂ fun b hb o e => hs₃.extBut b o (fun q => by
        have q' : @Eq Nat b C := q
        simp at hb
        rcases hb with rfl | rfl <;> omega) e
      obtain ⟨oI, heI, hoI⟩ := id hst₃.1
      obtain ⟨oC, heC, hoC⟩ := ns_obj hn₃
      have F₃ : Fr h₀ L h₃ m := (fr_but F' hk₂ hIL hI₀).change hs₃ hLC hC₀
      have N₂ : News h₀ L h₂ news := news_but N' hk₂ fun p hp => Nat.ne_of_lt (hnlt p hp)
      have hD₂ : h₂.get? D = some (setAt w i) := hk₂ _ _ (by simpa using Ne.symm hID) hD'
      have N₃ : News h₀ L h₃ ((I, oI) :: (C, oC) :: (D, setAt w i) :: news) := fun p hp => by
        rcases List.mem_cons.mp hp with rfl | hp
        · exact ⟨heI, Ne.symm hIL, hI₀⟩
        · rcases List.mem_cons.mp hp with rfl | hp
          · exact ⟨heC, hLC, hC₀⟩
          · rcases List.mem_cons.mp hp with rfl | hp
            · exact ⟨hs₃.extBut _ _ hDC hD₂, hLD, hD₀⟩
            · exact ⟨hs₃.extBut _ _ (fun q => by have := hnlt p hp; have q' : @Eq Nat p.1 C := q; omega) (N₂ p hp).1, (N₂ p hp).2⟩
      refine wpAny_mono (elem i v I oI C oC D _ _ h₃ _ hPv hoC (by simp) F₃ N₃) (fun y s₄ q => ?_) fun _ _ e => e
      obtain ⟨h₄, tk₄, rfl, F₄, N₄, rfl⟩ := q
      have zD := (N₄ (D, setAt w i) (.tail _ (.tail _ (.head _)))).1
      have zC := (N₄ (C, oC) (.tail _ (.head _))).1
      have zI := (N₄ (I, oI) (.head _)).1
      have N₄' : News h₀ L h₄ news := fun p hp => N₄ p (.tail _ (.tail _ (.tail _ hp)))
      have hst₄ : h₄.IsTupleIter I ax (i + 1) ∧ h₄.IsTuple ax its := tup_st (h₀ := h₀) (L := L) _ _ _ _ _ hst₃ heI zI F₄.keep N₄' S
      cases i with
      | zero =>
        refine set_add0 (led := ledS w) zD fun h₅ tk₅ hs₅ hD₅ => ?_
        refine ⟨its.size + 1 - 1, by omega, h₅, tk₅, 1, _, rfl, hlt9, rfl, W.frame _ _ _ hst₄ fun b hb o e => hs₅.extBut b o (fun q => by
          have q' : @Eq Nat b D := q
          simp at hb
          rcases hb with rfl | rfl <;> omega) e, F₄.change hs₅ hLD hD₀, (hoC.ns zC).sameBut hs₅ (Ne.symm hDC), fun p hp => ⟨hs₅.extBut _ _ (fun q => by have := hnlt p hp; have q' : @Eq Nat p.1 D := q; omega) (N₄' p hp).1, (N₄' p hp).2⟩, hD₅⟩
      | succ i =>
        refine set_add1 (led := ledS w) zD fun tk₅ => ?_
        exact ⟨its.size + 1 - (i + 1 + 1), by omega, h₄, tk₅, i + 1 + 1, _, rfl, hlt9, rfl, hst₄, F₄, hoC.ns zC, N₄', zD⟩
    · obtain rfl : i = its.size := Nat.le_antisymm hi (Nat.not_lt.mp hlt9)
      refine W.done _ _ _ hst' fun h₂ tk₂ hk₂ => ?_
      refine ⟨m', hn'.at' fun o e => hk₂ _ o (by simpa using Ne.symm hIC) e, fun h'' hs'' => fin D h'' tk₂ ((fr_but F' hk₂ hIL hI₀).change hs'' hLC hC₀) fun p hp => ?_⟩
      have N₂ : News h₀ L h₂ news := news_but N' hk₂ fun p hp => Nat.ne_of_lt (hnlt p hp)
      have hD₂ : h₂.get? D = some (setAt w its.size) := hk₂ _ _ (by simpa using Ne.symm hID) hD'
      rw [setAt, if_neg (Nat.ne_of_gt hpos)] at hD₂
      rcases List.mem_cons.mp hp with rfl | hp
      · exact ⟨hs''.extBut _ _ hDC hD₂, hLD, hD₀⟩
      · exact ⟨hs''.extBut _ _ (fun q => by have := hnlt p hp; have q' : @Eq Nat p.1 C := q; omega) (N₂ p hp).1, (N₂ p hp).2⟩
  exact codeAny_compStart_set (loop _ rfl) (W.self 0 _ _ _ hst₁ (loop _ rfl))
end
end
section
open PySem PySem.W PyProof.Rows PySem.Spec PySem.Calls
set_option Elab.async false
set_option maxRecDepth 100000
set_option maxHeartbeats 4000000
theorem start_Sr : True := by w_top off; trivial
section
variable {w : World} {A : Around} {s : Shared} {mean : ExcName → Option Value} {mg mb : Str → Option Value} {Q E : Value → Shared → Prop}
theorem c_splitroot {x : Str} {tx : Tok} (X : (hd.heap_1 w.params).In s.heap) (T : Tp mean mg mb s.heap) (hdep : A.depth + 2 < recursionLimit) (hun : A.units + 16 < cLine) (hh : A.handled = none) (hx : x.length ≤ 1000)
    (h1 : Txt.slice x none (some 1) = Str.ofString "/") (h2 : Txt.slice x (some 1) (some 2) ≠ Str.ofString "/")
    (h : ∀ a t1 t2 t3 h' tk', Ext s.heap h' → s.heap.get? a = none → h'.get? a = some { cls := .type "tuple", data := .seq [Value.str (Str.ofString "") t1, Value.str (Str.ofString "/") t2, Value.str (Txt.slice x (some 1) none) t3].toArray } → Q (.ref a) { s with heap := h', toks := tk' }) : wpAny (model P0 w) A (call (.ref 129) [.str x tx]) Q E s := by
  refine' enter (binds := [(Str.ofString "p", .str x tx)]) ?x1 ?x2 ?x3 ?x4 ?x5 ?x6 ?x7 ?x8 ?x9 ?x10 ?x11 ?_
  walk_at "mine entered"
  have e1 : (Txt.slice x none (some 1) != Str.ofString "/") = false := by rw [h1]; decide
  have e2 : (Txt.slice x (some 1) (some 2) != Str.ofString "/") = true := bne_iff_ne.mpr h2
  k_steps
  exact h _ _ _ _ _ _ (Fr.keep (by k_asm)) (News.fresh (by k_asm) (.head _)) (News.get (by k_asm) (.head _))
end
end
section
open PySem PySem.W PyProof.Rows PySem.Spec PySem.Calls
set_option Elab.async false
set_option maxRecDepth 100000
set_option maxHeartbeats 4000000
theorem start_Np : True := by w_top off; trivial
end
theorem reg_26 : True := by
  k_with "mine new" => ((with_reducible rename Ext _ _ => kE); (with_reducible rename Heap.get? _ _ = none => kA); (with_reducible rename Heap.get? _ _ = some _ => kO); (have N' := news_new (by k_asm) (by k_asm) kE kA kO); (have l1 := news_ne (by k_asm) kA); (have F' := fr_ext (by k_asm) kE); (try simp only [List.forall_mem_cons, List.forall_mem_nil, and_true] at l1); clear kE kA kO; (try k_sweep))
  trivial
section
open PySem PySem.W PyProof.Rows PySem.Spec PySem.Calls
set_option Elab.async false
set_option maxRecDepth 100000
set_option maxHeartbeats 4000000
end
theorem reg_27 : True := by
  k_with "mine 27" => (k_here; (with_reducible show wpAny _ _ (call (Value.ref 129) _) _ _ _); k_dflt (refine' c_splitroot ?x1 ?x2 ?x3 ?x4 ?x5 ?x6 ?x7 ?x8 ?_; walk_at "mine side"; (case x6 => omega); (case x7 => assumption); (case x8 => assumption); k_whole; intro a' t1' t2' t3' h' tk' kE kA kO; walk_at "mine new"))
  trivial
local macro_rules | `(tactic| walk_at "call ref") => `(tactic| walk_at "mine 27")
section
open PySem PySem.W PyProof.Rows PySem.Spec PySem.Calls
set_option Elab.async false
set_option maxRecDepth 100000
set_option maxHeartbeats 4000000
def nstep (acc : List Str) (c : Str) : List Str := if c.length = 0 ∨ c = Str.ofString "." then acc else if c ≠ Str.ofString ".." ∨ acc.getLast? = some (Str.ofString "..") then acc ++ [c] else acc.dropLast
theorem nstep_len (cs : List Str) : ∀ acc : List Str, (cs.foldl nstep acc).length ≤ acc.length + cs.length := by
  induction cs with
  | nil => intro acc; simp
  | cons c r ih =>
    intro acc
    have := ih (nstep acc c)
    have h2 : (nstep acc c).length ≤ acc.length + 1 := by
      unfold nstep
      split
      · omega
      · split
        · simp
        · simp; omega
    rw [List.foldl_cons, List.length_cons]; omega
theorem nstep_mem (cs : List Str) : ∀ acc : List Str, ∀ b ∈ cs.foldl nstep acc, b ∈ acc ∨ b ∈ cs := by
  induction cs with
  | nil => intro acc b hb; exact .inl hb
  | cons c r ih =>
    intro acc b hb
    rcases ih (nstep acc c) b hb with h | h
    · unfold nstep at h
      split at h
      · exact .inl h
      · split at h
        · rcases List.mem_append.mp h with h | h
          · exact .inl h
          · rw [List.mem_singleton.mp h]; exact .inr (.head _)
        · exact .inl (List.dropLast_subset _ h)
    · exact .inr (.tail _ h)
theorem strs_snoc {vs : List Value} {bs : List Str} {b : Str} {t : Tok} (hs : StrsAre vs bs) : StrsAre (vs ++ [.str b t]) (bs ++ [b]) := by
  induction hs with
  | nil => exact .cons _ _ .nil
  | cons y t _ ih => exact .cons _ _ ih
theorem strs_last {vs : List Value} {bs : List Str} (hs : StrsAre vs bs) : (vs = [] ∧ bs = []) ∨ ∃ vs' bs' b t, vs = vs' ++ [.str b t] ∧ bs = bs' ++ [b] ∧ StrsAre vs' bs' := by
  induction hs with
  | nil => exact .inl ⟨rfl, rfl⟩
  | cons y t h ih =>
    right
    rcases ih with ⟨rfl, rfl⟩ | ⟨vs', bs', b, t', rfl, rfl, h'⟩
    · exact ⟨[], [], y, t, rfl, rfl, .nil⟩
    · exact ⟨_ :: vs', y :: bs', b, t', rfl, rfl, .cons _ _ h'⟩
def normF (x : Str) : Str := Str.ofString "/" ++ Txt.join (Str.ofString "/") ((Txt.split (Txt.slice x (some 1) none) (Str.ofString "/")).foldl nstep [])
def npJ (cs : List Str) (m₀ : Str → Option Value) (n₀ : List (Addr × Obj)) (i : Nat) (m₁ : Str → Option Value) (n₁ : List (Addr × Obj)) : Prop :=
  (∀ y, y ≠ Str.ofString "comp" → m₁ y = m₀ y) ∧ (∃ l' o rest vs' k, n₀ = (l', o) :: rest ∧ n₁ = (l', W.listOf vs'.toArray k) :: rest ∧ StrsAre vs' ((cs.take i).foldl nstep []))
theorem np_turn {cs : List Str} {m₀ : Str → Option Value} {l' : Addr} {o : Obj} {p1 p2 : Addr × Obj} {i : Nat} {h₀ h' : Heap} {L : Addr} {own : List (Addr × Obj)} {s₁ : Shared} {m' : Str → Option Value} {vs' : List Value} {k tk : Nat}
    (F : Fr h₀ L h' m') (N : News h₀ L h' ((l', W.listOf vs'.toArray k) :: p1 :: p2 :: own)) (hm : ∀ y, y ≠ Str.ofString "comp" → m' y = m₀ y) (hs : StrsAre vs' ((cs.take (i + 1)).foldl nstep [])) (h1 : p1.2.cls ≠ .type "list_iterator") (h2 : p2.2.cls ≠ .type "list_iterator") :
    TurnOk h₀ L "list_iterator" (npJ cs m₀ [(l', o), p1, p2] (i + 1)) own s₁ { s₁ with heap := h', toks := tk } :=
  turn_ok [(l', W.listOf vs'.toArray k), p1, p2] F N (fun p hp => .tail _ (.tail _ (.tail _ hp))) (by simp) (by simp [h1, h2]) ⟨hm, _, _, _, _, _, rfl, rfl, hs⟩
section
variable {w : World} {A : Around} {s : Shared} {mean : ExcName → Option Value} {mg mb : Str → Option Value} {Q E : Value → Shared → Prop}
theorem c_normpath {x : Str} {tx : Tok} (X : (hd.heap_1 w.params).In s.heap) (T : Tp mean mg mb s.heap) (hdep : A.depth + 3 < recursionLimit) (hun : A.units + 24 < cLine) (hh : A.handled = none) (hx : x.length ≤ 1000)
    (h1 : Txt.slice x none (some 1) = Str.ofString "/") (h2 : Txt.slice x (some 1) (some 2) ≠ Str.ofString "/")
    (h : ∀ t h' tk', Ext s.heap h' → Q (.str (normF x) t) { s with heap := h', toks := tk' }) : wpAny (model P0 w) A (call (.ref 143) [.str x tx]) Q E s := by
  obtain ⟨hd0, dp, fr, gd, un⟩ := A
  dsimp only at hh hdep hun
  subst hh
  refine' enter (binds := [(Str.ofString "path", .str x tx)]) ?x1 ?x2 ?x3 ?x4 ?x5 ?x6 ?x7 ?x8 ?x9 ?x10 ?x11 ?_
  walk_at "mine entered"
  have e1 : (x.length : Int) ≠ 0 := by
    intro e
    have : Txt.slice x none (some 1) = Str.ofString "/" := h1
    have q := Txt.slice_le x none (some 1)
    rw [this] at q
    have : (Str.ofString "/").length = 1 := by decide
    omega
  k_steps
  try (rotate_left; exfalso; omega)
  with_reducible rename StrsAre _ _ => hS
  with_reducible rename (List.map _ _ = Txt.split _ _) => hSp
  rename (∀ (a : Str), a ∈ List.map _ _ → Str.length a ≤ Str.length _) => hLen
  have hSl : (Txt.split (Txt.slice x (some 1) none) (Str.ofString "/")).length ≤ 1002 := by
    have := split_le (Txt.slice x (some 1) none) (Str.ofString "/")
    have := Txt.slice_le x (some 1) none
    omega
  refine' iter_listM (npJ (Txt.split (Txt.slice x (some 1) none) (Str.ofString "/"))) ?x1 ?x2 ?x3 ?x4 ?x5 ?x6 ?x7 ?x8
  (case x1 => exact rfl)
  (case x2 => exact ⟨_, News.get (by k_asm) (.tail _ (.head _)), rfl, _, rfl⟩)
  (case x3 => exact ne_frame (by k_asm) (.tail _ (.head _)))
  (case x4 => k_asm)
  (case x5 => k_asm)
  (case x6 => exact ⟨fun _ _ => rfl, _, _, _, [], _, rfl, rfl, .nil⟩)
  (case x7 =>
    rintro i v m₁ n₁ h9 tk9 own hv ⟨hm2, l9, o9, rest9, vs', k, hn1, rfl, hS'⟩ hown hnw F9 N9
    obtain ⟨hl9, hr9⟩ := List.cons.inj hn1
    subst hr9
    obtain ⟨rfl, -⟩ := Prod.mk.inj hl9
    obtain ⟨c, tc, rfl, hci⟩ := strs_get hS hv
    have hcl := hLen c (List.mem_of_getElem? hci)
    obtain ⟨u, rfl⟩ := map1 (Str.ofString "comp") hm2
    simp only [List.cons_append, List.nil_append] at N9
    have hO : ∀ p ∈ own, p.1 ≠ _ := fun p hp e => by
      have h5 := hnw _ (.head _)
      rcases hown p hp with e' | e'
      · exact h5 (e.symm.trans e')
      · have h6 : @LT.lt Nat _ _ _ := (by assumption : _ < _ ∧ _ < _).1
        exact absurd (e.symm.trans e') (Nat.ne_of_gt h6)
    have hvl : vs'.length ≤ 2000 := by
      have q1 := strs_len hS'
      have q2 := nstep_len ((Txt.split (Txt.slice x (some 1) none) (Str.ofString "/")).take i) []
      have q3 : (List.take i (Txt.split (Txt.slice x (some 1) none) (Str.ofString "/"))).length ≤ (Txt.split (Txt.slice x (some 1) none) (Str.ofString "/")).length := List.length_take_le' _ _
      have q4 : (Txt.split (Txt.slice x (some 1) none) (Str.ofString "/")).length ≤ 1002 := hSl
      simp only [List.length_nil] at q2; omega
    have e9 := take_fold nstep [] (Txt.split (Txt.slice x (some 1) none) (Str.ofString "/")) i c (hSp ▸ hci)
    clear hm2 hn1 hl9 hLen hown hnw
    rcases strs_last hS' with ⟨rfl, hb0⟩ | ⟨vs2, bs2, b2, t2, rfl, hb0, hS2⟩
    · rw [hb0] at e9
      k_steps
      all_goals refine np_turn (by k_asm) (by k_asm) (fun y h1 => by simp only [if_neg h1]) ?_ (by simp) (by simp)
      · rw [e9, nstep, if_pos (.inr (by simpa using (by assumption : (c == Str.ofString ".") = true)))]; exact .nil
      · rw [e9, nstep, if_neg (by rintro (q | q) <;> first | omega | simp_all), if_pos (.inl (by simpa using (by assumption : (c != Str.ofString "..") = true)))]; exact .cons _ _ .nil
      · rw [e9, nstep, if_neg (by rintro (q | q) <;> first | omega | simp_all), if_neg (by rintro (q | q) <;> simp_all)]; exact .nil
      · rw [e9, nstep, if_pos (.inl (by omega))]; exact .nil
    · rw [hb0] at e9
      k_steps
      all_goals refine np_turn (by k_asm) (by k_asm) (fun y h1 => by simp only [if_neg h1]) ?_ (by simp) (by simp)
      · rw [e9, nstep, if_pos (.inr (by simpa using (by assumption : (c == Str.ofString ".") = true)))]; exact strs_snoc hS2
      · rw [e9, nstep, if_neg (by rintro (q | q) <;> first | omega | simp_all), if_pos (.inl (by simpa using (by assumption : (c != Str.ofString "..") = true)))]; exact strs_snoc (strs_snoc hS2)
      · rw [e9, nstep, if_neg (by rintro (q | q) <;> first | omega | simp_all), if_pos (.inr (by simpa using (by assumption : (b2 == Str.ofString "..") = true)))]; exact strs_snoc (strs_snoc hS2)
      · rw [e9, nstep, if_neg (by rintro (q | q) <;> first | omega | simp_all), if_neg (by rintro (q | q) <;> simp_all), List.dropLast_concat]; exact hS2
      · rw [e9, nstep, if_pos (.inl (by omega))]; exact strs_snoc hS2)
  rintro m₁ n₁ h9 tk9 ⟨hm2, l9, o9, rest9, vs', k, hn1, rfl, hS'⟩ F9 N9
  obtain ⟨hl9, hr9⟩ := List.cons.inj hn1
  subst hr9
  obtain ⟨rfl, -⟩ := Prod.mk.inj hl9
  obtain ⟨u, rfl⟩ := map1 (Str.ofString "comp") hm2
  clear hm2 hn1 hl9
  rw [strs_len hS, hSp, List.take_length] at hS'
  have hA1 : (List.foldl nstep [] (Txt.split (Txt.slice x (some 1) none) (Str.ofString "/"))).length ≤ 3000 := by
    have := nstep_len (Txt.split (Txt.slice x (some 1) none) (Str.ofString "/")) []
    simp only [List.length_nil] at this; omega
  have hA2 : ∀ y ∈ List.foldl nstep [] (Txt.split (Txt.slice x (some 1) none) (Str.ofString "/")), y.length ≤ 1000 := fun y hy => by
    rcases nstep_mem _ _ y hy with h | h
    · cases h
    · have h5 := hLen y (hSp ▸ h)
      have h6 := Txt.slice_le x (some 1) none
      omega
  have hRoom := joinRoom (sep := Str.ofString "/") (by decide) hA1 hA2
  have hJl := joinLen (sep := Str.ofString "/") (by decide) hA1 hA2
  clear hA1 hA2 hLen hSl hS hSp
  dsimp only
  k_steps
  all_goals exact h _ _ _ (Fr.keep (by k_asm))
end
end
section
open PySem PySem.W PyProof.Rows PySem.Spec PySem.Calls
set_option Elab.async false
set_option maxRecDepth 100000
set_option maxHeartbeats 1000000
theorem start_Fo : True := by w_top off; trivial
def climb : Nat → List Str → Str → List Str
  | 0, met, _ => met
  | f + 1, met, p => if p ∈ met then met else climb f (met ++ [p]) (dirnameF p)
theorem climb_in {f : Nat} {met : List Str} {p : Str} (h : p ∈ met) : climb (f + 1) met p = met := if_pos h
theorem climb_out {f : Nat} {met : List Str} {p : Str} (h : p ∉ met) : climb (f + 1) met p = climb f (met ++ [p]) (dirnameF p) := if_neg h
section
local macro_rules | `(tactic| walk_at "exec For Name Name cons nil") => `(tactic| walk_at "mine stop")
variable {w : World} {A : Around} {s : Shared} {mean : ExcName → Option Value} {mg mb : Str → Option Value} {Q E : Value → Shared → Prop}
theorem c_folders {a : Addr} {vs : List Value} {xs : List Str} (hl : s.heap.IsList a vs.toArray) (hi : StrsAre vs xs) (hn : xs.length ≤ 10) (hr : ∀ x ∈ xs, ∀ i, 10 ≤ i → Nat.repeat dirnameF i x = Str.ofString "/") (hL : ∀ x ∈ xs, ∀ i, (Nat.repeat dirnameF i x).length ≤ 1000) (X : (hd.heap_1 w.params).In s.heap) (T : Tp mean mg mb s.heap) (hdep : A.depth + 3 < recursionLimit) (hun : A.units + 30 < cLine) (hh : A.handled = none)
    (h : ∀ t h' tk', Ext s.heap h' → Q (.int (xs.foldl (climb 12) []).length t) { s with heap := h', toks := tk' }) : wpAny (model P0 w) A (call (.ref 191) [.ref a]) Q E s := by
  obtain ⟨hd0, dp, fr, gd, un⟩ := A
  dsimp only at hh hdep hun
  subst hh
  refine' enter (binds := [(Str.ofString "paths", .ref a)]) ?x1 ?x2 ?x3 ?x4 ?x5 ?x6 ?x7 ?x8 ?x9 ?x10 ?x11 ?_
  walk_at "mine entered"
  have hget := fun i v => strs_get hi (i := i) (v := v)
  have hvl0 := strs_len hi
  replace hi := Hold.in hi
  k_steps
  refine Hold.out ?_
  refine For_invV s.heap (by rfl) (by rfl) ?_
  k_steps
  refine Hold.out ?_
  refine' iter_listA (fun m₀ n₀ i m nx => ∃ lm o0 vs' k, n₀ = [(lm, o0)] ∧ nx = [(lm, W.listOf (List.toArray vs') k)] ∧ (∀ y, y ≠ Str.ofString "path" → m y = m₀ y) ∧ StrsAre vs' ((xs.take i).foldl (climb 12) []) ∧ vs'.length ≤ 12 * i) ?x1 ?x2 ?x3 ?x4 ?x5 ?x6 ?x7 ?x8
  (case x1 => exact rfl)
  (case x2 => exact hl.at fun o e => Fr.keep (by k_asm) _ _ e)
  (case x3 => exact list_ne hl (by k_asm))
  (case x4 => k_asm)
  (case x5 => k_asm)
  (case x6 => exact ⟨_, _, [], _, rfl, rfl, fun _ _ => rfl, .nil, Nat.zero_le _⟩)
  (case x7 =>
    rintro i v m₁ n₁ h9 tk9 own hv ⟨lm, o0, vs', k, hn0, rfl, hm, hS, hvl⟩ hown ⟨oI, hoI, hsI⟩ hnw F9 N9
    obtain ⟨e1, -⟩ := List.cons.inj hn0
    obtain ⟨e1, -⟩ := Prod.mk.inj e1
    replace e1 := e1.symm
    subst e1
    obtain ⟨u, rfl⟩ := map1 (Str.ofString "path") hm
    obtain ⟨x, tx, rfl, hxi⟩ := hget _ _ hv
    clear hm hn0
    have hxm := List.mem_of_getElem? hxi
    have hil : i < xs.length := by
      rcases Nat.lt_or_ge i xs.length with q | q
      · exact q
      · rw [List.getElem?_eq_none q] at hxi; cases hxi
    have hO1 := own_ne hown hnw (.head _) hl (fun p hp => N9 p (List.mem_append_left _ hp))
    k_steps
    refine Hold.out ?_
    refine' while_K (fun m₀ n m news => ∃ j t vs2 met k2, m (Str.ofString "path") = some (.str (Nat.repeat dirnameF j x) t) ∧ (∀ y, y ≠ Str.ofString "path" → m y = m₀ y) ∧ news = (lm, W.listOf (List.toArray vs2) k2) :: own ∧ StrsAre vs2 met ∧ vs2.length ≤ 12 * i + j ∧ n = 12 - j ∧ j ≤ 11 ∧
        (∀ q, q < j → Nat.repeat dirnameF q x ∈ met) ∧ climb 12 ((xs.take i).foldl (climb 12) []) x = climb (12 - j) met (Nat.repeat dirnameF j x))
      (fun m₀ m news => ∃ u vs2 k2, m (Str.ofString "path") = u ∧ (∀ y, y ≠ Str.ofString "path" → m y = m₀ y) ∧ news = (lm, W.listOf (List.toArray vs2) k2) :: own ∧ StrsAre vs2 (climb 12 ((xs.take i).foldl (climb 12) []) x) ∧ vs2.length ≤ 12 * i + 12) (n₀ := 12) ?y1 ?y2 ?y3 ?y4 ?y5
    (case y1 => k_asm)
    (case y2 => exact N9)
    (case y3 => exact ⟨0, _, vs', _, k, rfl, fun _ _ => rfl, rfl, hS, by omega, rfl, by omega, fun q hq => absurd hq (Nat.not_lt_zero _), rfl⟩)
    (case y4 =>
      rintro n m₁ n₁ h8 tk8 ⟨j, t, vs2, met, k2, hm1, hm2, rfl, hS2, hv2, rfl, hj, hq, hc⟩ F8 N8
      obtain rfl := known1 (Str.ofString "path") hm1 hm2
      clear hm1 hm2
      have hlen := hL x hxm j
      obtain ⟨f, hf⟩ : ∃ f, 12 - j = f + 1 := ⟨11 - j, by omega⟩
      k_steps
      · have q : Nat.repeat dirnameF j x ∈ met := by
          have q1 : (met.any fun y => y == Nat.repeat dirnameF j x) = true := by assumption
          simpa using q1
        rw [hf] at hc
        replace hc := hc.trans (climb_in q)
        exact wexit _ (by k_asm) (by k_asm) (fun _ hp => hp) ⟨_, vs2, k2, rfl, fun y h1 => by simp only [if_neg h1], rfl, hc ▸ hS2, by omega⟩
      · have q : Nat.repeat dirnameF j x ∉ met := by
          have q1 : (met.any fun y => y == Nat.repeat dirnameF j x) = false := by assumption
          intro q2
          have : (met.any fun y => y == Nat.repeat dirnameF j x) = true := by simpa using q2
          rw [this] at q1; cases q1
        have hj2 : j + 1 ≤ 11 := by
          rcases Nat.lt_or_ge j 11 with h11 | h11
          · omega
          · exfalso
            have r1 := hq 10 (by omega)
            rw [hr x hxm 10 (Nat.le_refl _)] at r1
            rw [hr x hxm j (by omega)] at q
            exact q r1
        rw [hf] at hc
        replace hc := hc.trans (climb_out q)
        refine wturn (12 - (j + 1)) _ (by omega) (by k_asm) (by k_asm) (fun _ hp => hp) ⟨j + 1, _, _, met ++ [Nat.repeat dirnameF j x], _, rfl, fun y h1 => by simp only [if_neg h1], rfl, strsSnoc hS2, by simp; omega, rfl, by omega, fun q hq2 => ?_, ?_⟩
        · rcases Nat.lt_or_ge q j with q3 | q3
          · exact List.mem_append_left _ (hq q q3)
          · rw [show q = j by omega]; exact List.mem_append_right _ (.head _)
        · rw [hc, show 12 - (j + 1) = f by omega]; rfl)
    rintro m₁ n₁ h8 tk8 ⟨u2, vs2, k2, hm1, hm2, rfl, hS2, hv2⟩ F8 N8
    refine wpAny_execs_nil ?_
    show TurnOkA _ _ _ _ _ _ _
    refine turnB [(lm, W.listOf (List.toArray vs2) k2)] F8 N8 (fun p hp => .tail _ hp) (fun p hp => by rw [List.mem_singleton.mp hp]; exact .head _) (fun p hp => by rw [List.mem_singleton.mp hp]; exact hnw (lm, W.listOf vs'.toArray k) (.head _))
      ⟨lm, _, vs2, k2, rfl, rfl, fun y h1 => (hm2 y h1).trans (by simp only [if_neg h1]), ?_, by omega⟩
    rw [take_fold (climb 12) [] xs i x hxi]; exact hS2)
  rintro m₁ n₁ h9 tk9 ⟨lm, o0, vs', k, hn0, rfl, hm, hS, hvl⟩ F9 N9
  obtain ⟨e1, -⟩ := List.cons.inj hn0
  obtain ⟨e1, -⟩ := Prod.mk.inj e1
  replace e1 := e1.symm
  subst e1
  obtain ⟨u, rfl⟩ := map1 (Str.ofString "path") hm
  clear hm hn0
  have hvl2 : vs'.length = (xs.foldl (climb 12) []).length := by rw [strs_len hS, hvl0, List.take_length]
  k_steps
  rw [hvl2]
  exact h _ _ _ (Fr.keep (by k_asm))
end
end
section
open PySem PySem.W PyProof.Rows PySem.Spec PySem.Calls
set_option Elab.async false
set_option maxRecDepth 100000
set_option maxHeartbeats 1000000
theorem start_En : True := by w_top off; trivial
theorem news_swap {h₀ h : Heap} {L : Addr} {a b : List (Addr × Obj)} (N : News h₀ L h (a ++ b)) : News h₀ L h (b ++ a) := fun p hp => N p ((List.mem_append.mp hp).elim (fun q => List.mem_append.mpr (.inr q)) fun q => List.mem_append.mpr (.inl q))
/-- a turn's end of a loop over enumerate: the ledger stands as it was, or the loop is left with K -/
def EPost (h₀ : Heap) (L : Addr) (s₁ : Shared) (its news : List (Addr × Obj)) (J : (Str → Option Value) → Prop) (K : (Str → Option Value) → List (Addr × Obj) → Prop) (Q : Flow → Shared → Prop) (f : Flow) (s₂ : Shared) : Prop :=
  match f with
  | .ret v => Q (.ret v) s₂
  | .brk => ∃ h' tk m' news', s₂ = { s₁ with heap := h', toks := tk } ∧ Fr h₀ L h' m' ∧ News h₀ L h' news' ∧ K m' news'
  | _ => ∃ h' tk m', s₂ = { s₁ with heap := h', toks := tk } ∧ Fr h₀ L h' m' ∧ News h₀ L h' (news ++ its) ∧ J m'
theorem allObj_of : ∀ {ws : List (Addr × String)} {k : List (Addr × Obj) → Prop}, (∀ its, Objs ws its → k its) → AllObj ws k
  | [], k, h => h [] trivial
  | w :: ws, k, h => fun o ho => allObj_of fun its hi => h _ ⟨⟨rfl, ho⟩, hi⟩
section
variable {prog : Program} {w : World} {A : Around} {E : Value → Shared → Prop} {s : Shared} {env : Env} {h₀ : Heap} {body : List Stmt} {Q : Flow → Shared → Prop} {m₀ : Str → Option Value} {news : List (Addr × Obj)}
theorem items_enum {target : Expr} {ws : List (Addr × String)} {keep : List (Addr × Obj)} {vs : List Value} (J : Nat → (Str → Option Value) → Prop) (K : (Str → Option Value) → List (Addr × Obj) → Prop) (hsub : SubL keep news)
    (hoff : ∀ p ∈ news, ∀ b ∈ ws.map (·.1), p.1 ≠ b)
    (turn : ∀ i v m₁ h tk T t its, vs[i]? = some v → J i m₁ → IsTup h T #[.int ((i : Nat) : Int) t, v] → Fr h₀ env.locals h m₁ → (∀ p ∈ news, ∀ q ∈ its, p.1 ≠ q.1) → News h₀ env.locals h (news ++ its) →
      wpAny (model prog w) A (assign target env (.ref T)) (fun _ s₂ => wpAny (model prog w) A (execs body env) (EPost h₀ env.locals s its news (J (i + 1)) K Q) E s₂) E { s with heap := h, toks := tk })
    (last : ∀ m, J vs.length m → K m news)
    (done : ∀ m n h tk, K m n → Fr h₀ env.locals h m → News h₀ env.locals h n → Q .next { s with heap := h, toks := tk }) :
    ∀ k i m, i + k = vs.length → J i m → ItemsRest prog w A E h₀ env target body Q s ws keep (enumItems i (vs.drop i)) m news := by
  intro k
  induction k with
  | zero =>
    intro i m e hJ
    rw [List.drop_of_length_le (by omega)]
    have e' : i = vs.length := by omega
    subst e'
    exact ItemsRest.zero fun h tk F N => done m news h tk (last m hJ) F N
  | succ k ih =>
    intro i m e hJ
    have hi : i < vs.length := by omega
    rw [List.drop_eq_getElem_cons hi]
    show ItemsRest _ _ _ _ _ _ _ _ _ _ _ _ (.pair _ _ :: enumItems (i + 1) (vs.drop (i + 1))) _ _
    refine ItemsRest.pair fun T t h tk hT F => allObj_of fun its ho N => ?_
    have hmap := ho.map
    have hoff' : ∀ p ∈ news, ∀ q ∈ its, p.1 ≠ q.1 := fun p hp q hq => hoff p hp _ (hmap ▸ List.mem_map_of_mem hq)
    refine wpAny_mono (turn i _ m h tk T t its (List.getElem?_eq_getElem hi) hJ hT F hoff' (news_swap N)) (fun _ s₂ q => wpAny_mono q (fun f s₃ q => ?_) fun _ _ e => e) fun _ _ e => e
    have fin : (∃ h' tk' m', s₃ = { s with heap := h', toks := tk' } ∧ Fr h₀ env.locals h' m' ∧ News h₀ env.locals h' (news ++ its) ∧ J (i + 1) m') →
        UnrEndW h₀ env.locals { s with heap := h, toks := tk } its (fun m' n' => SubL keep n' ∧ ItemsRest prog w A E h₀ env target body Q s ws keep (enumItems (i + 1) (vs.drop (i + 1))) m' n') s₃ := by
      rintro ⟨h', tk', m', e1, F', N', j⟩
      exact ⟨h', tk', m', news, e1, F', news_swap N', hoff', hsub, ih (i + 1) m' (by omega) j⟩
    cases f with
    | ret v => exact q
    | brk =>
      obtain ⟨h', tk', m', n', rfl, F', N', k⟩ := q
      exact done m' n' h' tk' k F' N'
    | next => exact fin q
    | cont => exact fin q
theorem for_enum {xi xc : Str} {pi pc pt : Pos} {k1 : Nat} {l : Addr} {vs : List Value} {n : Nat} (J : Nat → (Str → Option Value) → Prop) (K : (Str → Option Value) → List (Addr × Obj) → Prop)
    (hh : A.handled = none) (F : Fr h₀ env.locals s.heap m₀) (N : News h₀ env.locals s.heap news) (hm : (l, W.listOf vs.toArray n) ∈ news) (hxi : env.kindOf xi = some .local) (hxc : env.kindOf xc = some .local)
    (hp : (env.scope.kind == .class || (env.scope.kind == .module && env.locals != env.globals)) = false) (hj : J 0 m₀)
    (turn : ∀ i v t m₁ h tk its, vs[i]? = some v → J i m₁ → (∀ p ∈ news, ∀ q ∈ its, p.1 ≠ q.1) → Fr h₀ env.locals h (fun y => if y = xc then some v else if y = xi then some (.int ((i : Nat) : Int) t) else m₁ y) → News h₀ env.locals h (news ++ its) →
      wpAny (model prog w) A (execs body env) (EPost h₀ env.locals s its news (J (i + 1)) K Q) E { s with heap := h, toks := tk })
    (last : ∀ m, J vs.length m → K m news)
    (done : ∀ m n h tk, K m n → Fr h₀ env.locals h m → News h₀ env.locals h n → Q .next { s with heap := h, toks := tk }) :
    wpAny (model prog w) A (call (.type "enumerate") [.ref l]) (fun xv s₁ => wpAny (model prog w) A (pyIter xv) (fun it s₂ => TurnsAt prog w A h₀ env (.Tuple [.Name xi pi, .Name xc pc] k1 pt) body Q E it s₂) E s₁) E s := by
  refine ktu_enum hh F N hm rfl rfl rfl fun I hI => ?_
  have hsub : SubL [(l, W.listOf vs.toArray n)] news := And.intro hm trivial
  refine items_enum J K hsub ?_ ?_ last done vs.length 0 m₀ (Nat.zero_add _) hj
  · intro p hp b hb
    have h1 := hI p hp
    have : b = I + 1 ∨ b = I := by simpa using hb
    rcases this with rfl | rfl
    · exact Nat.ne_of_lt (Nat.lt_succ_of_lt h1)
    · exact Nat.ne_of_lt h1
  · intro i v m₁ h tk T t its hv hJ hT F₁ hoff N₁
    refine wpAny_assign_Tuple hh hT rfl rfl fun h₃ hx₃ => ?_
    replace hx₃ : Heap.ExtBut h.objs.size h h₃ := hx₃
    have kx : Ext h h₃ := fun b o e => hx₃ b o (Nat.ne_of_lt (Heap.lt_size e)) e
    have F₃ := fr_ext F₁ kx
    have N₃ := news_ext N₁ kx
    show wpAny _ A (do holding [v] (assign (.Name xi pi) env (.int i t)); do holding [] (assign (.Name xc pc) env v); pure ()) _ _ _
    refine wpAny_bind (wpAny_holding (wpAny_assign_Name (wpAny_storeName_local hxi F₃.ns (fun h₄ hn₄ hs₄ => ?_) hp)))
    replace hs₄ : Heap.SameBut env.locals h₃ h₄ := hs₄
    have F₄ := F₃.set hn₄ hs₄
    have N₄ := N₃.set hs₄
    refine wpAny_bind (wpAny_holding (wpAny_assign_Name (wpAny_storeName_local hxc F₄.ns (fun h₅ hn₅ hs₅ => wpAny_pure ?_) hp)))
    replace hs₅ : Heap.SameBut env.locals h₄ h₅ := hs₅
    exact turn i v t m₁ h₅ _ its hv hJ hoff (F₄.set hn₅ hs₅) (N₄.set hs₅)
/-- the same, the words told of the frame and the ledger at the loop's start -/
theorem for_enumM {xi xc : Str} {pi pc pt : Pos} {k1 : Nat} {l : Addr} {vs : List Value} {n : Nat} (J : (Str → Option Value) → Nat → (Str → Option Value) → Prop) (K : (Str → Option Value) → List (Addr × Obj) → (Str → Option Value) → List (Addr × Obj) → Prop)
    (hh : A.handled = none) (F : Fr h₀ env.locals s.heap m₀) (N : News h₀ env.locals s.heap news) (hm : (l, W.listOf vs.toArray n) ∈ news) (hxi : env.kindOf xi = some .local) (hxc : env.kindOf xc = some .local)
    (hp : (env.scope.kind == .class || (env.scope.kind == .module && env.locals != env.globals)) = false) (hj : J m₀ 0 m₀)
    (turn : ∀ i v t m₁ h tk its, vs[i]? = some v → J m₀ i m₁ → (∀ p ∈ news, ∀ q ∈ its, p.1 ≠ q.1) → Fr h₀ env.locals h (fun y => if y = xc then some v else if y = xi then some (.int ((i : Nat) : Int) t) else m₁ y) → News h₀ env.locals h (news ++ its) →
      wpAny (model prog w) A (execs body env) (EPost h₀ env.locals s its news (J m₀ (i + 1)) (K m₀ news) Q) E { s with heap := h, toks := tk })
    (last : ∀ m, J m₀ vs.length m → K m₀ news m news)
    (done : ∀ m n h tk, K m₀ news m n → Fr h₀ env.locals h m → News h₀ env.locals h n → Q .next { s with heap := h, toks := tk }) :
    wpAny (model prog w) A (call (.type "enumerate") [.ref l]) (fun xv s₁ => wpAny (model prog w) A (pyIter xv) (fun it s₂ => TurnsAt prog w A h₀ env (.Tuple [.Name xi pi, .Name xc pc] k1 pt) body Q E it s₂) E s₁) E s :=
  for_enum (J m₀) (K m₀ news) hh F N hm hxi hxc hp hj turn last done
end
end
section
open PySem PySem.W PyProof.Rows PySem.Spec PySem.Calls
set_option Elab.async false
set_option maxRecDepth 100000
set_option maxHeartbeats 1000000
theorem start_Sl : True := by w_top off; trivial
theorem strs_take {vs : List Value} {xs : List Str} (h : StrsAre vs xs) : ∀ n, StrsAre (vs.take n) (xs.take n) := by
  induction h with
  | nil => intro n; simp; exact .nil
  | cons y t _ ih =>
    intro n
    cases n with
    | zero => exact .nil
    | succ n => exact .cons y t (ih n)
theorem strs_drop {vs : List Value} {xs : List Str} (h : StrsAre vs xs) : ∀ n, StrsAre (vs.drop n) (xs.drop n) := by
  induction h with
  | nil => intro n; simp; exact .nil
  | cons y t h ih =>
    intro n
    cases n with
    | zero => exact .cons y t h
    | succ n => exact ih n
theorem pick_to (vs : List Value) {y : Int} (h : 0 ≤ y) : slicePick vs.toArray none (some y) none = (vs.take y.toNat).toArray := by
  have e : sliceBounds none (some y) none vs.toArray.size = (((0 : Nat) : Int), ((min y.toNat vs.toArray.size : Nat) : Int), 1) := by
    simp only [sliceBounds, Option.getD_none, show (1 : Int) > 0 by decide, if_true, if_neg (show ¬ (y < 0) by omega)]
    congr 1
    congr 1
    omega
  rw [kmk_pick_nat _ e]
  show ((vs.drop 0).take (min y.toNat vs.toArray.size - 0)).toArray = _
  rw [List.drop_zero, Nat.sub_zero, List.size_toArray, kmk_take_min]
theorem pick_from (vs : List Value) {x : Int} (h : 0 ≤ x) : slicePick vs.toArray (some x) none none = (vs.drop x.toNat).toArray := by
  have e : sliceBounds (some x) none none vs.toArray.size = (((min x.toNat vs.toArray.size : Nat) : Int), ((vs.toArray.size : Nat) : Int), 1) := by
    simp only [sliceBounds, Option.getD_none, show (1 : Int) > 0 by decide, if_true, if_neg (show ¬ (x < 0) by omega)]
    congr 1
    omega
  rw [kmk_pick_nat _ e]
  show ((vs.drop (min x.toNat vs.toArray.size)).take (vs.toArray.size - min x.toNat vs.toArray.size)).toArray = _
  rw [List.size_toArray, kmk_drop_min, List.take_of_length_le (by rw [List.length_drop]; omega)]
section
variable {prog : Program} {w : World} {A : Around} {E : Value → Shared → Prop} {s : Shared} {h₀ : Heap} {L l : Addr} {m : Str → Option Value} {news : List (Addr × Obj)} {value slice : PySem.Expr} {vs : List Value} {xs : List Str} {x y : Int} {t : Tok} {Q : Value → Shared → Prop}
theorem slice_to_strs (F : Fr h₀ L s.heap m) (N : News h₀ L s.heap news) (hl : s.heap.IsList l vs.toArray) (hv : Hold (StrsAre vs xs)) (h0 : 0 ≤ y) (hz : vs.length ≤ 1000000)
    (h : ∀ D ws h', Fr h₀ L h' m → News h₀ L h' ((D, W.listOf (List.toArray ws) 0) :: news) → (∀ p ∈ news, p.1 < D) → Hold (StrsAre ws (xs.take y.toNat)) → Q (.ref D) { s with heap := h' })
    (hs : subscripted slice false (.ref l) (.ref s.heap.objs.size) = operate [.ref s.heap.objs.size, .ref l] (getItem (.ref l) (.ref s.heap.objs.size))) (ht : ∀ r, letTemporaryGo value (.ref l) r = pure ()) :
    wpAny (model prog w) A (subscriptTail value slice (.ref l) (.ref s.heap.objs.size)) Q E { s with heap := s.heap.push { cls := .type "slice", data := .fields #[.none, .int y t, .none] } } := by
  refine kmk_slice F N hl (by kmk_part) (by kmk_part) (fun D h' F' N' l1 => h D (vs.take y.toNat) h' F' ?_ l1 (Hold.in (strs_take (Hold.out hv) _))) hs ht (by rw [List.size_toArray, sizeLine_eq]; omega)
  rw [← pick_to vs h0]; exact N'
theorem slice_from_strs (F : Fr h₀ L s.heap m) (N : News h₀ L s.heap news) (hl : s.heap.IsList l vs.toArray) (hv : Hold (StrsAre vs xs)) (h0 : 0 ≤ x) (hz : vs.length ≤ 1000000)
    (h : ∀ D ws h', Fr h₀ L h' m → News h₀ L h' ((D, W.listOf (List.toArray ws) 0) :: news) → (∀ p ∈ news, p.1 < D) → Hold (StrsAre ws (xs.drop x.toNat)) → Q (.ref D) { s with heap := h' })
    (hs : subscripted slice false (.ref l) (.ref s.heap.objs.size) = operate [.ref s.heap.objs.size, .ref l] (getItem (.ref l) (.ref s.heap.objs.size))) (ht : ∀ r, letTemporaryGo value (.ref l) r = pure ()) :
    wpAny (model prog w) A (subscriptTail value slice (.ref l) (.ref s.heap.objs.size)) Q E { s with heap := s.heap.push { cls := .type "slice", data := .fields #[.int x t, .none, .none] } } := by
  refine kmk_slice F N hl (by kmk_part) (by kmk_part) (fun D h' F' N' l1 => h D (vs.drop x.toNat) h' F' ?_ l1 (Hold.in (strs_drop (Hold.out hv) _))) hs ht (by rw [List.size_toArray, sizeLine_eq]; omega)
  rw [← pick_from vs h0]; exact N'
end
end
local macro_rules | `(tactic| walk_at "subscriptTail Name Slice ref ref") => `(tactic| (k_here; (with_reducible show wpAny _ _ (subscriptTail _ (PySem.Expr.Slice none (some _) none _) (Value.ref _) (Value.ref _)) _ _ _); k_dflt (refine' slice_to_strs ?F ?N ?l ?i ?o ?z ?_ ?s ?t; (case F => k_asm); (case N => k_asm); (case l => exact ⟨_, News.get (by k_asm) (by k_mem), rfl, _, rfl⟩); (case i => k_asm); (case o => omega); (case z => walk_at "mine num"); (case s => with_unfolding_all rfl); (case t => kmk_pure)); intro D' ws' h' F' N' l1 hS'; (try k_lt l1); (try k_sweep)))

section
open PySem PySem.W PyProof.Rows PySem.Spec PySem.Calls
set_option Elab.async false
set_option maxRecDepth 100000
set_option maxHeartbeats 1000000
end
section
open PySem PySem.W PyProof.Rows PySem.Spec PySem.Calls
open PySem.AutoSeq1 (wpAny_loadPart')
set_option Elab.async false
set_option maxRecDepth 100000
set_option maxHeartbeats 4000000
theorem start_Mp : True := by w_top off; trivial
theorem slot_map_next : Slot "map" "__next__" "map.__next__" :=
  .of (owner := "map") (n := "__next__") (by rw [typeLookup_type, builtinLookup_eq_fast]; kernel_rfl) (by decide +kernel) (by decide +kernel) (by decide +kernel)
    (by first | exact .inl (by decide +kernel) | exact .inr (by decide +kernel)) (by rw [isSubtype_type]; kernel_rfl)
theorem slot_map_iter : Slot "map" "__iter__" "map.__iter__" :=
  .of (owner := "map") (n := "__iter__") (by rw [typeLookup_type, builtinLookup_eq_fast]; kernel_rfl) (by decide +kernel) (by decide +kernel) (by decide +kernel)
    (by first | exact .inl (by decide +kernel) | exact .inr (by decide +kernel)) (by rw [isSubtype_type]; kernel_rfl)
theorem slot_map_init : Slot "map" "__init__" "object.__init__" :=
  .of (owner := "object") (n := "__init__") (by rw [typeLookup_type, builtinLookup_eq_fast]; kernel_rfl) (by decide +kernel) (by decide +kernel) (by decide +kernel)
    (by first | exact .inl (by decide +kernel) | exact .inr (by decide +kernel)) (by rw [isSubtype_type]; kernel_rfl)
theorem entry_map_next : entryFor table "map.__next__" = some Builtin.«map.__next__» := entryFor_of_tree (by kernel_rfl)
theorem entry_map_new : entryFor table "map.__new__" = some Builtin.«map.__new__» := entryFor_of_tree (by kernel_rfl)
theorem entry_map_iter : entryFor table "map.__iter__" = some Builtin.«dict_keyiterator.__iter__» :=
  entryFor_alias (id' := "dict_keyiterator.__iter__") (by kernel_rfl) (by first | rfl | decide +kernel | (unfold String.splitOn; simp +decide [String.splitOnAux])) (by decide +kernel) (by kernel_rfl)
theorem args_map_next (a : Value) : argsOk "map.__next__" ⟨[a], []⟩ := by unfold argsOk; kernel_rfl
theorem args_map_iter (a : Value) : argsOk "map.__iter__" ⟨[a], []⟩ := by unfold argsOk; kernel_rfl
theorem mro_map : mroOf (.type "map") = pure [.type "map", .type "object"] := by rw [mroOf_type]; kernel_rfl
theorem lookup_map_new : typeLookup (.type "map") "__new__" = pure (some (.builtin "map.__new__")) := by rw [typeLookup_type, builtinLookup_eq_fast]; kernel_rfl
theorem called_map : TypeCalled "map" "map.__new__" "object.__init__" :=
  ⟨by decide +kernel, by decide +kernel, ⟨_, _, mro_map⟩, madeBy_type mro_map lookup_map_new (by decide +kernel), by decide +kernel, by rw [isSubtype_type]; kernel_rfl, slot_map_init⟩
theorem typeCall_map (a b : Value) : checkTypeCall "map" ⟨[a, b], []⟩ = pure () := by kernel_rfl
theorem newCall_map (a b : Value) : checkBuiltinCall "map.__new__" ⟨[.type "map", a, b], []⟩ = pure () := by kernel_rfl
theorem sub_map : isSubtype (.type "map") (.type "map") = pure true := by rw [isSubtype_type]; kernel_rfl
theorem map_no_len : typeLookup (.type "map") "__len__" = pure none := by rw [typeLookup_type, builtinLookup_eq_fast]; kernel_rfl
theorem map_no_hint : typeLookup (.type "map") "__length_hint__" = pure none := by rw [typeLookup_type, builtinLookup_eq_fast]; kernel_rfl
theorem init3 (a b c : Value) : argsOk "object.__init__" ⟨[a, b, c], []⟩ := by unfold argsOk; kernel_rfl

end
section
open PySem PySem.W PyProof.Rows PySem.Spec PySem.Calls
open PySem.AutoSeq1 (wpAny_loadPart')
set_option Elab.async false
set_option maxRecDepth 100000
set_option maxHeartbeats 4000000
theorem start_Mp2 : True := by w_top off; trivial
abbrev itObj (l : Addr) (i : Nat) : Obj := { cls := .type "list_iterator", data := .fields #[.ref l, .int i 0] }
abbrev tup1 (a : Addr) : Obj := { cls := .type "tuple", data := .seq #[.ref a] }
abbrev mapObj (t f : Addr) : Obj := { cls := .type "map", data := .fields #[.ref t, .ref f] }
theorem meets_map_new (f l : Addr) (items : Array Value) :
    Meets (Builtin.«map.__new__» ⟨[.type "map", .ref f, .ref l], []⟩) (fun _ R s => s.heap.IsList l items ∧
      R (.ok (.ret (.ref ((s.heap.push (itObj l 0)).push (tup1 s.heap.objs.size)).objs.size)))
        { s with heap := ((s.heap.push (itObj l 0)).push (tup1 s.heap.objs.size)).push (mapObj (s.heap.push (itObj l 0)).objs.size f) }) :=
  .of_wp fun prog w A R s h => by
    obtain ⟨hp, g, d, tk, os⟩ := s; obtain ⟨hL, h⟩ := h
    have hsub := sub_map
    wp_walk using wpAny_pyIter_list hL
    exact ⟨_, rfl, h⟩
section
variable {prog : Program} {w : World} {A : Around} {E : Value → Shared → Prop} {s : Shared}
theorem call_map {f l : Addr} {items : Array Value} {Q : Value → Shared → Prop} (hL : s.heap.IsList l items)
    (h : ∀ h', h'.get? (s.heap.objs.size + 2) = some (mapObj (s.heap.objs.size + 1) f) → h'.get? (s.heap.objs.size + 1) = some (tup1 s.heap.objs.size) → h'.IsListIter s.heap.objs.size l 0 → h'.objs.size = s.heap.objs.size + 3 → Ext s.heap h' →
      Q (.ref (s.heap.objs.size + 2)) { s with heap := h' }) : wpAny (model prog w) A (call (.type "map") [.ref f, .ref l]) Q E s := by
  refine callType_new called_map (by decide) (typeCall_map _ _) (newCall_map _ _) (fun obj => init3 obj _ _) entry_map_new (meets_map_new f l items) ⟨hL, ?_⟩
  have z1 : (s.heap.push (itObj l 0)).objs.size = s.heap.objs.size + 1 := Heap.size_push ..
  have z2 : ((s.heap.push (itObj l 0)).push (tup1 s.heap.objs.size)).objs.size = s.heap.objs.size + 2 := by rw [Heap.size_push, z1]
  show _ ∧ _
  have g2 := Heap.get?_push_size ((s.heap.push (itObj l 0)).push (tup1 s.heap.objs.size)) (o := mapObj (s.heap.push (itObj l 0)).objs.size f) rfl
  have g1 := Heap.get?_push_of_some (mapObj (s.heap.push (itObj l 0)).objs.size f) (Heap.get?_push_size (s.heap.push (itObj l 0)) (o := tup1 s.heap.objs.size) rfl)
  have g0 := Heap.get?_push_of_some (mapObj (s.heap.push (itObj l 0)).objs.size f) (Heap.get?_push_of_some (tup1 s.heap.objs.size) (Heap.get?_push_size s.heap (o := itObj l 0) rfl))
  rw [z2] at g2
  rw [z2]
  refine ⟨⟨_, g2, rfl⟩, h _ (by rw [g2, z1]) (by rw [← g1, z1]) ⟨_, g0, rfl, rfl⟩ (by rw [Heap.size_push, z2]) fun b o e => Heap.get?_push_of_some _ (Heap.get?_push_of_some _ (Heap.get?_push_of_some _ e))⟩
theorem next_map_item {M T I l f : Addr} {i : Nat} {items : Array Value} {x : Value} {Q : Option Value → Shared → Prop} (hM : s.heap.get? M = some (mapObj T f)) (hT : s.heap.get? T = some (tup1 I)) (hI : s.heap.IsListIter I l i) (hl : s.heap.IsList l items) (hx : items[i]? = some x)
    (hMI : M ≠ I)
    (h : ∀ h', h'.IsListIter I l (i + 1) → Heap.SameBut I s.heap h' → wpAny (model prog w) A.in1 (call (.ref f) [x]) (fun v s' => Q (some v) s') (fun _ _ => False) { s with heap := h' }) :
    wpAny (model prog w) A (pyNext (.ref M)) Q E s := by
  have hTy : s.TypeIs (.ref M) "map" := ⟨_, hM, rfl⟩
  unfold pyNext
  refine wpAny_bind (wpAny_attempt (wpAny_callSpecial?_slot (name := Str.ofString "__next__") hTy slot_map_next (wpAny_call_entry slot_map_next hTy entry_map_next ?_ (args_map_next _))))
  show wpAny _ _ (field (.ref M) 0 >>= _) _ _ s
  refine wpAny_bind (wpAny_field hM rfl (x := .ref T) rfl ?_)
  show wpAny _ _ (seqItems? (.ref T) >>= _) _ _ s
  refine wpAny_bind (wpAny_seqItems hT rfl ?_)
  dsimp only
  refine wpAny_bind ?_
  rw [List.forIn_toArray, List.forIn_cons]
  refine wpAny_bind (wpAny_bind (wpAny_holding (wpAny_nextOf_list_item hI hl hx fun h' hI' hs' => ?_)))
  refine wpAny_pure ?_
  dsimp only
  rw [List.forIn_nil]
  refine wpAny_pure ?_
  have hM' : h'.get? M = some (mapObj T f) := (hs'.2 M hMI).trans hM
  refine wpAny_bind (wpAny_field hM' rfl (x := .ref f) rfl ?_)
  refine wpAny_bind (wpAny_holding (wpAny_mono (h h' hI' hs') (fun v s' hq => ?_) fun _ _ y => y.elim))
  refine wpAny_bind (wpAny_letGo ?_)
  exact wpAny_pure ⟨v, rfl, wpAny_pure hq⟩
theorem next_map_end {M T I l f : Addr} {i : Nat} {items : Array Value} {Q : Option Value → Shared → Prop} (hh : A.handled = none) (hM : s.heap.get? M = some (mapObj T f)) (hT : s.heap.get? T = some (tup1 I)) (hI : s.heap.IsListIter I l i) (hl : s.heap.IsList l items) (hx : items[i]? = none)
    (h : ∀ h', Heap.ExtBut I s.heap h' → Q none { s with heap := h' }) :
    wpAny (model prog w) A (pyNext (.ref M)) Q E s := by
  have hTy : s.TypeIs (.ref M) "map" := ⟨_, hM, rfl⟩
  unfold pyNext
  refine wpAny_bind (wpAny_attempt (wpAny_callSpecial?_slot (name := Str.ofString "__next__") hTy slot_map_next (wpAny_call_entry slot_map_next hTy entry_map_next ?_ (args_map_next _))))
  show wpAny _ _ (field (.ref M) 0 >>= _) _ _ s
  refine wpAny_bind (wpAny_field hM rfl (x := .ref T) rfl ?_)
  show wpAny _ _ (seqItems? (.ref T) >>= _) _ _ s
  refine wpAny_bind (wpAny_seqItems hT rfl ?_)
  dsimp only
  refine wpAny_bind ?_
  rw [List.forIn_toArray, List.forIn_cons]
  refine wpAny_bind (wpAny_bind (wpAny_holding (wpAny_nextOf_list_end hh hI hl hx fun h' e he' hx' => ?_)))
  obtain ⟨o, ho, hc⟩ := hx'
  refine wpAny_bind (wpAny_isInstance (T := "StopIteration") (b := true) ⟨o, ho, hc⟩ isSubtype_stop ?_)
  exact wpAny_pure (h _ he')
theorem iter_map {M T f : Addr} {Q : Value → Shared → Prop} (hM : s.heap.get? M = some (mapObj T f)) (h : Q (.ref M) s) : wpAny (model prog w) A (pyIter (.ref M)) Q E s := by
  have hTy : s.TypeIs (.ref M) "map" := ⟨_, hM, rfl⟩
  refine wpAny_pyIter_slot hTy slot_map_iter (wpAny_call_entry slot_map_iter hTy entry_map_iter ?_ (args_map_iter _))
  show wpAny _ _ (ret (.ref M)) _ _ s
  exact wpAny_pure ⟨_, rfl, "map", _, hTy, slot_map_next.lookup, h⟩
end
end
section
open PySem PySem.W PyProof.Rows PySem.Spec PySem.Calls
open PySem.AutoSeq1 (wpAny_loadPart')
set_option Elab.async false
set_option maxRecDepth 100000
set_option maxHeartbeats 4000000
theorem start_Mp3 : True := by w_top off; trivial
abbrev lst (acc : Array Value) (c : Nat) : Obj := { cls := .type "list", dict := none, data := .seq acc c, slots := #[] }
structure MapSt (h₀ h : Heap) (M T I S l : Addr) (i : Nat) (acc : Array Value) (c : Nat) : Prop where
  ext : Ext h₀ h
  m : h.get? M = some (mapObj T 101)
  t : h.get? T = some (tup1 I)
  it : h.IsListIter I l i
  s : h.get? S = some (lst acc c)
  hI : h₀.get? I = none
  hS : h₀.get? S = none
theorem SameBut.ext {h₀ h h' : Heap} {I : Addr} (x : Ext h₀ h) (hI : h₀.get? I = none) (hs : Heap.ExtBut I h h') : Ext h₀ h' := fun b o e => hs b o (by rintro rfl; rw [hI] at e; cases e) (x b o e)
section
variable {w : World} {A : Around} {R : Result → Shared → Prop} {mean : ExcName → Option Value} {mg mb : Str → Option Value} {h₀ : Heap} {M T I S l : Addr} {vs : List Value} {xs : List Str}
theorem MapSt.ne {h : Heap} {i : Nat} {acc : Array Value} {c : Nat} (x : MapSt h₀ h M T I S l i acc c) : M ≠ I ∧ T ≠ I ∧ S ≠ I ∧ M ≠ S ∧ T ≠ S := by
  obtain ⟨oi, hoi, hci, _⟩ := x.it
  have no : ∀ {a b : Addr} {o o' : Obj}, h.get? a = some o → h.get? b = some o' → o.cls ≠ o'.cls → a ≠ b := fun e1 e2 hne q => by
    subst q; rw [e1] at e2; exact hne (congrArg Obj.cls (Option.some.inj e2))
  exact ⟨no x.m hoi (by rw [hci]; simp), no x.t hoi (by rw [hci]; simp), no x.s hoi (by rw [hci]; simp), no x.m x.s (by simp), no x.t x.s (by simp)⟩
theorem map_loop (X : (hd.heap_1 w.params).In h₀) (Tt : Tp mean mg mb h₀) (hdep : A.depth + 1 < recursionLimit) (hun : A.units + 16 < cLine) (hh : A.handled = none) (hs : StrsAre vs xs) (hl : h₀.IsList l vs.toArray) (hn : vs.length ≤ 1000) :
    ∀ (k i : Nat) (s : Shared) (us : List Value) (c : Nat), vs.length - i = k → i ≤ vs.length → MapSt h₀ s.heap M T I S l i us.toArray c → StrsAre us (xs.take i) →
    (∀ h' tk us' c', Ext h₀ h' → h'.get? S = some (lst us'.toArray c') → StrsAre us' xs → R (.ok (.ret (.ref S))) { s with heap := h', toks := tk }) →
    codeAny (model P0 w) A (.builtin "list.extend.loop" ⟨[.ref S, .ref M, .ref S], []⟩) R s := by
  intro k
  induction k with
  | zero =>
    intro i s us c hk hi st hu hR
    have hin : i = vs.length := by omega
    subst hin
    refine codeAny_builtin F.entry_extend_loop ?_
    rw [Around.under_plainId F.plain_extend_loop _]
    show wpAny _ A.in1 (pyNext (.ref M) >>= _) _ _ s
    have hl' : s.heap.IsList l vs.toArray := hl.at fun o e => st.ext _ o e
    refine wpAny_bind (next_map_end hh st.m st.t st.it hl' (by simp) fun h' he => ?_)
    refine wpAny_pure (hR h' _ us c (SameBut.ext st.ext st.hI he) (he _ _ st.ne.2.2.1 st.s) ?_)
    rw [strs_len hs, List.take_length] at hu; exact hu
  | succ k ih =>
    intro i s us c hk hi st hu hR
    have hlt : i < vs.length := by omega
    refine codeAny_builtin F.entry_extend_loop ?_
    rw [Around.under_plainId F.plain_extend_loop _]
    show wpAny _ A.in1 (pyNext (.ref M) >>= _) _ _ s
    have hl' : s.heap.IsList l vs.toArray := hl.at fun o e => st.ext _ o e
    have hxi : vs.toArray[i]? = some vs[i] := by simp [hlt]
    obtain ⟨x, t, ex, exi⟩ := strs_get hs (i := i) (v := vs[i]) (by simp [hlt])
    refine wpAny_bind (next_map_item st.m st.t st.it hl' hxi st.ne.1 fun h' hI' hs' => ?_)
    rw [ex]
    have e1 : Ext h₀ h' := SameBut.ext st.ext st.hI hs'.extBut
    refine c_fspath (X.keeps e1) (Tt.keeps e1) ?_ ?_ ?_ fun t' h'' tk' kE => ?_
    · show A.in1.in1.depth + 1 < recursionLimit; simp only [depth_in1]; exact hdep
    · show A.in1.in1.units + 8 < cLine; simp only [units_in1]; omega
    · exact hh
    have hS' : h''.get? S = some (lst us.toArray c) := kE _ _ ((hs'.2 S st.ne.2.2.1).trans st.s)
    show wpAny _ A.in1 (updateSeq S (·.push (Value.str x t')) >>= _) _ _ _
    refine wpAny_bind ?_
    have hus : us.length = i := by rw [strs_len hu, List.length_take]; rw [strs_len hs] at hlt; omega
    have oth : ∀ b o, b ≠ S → h''.get? b = some o → (h''.update S (Obj.mapSeq (·.push (Value.str x t')))).get? b = some o := fun b o hb e => (Heap.get?_update_other _ _ (Ne.symm hb)).trans e
    refine wpAny_updateSeq hS' rfl (wpAny_pure ⟨plainId_quiet F.plain_extend_loop _, ih (i + 1) _ (us ++ [.str x t']) (c + 1) (by omega) hlt ⟨?_, ?_, ?_, ?_, ?_, st.hI, st.hS⟩ ?_ fun h3 tk3 us3 c3 e3 g3 q3 => hR h3 tk3 us3 c3 e3 g3 q3⟩) (by rw [List.size_toArray, sizeLine_eq]; omega) (by show (us.toArray.push _).size ≤ sizeLine + 1; rw [Array.size_push, List.size_toArray, sizeLine_eq]; omega)
    · exact fun b o e => oth b o (by rintro rfl; rw [st.hS] at e; cases e) (kE _ _ (e1 b o e))
    · exact oth _ _ st.ne.2.2.2.1 (kE _ _ ((hs'.2 M st.ne.1).trans st.m))
    · exact oth _ _ st.ne.2.2.2.2 (kE _ _ ((hs'.2 T st.ne.2.1).trans st.t))
    · obtain ⟨oi, hoi, r⟩ := hI'
      exact ⟨oi, oth _ _ (Ne.symm st.ne.2.2.1) (kE _ _ hoi), r⟩
    · have := Heap.get?_update_self (Obj.mapSeq (·.push (Value.str x t'))) hS' rfl
      rw [this]
      have e : us.toArray.push (Value.str x t') = (us ++ [Value.str x t']).toArray := by simp
      simp [Obj.mapSeq, lst, e]
    · rw [List.take_add_one, exi]
      exact strsSnoc hu
variable {E : Value → Shared → Prop} {s : Shared}
theorem map_collect {Q : List Value → Shared → Prop} (X : (hd.heap_1 w.params).In h₀) (Tt : Tp mean mg mb h₀) (hdep : A.depth + 1 < recursionLimit) (hun : A.units + 20 < cLine) (hh : A.handled = none) (hs : StrsAre vs xs) (hl : h₀.IsList l vs.toArray) (hn : vs.length ≤ 1000)
    (ext : Ext h₀ s.heap) (hm : s.heap.get? M = some (mapObj T 101)) (ht : s.heap.get? T = some (tup1 I)) (hit : s.heap.IsListIter I l 0) (hI : h₀.get? I = none)
    (hQ : ∀ h' tk us, Ext h₀ h' → StrsAre us xs → Q us { s with heap := h', toks := tk }) : wpAny (model P0 w) A (collect (.ref M)) Q E s := by
  unfold collect
  refine wpAny_bind (wpAny_runValue (codeAny_builtin F.entry_proto_collect ?_))
  rw [Around.under_plainId F.plain_proto_collect _]
  show wpAny _ A.in1 (newList [] >>= fun l => again (.builtin "list.__iadd__" ⟨[l, .ref M], []⟩)) _ _ s
  refine wpAny_bind (wpAny_newObj_type ?_)
  refine wpAny_pure ⟨plainId_quiet F.plain_list_iadd _, codeAny_builtin F.entry_list_iadd ?_⟩
  rw [Around.under_plainId F.plain_list_iadd _]
  have hSM : s.heap.objs.size ≠ M := Nat.ne_of_gt (Heap.lt_size hm)
  have psh : ∀ b o, s.heap.get? b = some o → (s.heap.push { cls := .type "list", data := .seq ([] : List Value).toArray }).get? b = some o := fun b o e => Heap.get?_push_of_some _ e
  have hTM : ∀ tk, ({ s with heap := s.heap.push { cls := .type "list", data := .seq ([] : List Value).toArray }, toks := tk } : Shared).TypeIs (.ref M) "map" := fun _ => ⟨_, psh _ _ hm, rfl⟩
  show wpAny _ A.in1 (Builtin.List.listExtendWith (.ref s.heap.objs.size) (.ref M) (.ref s.heap.objs.size)) _ _ _
  unfold Builtin.List.listExtendWith
  refine wpAny_bind (wpAny_typeOf (hTM _) ?_)
  have h1 : Builtin.List.listSameRef (.ref s.heap.objs.size) (.ref M) = false := by simp [Builtin.List.listSameRef, hSM]
  have h2 : (Value.type "map" == Value.type "list") = false := by decide
  have h3 : (Value.type "map" == Value.type "tuple") = false := by decide
  simp only [h1, h2, h3, Bool.or_false, Bool.false_eq_true, if_false]
  refine wpAny_bind (iter_map (psh _ _ hm) ?_)
  refine wpAny_bind (wpAny_holding ?_)
  unfold Builtin.List.listLengthHint
  refine wpAny_bind (wpAny_specialOf (hTM _) map_no_len ?_)
  show wpAny _ A.in1 (specialOf (Value.ref M) (Str.ofString "__length_hint__") >>= _) _ _ _
  refine wpAny_bind (wpAny_specialOf (hTM _) map_no_hint ?_)
  refine wpAny_pure ?_
  show wpAny _ A.in1 (rule "list.extend.makes-room" >>= fun _ => Builtin.List.listTouch (.ref s.heap.objs.size) >>= fun _ =>
    again (.builtin "list.extend.loop" ⟨[.ref s.heap.objs.size, .ref M, .ref s.heap.objs.size], []⟩)) _ _ _
  refine wpAny_bind (wpAny_rule ?_)
  have hS₁ : (s.heap.push { cls := .type "list", data := .seq ([] : List Value).toArray }).get? s.heap.objs.size = some { cls := .type "list", data := .seq ([] : List Value).toArray } := Heap.get?_push_size _ rfl
  refine wpAny_bind ?_
  show wpAny _ A.in1 (updateSeq s.heap.objs.size (·.push .none) >>= fun _ => updateSeq s.heap.objs.size (·.pop)) _ _ _
  refine wpAny_bind (wpAny_updateSeq hS₁ rfl ?_)
  have hS₂ := Heap.get?_update_self (Obj.mapSeq (·.push Value.none)) hS₁ rfl
  refine wpAny_updateSeq hS₂ rfl ?_
  have hS₃ := Heap.get?_update_self (Obj.mapSeq (·.pop)) hS₂ rfl
  have oth : ∀ b o, b ≠ s.heap.objs.size → (s.heap.push { cls := .type "list", data := .seq ([] : List Value).toArray }).get? b = some o →
      (((s.heap.push { cls := .type "list", data := .seq ([] : List Value).toArray }).update s.heap.objs.size (Obj.mapSeq (·.push Value.none))).update s.heap.objs.size (Obj.mapSeq (·.pop))).get? b = some o :=
    fun b o hb e => (Heap.get?_update_other _ _ (Ne.symm hb)).trans ((Heap.get?_update_other _ _ (Ne.symm hb)).trans e)
  have lt : ∀ {b : Addr} {o : Obj}, s.heap.get? b = some o → b ≠ s.heap.objs.size := fun e => Nat.ne_of_lt (Heap.lt_size e)
  have hS0 : h₀.get? s.heap.objs.size = none := by
    cases q : h₀.get? s.heap.objs.size with
    | none => rfl
    | some o => exact absurd (Heap.lt_size (ext _ _ q)) (Nat.lt_irrefl _)
  refine wpAny_pure ⟨plainId_quiet F.plain_extend_loop _, map_loop (A := A) (S := s.heap.objs.size) (M := M) (T := T) (I := I) X Tt hdep (by omega) hh hs hl hn vs.length 0 _ [] _ rfl (Nat.zero_le _) ⟨?_, ?_, ?_, ?_, hS₃, hI, hS0⟩ (by rw [List.take_zero]; exact .nil) fun h' tk us c' e' g' q' => ?_⟩
  · exact fun b o e => oth b o (lt (ext b o e)) (psh _ _ (ext b o e))
  · exact oth _ _ (lt hm) (psh _ _ hm)
  · exact oth _ _ (lt ht) (psh _ _ ht)
  · obtain ⟨oi, hoi, r⟩ := hit
    exact ⟨oi, oth _ _ (lt hoi) (psh _ _ hoi), r⟩
  · show wpAny _ A (load s.heap.objs.size >>= _) _ _ _
    refine wpAny_bind (wpAny_load g' ?_)
    exact wpAny_pure (hQ h' tk us e' q')
theorem map_tuple {Q : Value → Shared → Prop} (X : (hd.heap_1 w.params).In h₀) (Tt : Tp mean mg mb h₀) (hdep : A.depth + 1 < recursionLimit) (hun : A.units + 24 < cLine) (hh : A.handled = none) (hs : StrsAre vs xs) (hl : h₀.IsList l vs.toArray) (hn : vs.length ≤ 1000)
    (ext : Ext h₀ s.heap) (hm : s.heap.get? M = some (mapObj T 101)) (ht : s.heap.get? T = some (tup1 I)) (hit : s.heap.IsListIter I l 0) (hI : h₀.get? I = none)
    (hQ : ∀ a h' tk us, Ext h₀ h' → h₀.get? a = none → h'.get? a = some { cls := .type "tuple", data := .seq us.toArray } → StrsAre us xs → Q (.ref a) { s with heap := h', toks := tk }) : wpAny (model P0 w) A (call (.type "tuple") [.ref M]) Q E s := by
  refine callType_codes (Q₁ := fun obj s₁ => s₁.TypeIs obj "tuple" ∧ Q obj s₁) F.called_tuple (F.typeCall_tuple_1 _) F.entry_object_init ?_ fun obj s₁ h₁ => ?_
  · refine codeAny_of_tree ?_
    show wpAny _ A.in1.in1 (do checkBuiltinCall "tuple.__new__" ⟨[.type "tuple", .ref M], []⟩; again (.builtin "tuple.__new__" ⟨[.type "tuple", .ref M], []⟩)) _ _ s
    refine wpAny_bind (wpAny_of_eq (F.newCall_tuple_1 _) (wpAny_pure ⟨plainId_quiet F.plain_tuple_new _, codeAny_builtin F.entry_tuple_new ?_⟩))
    rw [Around.under_plainId F.plain_tuple_new _]
    have hsub := sub_tuple_self
    have hinit := init_tuple_lookup
    have hmh := madeHere_tuple
    have hTI : s.TypeIs (.ref M) "map" := ⟨_, hm, rfl⟩
    have hc : ∀ (Q' : List Value → Shared → Prop) (E' : Value → Shared → Prop), (∀ h' tk us, Ext h₀ h' → StrsAre us xs → Q' us { s with heap := h', toks := tk }) → wpAny (model P0 w) A.in1.in1 (collect (.ref M)) Q' E' s :=
      fun _ _ h => map_collect (A := A.in1.in1) X Tt hdep (by show A.units + 1 + 1 + 20 < cLine; omega) hh hs hl hn ext hm ht hit hI h
    wp_walk using wpAny_typeOf hTI, hc
    intro h' tk us e' q'
    show wpAny _ _ (Builtin.Tuple.tupleExact us.toArray >>= fun v => ret v) _ _ _
    unfold Builtin.Tuple.tupleExact
    refine wpAny_bind (wpAny_newObj_type ?_ (by show us.toArray.size ≤ sizeLine; rw [List.size_toArray, strs_len q', ← strs_len hs, sizeLine_eq]; omega))
    refine wpAny_pure ?_
    refine ⟨⟨_, Heap.get?_push_size _ rfl, rfl⟩, hQ _ _ _ us (fun b o e => Heap.get?_push_of_some _ (e' b o e)) ?_ (Heap.get?_push_size _ rfl) q'⟩
    cases q : h₀.get? h'.objs.size with
    | none => rfl
    | some o => exact absurd (Heap.lt_size (e' _ _ q)) (Nat.lt_irrefl _)
  · exact ⟨h₁.1, F.args_object_init_2 obj _, object_init_meets F.called_tuple.init.lookup F.called_tuple.made (by decide) P0 w A.in1 _ s₁ ⟨h₁.1, rfl, h₁.2⟩⟩
end
end
section
open PySem PySem.W PyProof.Rows PySem.Spec PySem.Calls
set_option Elab.async false
set_option maxRecDepth 100000
set_option maxHeartbeats 1000000
theorem start_Kt : True := by w_top off; trivial
def keepF (c : Str) : Bool := decide (c.length ≠ 0) && (c != Str.ofString ".")
section
variable {prog : Program} {w : World} {A : Around} {E : Value → Shared → Prop} {s : Shared} {env : Env}
theorem keep_t {c : Str} (h : c.length ≠ 0) (h2 : (c != Str.ofString ".") = true) : keepF c = true := by rw [keepF, decide_eq_true h, h2]; rfl
theorem keep_f2 {c : Str} (h2 : (c != Str.ofString ".") = false) : keepF c = false := by rw [keepF, h2, Bool.and_false]
theorem keep_f1 {c : Str} (h : c.length = 0) : keepF c = false := by rw [keepF, decide_eq_false (fun q => q h), Bool.false_and]
theorem keep_test {x y c : Str} {tc td : Tok} {p1 p2 p3 p4 p5 : Pos} {Q : Bool → Shared → Prop}
    (hc : ∀ tk p (Q : Value → Shared → Prop) (E : Value → Shared → Prop), Q (.str c tc) { s with toks := tk } → wpAny (model prog w) A (eval (.Name x p) env) Q E { s with toks := tk })
    (hd : ∀ tk p (Q : Value → Shared → Prop) (E : Value → Shared → Prop), Q (.str (Str.ofString ".") td) { s with toks := tk } → wpAny (model prog w) A (eval (.Name y p) env) Q E { s with toks := tk })
    (hl : c.length ≤ 1000) (h : ∀ tk, Q (keepF c) { s with toks := tk }) :
    wpAny (model prog w) A (isTrue (.BoolOp .And [.Name x p1, .Compare (.Name x p2) [.NotEq] [.Name y p3] p4] p5) env (eval (.BoolOp .And [.Name x p1, .Compare (.Name x p2) [.NotEq] [.Name y p3] p4] p5) env)) Q E s := by
  refine isTrue_and (isTrue_plain (hc s.toks p1 _ _ ?_))
  refine SBL.truthy (by omega) ?_
  by_cases h0 : c.length = 0
  · rw [if_neg (by simp [h0])]
    have := h (s.toks + 1 + 1)
    rw [keep_f1 h0] at this
    exact this
  · rw [if_pos (by simp [h0])]
    refine isTrue_and ?_
    refine wpAny_isTrue_Compare1 ?_
    refine hc (s.toks + 1 + 1) p2 _ _ ?_
    refine hd (s.toks + 1 + 1) p3 _ _ ?_
    refine ne_str ?_
    refine wpAny_pure ?_
    cases h2 : (c != Str.ofString ".")
    · rw [if_neg Bool.false_ne_true]
      have := h (s.toks + 1 + 1)
      rw [keep_f2 h2] at this
      exact this
    · rw [if_pos rfl]
      refine isTrue_and_nil ?_
      have := h (s.toks + 1 + 1)
      rw [keep_t h0 h2] at this
      exact this
end
end
section
open PySem PySem.W PyProof.Rows PySem.Spec PySem.Calls
open PySem.AutoSeq1 (wpAny_loadPart')
open PySem.MeetsSeq3 (plain_eq_loop entry_eq_loop)
set_option Elab.async false
set_option maxRecDepth 100000
set_option maxHeartbeats 2000000
theorem start_Lt : True := by w_top off; trivial
def cmpF (c : Str → Str → Bool) : List Str → List Str → Bool
  | x :: xs, y :: ys => if x = y then cmpF c xs ys else c x y
  | _, _ => false
def ltS (x y : Str) : Bool := decide (x.cps.toList < y.cps.toList)
def gtS (x y : Str) : Bool := decide (y.cps.toList < x.cps.toList)
theorem strs_at {vs : List Value} {xs : List Str} (h : StrsAre vs xs) {i : Nat} (hi : i < vs.length) : ∃ t, vs[i]? = some (.str (xs.getD i (Str.ofString "")) t) := by
  induction h generalizing i with
  | nil => simp at hi
  | cons y t _ ih =>
    cases i with
    | zero => exact ⟨t, by simp⟩
    | succ i => obtain ⟨t', e⟩ := ih (i := i) (by simpa using hi); exact ⟨t', by simpa using e⟩
theorem drop_getD {xs : List Str} {i : Nat} (hi : i < xs.length) : xs.drop i = xs.getD i (Str.ofString "") :: xs.drop (i + 1) := by
  rw [List.drop_eq_getElem_cons hi]
  simp [hi]
theorem rc_lt {prog : Program} {w : World} {A : Around} {E : Value → Shared → Prop} {s : Shared} {x y : Str} {t u : Tok} {Q : Value → Shared → Prop} (h : Q (.bool (ltS x y)) s) : wpAny (model prog w) A (richCompare .Lt (.str x t) (.str y u)) Q E s :=
  (PyProof.Rows.lt_str h : wpAny (model prog w) A (compareOp .Lt (.str x t) (.str y u)) Q E s)
theorem rc_gt {prog : Program} {w : World} {A : Around} {E : Value → Shared → Prop} {s : Shared} {x y : Str} {t u : Tok} {Q : Value → Shared → Prop} (h : Q (.bool (gtS x y)) s) : wpAny (model prog w) A (richCompare .Gt (.str x t) (.str y u)) Q E s :=
  (PySem.P.gt_str h : wpAny (model prog w) A (compareOp .Gt (.str x t) (.str y u)) Q E s)
theorem lt_loop (l b : Addr) (vs us : List Value) (n n2 : Nat) (xs ys : List Str) (hs : StrsAre vs xs) (hu : StrsAre us ys) (hlen : vs.length = us.length) (k : Nat) :
    ∀ i : Nat, vs.length - i = k → Meets (Builtin.«list.__eq__.loop» ⟨[.ref l, .ref b, rawInt i, rawInt 0], []⟩)
      (fun A R s => s.heap.get? l = some (W.listOf vs.toArray n) ∧ s.heap.get? b = some (W.listOf us.toArray n2) ∧ R (.ok (.ret (.bool (cmpF ltS (xs.drop i) (ys.drop i))))) s) := by
  have hx := strs_len hs
  have hy := strs_len hu
  induction k with
  | zero =>
    intro i hk prog w A R s h
    obtain ⟨hp, g, d, tk, os⟩ := s; obtain ⟨hl, hb, h⟩ := h
    wp_walk using wpAny_loadPart' hl, wpAny_loadPart' hb
    have hi1 : vs.toArray[((i : Nat) : Int).toNat]? = none := by simp; omega
    have hi2 : us.toArray[((i : Nat) : Int).toNat]? = none := by simp; omega
    have e0 : cmpF ltS (xs.drop i) (ys.drop i) = false := by rw [List.drop_of_length_le (by omega : xs.length ≤ i)]; simp [cmpF]
    rw [e0] at h
    rw [hi1, hi2]
    wp_walk using wpAny_loadPart' hl, wpAny_loadPart' hb
    show R (.ok (.ret (.bool (decide (vs.toArray.size < us.toArray.size))))) _
    have e1 : decide (vs.toArray.size < us.toArray.size) = false := by simp [hlen]
    rw [e1]; exact h
  | succ k ih =>
    intro i hk prog w A R s h
    obtain ⟨hp, g, d, tk, os⟩ := s; obtain ⟨hl, hb, h⟩ := h
    wp_walk using wpAny_loadPart' hl, wpAny_loadPart' hb
    have hlt : i < vs.length := by omega
    obtain ⟨t1, e1⟩ := strs_at hs hlt
    obtain ⟨t2, e2⟩ := strs_at hu (i := i) (by omega)
    have hi1 : vs.toArray[((i : Nat) : Int).toNat]? = some (.str (xs.getD i (Str.ofString "")) t1) := by simpa using e1
    have hi2 : us.toArray[((i : Nat) : Int).toNat]? = some (.str (ys.getD i (Str.ofString "")) t2) := by simpa using e2
    have hc : ((i : Int) + 1) = ((i + 1 : Nat) : Int) := by push_cast; rfl
    rw [drop_getD (by omega : i < xs.length), drop_getD (by omega : i < ys.length), cmpF] at h
    rw [hi1, hi2]
    refine wpAny_bind (wpAny_eqBool_str ?_)
    by_cases hq : xs.getD i (Str.ofString "") = ys.getD i (Str.ofString "")
    · rw [if_pos hq] at h
      rw [decide_eq_true hq]
      wp_walk
      rw [hc]
      exact ⟨plainId_quiet plain_eq_loop _, codeAny_builtin entry_eq_loop (by
        rw [Around.under_plainId plain_eq_loop _]
        exact ih (i + 1) (by omega) prog w A R _ ⟨hl, hb, h⟩)⟩
    · rw [if_neg hq] at h
      rw [decide_eq_false hq]
      wp_walk using wpAny_loadPart' hl, wpAny_loadPart' hb
      rw [hi1, hi2]
      wp_walk using rc_lt
      exact h
theorem gt_loop (l b : Addr) (vs us : List Value) (n n2 : Nat) (xs ys : List Str) (hs : StrsAre vs xs) (hu : StrsAre us ys) (hlen : vs.length = us.length) (k : Nat) :
    ∀ i : Nat, vs.length - i = k → Meets (Builtin.«list.__eq__.loop» ⟨[.ref l, .ref b, rawInt i, rawInt 4], []⟩)
      (fun A R s => s.heap.get? l = some (W.listOf vs.toArray n) ∧ s.heap.get? b = some (W.listOf us.toArray n2) ∧ R (.ok (.ret (.bool (cmpF gtS (xs.drop i) (ys.drop i))))) s) := by
  have hx := strs_len hs
  have hy := strs_len hu
  induction k with
  | zero =>
    intro i hk prog w A R s h
    obtain ⟨hp, g, d, tk, os⟩ := s; obtain ⟨hl, hb, h⟩ := h
    wp_walk using wpAny_loadPart' hl, wpAny_loadPart' hb
    have hi1 : vs.toArray[((i : Nat) : Int).toNat]? = none := by simp; omega
    have hi2 : us.toArray[((i : Nat) : Int).toNat]? = none := by simp; omega
    have e0 : cmpF gtS (xs.drop i) (ys.drop i) = false := by rw [List.drop_of_length_le (by omega : xs.length ≤ i)]; simp [cmpF]
    rw [e0] at h
    rw [hi1, hi2]
    wp_walk using wpAny_loadPart' hl, wpAny_loadPart' hb
    show R (.ok (.ret (.bool (decide (vs.toArray.size > us.toArray.size))))) _
    have e1 : decide (vs.toArray.size > us.toArray.size) = false := by simp [hlen]
    rw [e1]; exact h
  | succ k ih =>
    intro i hk prog w A R s h
    obtain ⟨hp, g, d, tk, os⟩ := s; obtain ⟨hl, hb, h⟩ := h
    wp_walk using wpAny_loadPart' hl, wpAny_loadPart' hb
    have hlt : i < vs.length := by omega
    obtain ⟨t1, e1⟩ := strs_at hs hlt
    obtain ⟨t2, e2⟩ := strs_at hu (i := i) (by omega)
    have hi1 : vs.toArray[((i : Nat) : Int).toNat]? = some (.str (xs.getD i (Str.ofString "")) t1) := by simpa using e1
    have hi2 : us.toArray[((i : Nat) : Int).toNat]? = some (.str (ys.getD i (Str.ofString "")) t2) := by simpa using e2
    have hc : ((i : Int) + 1) = ((i + 1 : Nat) : Int) := by push_cast; rfl
    rw [drop_getD (by omega : i < xs.length), drop_getD (by omega : i < ys.length), cmpF] at h
    rw [hi1, hi2]
    refine wpAny_bind (wpAny_eqBool_str ?_)
    by_cases hq : xs.getD i (Str.ofString "") = ys.getD i (Str.ofString "")
    · rw [if_pos hq] at h
      rw [decide_eq_true hq]
      wp_walk
      rw [hc]
      exact ⟨plainId_quiet plain_eq_loop _, codeAny_builtin entry_eq_loop (by
        rw [Around.under_plainId plain_eq_loop _]
        exact ih (i + 1) (by omega) prog w A R _ ⟨hl, hb, h⟩)⟩
    · rw [if_neg hq] at h
      rw [decide_eq_false hq]
      wp_walk using wpAny_loadPart' hl, wpAny_loadPart' hb
      rw [hi1, hi2]
      wp_walk using rc_gt
      exact h

theorem list_lt (l b : Addr) (vs us : List Value) (n n2 : Nat) (xs ys : List Str) (hs : StrsAre vs xs) (hu : StrsAre us ys) (hlen : vs.length = us.length) :
    Meets (Builtin.«list.__lt__» ⟨[.ref l, .ref b], []⟩)
      (fun A R s => s.heap.get? l = some (W.listOf vs.toArray n) ∧ s.heap.get? b = some (W.listOf us.toArray n2) ∧ R (.ok (.ret (.bool (cmpF ltS xs ys)))) s) := by
  intro prog w A R s h
  obtain ⟨hp, g, d, tk, os⟩ := s; obtain ⟨hl, hb, h⟩ := h
  have f3 := AutoSeq1.sub_list_list
  wp_walk using wpAny_loadPart' hl, wpAny_loadPart' hb
  exact ⟨plainId_quiet plain_eq_loop _, codeAny_builtin entry_eq_loop (by
    rw [Around.under_plainId plain_eq_loop _]
    exact lt_loop l b vs us n n2 xs ys hs hu hlen _ 0 rfl prog w A R _ ⟨hl, hb, by simpa using h⟩)⟩

theorem list_gt (l b : Addr) (vs us : List Value) (n n2 : Nat) (xs ys : List Str) (hs : StrsAre vs xs) (hu : StrsAre us ys) (hlen : vs.length = us.length) :
    Meets (Builtin.«list.__gt__» ⟨[.ref l, .ref b], []⟩)
      (fun A R s => s.heap.get? l = some (W.listOf vs.toArray n) ∧ s.heap.get? b = some (W.listOf us.toArray n2) ∧ R (.ok (.ret (.bool (cmpF gtS xs ys)))) s) := by
  intro prog w A R s h
  obtain ⟨hp, g, d, tk, os⟩ := s; obtain ⟨hl, hb, h⟩ := h
  have f3 := AutoSeq1.sub_list_list
  wp_walk using wpAny_loadPart' hl, wpAny_loadPart' hb
  exact ⟨plainId_quiet plain_eq_loop _, codeAny_builtin entry_eq_loop (by
    rw [Around.under_plainId plain_eq_loop _]
    exact gt_loop l b vs us n n2 xs ys hs hu hlen _ 0 rfl prog w A R _ ⟨hl, hb, by simpa using h⟩)⟩

end
section
open PySem PySem.W PyProof.Rows PySem.Spec PySem.Calls
set_option Elab.async false
set_option maxRecDepth 100000
set_option maxHeartbeats 1000000
theorem start_Mm : True := by w_top off; trivial
section
variable {prog : Program} {w : World} {A : Around} {E : Value → Shared → Prop} {s : Shared}
theorem min_last {R : Result → Shared → Prop} {D I S : Addr} {vb : Value} {c : Nat} {its : Array Value} (W : Walks prog w A.in1 I [I, D] [I] its.size (fun i v => its[i]? = some v) (fun i h => h.IsListIter I D i ∧ h.IsList D its)) (hS : s.heap.get? S = some { cls := .type "list", dict := none, data := .seq #[vb, vb] c, slots := #[] }) (hIS : I ≠ S) (hst : s.heap.IsListIter I D its.size ∧ s.heap.IsList D its)
    (hR : ∀ h' tk, (∀ x o, x ≠ I → x ≠ S → s.heap.get? x = some o → h'.get? x = some o) → R (.ok (.ret vb)) { s with heap := h', toks := tk }) : codeAny (model prog w) A (.builtin "min.loop" ⟨[.ref I, .none, .ref S], []⟩) R s := by
  refine codeAny_builtin F.entry_min_loop ?_
  rw [Around.under_plainId F.plain_min_loop _]
  show wpAny _ A.in1 (seqItems? (.ref S) >>= _) _ _ _
  refine wpAny_bind (wpAny_seqItems hS rfl ?_)
  show wpAny _ A.in1 (tryCatch (pyNext (.ref I)) _ >>= _) _ _ _
  refine wpAny_bind (wpAny_tryCatch (W.done _ _ _ hst fun h' tk hk' => ?_))
  have hS' := hk' S _ (by simpa using Ne.symm hIS) hS
  show wpAny _ A.in1 (updateSeq S (fun _ => #[]) >>= _) _ _ _
  refine wpAny_bind (wpAny_updateSeq hS' rfl (wpAny_bind (wpAny_letGo (wpAny_pure ?_))))
  exact hR _ _ fun x o h1 h2 e => (Heap.get?_update_other _ _ (Ne.symm h2)).trans (hk' x o (by simpa using h1) e)
theorem min_two {D a b : Addr} {bt : Bool} {Q : Value → Shared → Prop} (hh : A.handled = none) (hD : s.heap.IsList D #[.ref a, .ref b])
    (hcmp : ∀ (s' : Shared) (Q' : Value → Shared → Prop) (E' : Value → Shared → Prop), (∀ x o, s.heap.get? x = some o → s'.heap.get? x = some o) → Q' (.bool bt) s' → wpAny (model prog w) A.in1 (richCompare .Lt (.ref b) (.ref a)) Q' E' s')
    (h : ∀ h' tk, (∀ x o, s.heap.get? x = some o → h'.get? x = some o) → Q (if bt = true then .ref b else .ref a) { s with heap := h', toks := tk }) :
    wpAny (model prog w) A (call (.builtin "min") [.ref D]) Q E s := by
  have hname : (toString "min" ++ toString ".loop" : String) = "min.loop" := by decide
  obtain ⟨oD, hoD, _⟩ := id hD
  have hDI : D ≠ s.heap.objs.size := Nat.ne_of_lt (Heap.lt_size hoD)
  refine call_function_tree F.kind_min F.plain_min F.entry_min (F.args_min1 _) ?_
  show wpAny _ A.in1 (Builtin.Builtins.bindParams "min" ["key", "default"] 0 ⟨[], []⟩ >>= _) _ _ s
  refine wpAny_bind (wpAny_of_eq (show Builtin.Builtins.bindParams "min" ["key", "default"] 0 ⟨[], []⟩ = pure [none, none] from rfl) ?_)
  refine wpAny_bind (wpAny_pure ?_)
  refine wpAny_bind (wpAny_pyIter_list hD ?_)
  refine wpAny_bind (wpAny_newObj_type ?_)
  have W := Walks.list (prog := prog) (w := w) (A := A.in1) hh s.heap.objs.size D hDI #[.ref a, .ref b]
  dsimp only
  generalize hH1 : s.heap.push { cls := .type "list_iterator", data := .fields #[.ref D, .int 0 0] } = H1
  have z1 : H1.objs.size = s.heap.objs.size + 1 := by rw [← hH1, Heap.size_push]
  have k1 : ∀ x o, s.heap.get? x = some o → H1.get? x = some o := fun x o e => hH1 ▸ Heap.get?_push_of_some _ e
  have g1 : H1.get? s.heap.objs.size = some { cls := .type "list_iterator", data := .fields #[.ref D, .int 0 0] } := hH1 ▸ Heap.get?_push_size _ rfl
  generalize hS : H1.objs.size = S
  have hIS : s.heap.objs.size ≠ S := by omega
  have lt : ∀ x o, s.heap.get? x = some o → @Ne Nat x s.heap.objs.size ∧ @Ne Nat x S := fun x o e => by
    have : @LT.lt Nat _ x s.heap.objs.size := Heap.lt_size e
    exact ⟨by omega, by omega⟩
  have hDS := (lt _ _ hoD).2
  have k2 : ∀ x o, H1.get? x = some o → (H1.push { cls := .type "list", data := .seq ([] : List Value).toArray }).get? x = some o := fun x o e => Heap.get?_push_of_some _ e
  have g2 : (H1.push { cls := .type "list", data := .seq ([] : List Value).toArray }).get? S = some { cls := .type "list", dict := none, data := .seq #[] 0, slots := #[] } := hS ▸ Heap.get?_push_size _ rfl
  have hst : (H1.push { cls := .type "list", data := .seq ([] : List Value).toArray }).IsListIter s.heap.objs.size D 0 ∧ (H1.push { cls := .type "list", data := .seq ([] : List Value).toArray }).IsList D #[.ref a, .ref b] := ⟨⟨_, k2 _ _ g1, rfl, rfl⟩, hD.at fun o e => k2 _ _ (k1 _ _ e)⟩
  have kk : ∀ x o, s.heap.get? x = some o → (H1.push { cls := .type "list", data := .seq ([] : List Value).toArray }).get? x = some o := fun x o e => k2 _ _ (k1 _ _ e)
  generalize (H1.push { cls := .type "list", data := .seq ([] : List Value).toArray }) = H2 at *
  rw [hname]
  refine wpAny_pure ⟨plainId_quiet F.plain_min_loop _, ?_⟩
  have fpS : ∀ x ∈ [s.heap.objs.size, D], x ≠ S := fun x hx => by
    simp at hx
    rcases hx with rfl | rfl
    · exact hIS
    · exact hDS
  refine codeAny_builtin F.entry_min_loop ?_
  rw [Around.under_plainId F.plain_min_loop _]
  show wpAny _ A.in1 (seqItems? (.ref S) >>= _) _ _ _
  refine wpAny_bind (wpAny_seqItems g2 rfl ?_)
  show wpAny _ A.in1 (tryCatch (pyNext (.ref s.heap.objs.size)) _ >>= _) _ _ _
  refine wpAny_bind (wpAny_tryCatch (W.item 0 _ _ _ (by show 0 < 2; decide) hst fun v h3 tk3 hP hst3 hk3 => ?_))
  obtain rfl : v = .ref a := by simpa using hP.symm
  have g3 := hk3 S _ (by simpa using Ne.symm hIS) g2
  have kk3 : ∀ x o, s.heap.get? x = some o → h3.get? x = some o := fun x o e => hk3 x o (by simpa using (lt x o e).1) (kk x o e)
  show wpAny _ A.in1 (updateSeq S (fun _ => #[.ref a, .ref a]) >>= _) _ _ _
  refine wpAny_bind (wpAny_updateSeq g3 rfl ?_)
  rw [hname]
  have g4 := Heap.get?_update_self (Obj.mapSeq fun _ => #[Value.ref a, Value.ref a]) g3 rfl
  have hst4 := W.frame 1 _ (h3.update S (Obj.mapSeq fun _ => #[Value.ref a, Value.ref a])) hst3 fun x hx o e => (Heap.get?_update_other _ _ (Ne.symm (fpS x hx))).trans e
  have kk4 : ∀ x o, s.heap.get? x = some o → (h3.update S (Obj.mapSeq fun _ => #[Value.ref a, Value.ref a])).get? x = some o := fun x o e => (Heap.get?_update_other _ _ (Ne.symm (lt x o e).2)).trans (kk3 x o e)
  refine wpAny_pure ⟨plainId_quiet F.plain_min_loop _, ?_⟩
  generalize (h3.update S (Obj.mapSeq fun _ => #[Value.ref a, Value.ref a])) = h4 at *
  refine codeAny_builtin F.entry_min_loop ?_
  rw [Around.under_plainId F.plain_min_loop _]
  show wpAny _ A.in1 (seqItems? (.ref S) >>= _) _ _ _
  refine wpAny_bind (wpAny_seqItems g4 rfl ?_)
  show wpAny _ A.in1 (tryCatch (pyNext (.ref s.heap.objs.size)) _ >>= _) _ _ _
  refine wpAny_bind (wpAny_tryCatch (W.item 1 _ _ _ (by show 1 < 2; decide) hst4 fun v h5 tk5 hP hst5 hk5 => ?_))
  obtain rfl : v = .ref b := by simpa using hP.symm
  have g5 := hk5 S _ (by simpa using Ne.symm hIS) g4
  have kk5 : ∀ x o, s.heap.get? x = some o → h5.get? x = some o := fun x o e => hk5 x o (by simpa using (lt x o e).1) (kk4 x o e)
  show wpAny _ A.in1 (tryCatch (holding [.ref b, .ref b] (richCompare .Lt (.ref b) (.ref a) >>= _)) _ >>= _) _ _ _
  refine wpAny_bind (wpAny_tryCatch (wpAny_holding (wpAny_bind (hcmp _ _ _ kk5 ?_))))
  refine wpAny_bind (wpAny_holding (wpAny_truthy_bool ?_))
  refine wpAny_bind (wpAny_letGo (wpAny_pure ?_))
  cases bt with
  | true =>
    simp only [if_true]
    refine wpAny_bind ?_
    refine wpAny_updateSeq g5 rfl (wpAny_bind (wpAny_letGo ?_))
    rw [hname]
    have g6 := Heap.get?_update_self (Obj.mapSeq fun _ => #[Value.ref b, Value.ref b]) g5 rfl
    refine wpAny_pure ⟨plainId_quiet F.plain_min_loop _, min_last W g6 hIS (W.frame 2 _ _ hst5 fun x hx o e => (Heap.get?_update_other _ _ (Ne.symm (fpS x hx))).trans e) fun h7 tk7 hk7 => ?_⟩
    exact h h7 tk7 fun x o e => hk7 x o (lt x o e).1 (lt x o e).2 ((Heap.get?_update_other _ _ (Ne.symm (lt x o e).2)).trans (kk5 x o e))
  | false =>
    simp only [Bool.false_eq_true, if_false]
    refine wpAny_bind (wpAny_letGo ?_)
    rw [hname]
    refine wpAny_pure ⟨plainId_quiet F.plain_min_loop _, min_last W g5 hIS hst5 fun h7 tk7 hk7 => ?_⟩
    exact h h7 tk7 fun x o e => hk7 x o (lt x o e).1 (lt x o e).2 (kk5 x o e)
theorem max_last {R : Result → Shared → Prop} {D I S : Addr} {vb : Value} {c : Nat} {its : Array Value} (W : Walks prog w A.in1 I [I, D] [I] its.size (fun i v => its[i]? = some v) (fun i h => h.IsListIter I D i ∧ h.IsList D its)) (hS : s.heap.get? S = some { cls := .type "list", dict := none, data := .seq #[vb, vb] c, slots := #[] }) (hIS : I ≠ S) (hst : s.heap.IsListIter I D its.size ∧ s.heap.IsList D its)
    (hR : ∀ h' tk, (∀ x o, x ≠ I → x ≠ S → s.heap.get? x = some o → h'.get? x = some o) → R (.ok (.ret vb)) { s with heap := h', toks := tk }) : codeAny (model prog w) A (.builtin "max.loop" ⟨[.ref I, .none, .ref S], []⟩) R s := by
  refine codeAny_builtin F.entry_max_loop ?_
  rw [Around.under_plainId F.plain_max_loop _]
  show wpAny _ A.in1 (seqItems? (.ref S) >>= _) _ _ _
  refine wpAny_bind (wpAny_seqItems hS rfl ?_)
  show wpAny _ A.in1 (tryCatch (pyNext (.ref I)) _ >>= _) _ _ _
  refine wpAny_bind (wpAny_tryCatch (W.done _ _ _ hst fun h' tk hk' => ?_))
  have hS' := hk' S _ (by simpa using Ne.symm hIS) hS
  show wpAny _ A.in1 (updateSeq S (fun _ => #[]) >>= _) _ _ _
  refine wpAny_bind (wpAny_updateSeq hS' rfl (wpAny_bind (wpAny_letGo (wpAny_pure ?_))))
  exact hR _ _ fun x o h1 h2 e => (Heap.get?_update_other _ _ (Ne.symm h2)).trans (hk' x o (by simpa using h1) e)
theorem max_two {D a b : Addr} {bt : Bool} {Q : Value → Shared → Prop} (hh : A.handled = none) (hD : s.heap.IsList D #[.ref a, .ref b])
    (hcmp : ∀ (s' : Shared) (Q' : Value → Shared → Prop) (E' : Value → Shared → Prop), (∀ x o, s.heap.get? x = some o → s'.heap.get? x = some o) → Q' (.bool bt) s' → wpAny (model prog w) A.in1 (richCompare .Gt (.ref b) (.ref a)) Q' E' s')
    (h : ∀ h' tk, (∀ x o, s.heap.get? x = some o → h'.get? x = some o) → Q (if bt = true then .ref b else .ref a) { s with heap := h', toks := tk }) :
    wpAny (model prog w) A (call (.builtin "max") [.ref D]) Q E s := by
  have hname : (toString "max" ++ toString ".loop" : String) = "max.loop" := by decide
  obtain ⟨oD, hoD, _⟩ := id hD
  have hDI : D ≠ s.heap.objs.size := Nat.ne_of_lt (Heap.lt_size hoD)
  refine call_function_tree F.kind_max F.plain_max F.entry_max (F.args_max1 _) ?_
  show wpAny _ A.in1 (Builtin.Builtins.bindParams "max" ["key", "default"] 0 ⟨[], []⟩ >>= _) _ _ s
  refine wpAny_bind (wpAny_of_eq (show Builtin.Builtins.bindParams "max" ["key", "default"] 0 ⟨[], []⟩ = pure [none, none] from rfl) ?_)
  refine wpAny_bind (wpAny_pure ?_)
  refine wpAny_bind (wpAny_pyIter_list hD ?_)
  refine wpAny_bind (wpAny_newObj_type ?_)
  have W := Walks.list (prog := prog) (w := w) (A := A.in1) hh s.heap.objs.size D hDI #[.ref a, .ref b]
  dsimp only
  generalize hH1 : s.heap.push { cls := .type "list_iterator", data := .fields #[.ref D, .int 0 0] } = H1
  have z1 : H1.objs.size = s.heap.objs.size + 1 := by rw [← hH1, Heap.size_push]
  have k1 : ∀ x o, s.heap.get? x = some o → H1.get? x = some o := fun x o e => hH1 ▸ Heap.get?_push_of_some _ e
  have g1 : H1.get? s.heap.objs.size = some { cls := .type "list_iterator", data := .fields #[.ref D, .int 0 0] } := hH1 ▸ Heap.get?_push_size _ rfl
  generalize hS : H1.objs.size = S
  have hIS : s.heap.objs.size ≠ S := by omega
  have lt : ∀ x o, s.heap.get? x = some o → @Ne Nat x s.heap.objs.size ∧ @Ne Nat x S := fun x o e => by
    have : @LT.lt Nat _ x s.heap.objs.size := Heap.lt_size e
    exact ⟨by omega, by omega⟩
  have hDS := (lt _ _ hoD).2
  have k2 : ∀ x o, H1.get? x = some o → (H1.push { cls := .type "list", data := .seq ([] : List Value).toArray }).get? x = some o := fun x o e => Heap.get?_push_of_some _ e
  have g2 : (H1.push { cls := .type "list", data := .seq ([] : List Value).toArray }).get? S = some { cls := .type "list", dict := none, data := .seq #[] 0, slots := #[] } := hS ▸ Heap.get?_push_size _ rfl
  have hst : (H1.push { cls := .type "list", data := .seq ([] : List Value).toArray }).IsListIter s.heap.objs.size D 0 ∧ (H1.push { cls := .type "list", data := .seq ([] : List Value).toArray }).IsList D #[.ref a, .ref b] := ⟨⟨_, k2 _ _ g1, rfl, rfl⟩, hD.at fun o e => k2 _ _ (k1 _ _ e)⟩
  have kk : ∀ x o, s.heap.get? x = some o → (H1.push { cls := .type "list", data := .seq ([] : List Value).toArray }).get? x = some o := fun x o e => k2 _ _ (k1 _ _ e)
  generalize (H1.push { cls := .type "list", data := .seq ([] : List Value).toArray }) = H2 at *
  rw [hname]
  refine wpAny_pure ⟨plainId_quiet F.plain_max_loop _, ?_⟩
  have fpS : ∀ x ∈ [s.heap.objs.size, D], x ≠ S := fun x hx => by
    simp at hx
    rcases hx with rfl | rfl
    · exact hIS
    · exact hDS
  refine codeAny_builtin F.entry_max_loop ?_
  rw [Around.under_plainId F.plain_max_loop _]
  show wpAny _ A.in1 (seqItems? (.ref S) >>= _) _ _ _
  refine wpAny_bind (wpAny_seqItems g2 rfl ?_)
  show wpAny _ A.in1 (tryCatch (pyNext (.ref s.heap.objs.size)) _ >>= _) _ _ _
  refine wpAny_bind (wpAny_tryCatch (W.item 0 _ _ _ (by show 0 < 2; decide) hst fun v h3 tk3 hP hst3 hk3 => ?_))
  obtain rfl : v = .ref a := by simpa using hP.symm
  have g3 := hk3 S _ (by simpa using Ne.symm hIS) g2
  have kk3 : ∀ x o, s.heap.get? x = some o → h3.get? x = some o := fun x o e => hk3 x o (by simpa using (lt x o e).1) (kk x o e)
  show wpAny _ A.in1 (updateSeq S (fun _ => #[.ref a, .ref a]) >>= _) _ _ _
  refine wpAny_bind (wpAny_updateSeq g3 rfl ?_)
  rw [hname]
  have g4 := Heap.get?_update_self (Obj.mapSeq fun _ => #[Value.ref a, Value.ref a]) g3 rfl
  have hst4 := W.frame 1 _ (h3.update S (Obj.mapSeq fun _ => #[Value.ref a, Value.ref a])) hst3 fun x hx o e => (Heap.get?_update_other _ _ (Ne.symm (fpS x hx))).trans e
  have kk4 : ∀ x o, s.heap.get? x = some o → (h3.update S (Obj.mapSeq fun _ => #[Value.ref a, Value.ref a])).get? x = some o := fun x o e => (Heap.get?_update_other _ _ (Ne.symm (lt x o e).2)).trans (kk3 x o e)
  refine wpAny_pure ⟨plainId_quiet F.plain_max_loop _, ?_⟩
  generalize (h3.update S (Obj.mapSeq fun _ => #[Value.ref a, Value.ref a])) = h4 at *
  refine codeAny_builtin F.entry_max_loop ?_
  rw [Around.under_plainId F.plain_max_loop _]
  show wpAny _ A.in1 (seqItems? (.ref S) >>= _) _ _ _
  refine wpAny_bind (wpAny_seqItems g4 rfl ?_)
  show wpAny _ A.in1 (tryCatch (pyNext (.ref s.heap.objs.size)) _ >>= _) _ _ _
  refine wpAny_bind (wpAny_tryCatch (W.item 1 _ _ _ (by show 1 < 2; decide) hst4 fun v h5 tk5 hP hst5 hk5 => ?_))
  obtain rfl : v = .ref b := by simpa using hP.symm
  have g5 := hk5 S _ (by simpa using Ne.symm hIS) g4
  have kk5 : ∀ x o, s.heap.get? x = some o → h5.get? x = some o := fun x o e => hk5 x o (by simpa using (lt x o e).1) (kk4 x o e)
  show wpAny _ A.in1 (tryCatch (holding [.ref b, .ref b] (richCompare .Gt (.ref b) (.ref a) >>= _)) _ >>= _) _ _ _
  refine wpAny_bind (wpAny_tryCatch (wpAny_holding (wpAny_bind (hcmp _ _ _ kk5 ?_))))
  refine wpAny_bind (wpAny_holding (wpAny_truthy_bool ?_))
  refine wpAny_bind (wpAny_letGo (wpAny_pure ?_))
  cases bt with
  | true =>
    simp only [if_true]
    refine wpAny_bind ?_
    refine wpAny_updateSeq g5 rfl (wpAny_bind (wpAny_letGo ?_))
    rw [hname]
    have g6 := Heap.get?_update_self (Obj.mapSeq fun _ => #[Value.ref b, Value.ref b]) g5 rfl
    refine wpAny_pure ⟨plainId_quiet F.plain_max_loop _, max_last W g6 hIS (W.frame 2 _ _ hst5 fun x hx o e => (Heap.get?_update_other _ _ (Ne.symm (fpS x hx))).trans e) fun h7 tk7 hk7 => ?_⟩
    exact h h7 tk7 fun x o e => hk7 x o (lt x o e).1 (lt x o e).2 ((Heap.get?_update_other _ _ (Ne.symm (lt x o e).2)).trans (kk5 x o e))
  | false =>
    simp only [Bool.false_eq_true, if_false]
    refine wpAny_bind (wpAny_letGo ?_)
    rw [hname]
    refine wpAny_pure ⟨plainId_quiet F.plain_max_loop _, max_last W g5 hIS hst5 fun h7 tk7 hk7 => ?_⟩
    exact h h7 tk7 fun x o e => hk7 x o (lt x o e).1 (lt x o e).2 (kk5 x o e)
end
end
section
open PySem PySem.W PyProof.Rows PySem.Spec PySem.Calls
set_option Elab.async false
set_option maxRecDepth 100000
set_option maxHeartbeats 1000000
theorem start_Cq : True := by w_top off; trivial
section
variable {prog : Program} {w : World} {A : Around} {E : Value → Shared → Prop} {s : Shared} {h₀ : Heap} {L : Addr} {m : Str → Option Value} {news : List (Addr × Obj)} {D a b : Addr} {vs us : List Value} {xs ys : List Str} {k n1 n2 : Nat}
theorem min_lists {Q : Value → Shared → Prop} (Fh : Fr h₀ L s.heap m) (N : News h₀ L s.heap news) (hD : (D, W.listOf #[Value.ref a, Value.ref b] k) ∈ news) (ha : (a, W.listOf vs.toArray n1) ∈ news) (hb : (b, W.listOf us.toArray n2) ∈ news)
    (hs : StrsAre vs xs) (hu : StrsAre us ys) (hlen : vs.length = us.length) (hh : A.handled = none) (hun : A.units + 4 < cLine)
    (h : ∀ h' tk, Fr h₀ L h' m → News h₀ L h' news → Q (if cmpF ltS ys xs = true then .ref b else .ref a) { s with heap := h', toks := tk }) : wpAny (model prog w) A (call (.builtin "min") [.ref D]) Q E s := by
  refine min_two hh ⟨_, N.get hD, rfl, _, rfl⟩ (bt := cmpF ltS ys xs) (fun s' Q' E' hk hq => ?_) fun h' tk hk => h h' tk (fr_ext Fh hk) (news_ext N hk)
  have eA := hk _ _ (N.get ha)
  have eB := hk _ _ (N.get hb)
  exact richCompare_meets_room (op := .Lt) ⟨_, eB, rfl⟩ ⟨_, eA, rfl⟩ F.slot_list_lt F.entry_list_lt (F.args_list_lt_2 _ _) (list_lt b a us vs n2 n1 ys xs hu hs hlen.symm)
    ⟨eB, eA, show Value.bool (cmpF ltS ys xs) ≠ Value.notImplemented ∧ Q' (.bool (cmpF ltS ys xs)) s' from ⟨(fun x => nomatch x), hq⟩⟩ (by show A.units + 1 < cLine; omega)
theorem max_lists {Q : Value → Shared → Prop} (Fh : Fr h₀ L s.heap m) (N : News h₀ L s.heap news) (hD : (D, W.listOf #[Value.ref a, Value.ref b] k) ∈ news) (ha : (a, W.listOf vs.toArray n1) ∈ news) (hb : (b, W.listOf us.toArray n2) ∈ news)
    (hs : StrsAre vs xs) (hu : StrsAre us ys) (hlen : vs.length = us.length) (hh : A.handled = none) (hun : A.units + 4 < cLine)
    (h : ∀ h' tk, Fr h₀ L h' m → News h₀ L h' news → Q (if cmpF gtS ys xs = true then .ref b else .ref a) { s with heap := h', toks := tk }) : wpAny (model prog w) A (call (.builtin "max") [.ref D]) Q E s := by
  refine max_two hh ⟨_, N.get hD, rfl, _, rfl⟩ (bt := cmpF gtS ys xs) (fun s' Q' E' hk hq => ?_) fun h' tk hk => h h' tk (fr_ext Fh hk) (news_ext N hk)
  have eA := hk _ _ (N.get ha)
  have eB := hk _ _ (N.get hb)
  exact richCompare_meets_room (op := .Gt) ⟨_, eB, rfl⟩ ⟨_, eA, rfl⟩ F.slot_list_gt F.entry_list_gt (F.args_list_gt_2 _ _) (list_gt b a us vs n2 n1 ys xs hu hs hlen.symm)
    ⟨eB, eA, show Value.bool (cmpF gtS ys xs) ≠ Value.notImplemented ∧ Q' (.bool (cmpF gtS ys xs)) s' from ⟨(fun x => nomatch x), hq⟩⟩ (by show A.units + 1 < cLine; omega)
theorem min_lists2 {Q : Value → Shared → Prop} (Fh : Fr h₀ L s.heap m) (N : News h₀ L s.heap news) (hD : (D, W.listOf #[Value.ref a, Value.ref b] k) ∈ news) (ha : (a, W.listOf vs.toArray n1) ∈ news) (hb : (b, W.listOf us.toArray n2) ∈ news)
    (hs : StrsAre vs xs) (hu : StrsAre us ys) (hlen : vs.length = us.length) (hh : A.handled = none) (hun : A.units + 4 < cLine)
    (h : ∀ r h' tk, r = (if cmpF ltS ys xs = true then b else a) → Fr h₀ L h' m → News h₀ L h' news → Q (.ref r) { s with heap := h', toks := tk }) : wpAny (model prog w) A (call (.builtin "min") [.ref D]) Q E s :=
  min_lists Fh N hD ha hb hs hu hlen hh hun fun h' tk F' N' => by
    have := h _ h' tk rfl F' N'
    by_cases e : cmpF ltS ys xs = true
    · rw [if_pos e] at this ⊢; exact this
    · rw [if_neg e] at this ⊢; exact this
theorem max_lists2 {Q : Value → Shared → Prop} (Fh : Fr h₀ L s.heap m) (N : News h₀ L s.heap news) (hD : (D, W.listOf #[Value.ref a, Value.ref b] k) ∈ news) (ha : (a, W.listOf vs.toArray n1) ∈ news) (hb : (b, W.listOf us.toArray n2) ∈ news)
    (hs : StrsAre vs xs) (hu : StrsAre us ys) (hlen : vs.length = us.length) (hh : A.handled = none) (hun : A.units + 4 < cLine)
    (h : ∀ r h' tk, r = (if cmpF gtS ys xs = true then b else a) → Fr h₀ L h' m → News h₀ L h' news → Q (.ref r) { s with heap := h', toks := tk }) : wpAny (model prog w) A (call (.builtin "max") [.ref D]) Q E s :=
  max_lists Fh N hD ha hb hs hu hlen hh hun fun h' tk F' N' => by
    have := h _ h' tk rfl F' N'
    by_cases e : cmpF gtS ys xs = true
    · rw [if_pos e] at this ⊢; exact this
    · rw [if_neg e] at this ⊢; exact this
end
end
section
open PySem PySem.W PyProof.Rows PySem.Spec PySem.Calls
set_option Elab.async false
set_option maxRecDepth 100000
set_option maxHeartbeats 1000000
theorem start_Lk : True := by w_top off; trivial
def lcpF : List Str → List Str → List Str
  | x :: xs, y :: ys => if x = y then x :: lcpF xs ys else []
  | _, _ => []
theorem str_ext {x y : Str} (h : x.cps.toList = y.cps.toList) : x = y := by
  obtain ⟨x⟩ := x
  obtain ⟨y⟩ := y
  congr 1
  exact Array.toList_inj.mp h
theorem ltgt {x y : Str} (h1 : ltS x y = false) (h2 : gtS x y = false) : x = y := by
  refine str_ext ?_
  exact List.le_antisymm (List.not_lt.mp (of_decide_eq_false h2)) (List.not_lt.mp (of_decide_eq_false h1))
theorem lt_gt {x y : Str} (h1 : ltS x y = true) (h2 : gtS x y = true) : False :=
  List.lt_irrefl _ (List.lt_trans (of_decide_eq_true h1) (of_decide_eq_true h2))
theorem cmp_ff : ∀ {xs ys : List Str}, xs.length = ys.length → cmpF ltS ys xs = false → cmpF gtS ys xs = false → xs = ys
  | [], [], _, _, _ => rfl
  | [], _ :: _, h, _, _ => by simp at h
  | _ :: _, [], h, _, _ => by simp at h
  | x :: xs, y :: ys, h, h1, h2 => by
    rw [cmpF] at h1 h2
    by_cases e : y = x
    · rw [if_pos e] at h1 h2
      rw [e, cmp_ff (by simpa using h) h1 h2]
    · rw [if_neg e] at h1 h2
      exact absurd (ltgt h1 h2) e
theorem cmp_tt : ∀ {xs ys : List Str}, cmpF ltS ys xs = true → cmpF gtS ys xs = true → False
  | [], ys, h1, _ => by cases ys <;> simp [cmpF] at h1
  | _ :: _, [], h1, _ => by simp [cmpF] at h1
  | x :: xs, y :: ys, h1, h2 => by
    rw [cmpF] at h1 h2
    by_cases e : y = x
    · rw [if_pos e] at h1 h2
      exact cmp_tt h1 h2
    · rw [if_neg e] at h1 h2
      exact lt_gt h1 h2
theorem lcp_comm : ∀ xs ys : List Str, lcpF xs ys = lcpF ys xs
  | [], [] => rfl
  | [], _ :: _ => rfl
  | _ :: _, [] => rfl
  | x :: xs, y :: ys => by
    rw [lcpF, lcpF]
    by_cases e : x = y
    · rw [if_pos e, if_pos e.symm, e, lcp_comm xs ys]
    · rw [if_neg e, if_neg (Ne.symm e)]
theorem lcp_sub : ∀ {xs ys : List Str} {z : Str}, z ∈ lcpF xs ys → z ∈ xs
  | [], _, _, h => by simp [lcpF] at h
  | _ :: _, [], _, h => by simp [lcpF] at h
  | x :: xs, y :: ys, z, h => by
    rw [lcpF] at h
    by_cases e : x = y
    · rw [if_pos e] at h
      rcases List.mem_cons.mp h with rfl | h
      · exact .head _
      · exact .tail _ (lcp_sub h)
    · rw [if_neg e] at h; cases h
theorem lcp_len : ∀ xs ys : List Str, (lcpF xs ys).length ≤ xs.length
  | [], _ => by simp [lcpF]
  | _ :: _, [] => by simp [lcpF]
  | x :: xs, y :: ys => by
    rw [lcpF]
    split
    · have := lcp_len xs ys; simp; exact this
    · simp
theorem lcp_all : ∀ {xs ys : List Str}, xs.length = ys.length → (∀ i, i ≤ xs.length → xs.take i = ys.take i) → lcpF xs ys = xs
  | [], _, _, _ => rfl
  | _ :: _, [], h, _ => by simp at h
  | x :: xs, y :: ys, h, ht => by
    have h1 := ht 1 (by simp)
    simp only [List.take_succ_cons, List.take_zero, List.cons.injEq, and_true] at h1
    subst h1
    rw [lcpF, if_pos rfl, lcp_all (by simpa using h) fun i hi => by
      have := ht (i + 1) (by simpa using hi)
      simpa using this]
theorem lcp_at : ∀ {xs ys : List Str} {i : Nat}, xs.take i = ys.take i → (hx : i < xs.length) → (hy : i < ys.length) → xs[i] ≠ ys[i] → lcpF xs ys = xs.take i
  | [], _, _, _, hx, _, _ => by simp at hx
  | _ :: _, [], _, _, _, hy, _ => by simp at hy
  | x :: xs, y :: ys, 0, _, _, _, hn => by
    rw [lcpF, if_neg (by simpa using hn)]; rfl
  | x :: xs, y :: ys, i + 1, ht, hx, hy, hn => by
    simp only [List.take_succ_cons, List.cons.injEq] at ht
    rw [lcpF, if_pos ht.1, lcp_at ht.2 (by simpa using hx) (by simpa using hy) (by simpa using hn)]
    rfl
theorem lcp_whole {xs ys : List Str} (hl : xs.length = ys.length) (h : xs.take xs.length = ys.take xs.length) : lcpF xs ys = xs := by
  rw [List.take_length, hl, List.take_length] at h
  subst h
  exact lcp_all rfl fun _ _ => rfl
theorem pick_lists {r1 r2 a b : Addr} {xs ys : List Str} (P : Addr → List Str → Prop) (hl : xs.length = ys.length) (e1 : r1 = if cmpF ltS ys xs = true then b else a) (e2 : r2 = if cmpF gtS ys xs = true then b else a) (ha : P a xs) (hb : P b ys) :
    ∃ x1 x2, P r1 x1 ∧ P r2 x2 ∧ x1.length = x2.length ∧ lcpF x1 x2 = lcpF xs ys := by
  cases h1 : cmpF ltS ys xs <;> cases h2 : cmpF gtS ys xs
  · rw [h1, if_neg Bool.false_ne_true] at e1
    rw [h2, if_neg Bool.false_ne_true] at e2
    subst e1 e2
    have := cmp_ff hl h1 h2
    subst this
    exact ⟨xs, xs, ha, ha, rfl, rfl⟩
  · rw [h1, if_neg Bool.false_ne_true] at e1
    rw [h2, if_pos rfl] at e2
    subst e1 e2
    exact ⟨xs, ys, ha, hb, hl, rfl⟩
  · rw [h1, if_pos rfl] at e1
    rw [h2, if_neg Bool.false_ne_true] at e2
    subst e1 e2
    exact ⟨ys, xs, hb, ha, hl.symm, lcp_comm _ _⟩
  · exact (cmp_tt h1 h2).elim
/-- two names are unknown, the third is known -/
theorem map2u1 {m m₀ : Str → Option Value} (k1 k2 k3 : Str) {v3 : Option Value} (h3 : m k3 = v3) (h : ∀ y, y ≠ k1 → y ≠ k2 → y ≠ k3 → m y = m₀ y) : ∃ u1 u2, m = fun y => if y = k1 then u1 else if y = k2 then u2 else if y = k3 then v3 else m₀ y := by
  refine ⟨m k1, m k2, ?_⟩
  funext y
  by_cases q1 : y = k1
  · subst q1; simp
  · by_cases q2 : y = k2
    · subst q2; simp [q1]
    · by_cases q3 : y = k3
      · subst q3; simp [q1, q2, h3]
      · simp [q1, q2, q3]; exact h y q1 q2 q3
theorem map2u {m m₀ : Str → Option Value} (k1 k2 : Str) (h : ∀ y, y ≠ k1 → y ≠ k2 → m y = m₀ y) : ∃ u1 u2, m = fun y => if y = k1 then u1 else if y = k2 then u2 else m₀ y := by
  refine ⟨m k1, m k2, ?_⟩
  funext y
  by_cases q1 : y = k1
  · subst q1; simp
  · by_cases q2 : y = k2
    · subst q2; simp [q1]
    · simp [q1, q2]; exact h y q1 q2

end
section
open PySem PySem.W PyProof.Rows PySem.Spec PySem.Calls
set_option Elab.async false
set_option maxRecDepth 100000
set_option maxHeartbeats 8000000
theorem start_Cp : True := by w_top off; trivial
section
variable {prog : Program} {w : World} {A : Around} {E : Value → Shared → Prop} {s : Shared} {h₀ : Heap} {L : Addr} {m : Str → Option Value} {news : List (Addr × Obj)}
theorem assign_set {prog : Program} {w : World} {A : Around} {E : Value → Shared → Prop} {s : Shared} {h₀ : Heap} {L D : Addr} {m : Str → Option Value} {news : List (Addr × Obj)} {env : Env} {x : Str} {px pos : Pos} {k : Nat} {Q : Unit → Shared → Prop}
    (F : Fr h₀ L s.heap m) (N : News h₀ L s.heap news) (hD : (D, setD1 (ledS w)) ∈ news) (hh : A.handled = none)
    (h : ∀ h' tk, Fr h₀ L h' m → News h₀ L h' news → wpAny (model prog w) A (storeName env x (.bool true)) Q E { s with heap := h', toks := tk }) :
    wpAny (model prog w) A (assign (.Tuple [.Name x px] k pos) env (.ref D)) Q E s := by
  rw [assign_Tuple]
  refine wpAny_bind (wpAny_standAt ?_)
  unfold unpack
  refine wpAny_bind (wpAny_holding ?_)
  refine set_unpack hh (N _ hD).1 fun h' tk hk => ?_
  have h1 := h h' tk (fr_ext F hk) (news_ext N hk)
  show wpAny _ _ (assignInOrder [fun v => assign (.Name x px) env v] [.bool true]) _ _ _
  unfold assignInOrder
  refine wpAny_bind (wpAny_holding (wpAny_assign_Name (wpAny_mono h1 (fun _ s' q => ?_) fun _ _ e => e)))
  exact wpAny_pure q
theorem split_len {x : Str} (hx : x.length ≤ 1000) : (Txt.split x (Str.ofString "/")).length ≤ 1003 := by
  have := split_le x (Str.ofString "/"); omega
theorem filt_snoc9 {α : Type} (p : α → Bool) (l : List α) (x : α) : (l ++ [x]).filter p = l.filter p ++ (if p x = true then [x] else []) := by
  rw [List.filter_append]
  cases h : p x <;> simp [h]
theorem two_get {x y v : Value} {i : Nat} (h : #[x, y][i]? = some v) : v = x ∨ v = y := by
  rcases i with _ | _ | i
  · left; simpa using h.symm
  · right; simpa using h.symm
  · simp at h
theorem splitL {x : Str} {t u : Tok} {Q : Value → Shared → Prop} (F : Fr h₀ L s.heap m) (N : News h₀ L s.heap news) (hx : x.length ≤ 1000)
    (h : ∀ D vs h' tk, Fr h₀ L h' m → News h₀ L h' ((D, W.listOf (List.toArray vs) 0) :: news) → (∀ q ∈ news, q.1 < D) → Hold (StrsAre vs (Txt.split x (Str.ofString "/"))) → Q (.ref D) { s with heap := h', toks := tk }) :
    wpAny (model prog w) A (call (.builtin "str.split") [.str x t, .str (Str.ofString "/") u]) Q E s :=
  splitN1A F N (by decide) (fun l h' k e S _ _ F' N' => h _ _ h' k F' N' (fun q hq => Heap.lt_size (N q hq).1) (e ▸ S)) (by rw [sizeLine_eq]; omega)
end
theorem news_one {h₀ h : Heap} {L : Addr} {news : List (Addr × Obj)} {p : Addr × Obj} (N : News h₀ L h news) (hp : p ∈ news) : News h₀ L h [p] := fun q hq => by rw [List.mem_singleton.mp hq]; exact N p hp
theorem news_three {h₀ h : Heap} {L : Addr} {p q r : Addr × Obj} (N1 : News h₀ L h [p]) (N2 : News h₀ L h [q]) (N3 : News h₀ L h [r]) : News h₀ L h [p, q, r] := (N1.append N2).append N3
theorem keep_parts {x : Str} (hx : x.length ≤ 1000) : ∀ z ∈ (Txt.split x (Str.ofString "/")).filter keepF, z.length ≤ 1000 := fun z hz =>
  Nat.le_trans (part_short (List.mem_filter.mp hz).1) hx
theorem keep_count {x : Str} (hx : x.length ≤ 1000) : ((Txt.split x (Str.ofString "/")).filter keepF).length ≤ 1003 := Nat.le_trans (List.length_filter_le _ _) (split_len hx)
theorem cend1 {h₀ : Heap} {L I C D : Addr} {m : Str → Option Value} {s₁ : Shared} {oI oC oD : Obj} {S : List (Addr × Obj) → Prop} {rest : Value → List (Addr × Obj) → Prop} {y : Value} {h' : Heap} {tk : Nat} {p : Addr × Obj} {r : List (Addr × Obj)}
    (F : Fr h₀ L h' m) (N : News h₀ L h' (p :: (I, oI) :: (C, oC) :: (D, oD) :: r)) (off : LCg.Off3 I C D (p :: r)) (hS : S (p :: r)) (hr : rest y (p :: r)) : LCg.CompEnd h₀ L m s₁ I oI C oC D oD S rest y { s₁ with heap := h', toks := tk } := by
  refine LCg.CompEnd.intro F N (p :: r) (fun q hq => ?_) off hS hr
  rcases List.mem_cons.mp hq with rfl | hq
  · exact .tail _ (.head _)
  · rcases List.mem_cons.mp hq with rfl | hq
    · exact .tail _ (.tail _ (.head _))
    · rcases List.mem_cons.mp hq with rfl | hq
      · exact .tail _ (.tail _ (.tail _ (.head _)))
      · rcases List.mem_cons.mp hq with rfl | hq
        · exact .head _
        · exact .tail _ (.tail _ (.tail _ (.tail _ hq)))
section
local macro_rules | `(tactic| walk_at "exec Assign cons ListComp") => `(tactic| walk_at "mine stop")
local macro_rules | `(tactic| lcg_src) => `(tactic| k_mem)
local macro_rules | `(tactic| walk_at "call type:enumerate") => `(tactic| walk_at "mine stop")
local macro_rules | `(tactic| walk_at "call builtin:min") => `(tactic| walk_at "mine stop")
local macro_rules | `(tactic| walk_at "call builtin:max") => `(tactic| walk_at "mine stop")
local macro_rules | `(tactic| walk_at "subscriptTail Name Name ref int") => `(tactic| walk_at "mine stop")
local macro_rules | `(tactic| walk_at "exec For Tuple Call cons nil") => `(tactic| walk_at "mine stop")
theorem reg_28 : True := by
  k_with "mine 28" => (k_here; (with_reducible show wpAny _ _ (call _ [Value.str _ _, Value.str _ _]) _ _ _); k_dflt (refine' splitL ?x1 ?x2 ?x3 ?_; (case x1 => k_asm); (case x2 => k_asm); (case x3 => assumption)); k_whole; intro D' vs' h' tk' F' N' l1 hS'; (try k_lt l1); (try k_sweep))
  trivial
local macro_rules | `(tactic| walk_at "call builtin:str.split") => `(tactic| walk_at "mine 28")
variable {w : World} {A : Around} {s : Shared} {mean : ExcName → Option Value} {mg mb : Str → Option Value} {Q E : Value → Shared → Prop}
theorem c_commonpath {x y : Str} {tx ty : Tok} {a : Addr} {n : Nat} (hl : s.heap.get? a = some (W.listOf [Value.str x tx, Value.str y ty].toArray n)) (X : (hd.heap_1 w.params).In s.heap) (T : Tp mean mg mb s.heap) (hdep : A.depth + 3 < recursionLimit) (hun : A.units + 60 < cLine) (hh : A.handled = none) (hx : x.length ≤ 1000) (hy : y.length ≤ 1000) (hxs : Txt.startswith x (Str.ofString "/") = true) (hys : Txt.startswith y (Str.ofString "/") = true) (hlenF : ((Txt.split x (Str.ofString "/")).filter keepF).length = ((Txt.split y (Str.ofString "/")).filter keepF).length)
    (h : ∀ t h' tk', Ext s.heap h' → Q (.str (Str.ofString "/" ++ Txt.join (Str.ofString "/") (lcpF ((Txt.split x (Str.ofString "/")).filter keepF) ((Txt.split y (Str.ofString "/")).filter keepF))) t) { s with heap := h', toks := tk' }) : wpAny (model P0 w) A (call (.ref 148) [.ref a]) Q E s := by
  obtain ⟨hd0, dp, fr, gd, un⟩ := A
  dsimp only at hh hdep hun
  subst hh
  refine' enterC (binds := [(Str.ofString "paths", .ref a)]) ?x1 ?x2 ?x3 ?x4 ?x5 ?x6 ?x7 ?x8 ?x9 ?x10 ?x11 ?_
  walk_at "mine enteredC"
  k_steps
  refine' call_map (items := [Value.str x tx, Value.str y ty].toArray) ?x1 ?_
  (case x1 => exact ⟨_, Fr.keep (by k_asm) _ _ hl, rfl, _, rfl⟩)
  intro h1 km kt ki kz kE
  k_steps
  refine' map_tuple (vs := [Value.str x tx, Value.str y ty]) (xs := [x, y]) ?x1 ?x2 ?x3 ?x4 ?x5 ?x6 ?x7 ?x8 kE km kt ki ?x9 ?_
  (case x1 => k_in)
  (case x2 => exact Top.keeps (by k_asm) (Fr.keep (by k_asm)))
  (case x3 => simp only [depth_in1, depth_deeper]; omega)
  (case x4 => simp only [units_in1, units_deeper]; omega)
  (case x5 => exact rfl)
  (case x6 => exact .cons _ _ (.cons _ _ .nil))
  (case x7 => exact ⟨_, Fr.keep (by k_asm) _ _ hl, rfl, _, rfl⟩)
  (case x8 => simp)
  (case x9 => exact Heap.get?_none_of_le (Nat.le_refl _))
  intro a2 h2 tk2 us2 kE2 kA kO kS
  clear km kt ki kz kE
  have N3 := news_new (by k_asm) (by k_asm) kE2 kA kO
  have l3 := news_ne (by k_asm) kA
  have F3 := fr_ext (by k_asm) kE2
  simp only [List.forall_mem_cons, List.forall_mem_nil, and_true] at l3
  obtain ⟨t1, t2, rfl⟩ := strs_two kS
  clear kS kA kO kE2
  k_sweep
  k_steps
  refine wpAny_Try_except ?_
  k_steps
  refine Hold.out ?_
  with_reducible rename Fr _ _ _ _ => Fa
  refine Assign_Tup Fa rfl (by with_unfolding_all rfl) (by with_unfolding_all rfl) (by decide) rfl (by decide) rfl rfl rfl ?_
  k_steps
  refine ⟨_, #[Value.str x t1, Value.str y t2], _, _, rfl, rfl, by k_asm, by k_asm, by k_mem, by rw [sizeLine_eq]; show 2 ≤ _; omega, ?_⟩
  rintro s2 ⟨g2, rfl⟩
  k_steps
  with_reducible rename Hold (StrsAre _ (Txt.split x _)) => hS1
  with_reducible rename Hold (StrsAre _ (Txt.split y _)) => hS2
  have hx1 := hx
  have hx2 := hy
  with_reducible rename (_ : Obj).data = Data.cell (some (Value.str (Str.ofString ".") _)) => hcur
  obtain ⟨tdc, hcur⟩ : ∃ t, (_ : Obj).data = Data.cell (some (Value.str (Str.ofString ".") t)) := ⟨_, hcur⟩
  refine wpAny_Try_except ?_
  k_steps
  with_reducible rename Fr _ _ _ _ => Fb
  refine SetComp_tup Fb (by with_unfolding_all rfl) (by decide) rfl (by decide) rfl ?_
  k_steps
  refine ⟨a2, #[Value.str x t1, Value.str y t2], _, _, rfl, rfl, by k_asm, by k_asm, by k_mem, by show 0 < 2; decide, ?_, ?_⟩
  · rintro i v I oI C oC D oD m₂ h9 tk9 hv hC hx9 F9 N9
    rcases two_get hv with rfl | rfl
    · k_steps
      refine cend (by k_asm) (by k_asm) (fun _ hp => hp) ?_
      rw [hxs]
    · k_steps
      refine cend (by k_asm) (by k_asm) (fun _ hp => hp) ?_
      rw [hys]
  intro D9 h9 tk9 F9 N9
  k_steps
  refine assign_set F9 N9 (.head _) rfl ?_
  intro h8 tk8 F8 N8
  clear F9 N9
  k_steps
  refine Hold.out ?_
  with_reducible rename Fr _ _ _ _ => Fc
  refine LCg.Assign_ListComp_U (F₀ := Fc) rfl (by with_unfolding_all rfl) (by with_unfolding_all rfl) (by decide) rfl (by decide) rfl rfl rfl ?_
  k_steps
  refine Hold.out ?_
  refine' LCg.CompSrc.ledger rfl ?F ?N ?hm ?hz ?_
  (case F => k_asm)
  (case N => k_asm)
  (case hm => k_mem)
  (case hz => rw [sizeLine_eq]; show 2 ≤ _; omega)
  intro g9
  k_steps
  refine Hold.out ?_
  have hvl1 := strs_len (Hold.out hS1)
  have hsl1 := split_len hx1
  refine' LCt.CompSrcT.ledger rfl ?F ?N ?hm ?hz ?_
  (case F => k_asm)
  (case N => k_asm)
  (case hm => k_mem)
  (case hz => exact sz_line (by omega))
  intro g9
  refine compT (fun i ys => StrsAre ys (((Txt.split x (Str.ofString "/")).take i).filter keepF)) (.inr ⟨_, by k_mem, rfl, _, rfl⟩) .nil ?_ ?_
  · rintro i v I oI C oC D m₂ ys h tk E' hin hP hG hC hx9 F9 N9
    obtain ⟨c, tc, rfl, hci⟩ := strs_get (Hold.out hS1) (by simpa using hP)
    replace hG := Hold.in hG
    have hcl : c.length ≤ 1000 := Nat.le_trans (part_short (List.mem_of_getElem? hci)) hx1
    refine keep_test (tc := tc) (td := tdc) (fun tk p Q' E' hq => LCgL.ld_own N9 (.tail _ (.head _)) hC hx9 hq) (fun tk p Q' E' hq => by exact lcf_cell N9 rfl (by k_mem) hcur hq (by rfl) (by rfl)) hcl fun tk => ?_
    cases hk9 : keepF c
    · k_steps
      refine cend (by k_asm) (by k_asm) (fun _ hp => hp) ?_
      rw [List.take_add_one, hci]
      show StrsAre _ ((List.take i (Txt.split x (Str.ofString "/")) ++ [c]).filter keepF)
      rw [filt_snoc9, hk9, if_neg Bool.false_ne_true, List.append_nil]
      exact Hold.out hG
    · k_steps
      refine cend (by k_asm) (by k_asm) (fun _ hp => hp) ?_
      rw [List.take_add_one, hci]
      show StrsAre _ ((List.take i (Txt.split x (Str.ofString "/")) ++ [c]).filter keepF)
      rw [filt_snoc9, hk9, if_pos rfl]
      exact strsSnoc (Hold.out hG)
  intro ys hG D h9 tk9 F9 N9 off9
  rw [List.size_toArray, hvl1, List.take_length] at hG
  have hG1 := Hold.in hG
  clear hG
  simp only [LCg.Off1, and_true] at off9
  have o8 := And.intro (Ne.symm off9.1) (And.intro (Ne.symm off9.2.1) (Ne.symm off9.2.2.1))
  refine cend1 F9 N9 ?_ ?_ ?_
  · simp only [LCg.Off3, and_true]
    exact And.intro o8 (by assumption)
  · lcg_src
  k_steps
  refine Hold.out ?_
  have hvl2 := strs_len (Hold.out hS2)
  have hsl2 := split_len hx2
  refine' LCt.CompSrcT.ledger rfl ?F ?N ?hm ?hz ?_
  (case F => k_asm)
  (case N => k_asm)
  (case hm => k_mem)
  (case hz => exact sz_line (by omega))
  intro g9
  refine compT (fun i ys => StrsAre ys (((Txt.split y (Str.ofString "/")).take i).filter keepF)) (.inr ⟨_, by k_mem, rfl, _, rfl⟩) .nil ?_ ?_
  · rintro i v I oI C oC D m₂ ys h tk E' hin hP hG hC hx9 F9 N9
    obtain ⟨c, tc, rfl, hci⟩ := strs_get (Hold.out hS2) (by simpa using hP)
    replace hG := Hold.in hG
    have hcl : c.length ≤ 1000 := Nat.le_trans (part_short (List.mem_of_getElem? hci)) hx2
    refine keep_test (tc := tc) (td := tdc) (fun tk p Q' E' hq => LCgL.ld_own N9 (.tail _ (.head _)) hC hx9 hq) (fun tk p Q' E' hq => by exact lcf_cell N9 rfl (by k_mem) hcur hq (by rfl) (by rfl)) hcl fun tk => ?_
    cases hk9 : keepF c
    · k_steps
      refine cend (by k_asm) (by k_asm) (fun _ hp => hp) ?_
      rw [List.take_add_one, hci]
      show StrsAre _ ((List.take i (Txt.split y (Str.ofString "/")) ++ [c]).filter keepF)
      rw [filt_snoc9, hk9, if_neg Bool.false_ne_true, List.append_nil]
      exact Hold.out hG
    · k_steps
      refine cend (by k_asm) (by k_asm) (fun _ hp => hp) ?_
      rw [List.take_add_one, hci]
      show StrsAre _ ((List.take i (Txt.split y (Str.ofString "/")) ++ [c]).filter keepF)
      rw [filt_snoc9, hk9, if_pos rfl]
      exact strsSnoc (Hold.out hG)
  intro ys hG D h9 tk9 F9 N9 off9
  rw [List.size_toArray, hvl2, List.take_length] at hG
  have hG2 := Hold.in hG
  clear hG
  simp only [LCg.Off1, and_true] at off9
  have o8 := And.intro (Ne.symm off9.1) (And.intro (Ne.symm off9.2.1) (Ne.symm off9.2.2.1))
  refine cend1 F9 N9 ?_ ?_ ?_
  · simp only [LCg.Off3, and_true]
    exact And.intro o8 (by assumption)
  · lcg_src
  k_steps
  refine Hold.out ?_
  with_reducible rename Fr _ _ _ _ => Fm
  with_reducible rename News _ _ _ _ => Nm
  have hG3 := Hold.out hG1
  have hG4 := Hold.out hG2
  have hG5 : _ = _ := (strs_len hG3).trans (hlenF.trans (strs_len hG4).symm)
  refine min_lists2 Fm Nm (.head _) (.tail _ (.tail _ (.head _))) (.tail _ (.head _)) hG3 hG4 hG5 rfl (by simp only [units_in1, units_deeper]; omega) ?_
  intro r1 h7 tk7 er1 F7 N7
  clear Fm Nm
  k_steps
  refine Hold.out ?_
  with_reducible rename Fr _ _ _ _ => Fm
  with_reducible rename News _ _ _ _ => Nm
  refine max_lists2 Fm Nm (.head _) (.tail _ (.tail _ (.head _))) (.tail _ (.head _)) hG3 hG4 hG5 rfl (by simp only [units_in1, units_deeper]; omega) ?_
  intro r2 h6 tk6 er2 F6 N6
  clear Fm Nm
  k_steps
  with_reducible rename Fr _ _ _ _ => Fz
  with_reducible rename News _ _ _ _ => Nz
  with_reducible rename (_ : Obj).data = Data.cell (some (Value.str (Str.ofString "/") _)) => hsepc
  obtain ⟨v1, v2, ⟨vs1, n1, hm1, hS1, hc1, hb1⟩, ⟨vs2, n2, hm2, hS2, hc2, hb2⟩, hl12, hlc⟩ := pick_lists (fun r zs => ∃ vs n, News s.heap _ _ [(r, W.listOf (List.toArray vs) n)] ∧ Hold (StrsAre vs zs) ∧ zs.length ≤ 1003 ∧ ∀ z ∈ zs, z.length ≤ 1000) hlenF er1 er2
    ⟨_, _, news_one Nz (.tail _ (.tail _ (.head _))), hG3, keep_count hx, keep_parts hx⟩ ⟨_, _, news_one Nz (.tail _ (.head _)), hG4, keep_count hy, keep_parts hy⟩
  have N9 := news_three hm1 hm2 (news_one Nz (.tail _ (.tail _ (.tail _ (.tail _ (.tail _ (.tail _ (.tail _ (.tail _ (.tail _ (.head _)))))))))))
  rw [← hlc] at h
  clear Nz hm1 hm2 er1 er2 hG1 hG2 hG3 hG4 hG5 hlenF hlc
  refine Hold.out ?_
  refine For_turns Fz ?_
  k_steps
  refine Hold.out ?_
  refine' for_enumM (J := fun m₀ i m => (∀ y, y ≠ Str.ofString "i" → y ≠ Str.ofString "c" → m y = m₀ y) ∧ v1.take i = v2.take i)
    (K := fun m₀ n₀ m n => ∃ D vsD kD, m (Str.ofString "common") = some (.ref D) ∧ (∀ y, y ≠ Str.ofString "i" → y ≠ Str.ofString "c" → y ≠ Str.ofString "common" → m y = m₀ y) ∧ (∃ p1 p2 a3 o3, n₀ = [p1, p2, (a3, o3)] ∧ n = [(D, W.listOf (List.toArray vsD) kD), p2, (a3, o3)]) ∧ Hold (StrsAre vsD (lcpF v1 v2))) ?hh ?F ?N ?hm ?y1 ?y2 ?y3 ?y4 ?y5 ?y6 ?y7
  (case hh => exact rfl)
  (case F => exact Fz)
  (case N => exact N9)
  (case hm => exact .head _)
  (case y1 => rfl)
  (case y2 => rfl)
  (case y3 => rfl)
  (case y4 => exact ⟨fun _ _ _ => rfl, rfl⟩)
  (case y5 =>
    rintro i v tv m₁ h9 tk9 its hv ⟨hm, ht⟩ hoff F9 N9
    obtain ⟨u1, u2, rfl⟩ := map2u (Str.ofString "i") (Str.ofString "c") hm
    obtain ⟨c, tc, rfl, hci⟩ := strs_get (Hold.out hS1) hv
    have hil : i < v1.length := by
      rcases Nat.lt_or_ge i v1.length with q | q
      · exact q
      · rw [List.getElem?_eq_none q] at hci; cases hci
    have hcl := hb1 c (List.mem_of_getElem? hci)
    have hvl1 := strs_len (Hold.out hS1)
    simp only [List.cons_append, List.nil_append] at N9
    clear hm hv
    k_steps
    refine Hold.out ?_
    refine item_strsR ⟨_, News.get (by k_asm) (by k_mem), rfl, _, rfl⟩ (Hold.out hS2) (by omega) (by omega) (by omega) ?_
    intro t5
    k_steps
    · have q : c ≠ v2.getD ((i : Nat) : Int).toNat Str.empty := bne_iff_ne.mp (by assumption)
      rw [Int.toNat_natCast] at q
      have hil2 : i < v2.length := by omega
      have hc9 : v1[i] = c := by rw [List.getElem?_eq_getElem hil] at hci; exact Option.some.inj hci
      have e9 : lcpF v1 v2 = v1.take i := lcp_at ht hil hil2 (by
        rw [hc9]
        intro q2
        apply q
        rw [List.getD_eq_getElem?_getD, List.getElem?_eq_getElem hil2, q2]; rfl)
      with_reducible rename Fr _ _ _ _ => F7
      with_reducible rename News _ _ _ _ => N7
      with_reducible rename Hold (StrsAre _ (List.take _ v1)) => hS7
      rename List Value => ws9
      show EPost _ _ _ _ _ _ _ _ .brk _
      refine ⟨_, _, _, _, rfl, F7, ?_, ⟨_, ws9, 0, rfl, fun y h1 h2 h3 => by simp only [if_neg h1, if_neg h2, if_neg h3], ⟨_, _, _, _, rfl, rfl⟩, ?_⟩⟩
      · exact fun p hp => N7 p (by
          rcases List.mem_cons.mp hp with rfl | hp
          · exact .head _
          · exact .tail _ (.tail _ (List.mem_append_left _ hp)))
      · rw [e9, ← Int.toNat_natCast i]; exact hS7
    · have q : (c != v2.getD ((i : Nat) : Int).toNat Str.empty) = false := by assumption
      have q1 : c = v2.getD i Str.empty := by simpa using q
      have hil2 : i < v2.length := by omega
      show EPost _ _ _ _ _ _ _ _ .next _
      refine ⟨_, _, _, rfl, F9, N9, fun y h1 h2 => by simp only [if_neg h1, if_neg h2], ?_⟩
      rw [List.take_add_one, List.take_add_one, ht, hci, List.getElem?_eq_getElem hil2]
      rw [List.getD_eq_getElem?_getD, List.getElem?_eq_getElem hil2] at q1
      rw [q1]; rfl)
  (case y6 =>
    rintro m ⟨hm, ht⟩
    rw [strs_len (Hold.out hS1)] at ht
    have q1 := hm (Str.ofString "common") (by decide) (by decide)
    simp only [if_true] at q1
    exact ⟨r1, vs1, n1, q1, fun y h1 h2 _ => hm y h1 h2, ⟨_, _, _, _, rfl, rfl⟩, (lcp_whole hl12 ht).symm ▸ hS1⟩)
  rintro m n h9 tk9 ⟨D, vsD, kD, hm1, hm2, ⟨p1, p2, a3, o3, hn0, rfl⟩, hSD⟩ F9 N9
  obtain ⟨-, hn1⟩ := List.cons.inj hn0
  obtain ⟨hn2, hn1⟩ := List.cons.inj hn1
  obtain ⟨hn1, -⟩ := List.cons.inj hn1
  obtain ⟨hn3, hn4⟩ := Prod.mk.inj hn1
  replace hn2 := hn2.symm
  replace hn3 := hn3.symm
  replace hn4 := hn4.symm
  subst hn2 hn3 hn4
  clear hn0 hn1
  obtain ⟨u1, u2, rfl⟩ := map2u1 (Str.ofString "i") (Str.ofString "c") (Str.ofString "common") hm1 hm2
  clear hm1 hm2
  dsimp only
  have hA2 : ∀ y ∈ lcpF v1 v2, y.length ≤ 1000 := fun y hy => hb1 y (lcp_sub hy)
  have hA1 := lcp_len v1 v2
  have hRoom := joinRoom (sep := Str.ofString "/") (by decide) (show (lcpF v1 v2).length ≤ 3000 by omega) hA2
  have hJl := joinLen (sep := Str.ofString "/") (by decide) (show (lcpF v1 v2).length ≤ 3000 by omega) hA2
  clear hA1 hA2
  k_steps
  exact h _ _ _ (Fr.keep (by k_asm))
end
end
section
open PySem PySem.W PyProof.Rows PySem.Spec PySem.Calls
set_option Elab.async false
set_option maxRecDepth 100000
set_option maxHeartbeats 4000000
theorem start_Gn1 : True := by w_top off; trivial
section
variable {M : Model} {A : Around} {R : GenEnd} {Y : Protocol} {n : Nat} {s₀ : Shared} {c : Code} {fs : List Frame} {s : Shared} {env : Env}
  {K : Flow → Sem Fin} {H : Value → Sem Fin} {gd : Bool → Bool} {lv : List Value → List Value}
/-- a statement that does not yield -/
theorem sg_stmt {st : Stmt} {rest : List Stmt}
    (h : wpAny M (A.over c fs) (exec st env) (fun f s' => Seg M A R Y n s₀ c (match f with | .next => (execs rest env).wrap K H gd lv | f => K f) fs s') (fun x s' => Seg M A R Y n s₀ c (H x) fs s') s) :
    Seg M A R Y n s₀ c ((execs (st :: rest) env).wrap K H gd lv) fs s := seg_execs_cons (seg_wrap h)
theorem sg_if {test : Expr} {body orelse : List Stmt} {pos : Pos} {K : Flow → Sem Fin}
    (h : wpAny M (A.over c fs) (isTrue test env (eval test env)) (fun b s' => Seg M A R Y n s₀ c ((if b = true then execs body env else execs orelse env).wrap K H gd lv) fs s') (fun x s' => Seg M A R Y n s₀ c (H x) fs s') s) :
    Seg M A R Y n s₀ c ((exec (.If test body orelse pos) env).wrap K H gd lv) fs s := by
  show Seg M A R Y n s₀ c (.at pos fun _ => ((isTrue test env (eval test env) >>= fun b => if b = true then execs body env else execs orelse env)).wrap K H gd lv) fs s
  refine seg_at ?_
  rw [Sem.bind_eq_wrap', Sem.wrap_wrap]
  exact seg_wrap h
theorem sg_for {target iter : Expr} {body : List Stmt} {pos : Pos} {K : Flow → Sem Fin} (hs : ∀ x, foldedSetIterable iter env x = pure x)
    (h : wpAny M (A.over c fs) (eval iter env) (fun x s' => wpAny M (A.over c fs) (pyIter x) (fun it s'' => ∀ p, Seg M A R Y n s₀ (.forLoop target it body [] env) (M.den (.forLoop target it body [] env))
      (.ret (fun r => ((match r with | .ok f => (.pure f : Sem Flow) | .error e => .raise e).onRaise fun (x : Value) => do
        if (← field x 1) == Value.none then unsupported "frame.own-activation:exception-without-traceback"
        setFlight x env.frame).wrap K H gd lv) none (gd false) (lv []) c p [] :: fs) s'') (fun x s' => Seg M A R Y n s₀ c (H x) fs s') s') (fun x s' => Seg M A R Y n s₀ c (H x) fs s') s) :
    Seg M A R Y n s₀ c ((exec (.For target iter body [] pos) env).wrap K H gd lv) fs s := by
  rw [exec_For]
  rw [Sem.bind_eq_wrap', Sem.wrap_wrap]
  refine seg_wrap (m := standAt pos) (wpAny_standAt ?_)
  rw [Sem.bind_eq_wrap', Sem.wrap_wrap]
  refine seg_wrap (wpAny_mono h (fun x s₁ h₁ => ?_) fun _ _ e => e)
  rw [hs, pure_bind]
  rw [Sem.bind_eq_wrap', Sem.wrap_wrap]
  refine seg_wrap (m := standAt iter.pos) (wpAny_standAt ?_)
  rw [Sem.bind_eq_wrap', Sem.wrap_wrap]
  refine seg_wrap (wpAny_holding (wpAny_mono h₁ (fun it s₂ h₂ => ?_) fun _ _ e => e))
  exact seg_call h₂
end
section
variable {prog : Program} {w : World} {A : Around} {R : GenEnd} {Y : Protocol} {n : Nat} {s₀ : Shared} {fs : List Frame} {s : Shared} {env : Env}
theorem sg_forLoop {target : Expr} {it : Value} {body : List Stmt} (ht : ∀ v, letOwnedTupleGo target it v = pure ()) (X : Value → Shared → Prop)
    (hX : ∀ x s', X x s' → Seg (model prog w) A R Y n s₀ (.forLoop target it body [] env) ((do noteFrame x env; theTreesLotGoes x : Sem Unit).wrap (fun _ => .raise x) .raise id id) fs s')
    (h : wpAny (model prog w) (A.over (.forLoop target it body [] env) fs) (pyNext it) (fun r s' => match r with
        | none => Seg (model prog w) A R Y n s₀ (.forLoop target it body [] env) (.pure (.again (.block [] env))) fs s'
        | some v => wpAny (model prog w) (A.over (.forLoop target it body [] env) fs) (assign target env v) (fun _ s'' => Seg (model prog w) A R Y n s₀ (.forLoop target it body [] env) ((execs body env).wrap (fun f => match f with
            | .next | .cont => .pure (.again (.forLoop target it body [] env))
            | .brk => .pure (.done .next)
            | .ret v => .pure (.done (.ret v))) (fun e => (do noteFrame e env; theTreesLotGoes e : Sem Unit).wrap (fun _ => .raise e) .raise id id) id id) fs s'') X s')
      X s) :
    Seg (model prog w) A R Y n s₀ (.forLoop target it body [] env) ((model prog w).den (.forLoop target it body [] env)) fs s := by
  show Seg _ A R Y n s₀ _ ((forTurn target it body [] env).onRaise (fun x => do noteFrame x env; theTreesLotGoes x)) fs s
  unfold forTurn
  have hH : ∀ e : Value, ((do noteFrame e env; theTreesLotGoes e : Sem Unit).bind fun _ => (.raise e : Sem Fin)) = (do noteFrame e env; theTreesLotGoes e : Sem Unit).wrap (fun _ => .raise e) .raise id id := fun e => by rw [Sem.bind_eq_wrap]
  rw [Sem.onRaise_eq_wrap, Sem.bind_eq_wrap', Sem.wrap_wrap]
  simp only [hH]
  refine seg_wrap (m := standAt _) (wpAny_standAt ?_)
  rw [Sem.bind_eq_wrap', Sem.wrap_wrap]
  refine seg_wrap (wpAny_onRaise (wpAny_mono h (fun r s₁ h₁ => ?_) fun x s₁ h₁ => wpAny_standAt (hX _ _ h₁)))
  cases r with
  | none => exact h₁
  | some v =>
    dsimp only
    rw [ht, pure_bind, Sem.bind_eq_wrap', Sem.wrap_wrap]
    refine seg_wrap (wpAny_mono h₁ (fun _ s₂ h₂ => ?_) fun x s₂ h₂ => hX _ _ h₂)
    rw [Sem.bind_eq_wrap', Sem.wrap_wrap]
    rw [Sem.wrap_congr (execs body env) _ _ (K' := fun f => match f with
            | .next | .cont => .pure (.again (.forLoop target it body [] env))
            | .brk => .pure (.done .next)
            | .ret v => .pure (.done (.ret v))) (H' := (fun e => (do noteFrame e env; theTreesLotGoes e : Sem Unit).wrap (fun _ => .raise e) .raise id id))
        (fun f => by cases f <;> rfl) (fun e => by first | rfl | (rw [show Sem.wrap Sem.pure _ _ _ (Sem.raise e) = _ from rfl]; rfl))]
    exact h₂
end
end
section
open PySem PySem.W PyProof.Rows PySem.Spec PySem.Calls
set_option Elab.async false
set_option maxRecDepth 100000
set_option maxHeartbeats 4000000
theorem start_Gn2 : True := by w_top off; trivial
/-- the j-th size that is told -/
def iv : List Int → Option Int → Nat → Option Int
  | [], _, _ => none
  | x :: r, last, j => if x = 127 then none else if x = 0 then last else match j with | 0 => some x | j + 1 => iv r (some x) j
theorem iv_stop {x : Int} {r : List Int} {lo : Option Int} {j : Nat} (h : x = 127) : iv (x :: r) lo j = none := by cases j <;> simp [iv, h]
theorem iv_rep {x : Int} {r : List Int} {lo : Option Int} {j : Nat} (h : x = 0) : iv (x :: r) lo j = lo := by cases j <;> simp [iv, h]
theorem iv_zero {x : Int} {r : List Int} {lo : Option Int} (h : x ≠ 127) (h0 : x ≠ 0) : iv (x :: r) lo 0 = some x := by simp [iv, h, h0]
theorem iv_succ {x : Int} {r : List Int} {lo : Option Int} {j : Nat} (h : x ≠ 127) (h0 : x ≠ 0) : iv (x :: r) lo (j + 1) = iv r (some x) j := by simp [iv, h, h0]
def Kp (L I : Addr) (s₀ s : Shared) : Prop := ∃ h tk, s = { s₀ with heap := h, toks := tk } ∧ ∀ b o, b ≠ L → b ≠ I → s₀.heap.get? b = some o → h.get? b = some o
def NoSeq (o : Obj) : Prop := ∀ a n, o.data ≠ .seq a n
def gY (h₀ : Heap) (L I : Addr) (ns : List Int) (N : Nat) : Protocol := fun m s₀ v s' kap => ∃ x t oL oI, v = .int x t ∧ iv ns none (N - 1 - m) = some x ∧ Kp L I s₀ s' ∧ s'.heap.get? L = some oL ∧ s'.heap.get? I = some oI ∧ NoSeq oL ∧ NoSeq oI ∧
  (m ≠ 0 → ∀ s'', s''.heap.get? L = some oL → s''.heap.get? I = some oI → Ext h₀ s''.heap → kap (.send .none) s'')
def gR (L I : Addr) (ns : List Int) (N : Nat) : GenEnd := fun n s₀ r s' => r = .ok (.ret .none) ∧ iv ns none (N - n) = none ∧ Kp L I s₀ s'
theorem seg_ind {M : Model} {A : Around} {R : GenEnd} {Y : Protocol} {c : Code} {fs : List Frame} (J : Nat → Nat → Shared → Shared → Prop)
    (step : ∀ k n s₀ s, J k n s₀ s → (∀ k' n' s₀' s', k' < k → J k' n' s₀' s' → Seg M A R Y n' s₀' c (M.den c) fs s') → Seg M A R Y n s₀ c (M.den c) fs s) {k n : Nat} {s₀ s : Shared} (h : J k n s₀ s) : Seg M A R Y n s₀ c (M.den c) fs s := by
  have key : ∀ m k, k < m → ∀ n s₀ s, J k n s₀ s → Seg M A R Y n s₀ c (M.den c) fs s := by
    intro m
    induction m with
    | zero => intro k hk; exact absurd hk (Nat.not_lt_zero _)
    | succ m ih => exact fun k hk n s₀ s hJ => step k n s₀ s hJ fun k' n' s₀' s' hk' hJ' => ih k' (by omega) n' s₀' s' hJ'
  exact key (k + 1) k (Nat.lt_succ_self _) n s₀ s h
section
variable {w : World} {A : Around} {s : Shared} {mean : ExcName → Option Value} {mg mb : Str → Option Value} {Q E : Value → Shared → Prop}
/-- calling a generator function -/
theorem enterG {name qual : Str} {params : Arguments} {body : List Stmt} {scope : Scope} {dV kV doc pm cdv ct oc : Value} {an od : Option Addr} {osl : Array (Option Value)} {f : Addr} {args : List Value} {binds : List (Str × Value)}
    (X : (hd.heap_1 w.params).In s.heap) (T : Tp mean mg mb s.heap) (hroom : A.depth < recursionLimit)
    (ho : (hd.heap_1 w.params).lookup f = some ⟨oc, od, .func (fnOf name qual params body scope dV kV doc pm an cdv ct), osl⟩) (hcd : codeIn (hd.heap_1 w.params) cdv qual = true)
    (hbind : bindArgs (fnOf name qual params body scope dV kV doc pm an cdv ct) ⟨args, []⟩ = pure binds) (hloc : ∀ y ∈ binds, scope.names.lookup y.1 = some .local)
    (hcell : ∀ x ∈ scope.names, x.2 ≠ .cell) (hco : scope.isCoroutine = false) (hgen : scope.isGenerator = true) (hk : scope.kind = .function)
    (h : ∀ L a h₁ tk, Fr s.heap L h₁ (fun y => binds.reverse.lookup y) → h₁.IsGen a s.gens.size → a ≠ L → s.heap.get? a = none → 
      Q (.ref a) { s with heap := h₁, toks := tk, gens := s.gens.push (.fresh (.func body (envOf qual scope L f cdv))) }) : wpAny (model P0 w) A (call (.ref f) args) Q E s := by
  refine wpAny_call ?_
  refine codeAny_call_generator (fd := fnOf name qual params body scope dV kV doc pm an cdv ct) (body := body) hroom (X _ _ ho) rfl hco hgen rfl (codeRec_of X hcd) ?_
  rw [hbind]
  refine wpAny_pure ?_
  refine wpAny_newFunctionEnv hcell hloc (fun h₀ hns₀ hsb₀ => ⟨T.nolimit.fresh _ hsb₀, ?_⟩) hk
  have e1 : ∀ b o, s.heap.get? b = some o → h₀.get? b = some o := fun b o e => hsb₀.extBut b o (Nat.ne_of_lt (Heap.lt_size e)) (Heap.get?_push_of_some _ e)
  have hL : s.heap.objs.size < h₀.objs.size := by
    obtain ⟨o, _, _, e, _⟩ := hns₀
    exact Heap.lt_size e
  refine h s.heap.objs.size h₀.objs.size _ _ ⟨hns₀.push _, fun b o e => Heap.get?_push_of_some _ (e1 b o e), Nat.le_refl _⟩ ⟨_, _, _, Heap.get?_push_size _ rfl, rfl, rfl, rfl⟩ (Nat.ne_of_gt hL) ?_
  exact Heap.get?_none_of_le (Nat.le_of_lt hL)
end
end
section
open PySem PySem.W PyProof.Rows PySem.Spec PySem.Calls
set_option Elab.async false
set_option maxRecDepth 100000
set_option maxHeartbeats 4000000
theorem start_Gn3 : True := by w_top off; trivial
def OwnAt (h₀ h : Heap) (L I : Addr) (own : List (Addr × Obj)) : Prop := (∀ p ∈ own, p.1 ≠ I) ∧ ∀ b o, b ≠ L → b ≠ I → h.get? b = some o → h₀.get? b = some o ∨ (b, o) ∈ own
theorem own_at {h₀ h : Heap} (L I : Addr) (x : Ext h₀ h) : ∃ own, OwnAt h₀ h L I own ∧ News h₀ L h own := by
  refine ⟨ownOf h₀ ((List.range h.objs.size).filter fun b => b ≠ L ∧ b ≠ I) h, ⟨fun p hp => ?_, fun b o h1 h2 e => ?_⟩, news_ownOf (by simp)⟩
  · have := ownOf_sub p hp
    simp at this; exact this.2.2
  · cases q : h₀.get? b with
    | some o' => have := x _ _ q; rw [e] at this; exact .inl this.symm
    | none => exact .inr (mem_ownOf (by simp [h1, h2]; exact Heap.lt_size e) q e)
theorem kp_of {h₀ h' : Heap} {s₀ : Shared} {L I : Addr} {own all : List (Addr × Obj)} {tk : Nat} (hO : OwnAt h₀ s₀.heap L I own) (hk : Ext h₀ h') (N : News h₀ L h' all) (sub : ∀ p ∈ own, p ∈ all) : Kp L I s₀ { s₀ with heap := h', toks := tk } :=
  ⟨h', tk, rfl, fun b o h1 h2 e => (hO.2 b o h1 h2 e).elim (hk b o) fun hm => (N _ (sub _ hm)).1⟩
theorem ints_get {vs : List Value} {bs : List Int} (hs : IntsAre vs bs) : ∀ {i : Nat} {v : Value}, vs[i]? = some v → ∃ b t, v = .int b t ∧ bs[i]? = some b := by
  induction hs with
  | nil => intro i v e; simp at e
  | cons y t _ ih =>
    intro i v e
    cases i with
    | zero => simp at e; exact ⟨y, t, e.symm, by simp⟩
    | succ i => simp at e; obtain ⟨b, t', e1, e2⟩ := ih e; exact ⟨b, t', e1, by simpa using e2⟩
section
variable {w : World} {A : Around} {s : Shared} {mean : ExcName → Option Value} {mg mb : Str → Option Value} {Q E : Value → Shared → Prop}
theorem c_gen {h₀ : Heap} {Lc : Addr} {mc : Str → Option Value} {l : Addr} {vs : List Value} {ns : List Int} (F₀ : Fr h₀ Lc s.heap mc) (X : (hd.heap_1 w.params).In h₀) (T : Tp mean mg mb h₀) (hdep : A.depth + 2 < recursionLimit)
    (hl : h₀.IsList l vs.toArray) (hi : IntsAre vs ns) (hn : ns.length ≤ 8) (hz : ns.head? ≠ some 0)
    (h : ∀ L a h₁ tk gs oL, s.heap.get? L = none → Ext s.heap h₁ → h₁.IsGen a s.gens.size → a ≠ L → s.heap.get? a = none → h₁.get? L = some oL → NoSeq oL →
      (∀ A' : Around, A'.handled = none → ∀ s' : Shared, Ext h₀ s'.heap → s'.heap.get? L = some oL → Seg (model P0 w) A' (gR L s'.heap.objs.size ns 16) (gY h₀ L s'.heap.objs.size ns 16) 16 s' gs ((model P0 w).den gs) [] s') →
      Q (.ref a) { s with heap := h₁, toks := tk, gens := s.gens.push (.fresh gs) }) : wpAny (model P0 w) A (call (.ref 28) [.ref l]) Q E s := by
  have X' : (hd.heap_1 w.params).In s.heap := X.keeps F₀.keep
  have T' := Top.keeps T F₀.keep
  refine' enterG (binds := [(Str.ofString "grouping", .ref l)]) ?x1 ?x2 ?x3 ?x4 ?x5 ?x6 ?x7 ?x8 ?x9 ?x10 ?x11 ?_
  (case x1 => k_asm); (case x2 => k_asm); (case x3 => first | omega | (dsimp only; omega)); (case x4 => k_dflt k_is); (case x5 => k_dflt k_is); (case x6 => rfl); (case x7 => exact locs rfl); (case x8 => decide); (case x9 => exact rfl); (case x10 => exact rfl); (case x11 => exact rfl)
  intro L a h₁ tk F hg haL ha
  obtain ⟨oL, _, _, hoL, hLd, -⟩ := id F.ns
  refine h L a h₁ tk _ oL (Heap.get?_none_of_le F.above) F.keep hg haL ha hoL (fun _ _ q => by rw [hLd] at q; cases q) fun A' hh s' hx hL => ?_
  clear h
  obtain ⟨hd0, dp, fr, gd, un⟩ := A'
  dsimp only at hh
  subst hh
  refine seg_func ?_
  have F' : Fr h₀ L s'.heap (fun y => [(Str.ofString "grouping", Value.ref l)].reverse.lookup y) := ⟨F.ns.at' fun o e => by rw [hoL] at e; cases e; exact hL, hx, Nat.le_trans (Nat.le_of_lt (Nat.lt_of_le_of_lt F₀.above F₀.ns.lt)) F.above⟩
  clear F hL F₀ X' T'
  obtain ⟨own, hO, N'⟩ := own_at (h := s'.heap) L s'.heap.objs.size hx
  have hlI : l ≠ s'.heap.objs.size := by
    obtain ⟨o, e, _⟩ := hl
    exact Nat.ne_of_lt (Heap.lt_size (hx _ _ e))
  have hLI : L ≠ s'.heap.objs.size := Nat.ne_of_lt F'.ns.lt
  have hI0 : h₀.get? s'.heap.objs.size = none := fresh_none F'
  refine sg_stmt (wpAny_Assign_Name (wpAny_Constant_none (wpAny_storeName_local rfl F'.ns (fun h₂ hn₂ hs₂ => ?_) rfl)) rfl)
  have F2 := F'.set hn₂ hs₂
  have N2 := N'.set hs₂
  have hsz : h₂.objs.size = s'.heap.objs.size := hs₂.1
  refine seg_execs_cons (sg_for (fun _ => rfl) ?_)
  have N3 : News h₀ L h₂ own := N2
  have F3 := F2
  clear N2 F2 F' N'
  k_steps
  refine wpAny_pyIter_list (items := vs.toArray) (hl.at fun o e => Fr.keep F3 _ _ e) ?_
  intro pz
  dsimp only at hsz ⊢
  rw [hsz]
  generalize hIe : s'.heap.objs.size = I at *
  have hpI : ∀ b o, h₂.get? b = some o → (h₂.push { cls := Value.type "list_iterator", data := Data.fields #[Value.ref l, Value.int 0 0] }).get? b = some o := fun b o e => Heap.get?_push_of_some _ e
  have F4 := fr_ext F3 hpI
  have N4 := news_ext N3 hpI
  have hit : (h₂.push { cls := Value.type "list_iterator", data := Data.fields #[Value.ref l, Value.int 0 0] }).get? I = some (itObj l 0) := by rw [← hsz]; exact Heap.get?_push_size _ rfl
  generalize (h₂.push { cls := Value.type "list_iterator", data := Data.fields #[Value.ref l, Value.int 0 0] }) = h₄ at *
  refine seg_ind (fun k n s₀ s₁ => ∃ i lv u own h₅ tk₅, k = ns.length - i ∧ i ≤ ns.length ∧ n = 16 - i ∧ s₁ = { s₀ with heap := h₅, toks := tk₅ } ∧ OwnAt h₀ s₀.heap L I own ∧
    Fr h₀ L h₅ (fun y => if y = Str.ofString "interval" then u else if y = Str.ofString "last_interval" then some lv else List.lookup y [(Str.ofString "grouping", Value.ref l)].reverse) ∧ News h₀ L h₅ own ∧ h₅.IsListIter I l i ∧
    (∃ lo, (∀ j, iv ns none (i + j) = iv (ns.drop i) lo j) ∧ ((lo = none ∧ lv = .none ∧ i = 0) ∨ ∃ x t, lo = some x ∧ lv = .int x t))) ?_ (k := ns.length) ⟨0, .none, none, own, h₄, _, rfl, Nat.zero_le _, rfl, rfl, hO, ?_, N4, ⟨_, hit, rfl, rfl⟩, none, fun j => by simp, .inl ⟨rfl, rfl, rfl⟩⟩
  · clear N4 F4 hpI hit hsz N3 F3 hs₂ hn₂ hO hIe hoL hg ha haL
    clear own
    rintro k n s₀ s₁ ⟨i, lv, u, own, h₅, tk₅, rfl, hiN, rfl, rfl, hO, F5, N5, hit5, lo, hlo, hlv⟩ IH
    refine sg_forLoop (fun _ => rfl) (fun _ _ => False) (fun _ _ q => q.elim) ?_
    have hl5 : h₅.IsList l vs.toArray := hl.at fun o e => F5.keep _ _ e
    by_cases hlt : i < vs.toArray.size
    · refine (Walks.list rfl I l hlI vs.toArray).item i _ _ _ hlt ⟨hit5, hl5⟩ ?_
      intro v h₆ tk₆ hv hst hk6
      have F6 := LCg.fr_but F5 hk6 hLI hI0
      have N6 := LCg.news_but N5 hk6 hO.1
      obtain ⟨⟨oI, hoI, hcI⟩, hl6⟩ := hst
      have N7 : News h₀ L h₆ ((I, oI) :: own) := fun p hp => by
        rcases List.mem_cons.mp hp with rfl | hp
        · exact ⟨hoI, Ne.symm hLI, hI0⟩
        · exact N6 p hp
      obtain ⟨x, t, rfl, hxi⟩ := ints_get hi (by simpa using hv)
      have hd : ns.drop i = x :: ns.drop (i + 1) := by
        obtain ⟨hi', rfl⟩ := List.getElem?_eq_some_iff.mp hxi
        exact List.drop_eq_getElem_cons hi'
      rw [hd] at hlo
      clear N5 F5 N6 hit5 hl5 hk6
      k_steps
      refine sg_stmt ?_
      k_steps
      · have h127 : x = 127 := by assumption
        refine seg_leaf (.ok (.ret .none)) ?_
        refine seg_end (.ok (.ret .none)) ⟨rfl, ?_, kp_of hO (Fr.keep (by k_asm)) (by k_asm) (fun p hp => .tail _ hp)⟩
        rw [show 16 - (16 - i) = i + 0 by omega, hlo, iv_stop h127]
      have h127 : x ≠ 127 := by assumption
      refine seg_execs_cons (sg_if ?_)
      k_steps
      by_cases h0 : x = 0
      · rcases hlv with ⟨rfl, -, rfl⟩ | ⟨y, ty, rfl, rfl⟩
        · subst h0
          exact absurd (by rw [← List.head?_eq_getElem?] at hxi; exact hxi) hz
        rw [if_pos (by simpa using h0)]
        refine sg_stmt ?_
        k_steps
        refine seg_execs_cons (seg_While fun p => ?_)
        have hiv : ∀ j, iv ns none (i + j) = some y := fun j => by rw [hlo, iv_rep h0]
        clear IH hlo
        with_reducible rename Fr _ _ _ _ => F8
        with_reducible rename News _ _ _ _ => N8
        refine seg_ind (fun k n s₀ s₁ => ∃ own h₅ tk₅, k = n ∧ 1 ≤ n ∧ n ≤ 16 - i ∧ s₁ = { s₀ with heap := h₅, toks := tk₅ } ∧ OwnAt h₀ s₀.heap L I own ∧
          Fr h₀ L h₅ (fun y_1 => if y_1 = Str.ofString "interval" then some (Value.int x t) else if y_1 = Str.ofString "interval" then u else if y_1 = Str.ofString "last_interval" then some (Value.int y ty) else List.lookup y_1 [(Str.ofString "grouping", Value.ref l)].reverse) ∧ News h₀ L h₅ ((I, oI) :: own)) ?_ (k := 16 - i) ⟨own, _, _, rfl, by omega, by omega, rfl, hO, F8, N8⟩
        clear F8 N8 hO
        clear own
        rintro k n s₀ s₁ ⟨own, h₅, tk₅, hkn, hn1, hn2, rfl, hO, F8, N8⟩ IH
        subst hkn
        obtain ⟨m, rfl⟩ : ∃ m, k = m + 1 := ⟨k - 1, by omega⟩
        refine seg_whileLoop ?_
        k_steps
        refine seg_execs_cons (seg_Expr_Yield rfl rfl rfl ?_)
        k_steps
        rename_i kap hk
        with_reducible rename Fr _ _ _ _ => F9
        with_reducible rename News _ _ _ _ => N9
        obtain ⟨oL', es', ep', hoL', hn'⟩ := id F9.ns
        refine ⟨y, ty, oL', oI, rfl, ?_, kp_of hO F9.keep N9 (fun p hp => .tail _ hp), hoL', N9.get (.head _), (fun _ _ q => by rw [hn'.1] at q; cases q), (fun _ _ q => by rw [hcI.2] at q; cases q), fun hm s'' e1 e2 e3 => hk .none s'' ?_⟩
        · rw [show 16 - 1 - m = i + (16 - 1 - m - i) by omega]; exact hiv _
        show Seg _ _ _ _ m s'' _ _ _ s''
        refine seg_again rfl ?_
        obtain ⟨own', hO', N10⟩ := own_at (h := s''.heap) L I e3
        refine IH m m s'' s'' (Nat.lt_succ_self _) ⟨own', s''.heap, s''.toks, rfl, by omega, by omega, rfl, hO', ⟨⟨oL', es', ep', e1, hn'⟩, e3, F9.above⟩, ?_⟩
        intro p hp
        rcases List.mem_cons.mp hp with rfl | hp
        · exact ⟨e2, Ne.symm hLI, hI0⟩
        · exact N10 p hp
      · rw [if_neg (by simpa using h0)]
        refine seg_execs_nil ?_
        obtain ⟨m, hm⟩ : ∃ m, 16 - i = m + 1 := ⟨16 - i - 1, by omega⟩
        rw [hm]
        refine seg_execs_cons (seg_Expr_Yield rfl rfl rfl ?_)
        k_steps
        rename_i kap hk
        with_reducible rename Fr _ _ _ _ => F9
        with_reducible rename News _ _ _ _ => N9
        obtain ⟨oL', es', ep', hoL', hn'⟩ := id F9.ns
        refine ⟨x, t, oL', oI, rfl, ?_, kp_of hO F9.keep N9 (fun p hp => .tail _ hp), hoL', N9.get (.head _), (fun _ _ q => by rw [hn'.1] at q; cases q), (fun _ _ q => by rw [hcI.2] at q; cases q), fun hm' s'' e1 e2 e3 => hk .none s'' ?_⟩
        · rw [show 16 - 1 - m = i + 0 by omega, hlo, iv_zero h127 h0]
        show Seg _ _ _ _ m s'' _ _ _ s''
        obtain ⟨own', hO', N10⟩ := own_at (h := s''.heap) L I e3
        have F10 : Fr h₀ L s''.heap (fun y => if y = Str.ofString "interval" then some (Value.int x t) else if y = Str.ofString "interval" then u else if y = Str.ofString "last_interval" then some lv else List.lookup y [(Str.ofString "grouping", Value.ref l)].reverse) := ⟨⟨oL', es', ep', e1, hn'⟩, e3, F9.above⟩
        have N11 : News h₀ L s''.heap ((I, oI) :: own') := fun p hp => by
          rcases List.mem_cons.mp hp with rfl | hp
          · exact ⟨e2, Ne.symm hLI, hI0⟩
          · exact N10 p hp
        clear F9 N9 hO hk
        refine sg_stmt ?_
        k_steps
        refine seg_execs_nil ?_
        refine seg_again rfl ?_
        with_reducible rename Fr _ _ _ _ => F9
        with_reducible rename News _ _ _ _ => N9
        refine IH (ns.length - (i + 1)) m s'' _ (by simp at hlt; have := hi.length; omega) ⟨i + 1, .int x t, some (.int x t), own', _, _, rfl, ?_, by omega, rfl, hO', ?_, fun p hp => N9 p (.tail _ hp), ⟨oI, N9.get (.head _), hcI⟩, some x, fun j => ?_, .inr ⟨x, t, rfl, rfl⟩⟩
        · simp at hlt; have := hi.length; omega
        · have e : (fun y => if y = Str.ofString "interval" then some (Value.int x t) else if y = Str.ofString "last_interval" then some (Value.int x t) else List.lookup y [(Str.ofString "grouping", Value.ref l)].reverse) = (fun y => if y = Str.ofString "last_interval" then some (Value.int x t) else if y = Str.ofString "interval" then some (Value.int x t) else if y = Str.ofString "interval" then u else if y = Str.ofString "last_interval" then some lv else List.lookup y [(Str.ofString "grouping", Value.ref l)].reverse) := by
            funext y
            by_cases q1 : y = Str.ofString "interval"
            · subst q1; rfl
            · by_cases q2 : y = Str.ofString "last_interval"
              · subst q2; rfl
              · simp only [if_neg q1, if_neg q2]
          rw [e]; exact F9
        · rw [show i + 1 + j = i + (j + 1) by omega, hlo, iv_succ h127 h0]
    · obtain rfl : i = ns.length := by have := hi.length; simp at hlt; omega
      have hvn : ns.length = vs.toArray.size := by have := hi.length; simp; omega
      rw [hvn] at hit5
      refine (Walks.list rfl I l hlI vs.toArray).done _ _ _ ⟨hit5, hl5⟩ ?_
      intro h₆ tk₆ hk6
      refine seg_again rfl ?_
      refine seg_leaf (.ok .next) ?_
      refine seg_end (.ok (.ret .none)) ⟨rfl, ?_, kp_of (h' := h₆) hO (LCg.fr_but F5 hk6 hLI hI0).keep (LCg.news_but N5 hk6 hO.1) (fun _ hp => hp)⟩
      rw [show 16 - (16 - ns.length) = ns.length + 0 by omega, hlo, List.drop_length]
      rfl
  · have e : (fun y => if y = Str.ofString "interval" then none else if y = Str.ofString "last_interval" then some Value.none else List.lookup y [(Str.ofString "grouping", Value.ref l)].reverse) = (fun x => if x = Str.ofString "last_interval" then some Value.none else List.lookup x [(Str.ofString "grouping", Value.ref l)].reverse) := by
      funext y
      by_cases h1 : y = Str.ofString "interval"
      · subst h1; rfl
      · rw [if_neg h1]
    rw [e]; exact F4
end
end
section
open PySem PySem.W PyProof.Rows PySem.Spec PySem.Calls
set_option Elab.async false
set_option maxRecDepth 100000
set_option maxHeartbeats 4000000
theorem start_Gn4 : True := by w_top off; trivial
section
variable {prog : Program} {w : World} {A : Around} {E : Value → Shared → Prop} {s : Shared}
theorem next_gen {a : Addr} {g n : Nat} {gs : GenState} {P : Nat → Shared → Shared → Prop} {Y : Protocol} {Q : Option Value → Shared → Prop} (hh : A.handled = none)
    (hl : s.heap.NoLimit) (hroom : A.depth < recursionLimit) (hg : s.heap.IsGen a g) (hgs : s.gens[g]? = some gs)
    (hgo : gs.Goes (model prog w) A.in1 (fun n s₀ r s₁ => r = .ok (.ret .none) ∧ P n s₀ s₁) Y n (.send .none) (s.setGen g .running))
    (hY : ∀ v s₁ gs', gs'.bare = true → Y (n - 1) (s.setGen g .running) v s₁ (fun r' s'' => match n with
        | 0 => False
        | m + 1 => gs'.Goes (model prog w) A.in1 (fun n s₀ r s₁ => r = .ok (.ret .none) ∧ P n s₀ s₁) Y m r' s'') → Q (some v) (s₁.setGen g gs'))
    (hP : ∀ s₁, P n (s.setGen g .running) s₁ → ∀ h', (∀ b o, s₁.heap.get? b = some o → h'.get? b = some o) → Q none { s₁.setGen g .finished with heap := h' }) :
    wpAny (model prog w) A (pyNext (.ref a)) Q E s := by
  unfold pyNext
  refine wpAny_bind (wpAny_attempt (wpAny_callSpecial?_slot (name := Str.ofString "__next__") hg.typeIs slot_gen_next
    (wpAny_call_entry slot_gen_next hg.typeIs entry_gen_next ?_ (args_gen_next _))))
  show wpAny _ A.in1 (Builtin.Generator.genWake (.ref a) (.send .none)) _ _ s
  unfold Builtin.Generator.genWake
  refine wpAny_bind (wpAny_holding (wpAny_genNumber hg (wpAny_bind (wpAny_genState hgs ?_))))
  cases gs with
  | running => exact hgo.elim
  | finished => exact hgo.elim
  | _ =>
    refine wpAny_bind (wpAny_roomToWake hl hroom ?_)
    show wpAny _ A.in1 (.resume g (.send .none) [] _) _ _ s
    refine wpAny_resumeQ hgs hgo (fun x s₁ hx => ?_) (fun v s₁ gs' hb hv => ?_)
    · obtain ⟨rfl, hp⟩ := hx
      show wpAny _ A.in1 (newExc (.type "StopIteration") [] >>= _) _ _ _
      refine wpAny_bind ?_
      simp only [newExc, newTuple]
      refine wpAny_bind (wpAny_newObj_type ?_ (by size_fits))
      refine wpAny_bind (m := firstArgMember _ _) (wpAny_of_eq (a := Value.none) (by first | rfl | (simp only [firstArgMember]; rfl)) ?_)
      refine wpAny_newObj_type ?_ (by size_fits)
      simp only [raiseNew]
      refine wpAny_bind (wpAny_bind (wpAny_handled ?_))
      first | rw [show A.in1.handled = none from hh] | rw [hh]
      refine wpAny_throw ?_
      refine wpAny_bind (wpAny_isInstance (T := "StopIteration") (b := true) ⟨_, Heap.get?_push_size _ rfl, rfl⟩ isSubtype_stop ?_)
      exact wpAny_pure (hP s₁ hp _ fun b o hb => Heap.get?_push_of_some _ (Heap.get?_push_of_some _ hb))
    · exact wpAny_pure ⟨v, rfl, wpAny_pure (hY v s₁ gs' hb hv)⟩
end
def BareUp (a b : Array GenState) : Prop := (∀ y ∈ a, y.bare = true) → ∀ y ∈ b, y.bare = true
theorem BareUp.refl (a : Array GenState) : BareUp a a := id
theorem BareUp.trans {a b c : Array GenState} (x : BareUp a b) (y : BareUp b c) : BareUp a c := fun h => y (x h)
/-- the generator (object a, number g) may be asked n times more -/
def NextOk (w : World) (A : Around) (h₀ : Heap) (ns : List Int) (a : Addr) (g : Nat) : Nat → List (Addr × Obj) → GenState → Prop
  | 0, _, _ => True
  | n + 1, own, gs => ∀ (s : Shared) (Q : Option Value → Shared → Prop) (E : Value → Shared → Prop), (∀ p ∈ own, s.heap.get? p.1 = some p.2) → Ext h₀ s.heap → s.gens[g]? = some gs →
      (∀ x t h' tk own' gs' G, iv ns none (15 - n) = some x → (∀ b o, (∀ p ∈ own, p.1 ≠ b) → s.heap.get? b = some o → h'.get? b = some o) → (∀ p ∈ own', h'.get? p.1 = some p.2 ∧ NoSeq p.2 ∧ ((∃ q ∈ own, q.1 = p.1) ∨ s.heap.get? p.1 = none)) → Ext h₀ h' → 
        G[g]? = some gs' → BareUp s.gens G → NextOk w A h₀ ns a g n own' gs' → Q (some (.int x t)) { s with heap := h', toks := tk, gens := G }) →
      (∀ h' tk G, iv ns none (15 - n) = none → (∀ b o, (∀ p ∈ own, p.1 ≠ b) → s.heap.get? b = some o → h'.get? b = some o) → BareUp s.gens G → Q none { s with heap := h', toks := tk, gens := G }) →
      wpAny (model P0 w) A (pyNext (.ref a)) Q E s
theorem ne_of_none {h : Heap} {a b : Addr} {o : Obj} (e : h.get? b = some o) (n : h.get? a = none) : b ≠ a := fun q => by rw [q, n] at e; cases e
theorem bareup_set {s : Shared} {g : Nat} {gs gs' : GenState} (hgs : s.gens[g]? = some gs) (hb : gs'.bare = true) : BareUp s.gens ((s.setGen g .running).setGen g gs').gens := fun h =>
  (GenOnlyQ.of ((GenOnly.setGen s g .running).trans (GenOnly.setGen _ g gs')) (setGen_self (gs := .running) (setGen_self hgs)) hb).bare h
section
variable {w : World} {A : Around} {h₀ : Heap} {mean : ExcName → Option Value} {mg mb : Str → Option Value} {ns : List Int} {a L I : Addr} {g : Nat} {oa : Obj}
theorem nextok_susp (T : Tp mean mg mb h₀) (hdep : A.depth < recursionLimit) (hh : A.handled = none) (ha : ∀ h : Heap, h.get? a = some oa → h.IsGen a g) (haL : a ≠ L) (haI : a ≠ I) (hL0 : h₀.get? L = none) (hI0 : h₀.get? I = none) (hna : NoSeq oa) :
    ∀ n, n ≤ 16 → ∀ gs oL oI, (∀ s'' : Shared, s''.heap.get? L = some oL → s''.heap.get? I = some oI → Ext h₀ s''.heap → gs.Goes (model P0 w) A.in1 (gR L I ns 16) (gY h₀ L I ns 16) n (.send .none) s'') →
      NextOk w A h₀ ns a g n [(L, oL), (I, oI), (a, oa)] gs := by
  intro n
  induction n with
  | zero => intro _ _ _ _ _; trivial
  | succ n ih =>
    intro hn gs oL oI hgo s Q E hown hx hgs hQ hN
    have hL := hown (L, oL) (by simp)
    have hI := hown (I, oI) (by simp)
    have hA := hown (a, oa) (by simp)
    dsimp only at hL hI hA
    refine next_gen (n := n + 1) (P := fun n s₀ s' => iv ns none (16 - n) = none ∧ Kp L I s₀ s') (Y := gY h₀ L I ns 16) hh (T.nolimit.keeps hx) hdep (ha _ hA) hgs (hgo (s.setGen g .running) hL hI hx) ?_ ?_
    · intro v s₁ gs' hb hv
      obtain ⟨x, t, oL', oI', rfl, hiv, ⟨h', tk, rfl, hk⟩, hL', hI', n1, n2, hres⟩ := hv
      have hx' : Ext h₀ h' := fun b o e => hk b o (ne_of_none e hL0) (ne_of_none e hI0) (hx b o e)
      refine hQ x t h' tk [(L, oL'), (I, oI'), (a, oa)] gs' _ hiv (fun b o hb e => hk b o (fun q => hb (L, oL) (by simp) q.symm) (fun q => hb (I, oI) (by simp) q.symm) e) ?_ hx' (setGen_self (gs := .running) (setGen_self hgs)) (bareup_set hgs hb) ?_
      · intro p hp
        simp at hp
        rcases hp with rfl | rfl | rfl
        · exact ⟨hL', n1, .inl ⟨_, .head _, rfl⟩⟩
        · exact ⟨hI', n2, .inl ⟨_, .tail _ (.head _), rfl⟩⟩
        · exact ⟨hk _ _ haL haI hA, hna, .inl ⟨_, .tail _ (.tail _ (.head _)), rfl⟩⟩
      · cases n with
        | zero => trivial
        | succ m => exact ih (by omega) gs' oL' oI' (hres (by omega))
    · rintro s₁ ⟨hiv, h', tk, rfl, hk⟩ h'' hk''
      refine hN h'' tk _ (by rw [show 15 - n = 16 - (n + 1) by omega]; exact hiv) (fun b o hb e => hk'' b o (hk b o (fun q => hb (L, oL) (by simp) q.symm) (fun q => hb (I, oI) (by simp) q.symm) e)) (bareup_set (gs' := .finished) hgs rfl)
theorem nextok_fresh {gs : Code} {oL : Obj} (T : Tp mean mg mb h₀) (hdep : A.depth < recursionLimit) (hh : A.handled = none) (ha : ∀ h : Heap, h.get? a = some oa → h.IsGen a g) (haL : a ≠ L) (hL0 : h₀.get? L = none) (hna : NoSeq oa)
    (hseg : ∀ s' : Shared, Ext h₀ s'.heap → s'.heap.get? L = some oL → Seg (model P0 w) A.in1 (gR L s'.heap.objs.size ns 16) (gY h₀ L s'.heap.objs.size ns 16) 16 s' gs ((model P0 w).den gs) [] s') :
    NextOk w A h₀ ns a g 16 [(L, oL), (a, oa)] (.fresh gs) := by
  intro s Q E hown hx hgs hQ hN
  have hL := hown (L, oL) (by simp)
  have hA := hown (a, oa) (by simp)
  dsimp only at hL hA
  have hIs : h₀.get? s.heap.objs.size = none := by
    cases q : h₀.get? s.heap.objs.size with
    | none => rfl
    | some o => exact absurd (Heap.lt_size (hx _ _ q)) (Nat.lt_irrefl _)
  have haI : a ≠ s.heap.objs.size := Nat.ne_of_lt (Heap.lt_size hA)
  refine next_gen (n := 16) (P := fun n s₀ s' => iv ns none (16 - n) = none ∧ Kp L s.heap.objs.size s₀ s') (Y := gY h₀ L s.heap.objs.size ns 16) hh (T.nolimit.keeps hx) hdep (ha _ hA) hgs ⟨rfl, hseg (s.setGen g .running) hx hL⟩ ?_ ?_
  · intro v s₁ gs' hb hv
    obtain ⟨x, t, oL', oI', rfl, hiv, ⟨h', tk, rfl, hk⟩, hL', hI', n1, n2, hres⟩ := hv
    have hx' : Ext h₀ h' := fun b o e => hk b o (ne_of_none e hL0) (ne_of_none e hIs) (hx b o e)
    refine hQ x t h' tk [(L, oL'), (s.heap.objs.size, oI'), (a, oa)] gs' _ hiv (fun b o hb e => hk b o (fun q => hb (L, oL) (by simp) q.symm) (Nat.ne_of_lt (Heap.lt_size e)) e) ?_ hx' (setGen_self (gs := .running) (setGen_self hgs)) (bareup_set hgs hb) ?_
    · intro p hp
      simp at hp
      rcases hp with rfl | rfl | rfl
      · exact ⟨hL', n1, .inl ⟨_, .head _, rfl⟩⟩
      · exact ⟨hI', n2, .inr (Heap.get?_none_of_le (Nat.le_refl _))⟩
      · exact ⟨hk _ _ haL haI hA, hna, .inl ⟨_, .tail _ (.head _), rfl⟩⟩
    · exact nextok_susp T hdep hh ha haL haI hL0 hIs hna 15 (by omega) gs' oL' oI' (hres (by omega))
  · rintro s₁ ⟨hiv, h', tk, rfl, hk⟩ h'' hk''
    refine hN h'' tk _ hiv (fun b o hb e => hk'' b o (hk b o (fun q => hb (L, oL) (by simp) q.symm) (Nat.ne_of_lt (Heap.lt_size e)) e)) (bareup_set (gs' := .finished) hgs rfl)
end
def GTurnOk (h₀ : Heap) (L : Addr) (J : (Str → Option Value) → List (Addr × Obj) → Prop) (own : List (Addr × Obj)) (s₁ s₂ : Shared) : Prop :=
  ∃ h' tk m' news' nx, s₂ = { s₁ with heap := h', toks := tk } ∧ Fr h₀ L h' m' ∧ News h₀ L h' news' ∧ (∀ p ∈ own, p ∈ news') ∧ (∀ p ∈ nx, p ∈ news') ∧ (∀ p ∈ nx, ¬ NoSeq p.2) ∧ J m' nx
def GTurnPost (h₀ : Heap) (L : Addr) (J : (Str → Option Value) → List (Addr × Obj) → Prop) (own : List (Addr × Obj)) (s₁ : Shared) (Q : Flow → Shared → Prop) (f : Flow) (s₂ : Shared) : Prop :=
  match f with
  | .ret v => Q (.ret v) s₂
  | .brk => Q .next s₂
  | _ => GTurnOk h₀ L J own s₁ s₂
section
variable {w : World} {A : Around} {h₀ : Heap} {ns : List Int} {a : Addr} {g : Nat} {E : Value → Shared → Prop} {s : Shared} {env : Env} {x : Str} {px : Pos} {body : List Stmt} {Q : Flow → Shared → Prop} {m₀ : Str → Option Value} {news : List (Addr × Obj)}
theorem iter_genr {own : List (Addr × Obj)} {gs : GenState} (J : (Str → Option Value) → List (Addr × Obj) → Nat → (Str → Option Value) → List (Addr × Obj) → Prop)
    (hx : env.kindOf x = some .local) (hp : (env.scope.kind == .class || (env.scope.kind == .module && env.locals != env.globals)) = false)
    (ready : NextOk w A h₀ ns a g 16 own gs) (hgen : s.heap.IsGen a g) (hgs : s.gens[g]? = some gs) (ho : ∀ p ∈ own, NoSeq p.2) (F : Fr h₀ env.locals s.heap m₀) (N : News h₀ env.locals s.heap (news ++ own)) (hnw : ∀ p ∈ news, ¬ NoSeq p.2) (hj : J m₀ news 0 m₀ news)
    (hJ : ∀ j m nx, J m₀ news j m nx → j < 16)
    (turn : ∀ j y t m₁ news₁ h tk own G, iv ns none j = some y → J m₀ news j m₁ news₁ → BareUp s.gens G → Fr h₀ env.locals h (fun z => if z = x then some (.int y t) else m₁ z) → News h₀ env.locals h (news₁ ++ own) →
      wpAny (model P0 w) A (execs body env) (GTurnPost h₀ env.locals (J m₀ news (j + 1)) own { s with heap := h, toks := tk, gens := G } Q) (fun _ _ => False) { s with heap := h, toks := tk, gens := G })
    (done : ∀ j m₁ news₁ h tk G, iv ns none j = none → J m₀ news j m₁ news₁ → BareUp s.gens G → Fr h₀ env.locals h m₁ → News h₀ env.locals h news₁ → Q .next { s with heap := h, toks := tk, gens := G }) :
    wpAny (model P0 w) A (pyIter (.ref a)) (fun it s₂ => codeAny (model P0 w) A (.forLoop (.Name x px) it body [] env) (fun r s' => match r with | .ok f => Q f s' | .error e => cameBackBy (model P0 w) A env E e s') s₂) E s := by
  refine wpAny_pyIter_gen hgen ?_
  refine codeAny_forLoop (R := fun r s' => match r with | .ok f => Q f s' | .error e => cameBackBy (model P0 w) A env E e s')
    (fun k s' => ∃ j h' tk G m' nx own gs, s' = { s with heap := h', toks := tk, gens := G } ∧ k = 16 - j ∧ NextOk w A h₀ ns a g (16 - j) own gs ∧ G[g]? = some gs ∧ (∀ p ∈ own, NoSeq p.2) ∧ BareUp s.gens G ∧ Fr h₀ env.locals h' m' ∧ News h₀ env.locals h' (nx ++ own) ∧ (∀ p ∈ nx, ¬ NoSeq p.2) ∧ J m₀ news j m' nx) ?_ 16
    ⟨0, s.heap, s.toks, s.gens, m₀, news, own, gs, rfl, rfl, ready, hgs, ho, BareUp.refl _, F, N, hnw, hj⟩
  clear ready hgen hgs ho F N hnw hj
  clear own gs
  rintro k s' ⟨j, h', tk, G, m', nx, own, gs, rfl, rfl, ready, hgs, ho, hbu, F, N, hnw, hj⟩
  have hj16 := hJ _ _ _ hj
  obtain ⟨n, hn⟩ : ∃ n, 16 - j = n + 1 := ⟨16 - j - 1, by omega⟩
  have ej : 15 - n = j := by omega
  rw [hn] at ready
  have Nn : News h₀ env.locals h' nx := fun p hp => N p (List.mem_append_left _ hp)
  have No : News h₀ env.locals h' own := fun p hp => N p (List.mem_append_right _ hp)
  have up : ∀ h₂ : Heap, (∀ b o, (∀ p ∈ own, p.1 ≠ b) → h'.get? b = some o → h₂.get? b = some o) → Fr h₀ env.locals h₂ m' ∧ News h₀ env.locals h₂ nx := fun h₂ hk =>
    ⟨⟨F.ns.at' fun o e => hk _ o (fun p hp => (No p hp).2.1) e, fun b o e => hk b o (fun p hp q => by rw [← q, (No p hp).2.2] at e; cases e) (F.keep b o e), F.above⟩,
      fun p hp => ⟨hk _ _ (fun q hq e => by
        have e1 := (Nn p hp).1
        have e2 := (No q hq).1
        rw [e, e1] at e2
        exact hnw p hp (Option.some.inj e2 ▸ ho q hq)) (Nn p hp).1, (Nn p hp).2⟩⟩
  refine ready _ _ _ (fun p hp => (No p hp).1) F.keep hgs ?_ ?_
  · intro y t h₂ tk₂ own' gs' G' hiv hk hown' hx' hgs' hb' ready'
    rw [ej] at hiv
    obtain ⟨F₂, N₂⟩ := up h₂ hk
    dsimp only at hown' hk hb' ⊢
    have N₂' : News h₀ env.locals h₂ own' := fun p hp => by
      refine ⟨(hown' p hp).1, ?_⟩
      rcases (hown' p hp).2.2 with ⟨q, hq, e⟩ | e
      · rw [← e]; exact (No q hq).2
      · obtain ⟨oL, _, _, hoL, _⟩ := id F.ns
        refine ⟨(fun q => by rw [q, hoL] at e; cases e), ?_⟩
        cases q : h₀.get? p.1 with
        | none => rfl
        | some o => have := F.keep _ _ q; rw [e] at this; cases this
    refine wpAny_assign_Name (wpAny_storeName_local hx F₂.ns (fun h₃ hn₃ hs₃ => ?_) hp)
    have F₃ := F₂.set hn₃ hs₃
    have N₃ : News h₀ env.locals h₃ (nx ++ own') := (N₂.append N₂').set hs₃
    refine wpAny_mono (turn j y t m' nx h₃ _ own' G' hiv hj (hbu.trans hb') F₃ N₃) (fun f s₃ h₃ => ?_) fun _ _ q => q.elim
    cases f with
    | ret v => exact h₃
    | brk => exact h₃
    | next =>
      obtain ⟨h₄, tk₄, m₄, news₄, nx₄, rfl, F₄, N₄, ho₄, hx₄, hn₄, hj₄⟩ := h₃
      refine ⟨16 - (j + 1), by omega, j + 1, h₄, tk₄, G', m₄, nx₄, own', gs', rfl, rfl, ?_, hgs', fun p hp => (hown' p hp).2.1, hbu.trans hb', F₄, fun p hp => N₄ p ((List.mem_append.mp hp).elim (hx₄ p) (ho₄ p)), hn₄, hj₄⟩
      rw [show 16 - (j + 1) = n by omega]; exact ready'
    | cont =>
      obtain ⟨h₄, tk₄, m₄, news₄, nx₄, rfl, F₄, N₄, ho₄, hx₄, hn₄, hj₄⟩ := h₃
      refine ⟨16 - (j + 1), by omega, j + 1, h₄, tk₄, G', m₄, nx₄, own', gs', rfl, rfl, ?_, hgs', fun p hp => (hown' p hp).2.1, hbu.trans hb', F₄, fun p hp => N₄ p ((List.mem_append.mp hp).elim (hx₄ p) (ho₄ p)), hn₄, hj₄⟩
      rw [show 16 - (j + 1) = n by omega]; exact ready'
  · intro h₂ tk₂ G' hiv hk hb'
    rw [ej] at hiv
    obtain ⟨F₂, N₂⟩ := up h₂ hk
    exact wpAny_execs_nil (done j m' nx h₂ tk₂ G' hiv hj (hbu.trans hb') F₂ N₂)
end
section
variable {w : World} {A : Around} {s : Shared} {mean : ExcName → Option Value} {mg mb : Str → Option Value} {Q E : Value → Shared → Prop}
theorem c_genr {h₀ : Heap} {Lc : Addr} {mc : Str → Option Value} {l : Addr} {vs : List Value} {ns : List Int} (F₀ : Fr h₀ Lc s.heap mc) (X : (hd.heap_1 w.params).In h₀) (T : Tp mean mg mb h₀) (hdep : A.depth + 2 < recursionLimit) (hh : A.handled = none)
    (hl : h₀.IsList l vs.toArray) (hi : IntsAre vs ns) (hn : ns.length ≤ 8) (hz : ns.head? ≠ some 0)
    (h : ∀ a own gs h₁ tk, Ext s.heap h₁ → h₁.IsGen a s.gens.size → (∀ p ∈ own, h₁.get? p.1 = some p.2 ∧ s.heap.get? p.1 = none ∧ NoSeq p.2) → gs.bare = true → NextOk w A h₀ ns a s.gens.size 16 own gs →
      Q (.ref a) { s with heap := h₁, toks := tk, gens := s.gens.push gs }) : wpAny (model P0 w) A (call (.ref 28) [.ref l]) Q E s := by
  refine c_gen F₀ X T hdep hl hi hn hz fun L a h₁ tk gs oL hL0 hx hg haL ha0 hoL hnL hseg => ?_
  obtain ⟨oa, nm, qn, hoa, hca, hda, hsa⟩ := id hg
  have hnA : NoSeq oa := fun _ _ q => by rw [hda] at q; cases q
  have z : ∀ b, s.heap.get? b = none → h₀.get? b = none := fun b e => by
    cases q : h₀.get? b with
    | none => rfl
    | some o => have := F₀.keep _ _ q; rw [e] at this; cases this
  refine h a [(L, oL), (a, oa)] (.fresh gs) h₁ tk hx hg (fun p hp => ?_) rfl (nextok_fresh T (by omega) hh (fun h' e => ⟨oa, nm, qn, e, hca, hda, hsa⟩) haL (z _ hL0) hnA (fun s' e1 e2 => hseg A.in1 hh s' e1 e2))
  simp at hp
  rcases hp with rfl | rfl
  · exact ⟨hoL, hL0, hnL⟩
  · exact ⟨hoa, ha0, hnA⟩
end
end
section
open PySem PySem.W PyProof.Rows PySem.Spec PySem.Calls
set_option Elab.async false
set_option maxRecDepth 100000
set_option maxHeartbeats 4000000
theorem start_Sp : True := by w_top off; trivial
theorem len_list (x : Str) : x.length = x.cps.toList.length := by show x.cps.size = _; simp
theorem sl_to (x : Str) (j : Int) (h0 : 0 ≤ j) (h1 : j ≤ x.length) : (Txt.slice x none (some j)).cps.toList = x.cps.toList.take j.toNat := by
  rw [len_list] at h1
  rw [eq_of_beq (slice_closes_to (x := x) (j := j) ⟨h0, h1⟩)]
  simp
theorem sl_from (x : Str) (i : Int) (h0 : 0 ≤ i) (h1 : i ≤ x.length) : (Txt.slice x (some i) none).cps.toList = x.cps.toList.drop i.toNat := by
  rw [len_list] at h1
  rw [eq_of_beq (slice_closes_from (x := x) (i := i) ⟨h0, h1⟩)]
  show List.take _ (List.drop _ _) = _
  exact List.take_of_length_le (by rw [List.length_drop]; omega +splitDisjunctions)
theorem sl_mid (x : Str) (i j : Int) (h0 : 0 ≤ i) (h1 : i ≤ j) (h2 : j ≤ x.length) : (Txt.slice x (some i) (some j)).cps.toList = (x.cps.toList.drop i.toNat).take (j - i).toNat := by
  rw [len_list] at h2
  rw [eq_of_beq (slice_closes (x := x) (i := i) (j := j) ⟨h0, h1, h2⟩)]
theorem sl_to_neg (x : Str) (y : Int) (h : 1 ≤ y) : (Txt.slice x none (some (-y))).cps.toList = x.cps.toList.take (x.length - y.toNat) := by
  rw [slice_to_neg (by omega), sl_to _ _ (by omega) (by omega)]
  congr 1; omega
theorem sl_from_neg (x : Str) (y : Int) (h : 1 ≤ y) : (Txt.slice x (some (-y)) none).cps.toList = x.cps.toList.drop (x.length - y.toNat) := by
  rw [slice_from_neg (by omega), sl_from _ _ (by omega) (by omega)]
  congr 1; omega
theorem slice_shrinks (x : Str) (y : Int) (h : 1 ≤ y) (hx : x.length ≠ 0) : (Txt.slice x none (some (-y))).length < x.length := by
  rw [len_list, sl_to_neg x y h, List.length_take, ← len_list]; omega

end
section
open PySem PySem.W PyProof.Rows PySem.Spec PySem.Calls
set_option Elab.async false
set_option maxRecDepth 100000
set_option maxHeartbeats 4000000
theorem start_Pl : True := by w_top off; trivial
theorem iv_pos {ns : List Int} {y : Int} : ∀ {j : Nat} {lo : Option Int}, (∀ x ∈ ns, 0 ≤ x ∧ x ≤ 127) → (∀ z, lo = some z → 1 ≤ z ∧ z ≤ 127) → iv ns lo j = some y → 1 ≤ y ∧ y ≤ 127 := by
  induction ns with
  | nil => intro j lo _ _ h; cases j <;> cases h
  | cons x r ih =>
    intro j lo hp hlo h
    have hx := hp x (.head _)
    by_cases h1 : x = 127
    · rw [iv_stop h1] at h; cases h
    by_cases h0 : x = 0
    · rw [iv_rep h0] at h; exact hlo y h
    cases j with
    | zero => rw [iv_zero h1 h0] at h; cases h; omega
    | succ j => rw [iv_succ h1 h0] at h; exact ih (fun x hx => hp x (.tail _ hx)) (fun z e => by cases e; omega) h
def pstep (st : Str × List Str) (y : Int) : Str × List Str := (Txt.slice st.1 none (some (-y)), Txt.slice st.1 (some (-y)) none :: st.2)
def prun (ns : List Int) : Nat → Str × List Str → Nat → Str × List Str
  | 0, st, _ => st
  | f + 1, st, j => match iv ns none j with | none => st | some y => if st.1.length = 0 then st else prun ns f (pstep st y) (j + 1)
def placeN (ns : List Int) (x : Str) : List Str := if (prun ns 16 (x, []) 0).1.length = 0 then (prun ns 16 (x, []) 0).2 else (prun ns 16 (x, []) 0).1 :: (prun ns 16 (x, []) 0).2
def GTurnPost2 (h₀ : Heap) (L : Addr) (J K : (Str → Option Value) → List (Addr × Obj) → Prop) (own : List (Addr × Obj)) (s₁ : Shared) (Q : Flow → Shared → Prop) (f : Flow) (s₂ : Shared) : Prop :=
  match f with
  | .ret v => Q (.ret v) s₂
  | .brk => GTurnOk h₀ L K own s₁ s₂
  | _ => GTurnOk h₀ L J own s₁ s₂
theorem gturn_ok {h₀ : Heap} {L : Addr} {J : (Str → Option Value) → List (Addr × Obj) → Prop} {own news' : List (Addr × Obj)} {s₁ : Shared} {h' : Heap} {tk : Nat} {m' : Str → Option Value} (nx : List (Addr × Obj)) (F : Fr h₀ L h' m') (N : News h₀ L h' news')
    (ho : ∀ p ∈ own, p ∈ news') (hx : ∀ p ∈ nx, p ∈ news') (hc : ∀ p ∈ nx, ¬ NoSeq p.2) (hj : J m' nx) : GTurnOk h₀ L J own s₁ { s₁ with heap := h', toks := tk } := ⟨h', tk, m', news', nx, rfl, F, N, ho, hx, hc, hj⟩
theorem seq_listOf (vs : Array Value) (k : Nat) : ¬ NoSeq (W.listOf vs k) := fun h => h _ _ rfl
section
variable {w : World} {A : Around} {h₀ : Heap} {ns : List Int} {a : Addr} {g : Nat} {E : Value → Shared → Prop} {s : Shared} {env : Env} {x : Str} {px : Pos} {body : List Stmt} {Q : Flow → Shared → Prop} {m₀ : Str → Option Value} {news : List (Addr × Obj)}
theorem iter_genr2 {own : List (Addr × Obj)} {gs : GenState} (J : (Str → Option Value) → List (Addr × Obj) → Nat → (Str → Option Value) → List (Addr × Obj) → Prop) (K : (Str → Option Value) → List (Addr × Obj) → (Str → Option Value) → List (Addr × Obj) → Prop)
    (hx : env.kindOf x = some .local) (hp : (env.scope.kind == .class || (env.scope.kind == .module && env.locals != env.globals)) = false)
    (ready : NextOk w A h₀ ns a g 16 own gs) (hgen : s.heap.IsGen a g) (hgs : s.gens[g]? = some gs) (ho : ∀ p ∈ own, NoSeq p.2) (F : Fr h₀ env.locals s.heap m₀) (N : News h₀ env.locals s.heap (news ++ own)) (hnw : ∀ p ∈ news, ¬ NoSeq p.2) (hj : J m₀ news 0 m₀ news)
    (hJ : ∀ j m nx, J m₀ news j m nx → j < 16)
    (turn : ∀ j y t m₁ news₁ h tk own G, iv ns none j = some y → J m₀ news j m₁ news₁ → Fr h₀ env.locals h (fun z => if z = x then some (.int y t) else m₁ z) → News h₀ env.locals h (news₁ ++ own) →
      wpAny (model P0 w) A (execs body env) (GTurnPost2 h₀ env.locals (J m₀ news (j + 1)) (K m₀ news) own { s with heap := h, toks := tk, gens := G } Q) (fun _ _ => False) { s with heap := h, toks := tk, gens := G })
    (last : ∀ j m₁ news₁, iv ns none j = none → J m₀ news j m₁ news₁ → K m₀ news m₁ news₁)
    (done : ∀ m₁ news₁ h tk G, K m₀ news m₁ news₁ → BareUp s.gens G → Fr h₀ env.locals h m₁ → News h₀ env.locals h news₁ → Q .next { s with heap := h, toks := tk, gens := G }) :
    wpAny (model P0 w) A (pyIter (.ref a)) (fun it s₂ => codeAny (model P0 w) A (.forLoop (.Name x px) it body [] env) (fun r s' => match r with | .ok f => Q f s' | .error e => cameBackBy (model P0 w) A env E e s') s₂) E s := by
  refine iter_genr J hx hp ready hgen hgs ho F N hnw hj hJ (fun j y t m₁ news₁ h tk own G hiv hj hb F₁ N₁ => ?_) (fun j m₁ news₁ h tk G hiv hj hb F₁ N₁ => done m₁ news₁ h tk G (last j m₁ news₁ hiv hj) hb F₁ N₁)
  refine wpAny_mono (turn j y t m₁ news₁ h tk own G hiv hj F₁ N₁) (fun f s₂ q => ?_) fun _ _ e => e
  cases f with
  | ret v => exact q
  | next => exact q
  | cont => exact q
  | brk =>
    obtain ⟨h', tk', m', news', nx, rfl, F', N', _, hx', _, hk⟩ := q
    exact done m' nx h' tk' G hk hb F' (fun p hp => N' p (hx' p hp))
end
theorem slice_len_le (x : Str) (a b : Option Int) : (Txt.slice x a b).length ≤ x.length := Txt.slice_le x a b
theorem str_empty {x : Str} (h : x.length = 0) : x = Str.ofString "" := by
  have : x.cps = #[] := Array.eq_empty_of_size_eq_zero h
  obtain ⟨c⟩ := x
  cases this; rfl
theorem jfold_le (K : Nat) (bs : List Str) : ∀ a : Str, (∀ b ∈ bs, b.length ≤ K) → (bs.foldl jstep a).length ≤ a.length + bs.length * (K + 1) := by
  induction bs with
  | nil => intro a _; simp
  | cons b r ih =>
    intro a hb
    have h1 := ih (jstep a b) (fun c hc => hb c (.tail _ hc))
    have h2 := hb b (.head _)
    have h3 : (jstep a b).length ≤ a.length + (K + 1) := by
      have e1 : (Str.ofString "/").length = 1 := by decide
      unfold jstep
      split
      · omega
      · split
        · rw [Str.length_append]; omega
        · rw [Str.length_append, Str.length_append]; omega
    rw [List.foldl_cons, List.length_cons, Nat.add_mul]; omega
theorem jtake_le {bs : List Str} (hb : ∀ b ∈ bs, b.length ≤ 8) (hn : bs.length ≤ 9) (i : Nat) : ((bs.take i).foldl jstep (Str.ofString "/")).length ≤ 1000 := by
  have q1 := jfold_le 8 (List.take i bs) (Str.ofString "/") (fun b h => hb b (List.mem_of_mem_take h))
  have q2 : (List.take i bs).length ≤ 9 := by rw [List.length_take]; omega
  have q3 : (Str.ofString "/").length = 1 := by decide
  omega
section
local macro_rules | `(tactic| walk_at "exec For Name Call cons nil") => `(tactic| walk_at "mine stop")
variable {w : World} {A : Around} {s : Shared} {mean : ExcName → Option Value} {mg mb : Str → Option Value} {Q E : Value → Shared → Prop}
theorem c_place {x : Str} {tx : Tok} {l : Addr} {vs : List Value} {ns : List Int} (X : (hd.heap_1 w.params).In s.heap) (T : Tp mean mg mb s.heap) (hdep : A.depth + 4 < recursionLimit) (hun : A.units + 40 < cLine) (hh : A.handled = none)
    (hl : s.heap.IsList l vs.toArray) (hi : IntsAre vs ns) (hn : ns.length ≤ 8) (hz : ns.head? ≠ some 0) (hp : ∀ x ∈ ns, 0 ≤ x ∧ x ≤ 127) (hx : x.length ≤ 8)
    (h : ∀ t h' tk' G, Ext s.heap h' → BareUp s.gens G → Q (.str ((placeN ns x).foldl jstep (Str.ofString "/")) t) { s with heap := h', toks := tk', gens := G }) : wpAny (model P0 w) A (call (.ref 162) [.str x tx, .ref l]) Q E s := by
  obtain ⟨hd0, dp, fr, gd, un⟩ := A
  dsimp only at hh hdep hun
  subst hh
  refine' enter (binds := [(Str.ofString "figures", .str x tx), (Str.ofString "row", .ref l)]) ?x1 ?x2 ?x3 ?x4 ?x5 ?x6 ?x7 ?x8 ?x9 ?x10 ?x11 ?_
  walk_at "mine entered"
  k_steps
  refine Hold.out ?_
  refine wpAny_For ?_ (fun _ => rfl)
  k_steps
  with_reducible rename Fr _ _ _ _ => F1
  with_reducible rename News _ _ _ _ => N1
  refine c_genr F1 X T ?_ rfl hl hi hn hz ?_
  · simp only [depth_deeper]; omega
  intro a own gs h₁ tk₁ kE hg hown hb ready
  have F2 := fr_ext F1 kE
  obtain ⟨oLc, _, _, hoLc, -⟩ := id F1.ns
  have N2 := (news_ext N1 kE).append (b := own) (fun p hp => ⟨(hown p hp).1, fun q => by
    have := (hown p hp).2.1
    rw [q] at this; dsimp only at this; rw [hoLc] at this; exact absurd this (by simp), by
    cases q : s.heap.get? p.1 with
    | none => rfl
    | some o =>
      have q1 := F1.keep _ _ q
      have q2 := (hown p hp).2.1
      dsimp only at q2
      rw [q1] at q2; cases q2⟩)
  refine iter_genr2 (own := own) (gs := gs)
    (fun m₀ n₀ j m nx => ∃ rest names t ln vs' k, m (Str.ofString "rest") = some (.str rest t) ∧ m (Str.ofString "names") = some (.ref ln) ∧ (∀ y, y ≠ Str.ofString "size" → y ≠ Str.ofString "rest" → y ≠ Str.ofString "names" → m y = m₀ y) ∧
      nx = [(ln, W.listOf (List.toArray vs') k)] ∧ StrsAre vs' names ∧ j + rest.length ≤ 8 ∧ names.length = j ∧ (∀ b ∈ names, b.length ≤ 8) ∧ prun ns 16 (x, []) 0 = prun ns (16 - j) (rest, names) j)
    (fun m₀ n₀ m nx => ∃ rest names t ln vs' k, m (Str.ofString "rest") = some (.str rest t) ∧ m (Str.ofString "names") = some (.ref ln) ∧ (∀ y, y ≠ Str.ofString "size" → y ≠ Str.ofString "rest" → y ≠ Str.ofString "names" → m y = m₀ y) ∧
      nx = [(ln, W.listOf (List.toArray vs') k)] ∧ StrsAre vs' names ∧ rest.length ≤ 8 ∧ names.length ≤ 8 ∧ (∀ b ∈ names, b.length ≤ 8) ∧ prun ns 16 (x, []) 0 = (rest, names)) rfl rfl ready hg ?y1 ?y2 F2 N2 ?y3 ?y4 ?y5 ?y6 ?y7 ?y8
  (case y1 => simp)
  (case y2 => exact fun p hp => (hown p hp).2.2)
  (case y3 => intro p hp; rw [List.mem_singleton.mp hp]; exact seq_listOf _ _)
  (case y4 => exact ⟨x, [], _, _, [], _, rfl, rfl, fun _ _ _ _ => rfl, rfl, .nil, by omega, rfl, by simp, rfl⟩)
  (case y5 => rintro j m nx ⟨rest, names, t, ln, vs', k, -, -, -, -, -, h5, -⟩; omega)
  (case y7 =>
    rintro j m nx hiv ⟨rest, names, t, ln, vs', k, h1, h2, h3, h4, h5, h6, h7, h8, h9⟩
    refine ⟨rest, names, t, ln, vs', k, h1, h2, h3, h4, h5, by omega, by omega, h8, ?_⟩
    rw [h9]
    obtain ⟨f, hf⟩ : ∃ f, 16 - j = f + 1 := ⟨15 - j, by omega⟩
    rw [hf, prun, hiv])
  (case y6 =>
    rintro j y t m₁ n₁ h9 tk9 own9 G9 hiv ⟨rest, names, tr, ln, vs', k, hm1, hm2, hm3, rfl, hS, h6, h7, h8, h10⟩ F9 N9
    obtain ⟨u, rfl⟩ := map3 (Str.ofString "size") (Str.ofString "rest") (Str.ofString "names") hm1 hm2 hm3
    clear hm1 hm2 hm3
    have hy := iv_pos hp (fun z e => by cases e) hiv
    have hvl := strs_len hS
    k_steps
    · have hr : rest.length = 0 := by
        have : rest = Str.ofString "" := by simpa using (by assumption : (rest == Str.ofString "") = true)
        rw [this]; decide
      show GTurnOk _ _ _ _ _ _
      refine gturn_ok [(ln, W.listOf vs'.toArray k)] (by k_asm) (by k_asm) (fun p hp => List.mem_append_right _ hp) (fun p hp => List.mem_append_left _ hp) (fun p hp => by rw [List.mem_singleton.mp hp]; exact seq_listOf _ _)
        ⟨rest, names, _, ln, vs', k, rfl, rfl, fun z h1 h2 h3 => by simp only [if_neg h1, if_neg h2, if_neg h3], rfl, hS, by omega, by omega, h8, ?_⟩
      rw [h10]
      obtain ⟨f, hf⟩ : ∃ f, 16 - j = f + 1 := ⟨15 - j, by omega⟩
      rw [hf, prun, hiv]
      exact if_pos hr
    · have hr : rest.length ≠ 0 := by
        intro q
        have : (rest == Str.ofString "") = false := by assumption
        rw [show rest = Str.ofString "" from str_empty q] at this
        exact absurd this (by decide)
      have hsh := slice_shrinks rest y hy.1 hr
      show GTurnOk _ _ _ _ _ _
      refine gturn_ok [(_, W.listOf ([Value.str (Txt.slice rest (some (-y)) none) _] ++ vs').toArray 0)] (by k_asm) (by k_asm) (fun p hp => by simp [hp]) (fun p hp => by rw [List.mem_singleton.mp hp]; exact .head _) (fun p hp => by rw [List.mem_singleton.mp hp]; exact seq_listOf _ _)
        ⟨Txt.slice rest none (some (-y)), Txt.slice rest (some (-y)) none :: names, _, _, _, 0, rfl, rfl, fun z h1 h2 h3 => by simp only [if_neg h1, if_neg h2, if_neg h3], rfl, .cons _ _ hS, by omega, by rw [List.length_cons]; omega, ?_, ?_⟩
      · intro b hb
        rcases List.mem_cons.mp hb with rfl | hb
        · have := Txt.slice_le rest (some (-y)) none; omega
        · exact h8 b hb
      · rw [h10]
        obtain ⟨f, hf⟩ : ∃ f, 16 - j = f + 1 := ⟨15 - j, by omega⟩
        rw [hf, prun, hiv]
        dsimp only
        rw [if_neg hr, show 16 - (j + 1) = f by omega]; rfl)
  rintro m₁ n₁ h9 tk9 G9 ⟨rest, names, tr, ln, vs', k, hm1, hm2, hm3, rfl, hS, h6, h7, h8, h10⟩ hbu F9 N9
  obtain ⟨u, rfl⟩ := map3 (Str.ofString "size") (Str.ofString "rest") (Str.ofString "names") hm1 hm2 hm3
  clear hm1 hm2 hm3 N2 F2 F1 N1 kE ready
  dsimp only
  have hvl := strs_len hS
  have hpl : placeN ns x = if rest.length = 0 then names else rest :: names := by rw [placeN, h10]
  have hbu' : BareUp s.gens G9 := fun q => hbu (fun z hz => by
    rcases Array.mem_push.mp hz with hz | rfl
    · exact q z hz
    · exact hb)
  have hB9 : ∀ b ∈ rest :: names, b.length ≤ 8 := fun b hb => by
    rcases List.mem_cons.mp hb with rfl | hb
    · exact h6
    · exact h8 b hb
  k_steps
  · rw [List.append_nil]
    have hr : rest.length ≠ 0 := by
      intro q
      have : (rest != Str.ofString "") = true := by assumption
      rw [show rest = Str.ofString "" from str_empty q] at this
      exact absurd this (by decide)
    refine' c_join (a := Str.ofString "/") (bs := rest :: names) (.cons _ _ hS) ?x1 ?x2 ?x3 ?x4 ?x5 ?x6 ?x7 ?x8 ?_
    walk_at "mine side"
    (case x6 => exact jtake_le hB9 (by simp; omega))
    (case x7 => exact fun b hb => Nat.le_trans (hB9 b hb) (by omega))
    (case x8 => simp; omega)
    k_whole
    intro t' h' tk' kE
    have fin := h t' h' tk' G9 (fun b o e => kE b o (Fr.keep (by k_asm) b o e)) hbu'
    rw [hpl, if_neg hr] at fin
    exact fin
  · rw [List.append_nil]
    have hr : rest.length = 0 := by
      have : rest = Str.ofString "" := by simpa using (by assumption : (rest != Str.ofString "") = false)
      rw [this]; decide
    refine' c_join (a := Str.ofString "/") (bs := names) hS ?x1 ?x2 ?x3 ?x4 ?x5 ?x6 ?x7 ?x8 ?_
    walk_at "mine side"
    (case x6 => exact jtake_le h8 (by omega))
    (case x7 => exact fun b hb => Nat.le_trans (h8 b hb) (by omega))
    (case x8 => omega)
    k_whole
    intro t' h' tk' kE
    have fin := h t' h' tk' G9 (fun b o e => kE b o (Fr.keep (by k_asm) b o e)) hbu'
    rw [hpl, if_pos hr] at fin
    exact fin
end
end
section
open PySem PySem.W PyProof.Rows PySem.Spec PySem.Calls
open PySem.Builtin PySem.Builtin.Str PySem.StrLaws
set_option Elab.async false
set_option maxRecDepth 100000
set_option maxHeartbeats 1000000
theorem start_Pu1 : True := by w_top off; trivial
theorem slash_is : Str.ofString "/" = ⟨#[47]⟩ := by decide +kernel
theorem tl_slash : (Str.ofString "/").cps.toList = [47] := by rw [slash_is]
theorem tl_app (a b : Str) : (a ++ b).cps.toList = a.cps.toList ++ b.cps.toList := by rw [Str.cps_append]; simp
def Nm (n : Str) : Prop := n.cps.toList ≠ [] ∧ ∀ c ∈ n.cps.toList, 48 ≤ c ∧ c ≤ 57
def Ok (n : Str) : Prop := n.cps.toList ≠ [] ∧ 47 ∉ n.cps.toList
theorem Nm.ok {n : Str} (h : Nm n) : Ok n := ⟨h.1, fun q => by have := h.2 47 q; omega⟩
def pathOf (ns : List Str) : Str := Str.ofString "/" ++ Txt.join (Str.ofString "/") ns
theorem tl_join : ∀ (r : List Str) (x : Str), (Str.join (Str.ofString "/") (x :: r)).cps.toList = x.cps.toList ++ r.flatMap fun y => 47 :: y.cps.toList
  | [], x => by show x.cps.toList = _; simp
  | y :: r, x => by
    show (x ++ Str.ofString "/" ++ Str.join (Str.ofString "/") (y :: r)).cps.toList = _
    rw [tl_app, tl_app, tl_join r y, tl_slash]
    simp
theorem txt_join (ns : List Str) : Txt.join (Str.ofString "/") ns = Str.join (Str.ofString "/") ns := glued_eq_join _ _
theorem tl_path {ns : List Str} (h : ns ≠ []) : (pathOf ns).cps.toList = ns.flatMap fun y => 47 :: y.cps.toList := by
  cases ns with
  | nil => exact absurd rfl h
  | cons x r => rw [pathOf, tl_app, txt_join, tl_join, tl_slash]; simp
theorem path_nil : pathOf [] = Str.ofString "/" := by
  rw [pathOf, txt_join]
  exact Str.append_empty _
theorem tl_path_nil : (pathOf []).cps.toList = [47] := by rw [path_nil, tl_slash]
theorem flat_head : ∀ (ys : List (List Nat)), ys.flatMap (fun y => 47 :: y) = [] ∨ ∃ r, ys.flatMap (fun y => 47 :: y) = 47 :: r
  | [] => .inl rfl
  | y :: ys => .inr ⟨_, List.flatMap_cons⟩
theorem cut_uniq : ∀ {x y a b : List Nat}, 47 ∉ x → 47 ∉ y → (a = [] ∨ ∃ r, a = 47 :: r) → (b = [] ∨ ∃ r, b = 47 :: r) → x ++ a = y ++ b → x = y ∧ a = b
  | [], [], a, b, _, _, _, _, h => ⟨rfl, by simpa using h⟩
  | [], c :: y, a, b, _, hy, ha, _, h => by
    rcases ha with rfl | ⟨r, rfl⟩
    · simp at h
    · simp only [List.nil_append, List.cons_append, List.cons.injEq] at h
      exact absurd (h.1 ▸ List.mem_cons_self) hy
  | c :: x, [], a, b, hx, _, _, hb, h => by
    rcases hb with rfl | ⟨r, rfl⟩
    · simp at h
    · simp only [List.nil_append, List.cons_append, List.cons.injEq] at h
      exact absurd (h.1 ▸ List.mem_cons_self) hx
  | c :: x, d :: y, a, b, hx, hy, ha, hb, h => by
    simp only [List.cons_append, List.cons.injEq] at h
    obtain ⟨e1, e2⟩ := cut_uniq (fun q => hx (.tail _ q)) (fun q => hy (.tail _ q)) ha hb h.2
    exact ⟨by rw [h.1, e1], e2⟩
theorem flat_uniq : ∀ {xs ys : List (List Nat)}, (∀ x ∈ xs, 47 ∉ x) → (∀ y ∈ ys, 47 ∉ y) → xs.flatMap (fun y => 47 :: y) = ys.flatMap (fun y => 47 :: y) → xs = ys
  | [], [], _, _, _ => rfl
  | [], y :: ys, _, _, h => by simp [List.flatMap_cons] at h
  | x :: xs, [], _, _, h => by simp [List.flatMap_cons] at h
  | x :: xs, y :: ys, hx, hy, h => by
    rw [List.flatMap_cons, List.flatMap_cons, List.cons_append, List.cons_append] at h
    obtain ⟨e1, e2⟩ := cut_uniq (hx x (.head _)) (hy y (.head _)) (flat_head xs) (flat_head ys) (List.cons.inj h).2
    rw [e1, flat_uniq (fun z hz => hx z (.tail _ hz)) (fun z hz => hy z (.tail _ hz)) e2]
theorem flatMap_tl (ps : List Str) : (ps.flatMap fun y => 47 :: y.cps.toList) = (ps.map fun y => y.cps.toList).flatMap fun y => 47 :: y := by
  rw [List.flatMap_map]
theorem map_tl_inj {ps qs : List Str} (h : (ps.map fun y => y.cps.toList) = qs.map fun y => y.cps.toList) : ps = qs :=
  List.map_inj_right (f := fun y : Str => y.cps.toList) (fun _ _ e => str_ext e) |>.mp h
theorem split_ne (x y : Str) : Txt.split x y ≠ [] := by
  unfold Txt.split
  split
  · simp
  · split
    · simp
    · intro h
      have := length_partsBetween x (occurrences x y 0 x.length (x.length + 1)) y.length
      rw [h] at this; simp at this
theorem split_join {ps : List Str} (hne : ps ≠ []) (hf : ∀ p ∈ ps, 47 ∉ p.cps.toList) : Txt.split (Txt.join (Str.ofString "/") ps) (Str.ofString "/") = ps := by
  have h1 := join_split (Txt.join (Str.ofString "/") ps) (Str.ofString "/")
  have h2 := split_ne (Txt.join (Str.ofString "/") ps) (Str.ofString "/")
  have h3 : ∀ q ∈ Txt.split (Txt.join (Str.ofString "/") ps) (Str.ofString "/"), 47 ∉ q.cps.toList := by
    have := split_free (Txt.join (Str.ofString "/") ps) 47
    rw [← slash_is] at this
    exact this
  generalize Txt.split (Txt.join (Str.ofString "/") ps) (Str.ofString "/") = qs at *
  rw [txt_join] at h1
  cases ps with
  | nil => exact absurd rfl hne
  | cons p ps =>
    cases qs with
    | nil => exact absurd rfl h2
    | cons q qs =>
      have e := congrArg (fun z : Str => 47 :: z.cps.toList) h1
      simp only [tl_join] at e
      refine map_tl_inj (flat_uniq ?_ ?_ ?_)
      · intro z hz
        obtain ⟨q', hq', rfl⟩ := List.mem_map.mp hz
        exact h3 q' hq'
      · intro z hz
        obtain ⟨q', hq', rfl⟩ := List.mem_map.mp hz
        exact hf q' hq'
      · rw [← flatMap_tl, ← flatMap_tl, List.flatMap_cons, List.flatMap_cons]
        simpa using e
theorem empty_tl : (Str.ofString "").cps.toList = [] := by decide +kernel
theorem path_join {ns : List Str} (h : ns ≠ []) : pathOf ns = Txt.join (Str.ofString "/") (Str.ofString "" :: ns) := by
  refine str_ext ?_
  rw [tl_path h, txt_join, tl_join, empty_tl]; simp
theorem path_join0 : pathOf [] = Txt.join (Str.ofString "/") [Str.ofString "", Str.ofString ""] := by
  refine str_ext ?_
  rw [tl_path_nil, txt_join, tl_join, empty_tl]; simp [empty_tl]
theorem split_path {ns : List Str} (h : ns ≠ []) (hN : ∀ n ∈ ns, Ok n) : Txt.split (pathOf ns) (Str.ofString "/") = Str.ofString "" :: ns := by
  rw [path_join h]
  refine split_join (by simp) fun p hp => ?_
  rcases List.mem_cons.mp hp with rfl | hp
  · rw [empty_tl]; simp
  · exact (hN p hp).2
theorem split_path0 : Txt.split (pathOf []) (Str.ofString "/") = [Str.ofString "", Str.ofString ""] := by
  rw [path_join0]
  refine split_join (by simp) fun p hp => ?_
  have : p = Str.ofString "" := by simpa using hp
  rw [this, empty_tl]; simp
theorem len_tl (x : Str) : x.length = x.cps.toList.length := len_list x
theorem keep_empty : keepF (Str.ofString "") = false := by decide +kernel
theorem keep_name {n : Str} (h : Nm n) : keepF n = true := by
  refine keep_t ?_ ?_
  · rw [len_tl]; exact fun q => h.1 (List.length_eq_zero_iff.mp q)
  · rw [bne_iff_ne]
    rintro rfl
    have := h.2 46 (by decide +kernel)
    omega
theorem keep_path {ns : List Str} (hN : ∀ n ∈ ns, Nm n) : (Txt.split (pathOf ns) (Str.ofString "/")).filter keepF = ns := by
  by_cases h : ns = []
  · subst h
    rw [split_path0]; decide +kernel
  · rw [split_path h fun n hn => (hN n hn).ok, List.filter_cons_of_neg (by rw [keep_empty]; simp)]
    exact List.filter_eq_self.mpr fun n hn => keep_name (hN n hn)
/-- join -/
theorem starts_slash (b : Str) (h : 47 ∉ b.cps.toList) : Txt.startswith b (Str.ofString "/") = false := by
  rw [Bool.eq_false_iff]
  intro q
  rw [Txt.startswith, slash_is, Bool.and_eq_true, decide_eq_true_eq] at q
  have := (subAt_one b 47 0).mp ⟨q.1, q.2⟩
  exact h (List.mem_of_getElem? this)
theorem ends_iff (b : Str) : Txt.endswith b (Str.ofString "/") = true ↔ b.cps.toList.getLast? = some 47 := by
  have hl : (⟨#[47]⟩ : Str).length = 1 := rfl
  rw [Txt.endswith, slash_is, Bool.and_eq_true, decide_eq_true_eq, List.getLast?_eq_getElem?, ← len_tl]
  constructor
  · rintro ⟨h1, h2⟩
    rw [hl] at h2
    exact (subAt_one b 47 _).mp ⟨by omega, h2⟩
  · intro h
    have := (subAt_one b 47 _).mpr h
    exact ⟨by omega, by rw [hl]; exact this.2⟩
theorem jstep_path {ns : List Str} {b : Str} (hN : ∀ n ∈ ns, Ok n) (hb : Ok b) : jstep (pathOf ns) b = pathOf (ns ++ [b]) := by
  have hs := starts_slash b hb.2
  by_cases h : ns = []
  · subst h
    have e1 : Txt.endswith (pathOf []) (Str.ofString "/") = true := (ends_iff _).mpr (by rw [tl_path_nil]; rfl)
    rw [jstep, if_neg (by rw [hs, len_tl, tl_path_nil]; simp), if_pos e1]
    refine str_ext ?_
    rw [tl_app, tl_path_nil, tl_path (by simp)]; simp
  · have hl : (pathOf ns).cps.toList.getLast? ≠ some 47 := by
      obtain ⟨ms, n, rfl⟩ : ∃ ms n, ns = ms ++ [n] := ⟨ns.dropLast, ns.getLast h, (List.dropLast_concat_getLast h).symm⟩
      have hn := hN n (by simp)
      rw [tl_path h, List.flatMap_append]
      simp only [List.flatMap_cons, List.flatMap_nil, List.append_nil]
      rw [List.getLast?_append, List.getLast?_cons]
      obtain ⟨z, hz⟩ : ∃ z, n.cps.toList.getLast? = some z := by
        cases e : n.cps.toList.getLast? with
        | none => exact absurd (List.getLast?_eq_none_iff.mp e) hn.1
        | some z => exact ⟨z, rfl⟩
      rw [hz]
      simp only [Option.getD_some, Option.some_or]
      intro e
      cases e
      exact hn.2 (List.mem_of_getLast? hz)
    rw [jstep, if_neg (by
      rw [hs, len_tl, tl_path h]
      rintro (q | q)
      · cases q
      · cases ns with
        | nil => exact h rfl
        | cons x r => simp [List.flatMap_cons] at q), if_neg (by rw [ends_iff]; exact hl)]
    refine str_ext ?_
    rw [tl_app, tl_app, tl_slash, tl_path h, tl_path (by simp), List.flatMap_append]
    simp
theorem jfold_path : ∀ (bs ns : List Str), (∀ n ∈ ns, Ok n) → (∀ b ∈ bs, Ok b) → bs.foldl jstep (pathOf ns) = pathOf (ns ++ bs)
  | [], ns, _, _ => by simp
  | b :: bs, ns, hN, hB => by
    rw [List.foldl_cons, jstep_path hN (hB b (.head _)), jfold_path bs (ns ++ [b]) (fun n hn => by
      rcases List.mem_append.mp hn with h | h
      · exact hN n h
      · rw [List.mem_singleton.mp h]; exact hB b (.head _)) (fun c hc => hB c (.tail _ hc))]
    simp
/-- normpath -/
theorem tail_path {ns : List Str} (h : ns ≠ []) : Txt.slice (pathOf ns) (some 1) none = Txt.join (Str.ofString "/") ns := by
  refine str_ext ?_
  have hl : 1 ≤ (pathOf ns).length := by
    rw [len_tl, tl_path h]
    cases ns with
    | nil => exact absurd rfl h
    | cons x r => simp [List.flatMap_cons]
  rw [sl_from _ 1 (by decide) (by omega), tl_path h, txt_join]
  cases ns with
  | nil => exact absurd rfl h
  | cons x r => rw [tl_join]; simp [List.flatMap_cons]
theorem tail_path0 : Txt.slice (pathOf []) (some 1) none = Txt.join (Str.ofString "/") [Str.ofString ""] := by
  refine str_ext ?_
  have hl : 1 ≤ (pathOf []).length := by rw [len_tl, tl_path_nil]; simp
  rw [sl_from _ 1 (by decide) (by omega), tl_path_nil, txt_join, tl_join, empty_tl]; simp
def dd : Str := Str.ofString ".."
theorem dd_ok : Ok dd := by constructor <;> decide +kernel
theorem name_ne_dd {n : Str} (h : Nm n) : n ≠ dd := by
  rintro rfl
  have := h.2 46 (by decide +kernel)
  omega
theorem name_ne_dot {n : Str} (h : Nm n) : n ≠ Str.ofString "." := by
  rintro rfl
  have := h.2 46 (by decide +kernel)
  omega
theorem name_len {n : Str} (h : Nm n) : n.length ≠ 0 := by
  rw [len_tl]; exact fun q => h.1 (List.length_eq_zero_iff.mp q)
theorem nfold_names : ∀ (bs acc : List Str), (∀ b ∈ bs, Nm b) → bs.foldl nstep acc = acc ++ bs
  | [], acc, _ => by simp
  | b :: bs, acc, h => by
    have hb := h b (.head _)
    rw [List.foldl_cons, nstep, if_neg (by rintro (q | q); exact name_len hb q; exact name_ne_dot hb q), if_pos (.inl (name_ne_dd hb)), nfold_names bs _ fun c hc => h c (.tail _ hc)]
    simp
theorem nfold_dd : ∀ (k : Nat) (acc : List Str), (∀ b ∈ acc, Nm b) → k ≤ acc.length → (List.replicate k dd).foldl nstep acc = acc.take (acc.length - k)
  | 0, acc, _, _ => by simp
  | k + 1, acc, h, hk => by
    have hl : acc.getLast? ≠ some dd := fun e => name_ne_dd (h dd (List.mem_of_getLast? e)) rfl
    have e1 : nstep acc dd = acc.dropLast := by
      rw [nstep, if_neg (by rintro (q | q); exact absurd q (by decide +kernel); exact absurd q (by decide +kernel)), if_neg (by
        rintro (q | q)
        · exact q rfl
        · exact hl q)]
    rw [List.replicate_succ, List.foldl_cons, e1, nfold_dd k _ (fun b hb => h b (List.dropLast_subset _ hb)) (by simp; omega)]
    rw [List.length_dropLast, List.dropLast_eq_take, List.take_take]
    congr 1; omega
theorem norm_path {ns bs : List Str} {k : Nat} (hN : ∀ n ∈ ns, Nm n) (hB : ∀ b ∈ bs, Nm b) (hk : k ≤ ns.length) : normF (pathOf (ns ++ (List.replicate k dd ++ bs))) = pathOf (ns.take (ns.length - k) ++ bs) := by
  have hok : ∀ n ∈ ns ++ (List.replicate k dd ++ bs), 47 ∉ n.cps.toList := by
    intro n hn
    rcases List.mem_append.mp hn with h | h
    · exact (hN n h).ok.2
    · rcases List.mem_append.mp h with h | h
      · rw [(List.mem_replicate.mp h).2]; exact dd_ok.2
      · exact (hB n h).ok.2
  have hfold : (ns ++ (List.replicate k dd ++ bs)).foldl nstep [] = ns.take (ns.length - k) ++ bs := by
    rw [List.foldl_append, List.foldl_append, nfold_names ns [] hN, List.nil_append, nfold_dd k ns hN hk, nfold_names bs _ hB]
  rw [normF]
  by_cases h : ns ++ (List.replicate k dd ++ bs) = []
  · rw [h, tail_path0, split_join (by simp) (fun p hp => by rw [List.mem_singleton.mp hp, empty_tl]; simp)]
    rw [h] at hfold
    rw [← hfold]
    decide +kernel
  · rw [tail_path h, split_join h hok, hfold]; rfl

end
section
open PySem PySem.W PyProof.Rows PySem.Spec PySem.Calls
open PySem.Builtin PySem.Builtin.Str PySem.StrLaws
set_option Elab.async false
set_option maxRecDepth 100000
set_option maxHeartbeats 1000000
theorem start_Pu2 : True := by w_top off; trivial
/-- dirname -/
theorem rfind_at {x : Str} {pre suf : List Nat} (h : x.cps.toList = pre ++ 47 :: suf) (hs : 47 ∉ suf) : Txt.rfind x (Str.ofString "/") = pre.length := by
  rw [Txt.rfind, slash_is]
  have hp : x.cps.toList[pre.length]? = some 47 := by rw [h]; simp
  rcases last_spec x ⟨#[47]⟩ with ⟨h1, h2⟩ | ⟨i, h1, h2, h3⟩
  · exact absurd ((subAt_one x 47 pre.length).mpr hp) (h2 pre.length)
  · rw [h1]
    have hi := (subAt_one x 47 i).mp h2
    have hle : pre.length ≤ i := by
      rcases Nat.lt_or_ge i pre.length with q | q
      · exact absurd ((subAt_one x 47 pre.length).mpr hp) (h3 _ q)
      · exact q
    have hge : i ≤ pre.length := by
      rcases Nat.lt_or_ge pre.length i with q | q
      · exfalso
        rw [h, List.getElem?_append_right (by omega)] at hi
        obtain ⟨k, hk⟩ : ∃ k, i - pre.length = k + 1 := ⟨i - pre.length - 1, by omega⟩
        rw [hk, List.getElem?_cons_succ] at hi
        exact hs (List.mem_of_getElem? hi)
      · exact q
    show ((i : Nat) : Int) = _
    rw [Nat.le_antisymm hge hle]
theorem head_at {x : Str} {pre suf : List Nat} (h : x.cps.toList = pre ++ 47 :: suf) (hs : 47 ∉ suf) : (headF x).cps.toList = pre ++ [47] := by
  have hl : x.length = pre.length + 1 + suf.length := by rw [len_tl, h]; simp; omega
  rw [headF, rfind_at h hs, sl_to x _ (by omega) (by omega), h]
  have : ((pre.length : Int) + 1).toNat = pre.length + 1 := by omega
  rw [this, List.take_append, List.take_of_length_le (by omega)]
  congr 1
  rw [show pre.length + 1 - pre.length = 1 by omega]; rfl
theorem mul_slash (k : Int) : ∀ c ∈ (Txt.mul (Str.ofString "/") k).cps.toList, c = 47 := by
  have key : ∀ (n : Nat) (acc : Array Nat), (∀ c ∈ acc.toList, c = 47) → ∀ c ∈ ((List.replicate n (Str.ofString "/").cps).foldl (· ++ ·) acc).toList, c = 47 := by
    intro n
    induction n with
    | zero => intro acc h; exact h
    | succ n ih =>
      intro acc h
      rw [List.replicate_succ, List.foldl_cons]
      refine ih _ fun c hc => ?_
      rw [Array.toList_append] at hc
      rcases List.mem_append.mp hc with q | q
      · exact h c q
      · rw [tl_slash] at q; simpa using q
  unfold Txt.mul
  split
  · intro c hc; cases hc
  · split
    · intro c hc; rw [tl_slash] at hc; simpa using hc
    · exact key _ _ (by simp)
theorem mul_one : Txt.mul (Str.ofString "/") 1 = Str.ofString "/" := by decide +kernel
theorem rstrip_at {x : Str} {pre : List Nat} (h : x.cps.toList = pre ++ [47]) (hp : pre.getLast? ≠ some 47) : (Txt.rstripChars x (Str.ofString "/")).cps.toList = pre := by
  rw [Txt.rstripChars, PyProof.Rows.stripBy_eq]
  have h0 : stripLo (Str.ofString "/").cps.contains false x = 0 := rfl
  rw [h0, stripHi, if_pos rfl, strSub_toList, List.drop_zero, len_tl, h]
  have e : (List.takeWhile (Str.ofString "/").cps.contains (pre ++ [47]).reverse) = [47] := by
    rw [List.reverse_append, List.reverse_singleton, List.singleton_append, List.takeWhile_cons, if_pos (by decide +kernel)]
    have : List.takeWhile (Str.ofString "/").cps.contains pre.reverse = [] := by
      cases q : pre.reverse with
      | nil => rfl
      | cons c r =>
        have q1 : pre.getLast? = some c := by rw [← List.head?_reverse, q]; rfl
        rw [List.takeWhile_cons, if_neg]
        rw [slash_is]
        intro q2
        have : c = 47 := by simpa using q2
        exact hp (this ▸ q1)
    rw [this]
  rw [e]
  simp
theorem last_path {ns : List Str} (h : ns ≠ []) (hN : ∀ n ∈ ns, Ok n) : (pathOf ns).cps.toList.getLast? ≠ some 47 := by
  obtain ⟨ms, n, rfl⟩ : ∃ ms n, ns = ms ++ [n] := ⟨ns.dropLast, ns.getLast h, (List.dropLast_concat_getLast h).symm⟩
  have hn := hN n (by simp)
  rw [tl_path h, List.flatMap_append]
  simp only [List.flatMap_cons, List.flatMap_nil, List.append_nil]
  rw [List.getLast?_append, List.getLast?_cons]
  obtain ⟨z, hz⟩ : ∃ z, n.cps.toList.getLast? = some z := by
    cases e : n.cps.toList.getLast? with
    | none => exact absurd (List.getLast?_eq_none_iff.mp e) hn.1
    | some z => exact ⟨z, rfl⟩
  rw [hz]
  simp only [Option.getD_some, Option.some_or]
  intro e
  cases e
  exact hn.2 (List.mem_of_getLast? hz)
theorem dir_snoc {ns : List Str} {n : Str} (hN : ∀ n ∈ ns, Ok n) (hn : Ok n) : dirnameF (pathOf (ns ++ [n])) = pathOf ns := by
  by_cases h : ns = []
  · subst h
    have e := head_at (x := pathOf ([] ++ [n])) (pre := []) (suf := n.cps.toList) (by rw [tl_path (by simp)]; simp) hn.2
    have e1 : headF (pathOf ([] ++ [n])) = Str.ofString "/" := str_ext (by rw [e, tl_slash]; rfl)
    rw [dirnameF, e1, path_nil]
    decide +kernel
  · have hh : (pathOf (ns ++ [n])).cps.toList = (pathOf ns).cps.toList ++ 47 :: n.cps.toList := by
      rw [tl_path (by simp), tl_path h, List.flatMap_append]; simp
    have e := head_at hh hn.2
    have hne : (pathOf ns).cps.toList.length ≠ 0 := by
      rw [tl_path h]
      cases ns with
      | nil => exact absurd rfl h
      | cons x r => simp [List.flatMap_cons]
    rw [dirnameF, if_neg (by rw [len_tl, e]; simp), if_pos]
    · exact str_ext (rstrip_at e (last_path h hN))
    · rw [bne_iff_ne]
      intro q
      have q1 := mul_slash ((headF (pathOf (ns ++ [n]))).length : Int)
      rw [← q, e] at q1
      refine last_path h hN ?_
      cases ql : (pathOf ns).cps.toList.getLast? with
      | none => exact absurd (List.getLast?_eq_none_iff.mp ql) (fun z => hne (by rw [z]; rfl))
      | some z => rw [q1 z (List.mem_append_left _ (List.mem_of_getLast? ql))]
theorem dir_nil : dirnameF (pathOf []) = pathOf [] := by rw [path_nil]; decide +kernel
theorem dir_path {ns : List Str} (hN : ∀ n ∈ ns, Ok n) : dirnameF (pathOf ns) = pathOf ns.dropLast := by
  by_cases h : ns = []
  · subst h; exact dir_nil
  · obtain ⟨ms, n, rfl⟩ : ∃ ms n, ns = ms ++ [n] := ⟨ns.dropLast, ns.getLast h, (List.dropLast_concat_getLast h).symm⟩
    rw [dir_snoc (fun m hm => hN m (by simp [hm])) (hN n (by simp)), List.dropLast_concat]
theorem up_path : ∀ (k : Nat) {ns : List Str}, (∀ n ∈ ns, Ok n) → Nat.repeat dirnameF k (pathOf ns) = pathOf (ns.take (ns.length - k))
  | 0, ns, _ => by simp [Nat.repeat]
  | k + 1, ns, hN => by
    rw [Nat.repeat, up_path k hN, dir_path (fun n hn => hN n (List.mem_of_mem_take hn))]
    congr 1
    rw [List.dropLast_eq_take, List.take_take, List.length_take]
    congr 1; omega
theorem path_inj {ns ms : List Str} (hN : ∀ n ∈ ns, Ok n) (hM : ∀ n ∈ ms, Ok n) (h : pathOf ns = pathOf ms) : ns = ms := by
  have e : (Txt.split (pathOf ns) (Str.ofString "/")) = (Txt.split (pathOf ms) (Str.ofString "/")) := by rw [h]
  by_cases h1 : ns = [] <;> by_cases h2 : ms = []
  · rw [h1, h2]
  · exfalso
    rw [h1, split_path0, split_path h2 hM] at e
    obtain ⟨_, e⟩ := List.cons.inj e
    exact (hM (Str.ofString "") (by rw [← e]; simp)).1 empty_tl
  · exfalso
    rw [h2, split_path0, split_path h1 hN] at e
    obtain ⟨_, e⟩ := List.cons.inj e
    exact (hN (Str.ofString "") (by rw [e]; simp)).1 empty_tl
  · rw [split_path h1 hN, split_path h2 hM] at e
    exact (List.cons.inj e).2

end
section
open PySem PySem.W PyProof.Rows PySem.Spec PySem.Calls
set_option Elab.async false
set_option maxRecDepth 100000
set_option maxHeartbeats 400000
theorem start_Nm : True := by w_top off; trivial
theorem pow10_ne (n : Nat) : (10 : Int) ^ n ≠ 0 := by
  have : (0 : Int) < 10 ^ n := Int.pow_pos (by decide)
  omega
theorem pow10_np {x : Int} {n : Nat} (h : n ≤ 8) : Builtin.divisionGoesByPylong x ((10 : Int) ^ n) = false := by
  refine PyProof.noPylong_small ?_
  have : n = 0 ∨ n = 1 ∨ n = 2 ∨ n = 3 ∨ n = 4 ∨ n = 5 ∨ n = 6 ∨ n = 7 ∨ n = 8 := by omega
  rcases this with rfl | rfl | rfl | rfl | rfl | rfl | rfl | rfl | rfl <;> decide +kernel
end
theorem reg_29 : True := by
  k_with "mine 29" => (k_here; (with_reducible refine floordiv_int (pow10_ne _) ?_ (.inl (pow10_np ?z))); (case z => omega))
  trivial
local macro_rules | `(tactic| walk_at "binaryOp FloorDiv int int") => `(tactic| walk_at "mine 29")
section
open PySem PySem.W PyProof.Rows PySem.Spec PySem.Calls
set_option Elab.async false
set_option maxRecDepth 100000
set_option maxHeartbeats 400000
end
theorem reg_30 : True := by
  k_with "mine 30" => (k_here; (with_reducible refine mod_int' (pow10_ne _) ?_))
  trivial
local macro_rules | `(tactic| walk_at "binaryOp Mod int int") => `(tactic| walk_at "mine 30")
section
open PySem PySem.W PyProof.Rows PySem.Spec PySem.Calls
set_option Elab.async false
set_option maxRecDepth 100000
set_option maxHeartbeats 400000
def dig (n : Int) : Str := Str.ofString (toString n)
def partF (key c w : Int) : Int := Int.fmod (Int.fdiv key (10 ^ c.toNat)) (10 ^ w.toNat)
def figF (p w : Int) : List Str := (List.range w.toNat).map fun (j : Nat) => dig (Int.fmod (Int.fdiv p (10 ^ (w - 1 - (j : Int)).toNat)) 10)
def nameF (key c c' : Int) : Str := Txt.join (Str.ofString "") (figF (partF key c (c' - c)) (c' - c))
def nmStep (key low : Int) (ns : List Int) (acc : List Str) (k : Nat) : List Str := if low ≤ ns.getD k 0 then nameF key (ns.getD k 0) (ns.getD (k + 1) 0) :: acc else acc
def namesF (key low : Int) (ns : List Int) : List Str := (List.range (ns.length - 1)).foldl (nmStep key low ns) []
theorem dig_len (x : Int) : (dig (Int.fmod x 10)).length ≤ 1000 := by
  rw [Int.fmod_eq_emod_of_nonneg x (by decide)]
  have h1 := Int.emod_nonneg x (show (10:Int) ≠ 0 by decide)
  have h2 := Int.emod_lt_of_pos x (show (0:Int) < 10 by decide)
  generalize x % 10 = z at *
  have : z = 0 ∨ z = 1 ∨ z = 2 ∨ z = 3 ∨ z = 4 ∨ z = 5 ∨ z = 6 ∨ z = 7 ∨ z = 8 ∨ z = 9 := by omega
  rcases this with rfl | rfl | rfl | rfl | rfl | rfl | rfl | rfl | rfl | rfl <;> decide +kernel
theorem figs_le {r : List Nat} {f : Nat → Int} {y : Str} (hy : y ∈ r.map fun j => dig (Int.fmod (f j) 10)) : y.length ≤ 1000 := by
  obtain ⟨j, -, rfl⟩ := List.mem_map.mp hy
  exact dig_len _
section
variable {w : World} {A : Around} {s : Shared} {mean : ExcName → Option Value} {mg mb : Str → Option Value} {Q E : Value → Shared → Prop}
theorem c_names {a : Addr} {vs : List Value} {ns : List Int} {key low : Int} {tk tl : Tok} (hl : s.heap.IsList a vs.toArray) (hi : IntsAre vs ns) (hn : ns.length ≤ 10) (hn1 : 1 ≤ ns.length) (hp : ∀ i, i + 1 < ns.length → 0 ≤ ns.getD i 0 ∧ ns.getD i 0 < ns.getD (i + 1) 0 ∧ ns.getD (i + 1) 0 ≤ 6) (hk : 0 ≤ key) (hk2 : key < 1000000) (X : (hd.heap_1 w.params).In s.heap) (T : Tp mean mg mb s.heap) (hdep : A.depth + 3 < recursionLimit) (hun : A.units + 24 < cLine) (hh : A.handled = none)
    (h : ∀ a h' tk' vs k, Ext s.heap h' → s.heap.get? a = none → h'.get? a = some (W.listOf (List.toArray vs) k) → StrsAre vs (namesF key low ns) → Q (.ref a) { s with heap := h', toks := tk' }) : wpAny (model P0 w) A (call (.ref 172) [.int key tk, .ref a, .int low tl]) Q E s := by
  obtain ⟨hd0, dp, fr, gd, un⟩ := A
  dsimp only at hh hdep hun
  subst hh
  refine' enterC (binds := [(Str.ofString "key", .int key tk), (Str.ofString "cuts", .ref a), (Str.ofString "low", .int low tl)]) ?x1 ?x2 ?x3 ?x4 ?x5 ?x6 ?x7 ?x8 ?x9 ?x10 ?x11 ?_
  walk_at "mine enteredC"
  have hvl0 := hi.length
  have hget := fun i v => ints_get hi (i := i) (v := v)
  k_steps
  refine Hold.out ?_
  refine' iter_rangeA (n := ((ns.length : Int) - 1 - 0).toNat) (fun m₀ n₀ i m nx => ∃ ln l0 o0 c2 o2 o2' c1 o1 o1' vs' k, n₀ = [(l0, o0), (c2, o2), (c1, o1)] ∧ nx = [(ln, W.listOf (List.toArray vs') k), (c2, o2'), (c1, o1')] ∧
      m (Str.ofString "names") = some (.ref ln) ∧ (∀ y, y ≠ Str.ofString "k" → y ≠ Str.ofString "names" → m y = m₀ y) ∧ (∃ v, o2'.data = .cell v) ∧ (∃ v, o1'.data = .cell v) ∧ StrsAre vs' ((List.range i).foldl (nmStep key low ns) []) ∧ vs'.length ≤ i) ?x1 ?x2 ?x3 ?x4 ?x5 ?x6 ?x7 ?x8 ?x9
  (case x1 => exact rfl)
  (case x2 => assumption)
  (case x3 => exact range_small (by omega) (by omega) (by omega) (by omega))
  (case x4 => exact range_len)
  (case x5 => k_asm)
  (case x6 => k_asm)
  (case x7 => exact ⟨_, _, _, _, _, _, _, _, _, [], _, rfl, rfl, rfl, fun _ _ _ => rfl, ⟨_, by assumption⟩, ⟨_, by assumption⟩, .nil, Nat.le_refl _⟩)
  (case x8 =>
    rintro i t m₁ n₁ h9 tk9 own hin ⟨ln, l0, o0, c2, o2, o2', c1, o1, o1', vs', k, hn0, rfl, hm1, hm2, ⟨v2, hv2⟩, ⟨v1, hv1⟩, hS, hvl⟩ hown ⟨oI, hoI, hsI⟩ hnw F9 N9
    obtain ⟨e1, e2⟩ := List.cons.inj hn0
    obtain ⟨e3, e4⟩ := List.cons.inj e2
    obtain ⟨e5, e6⟩ := List.cons.inj e4
    obtain ⟨rfl, -⟩ := Prod.mk.inj e1
    obtain ⟨rfl, -⟩ := Prod.mk.inj e3
    obtain ⟨rfl, -⟩ := Prod.mk.inj e5
    obtain ⟨u, rfl⟩ := map2 (Str.ofString "k") (Str.ofString "names") hm1 hm2
    clear hm1 hm2 hn0 e1 e2 e3 e4 e5 e6
    have hi1 : i + 1 < ns.length := by omega
    obtain ⟨p1, p2, p3⟩ := hp i hi1
    have q1 : ns.getD ((i : Nat) : Int).toNat 0 = ns.getD i 0 := by rw [Int.toNat_natCast]
    have q2 : ns.getD (((i : Nat) : Int) + 1).toNat 0 = ns.getD (i + 1) 0 := by congr 1
    rw [Int.zero_add] at F9
    have hO1 := own_ne1 hown hnw (.head _)
    have hO2 := own_ne1 hown hnw (.tail _ (.head _))
    have hO3 := own_ne1 hown hnw (.tail _ (.tail _ (.head _)))
    have hN1 : @Ne Nat ln (_ + 1 + 1) := data_ne N9 (List.mem_append_left _ (.head _)) (List.mem_append_left _ (.tail _ (.head _))) (by rw [hv2]; exact fun q => nomatch q)
    have hN2 : @Ne Nat ln (_ + 1) := data_ne N9 (List.mem_append_left _ (.head _)) (List.mem_append_left _ (.tail _ (.tail _ (.head _)))) (by rw [hv1]; exact fun q => nomatch q)
    k_steps
    · refine Hold.out ?_
      have hge : low ≤ ns.getD ((i : Nat) : Int).toNat 0 := by assumption
      refine LCg.CompSrc.range rfl (by k_asm) (by k_asm) (by assumption) (range_small (by omega) (by omega) (by omega) (by omega)) range_len (by rw [sizeLine_eq]; omega) ?_
      intro g9
      refine compU (fun n ys => StrsAre ys ((List.range n).map fun (j : Nat) => dig (Int.fmod (Int.fdiv (partF key (ns.getD ((i : Nat) : Int).toNat 0) (ns.getD (((i : Nat) : Int) + 1).toNat 0 - ns.getD ((i : Nat) : Int).toNat 0)) (10 ^ (ns.getD (((i : Nat) : Int) + 1).toNat 0 - ns.getD ((i : Nat) : Int).toNat 0 - 1 - (j : Int)).toNat)) 10))) trivial .nil ?_ ?_
      · rintro j v I oI9 C oC D m₂ ys h tk E' hjn ⟨t, rfl⟩ hG hC hx F9 N9
        rw [Int.zero_add] at hx
        k_steps
        refine cend (by k_asm) (by k_asm) (fun _ hp => hp) ?_
        rw [List.range_succ, List.map_append]
        exact strsSnoc hG
      · intro ys hG D h9 tk9 F9 N9 off9
        rw [Int.sub_zero] at hG
        have hA1 := strs_len hG
        rw [List.length_map, List.length_range] at hA1
        have hA2 := fun y => figs_le (r := List.range (ns.getD (((i : Nat) : Int) + 1).toNat 0 - ns.getD ((i : Nat) : Int).toNat 0).toNat) (f := fun (j : Nat) => Int.fdiv (partF key (ns.getD ((i : Nat) : Int).toNat 0) (ns.getD (((i : Nat) : Int) + 1).toNat 0 - ns.getD ((i : Nat) : Int).toNat 0)) (10 ^ (ns.getD (((i : Nat) : Int) + 1).toNat 0 - ns.getD ((i : Nat) : Int).toNat 0 - 1 - (j : Int)).toNat)) (y := y)
        have hRoom := joinRoom (sep := Str.ofString "") (by decide) (by rw [List.length_map, List.length_range]; omega) hA2
        k_steps
        with_reducible rename Fr _ _ _ _ => F7
        with_reducible rename News _ _ _ _ => N7
        refine turnB [_, _, _] F7 N7 (fun p hp => .tail _ (.tail _ (.tail _ (.tail _ (.tail _ (.tail _ hp)))))) (List.forall_mem_cons.mpr ⟨.head _, List.forall_mem_cons.mpr ⟨.tail _ (.tail _ (.tail _ (.tail _ (.head _)))), List.forall_mem_cons.mpr ⟨.tail _ (.tail _ (.tail _ (.tail _ (.tail _ (.head _))))), List.forall_mem_nil _⟩⟩⟩)
          (List.forall_mem_cons.mpr ⟨ne_iter N7 (.head _) hoI (fun p hp => .tail _ (.tail _ (.tail _ (.tail _ (.tail _ (.tail _ hp)))))) hsI, List.forall_mem_cons.mpr ⟨hnw (_, o2') (.tail _ (.head _)), List.forall_mem_cons.mpr ⟨hnw (_, o1') (.tail _ (.tail _ (.head _))), List.forall_mem_nil _⟩⟩⟩)
          ⟨_, _, _, _, _, _, _, _, _, _, _, rfl, rfl, rfl, fun y h1 h2 => by simp only [if_neg h1, if_neg h2], ⟨_, by assumption⟩, ⟨_, by assumption⟩, ?_, ?_⟩
        · rw [List.range_succ, List.foldl_append, List.foldl_cons, List.foldl_nil, nmStep, if_pos (by rw [← q1]; exact hge), ← q1, ← q2]
          exact .cons _ _ hS
        · rw [List.length_append, List.length_singleton]; omega
    · exact turnA [(_, _), (_, _), (_, _)] (by k_asm) (by k_asm) (fun p hp => List.mem_append_right _ hp) (fun p hp => List.mem_append_left _ hp) hnw rfl ⟨_, _, _, _, _, _, _, _, _, _, _, rfl, rfl, rfl, fun y h1 h2 => by simp only [if_neg h1, if_neg h2], ⟨_, hv2⟩, ⟨_, hv1⟩, by
        rw [List.range_succ, List.foldl_append, List.foldl_cons, List.foldl_nil, nmStep, if_neg (by rw [← q1]; assumption)]; exact hS, by omega⟩)
  rintro m₁ n₁ h9 tk9 ⟨ln, l0, o0, c2, o2, o2', c1, o1, o1', vs', k, hn0, rfl, hm1, hm2, -, -, hS, hvl⟩ F9 N9
  obtain ⟨u, rfl⟩ := map2 (Str.ofString "k") (Str.ofString "names") hm1 hm2
  clear hm1 hm2 hn0
  dsimp only
  k_steps
  refine h _ _ _ _ _ (Fr.keep (by k_asm)) (News.fresh (by k_asm) (.head _)) (News.get (by k_asm) (.head _)) ?_
  rw [namesF, show ns.length - 1 = ((ns.length : Int) - 1 - 0).toNat by omega]; exact hS
end
end
section
open PySem PySem.W PyProof.Rows PySem.Spec PySem.Calls
open PySem.Builtin PySem.Builtin.Str PySem.StrLaws
set_option Elab.async false
set_option maxRecDepth 100000
set_option maxHeartbeats 1000000
theorem start_Pu3 : True := by w_top off; trivial
def dg (K i : Nat) : Nat := 48 + K / 10 ^ i % 10
theorem tl_dig {d : Nat} (h : d < 10) : (dig (d : Int)).cps.toList = [48 + d] := by
  have : d = 0 ∨ d = 1 ∨ d = 2 ∨ d = 3 ∨ d = 4 ∨ d = 5 ∨ d = 6 ∨ d = 7 ∨ d = 8 ∨ d = 9 := by omega
  rcases this with rfl | rfl | rfl | rfl | rfl | rfl | rfl | rfl | rfl | rfl <;> decide +kernel
theorem tl_join0 : ∀ (r : List Str) (x : Str), (Str.join (Str.ofString "") (x :: r)).cps.toList = (x :: r).flatMap fun y => y.cps.toList
  | [], x => by show x.cps.toList = _; simp
  | y :: r, x => by
    show (x ++ Str.ofString "" ++ Str.join (Str.ofString "") (y :: r)).cps.toList = _
    rw [tl_app, tl_app, tl_join0 r y, empty_tl]
    simp
theorem tl_glue (ps : List Str) : (Txt.join (Str.ofString "") ps).cps.toList = ps.flatMap fun y => y.cps.toList := by
  rw [show Txt.join (Str.ofString "") ps = Str.join (Str.ofString "") ps from glued_eq_join _ _]
  cases ps with
  | nil => decide +kernel
  | cons x r => exact tl_join0 r x
theorem cast_fdiv (a b : Nat) : Int.fdiv (a : Int) (b : Int) = ((a / b : Nat) : Int) := by
  rw [Int.fdiv_eq_ediv_of_nonneg _ (Int.natCast_nonneg b)]; rfl
theorem cast_fmod (a b : Nat) : Int.fmod (a : Int) (b : Int) = ((a % b : Nat) : Int) := by
  rw [Int.fmod_eq_emod_of_nonneg _ (Int.natCast_nonneg b)]; rfl
theorem cast_pow (n : Nat) : (10 : Int) ^ n = ((10 ^ n : Nat) : Int) := by rw [Int.natCast_pow]; rfl
theorem cast_q (K n : Nat) : Int.fdiv (K : Int) (10 ^ n) = ((K / 10 ^ n : Nat) : Int) := by rw [cast_pow, cast_fdiv]
theorem cast_d (K n : Nat) : Int.fmod (Int.fdiv (K : Int) (10 ^ n)) 10 = ((K / 10 ^ n % 10 : Nat) : Int) := by
  rw [cast_q, show (10 : Int) = ((10 : Nat) : Int) from rfl, cast_fmod]
theorem flatMap_one {α : Type} (l : List α) (f : α → Str) (g : α → Nat) (h : ∀ a ∈ l, (f a).cps.toList = [g a]) : (l.map f).flatMap (fun y => y.cps.toList) = l.map g := by
  induction l with
  | nil => rfl
  | cons a l ih =>
    rw [List.map_cons, List.flatMap_cons, h a (.head _), ih fun b hb => h b (.tail _ hb)]; rfl
theorem tl_figs (K n : Nat) (e : Nat → Int) : (Txt.join (Str.ofString "") ((List.range n).map fun (j : Nat) => dig (Int.fmod (Int.fdiv (K : Int) (10 ^ (e j).toNat)) 10))).cps.toList = (List.range n).map fun j => dg K (e j).toNat := by
  rw [tl_glue]
  refine flatMap_one _ _ _ fun j _ => ?_
  rw [cast_d, tl_dig (Nat.mod_lt _ (by decide))]; rfl
theorem mod_digit (a w i : Nat) (h : i < w) : a % 10 ^ w / 10 ^ i % 10 = a / 10 ^ i % 10 := by
  obtain ⟨k, rfl⟩ : ∃ k, w = i + (k + 1) := ⟨w - i - 1, by omega +splitDisjunctions⟩
  rw [Nat.pow_add, Nat.mod_mul_right_div_self, Nat.pow_succ, Nat.mod_mul_left_mod]
theorem part_is (K c w : Nat) : partF (K : Int) (c : Int) (w : Int) = ((K / 10 ^ c % 10 ^ w : Nat) : Int) := by
  rw [partF, Int.toNat_natCast, Int.toNat_natCast, cast_q, cast_pow, cast_fmod]
theorem tl_name (K c c' : Nat) (h : c < c') : (nameF (K : Int) (c : Int) (c' : Int)).cps.toList = (List.range (c' - c)).map fun j => dg K (c' - 1 - j) := by
  have ew : (c' : Int) - (c : Int) = ((c' - c : Nat) : Int) := by omega +splitDisjunctions
  rw [nameF, ew, part_is, figF, Int.toNat_natCast]
  rw [tl_figs (K / 10 ^ c % 10 ^ (c' - c)) (c' - c) fun j => ((c' - c : Nat) : Int) - 1 - (j : Int)]
  refine List.map_congr_left fun j hj => ?_
  have hj' : j < c' - c := List.mem_range.mp hj
  have e : (((c' - c : Nat) : Int) - 1 - (j : Int)).toNat = c' - c - 1 - j := by omega +splitDisjunctions
  rw [e, dg, dg, mod_digit _ _ _ (by omega +splitDisjunctions), Nat.div_div_eq_div_mul, ← Nat.pow_add, show c + (c' - c - 1 - j) = c' - 1 - j by omega +splitDisjunctions]
theorem digits_inj : ∀ (w a b : Nat), a < 10 ^ w → b < 10 ^ w → (∀ i, i < w → a / 10 ^ i % 10 = b / 10 ^ i % 10) → a = b
  | 0, a, b, ha, hb, _ => by rw [Nat.pow_zero] at ha hb; omega
  | w + 1, a, b, ha, hb, h => by
    have h0 := h 0 (by omega)
    rw [Nat.pow_zero, Nat.div_one, Nat.div_one] at h0
    have h1 := digits_inj w (a / 10) (b / 10) (by rw [Nat.pow_succ] at ha; omega) (by rw [Nat.pow_succ] at hb; omega) fun i hi => by
      have := h (i + 1) (by omega)
      rw [Nat.pow_succ, Nat.mul_comm, ← Nat.div_div_eq_div_mul, ← Nat.div_div_eq_div_mul] at this
      exact this
    omega
/-- a name tells its part, and its part the name -/
theorem name_part {K1 K2 c c' : Nat} (h : c < c') : nameF (K1 : Int) (c : Int) (c' : Int) = nameF (K2 : Int) (c : Int) (c' : Int) ↔ K1 / 10 ^ c % 10 ^ (c' - c) = K2 / 10 ^ c % 10 ^ (c' - c) := by
  have ew : (c' : Int) - (c : Int) = ((c' - c : Nat) : Int) := by omega +splitDisjunctions
  constructor
  · intro e
    have e1 := congrArg (fun z : Str => z.cps.toList) e
    simp only [tl_name _ c c' h] at e1
    refine digits_inj (c' - c) _ _ (Nat.mod_lt _ (Nat.pow_pos (by decide))) (Nat.mod_lt _ (Nat.pow_pos (by decide))) fun i hi => ?_
    rw [mod_digit _ _ _ hi, mod_digit _ _ _ hi, Nat.div_div_eq_div_mul, Nat.div_div_eq_div_mul, ← Nat.pow_add]
    have e2 := (List.map_inj_left.mp e1) (c' - c - 1 - i) (List.mem_range.mpr (by omega +splitDisjunctions))
    rw [dg, dg, show c' - 1 - (c' - c - 1 - i) = c + i by omega +splitDisjunctions] at e2
    omega +splitDisjunctions
  · intro e
    rw [nameF, nameF, ew, part_is, part_is, e]
theorem quot_step {K1 K2 c c' : Nat} (h : c < c') : K1 / 10 ^ c = K2 / 10 ^ c ↔ K1 / 10 ^ c % 10 ^ (c' - c) = K2 / 10 ^ c % 10 ^ (c' - c) ∧ K1 / 10 ^ c' = K2 / 10 ^ c' := by
  have e : ∀ K : Nat, K / 10 ^ c' = K / 10 ^ c / 10 ^ (c' - c) := fun K => by
    rw [Nat.div_div_eq_div_mul, ← Nat.pow_add, show c + (c' - c) = c' by omega]
  rw [e K1, e K2]
  constructor
  · intro q; rw [q]; exact ⟨rfl, rfl⟩
  · rintro ⟨q1, q2⟩
    rw [← Nat.div_add_mod (K1 / 10 ^ c) (10 ^ (c' - c)), ← Nat.div_add_mod (K2 / 10 ^ c) (10 ^ (c' - c)), q1, q2]
theorem name_nm (K c c' : Nat) (h : c < c') : Nm (nameF (K : Int) (c : Int) (c' : Int)) := by
  constructor
  · rw [tl_name K c c' h]
    intro q
    have := congrArg List.length q
    simp at this; omega
  · rw [tl_name K c c' h]
    intro z hz
    obtain ⟨j, _, rfl⟩ := List.mem_map.mp hz
    rw [dg]
    have := Nat.mod_lt (K / 10 ^ (c' - 1 - j)) (show 0 < 10 by decide)
    omega
/-- the cuts: from 0 to 6, rising -/
structure CutsOk (ns : List Int) : Prop where
  two : 2 ≤ ns.length
  few : ns.length ≤ 8
  first : ns.getD 0 0 = 0
  rise : ∀ k, k + 1 < ns.length → ns.getD k 0 < ns.getD (k + 1) 0
  last : ns.getD (ns.length - 1) 0 = 6
def cut (ns : List Int) (k : Nat) : Nat := (ns.getD k 0).toNat
theorem CutsOk.nonneg {ns : List Int} (C : CutsOk ns) : ∀ k, 0 ≤ ns.getD k 0 := by
  intro k
  by_cases h : k < ns.length
  · induction k with
    | zero => rw [C.first]; omega
    | succ k ih =>
      have := ih (by omega)
      have := C.rise k h
      omega
  · rw [List.getD_eq_getElem?_getD, List.getElem?_eq_none (by omega)]; simp
theorem CutsOk.cast {ns : List Int} (C : CutsOk ns) (k : Nat) : ns.getD k 0 = ((cut ns k : Nat) : Int) := (Int.toNat_of_nonneg (C.nonneg k)).symm
theorem CutsOk.step {ns : List Int} (C : CutsOk ns) {k : Nat} (h : k + 1 < ns.length) : cut ns k < cut ns (k + 1) := by
  have := C.rise k h
  rw [C.cast, C.cast] at this
  omega
theorem CutsOk.mono {ns : List Int} (C : CutsOk ns) {j k : Nat} (h : j < k) (hk : k < ns.length) : cut ns j < cut ns k := by
  induction k with
  | zero => omega
  | succ k ih =>
    have h1 := C.step hk
    rcases Nat.lt_or_ge j k with q | q
    · exact Nat.lt_trans (ih q (by omega)) h1
    · rw [show j = k by omega]; exact h1
theorem CutsOk.end6 {ns : List Int} (C : CutsOk ns) : cut ns (ns.length - 1) = 6 := by rw [cut, C.last]; rfl
theorem CutsOk.le6 {ns : List Int} (C : CutsOk ns) {k : Nat} (h : k < ns.length) : cut ns k ≤ 6 := by
  rcases Nat.lt_or_ge k (ns.length - 1) with q | q
  · have := C.mono q (by omega); rw [C.end6] at this; omega
  · rw [show k = ns.length - 1 by omega, C.end6]; omega
def nmAt (K : Nat) (ns : List Int) (k : Nat) : Str := nameF (K : Int) (ns.getD k 0) (ns.getD (k + 1) 0)
def names (K : Nat) (ns : List Int) : List Str := ((List.range (ns.length - 1)).map (nmAt K ns)).reverse
theorem names_len (K : Nat) (ns : List Int) : (names K ns).length = ns.length - 1 := by simp [names]
theorem nmAt_nm {ns : List Int} (C : CutsOk ns) (K : Nat) {k : Nat} (h : k + 1 < ns.length) : Nm (nmAt K ns k) := by
  rw [nmAt, C.cast, C.cast]; exact name_nm _ _ _ (C.step h)
theorem names_nm {ns : List Int} (C : CutsOk ns) (K : Nat) : ∀ n ∈ names K ns, Nm n := by
  intro n hn
  obtain ⟨k, hk, rfl⟩ := List.mem_map.mp (List.mem_reverse.mp hn)
  exact nmAt_nm C K (by have := List.mem_range.mp hk; omega +splitDisjunctions)
theorem foldl_filter {f : Nat → Str} (p : Nat → Prop) [DecidablePred p] (n : Nat) : (List.range n).foldl (fun acc k => if p k then f k :: acc else acc) [] = (((List.range n).filter fun k => decide (p k)).map f).reverse := by
  induction n with
  | zero => rfl
  | succ n ih =>
    rw [List.range_succ, List.foldl_append, ih, List.filter_append, List.map_append, List.reverse_append]
    by_cases h : p n <;> simp [h]
theorem filter_ge (n j : Nat) : (List.range n).filter (fun k => decide (j ≤ k)) = (List.range n).drop j := by
  induction n with
  | zero => simp
  | succ n ih =>
    rw [List.range_succ, List.filter_append, ih]
    by_cases h : j ≤ n
    · rw [List.drop_append_of_le_length (by simpa using h)]; simp [h]
    · have h1 : (List.range n ++ [n]).drop j = [] := List.drop_of_length_le (by simp; omega)
      have h2 : (List.range n).drop j = [] := List.drop_of_length_le (by simp; omega)
      rw [h1, h2]; simp [h]
theorem namesF_from {ns : List Int} (C : CutsOk ns) (K j : Nat) (hj : j < ns.length) : namesF (K : Int) (ns.getD j 0) ns = (names K ns).take (ns.length - 1 - j) := by
  have e := foldl_filter (f := nmAt K ns) (fun k => ns.getD j 0 ≤ ns.getD k 0) (ns.length - 1)
  refine Eq.trans e ?_
  have e2 : ((List.range (ns.length - 1)).filter fun k => decide (ns.getD j 0 ≤ ns.getD k 0)) = (List.range (ns.length - 1)).filter fun k => decide (j ≤ k) := by
    refine List.filter_congr fun k hk => ?_
    have hk' := List.mem_range.mp hk
    rw [decide_eq_decide, C.cast, C.cast]
    constructor
    · intro q
      rcases Nat.lt_or_ge k j with r | r
      · have := C.mono r hj; omega
      · exact r
    · intro q
      rcases Nat.lt_or_ge j k with r | r
      · have := C.mono r (by omega); omega
      · rw [show j = k by omega]; omega
  rw [e2, filter_ge, names, List.map_drop, List.reverse_drop]
  simp
theorem namesF_all {ns : List Int} (C : CutsOk ns) (K : Nat) : namesF (K : Int) 0 ns = names K ns := by
  have := namesF_from C K 0 (by have := C.two; omega)
  rw [C.first] at this
  rw [this, List.take_of_length_le (by rw [names_len]; omega)]
theorem names_take (K : Nat) (ns : List Int) (j : Nat) : (names K ns).take (ns.length - 1 - j) = (((List.range (ns.length - 1)).drop j).map (nmAt K ns)).reverse := by
  rw [names, List.map_drop, List.reverse_drop]; simp
theorem names_split (K : Nat) (ns : List Int) {j : Nat} (h : j + 1 < ns.length) : (names K ns).take (ns.length - 1 - j) = (names K ns).take (ns.length - 1 - (j + 1)) ++ [nmAt K ns j] := by
  rw [names_take, names_take, List.drop_eq_getElem_cons (by simp; omega)]
  simp
/-- the names agree from a cut upwards just when the quotients there do -/
theorem agree {ns : List Int} (C : CutsOk ns) {K1 K2 : Nat} (h1 : K1 < 1000000) (h2 : K2 < 1000000) : ∀ (d j : Nat), j + d + 1 = ns.length →
    ((names K1 ns).take (ns.length - 1 - j) = (names K2 ns).take (ns.length - 1 - j) ↔ K1 / 10 ^ cut ns j = K2 / 10 ^ cut ns j)
  | 0, j, e => by
    rw [show j = ns.length - 1 by omega, C.end6, Nat.sub_self]
    constructor
    · intro _; rw [Nat.div_eq_of_lt h1, Nat.div_eq_of_lt h2]
    · intro _; rfl
  | d + 1, j, e => by
    have ih := agree C h1 h2 d (j + 1) (by omega)
    have hs := C.step (k := j) (by omega)
    rw [names_split K1 ns (by omega), names_split K2 ns (by omega), quot_step hs, ← ih, ← name_part hs]
    have e1 : nmAt K1 ns j = nameF (K1 : Int) ((cut ns j : Nat) : Int) ((cut ns (j + 1) : Nat) : Int) := by rw [nmAt, C.cast, C.cast]
    have e2 : nmAt K2 ns j = nameF (K2 : Int) ((cut ns j : Nat) : Int) ((cut ns (j + 1) : Nat) : Int) := by rw [nmAt, C.cast, C.cast]
    rw [e1, e2]
    constructor
    · intro q
      have := List.append_inj_right' q rfl
      exact ⟨by simpa using this, List.append_inj_left' q rfl⟩
    · rintro ⟨q1, q2⟩; rw [q1, q2]

end
section
open PySem PySem.W PyProof.Rows PySem.Spec PySem.Calls
open PySem.Builtin PySem.Builtin.Str PySem.StrLaws
set_option Elab.async false
set_option maxRecDepth 100000
set_option maxHeartbeats 1000000
theorem start_Pu4 : True := by w_top off; trivial
def agreeP (K1 K2 : Nat) (p : Int) : Bool := decide (Int.fdiv (K1 : Int) (10 ^ p.toNat) = Int.fdiv (K2 : Int) (10 ^ p.toNat))
theorem agreeP_iff {K1 K2 : Nat} {ns : List Int} (k : Nat) : agreeP K1 K2 (ns.getD k 0) = true ↔ K1 / 10 ^ cut ns k = K2 / 10 ^ cut ns k := by
  rw [agreeP, decide_eq_true_eq, cast_q, cast_q]
  show ((K1 / 10 ^ cut ns k : Nat) : Int) = ((K2 / 10 ^ cut ns k : Nat) : Int) ↔ _
  omega
theorem mem_at {ns : List Int} {x : Int} (h : x ∈ ns) : ∃ k, k < ns.length ∧ x = ns.getD k 0 := by
  obtain ⟨k, hk, e⟩ := List.getElem_of_mem h
  exact ⟨k, hk, by rw [List.getD_eq_getElem?_getD, List.getElem?_eq_getElem hk, e]; rfl⟩
theorem getD_mem' {ns : List Int} {k : Nat} (h : k < ns.length) : ns.getD k 0 ∈ ns := by
  rw [List.getD_eq_getElem?_getD, List.getElem?_eq_getElem h]; exact List.getElem_mem h
theorem list_is {ns : List Int} : ns = (List.range ns.length).map fun k => ns.getD k 0 := by
  refine List.ext_getElem (by simp) fun i h1 h2 => ?_
  simp [List.getD_eq_getElem?_getD, List.getElem?_eq_getElem h1]
theorem count_lt {ns : List Int} (C : CutsOk ns) {j : Nat} (hj : j < ns.length) : (ns.filter fun p => decide (p < ns.getD j 0)).length = j := by
  have e : (ns.filter fun p => decide (p < ns.getD j 0)).length = ((List.range ns.length).filter fun k => decide (ns.getD k 0 < ns.getD j 0)).length := by
    conv => lhs; arg 1; rw [list_is (ns := ns)]
    rw [List.filter_map, List.length_map]
    congr 1
    refine List.filter_congr fun k _ => ?_
    show decide (ns.getD k 0 < ((List.range ns.length).map fun k => ns.getD k 0).getD j 0) = _
    rw [← list_is]
  rw [e]
  have e2 : ((List.range ns.length).filter fun k => decide (ns.getD k 0 < ns.getD j 0)) = (List.range ns.length).take j := by
    have e3 : ((List.range ns.length).filter fun k => decide (ns.getD k 0 < ns.getD j 0)) = (List.range ns.length).filter fun k => decide (k < j) := by
      refine List.filter_congr fun k hk => ?_
      have hk' := List.mem_range.mp hk
      rw [decide_eq_decide, C.cast, C.cast]
      constructor
      · intro q
        rcases Nat.lt_or_ge k j with r | r
        · exact r
        · rcases Nat.lt_or_ge j k with r2 | r2
          · have := C.mono r2 hk'; omega
          · rw [show j = k by omega] at q; omega
      · intro q
        have := C.mono q hj; omega
    rw [e3]
    have e4 : ∀ n, (List.range n).filter (fun k => decide (k < j)) = (List.range n).take j := by
      intro n
      induction n with
      | zero => simp
      | succ n ih =>
        rw [List.range_succ, List.filter_append, ih]
        by_cases h : n < j
        · rw [List.take_of_length_le (by simp; omega), List.take_of_length_le (by simp; omega)]; simp [h]
        · rw [List.take_append_of_le_length (by simp; omega)]; simp [h]
    exact e4 _
  rw [e2, List.length_take, List.length_range]; omega
/-- what a pair of keys shares -/
theorem pair_pure {ns : List Int} (C : CutsOk ns) {K1 K2 : Nat} (h1 : K1 < 1000000) (h2 : K2 < 1000000) {M : Int} (hm : M ∈ ns.filter (agreeP K1 K2)) (hle : ∀ a, a ∈ ns.filter (agreeP K1 K2) → M ≤ a) :
    ∃ j, j < ns.length ∧ M = ns.getD j 0 ∧ (ns.filter fun p => decide (p < M)).length = j ∧ namesF (K1 : Int) M ns = (names K1 ns).take (ns.length - 1 - j) ∧
      lcpF (names K1 ns) (names K2 ns) = (names K1 ns).take (ns.length - 1 - j) ∧ (names K1 ns).take (ns.length - 1 - j) = (names K2 ns).take (ns.length - 1 - j) := by
  obtain ⟨hmn, hma⟩ := List.mem_filter.mp hm
  obtain ⟨j, hj, rfl⟩ := mem_at hmn
  have hq := (agreeP_iff j).mp hma
  have ht := (agree C h1 h2 (ns.length - 1 - j) j (by omega)).mpr hq
  refine ⟨j, hj, rfl, count_lt C hj, namesF_from C K1 j hj, ?_, ht⟩
  have hl1 := names_len K1 ns
  have hl2 := names_len K2 ns
  cases j with
  | zero =>
    have e0 : ns.length - 1 - 0 = (names K1 ns).length := by rw [hl1]; omega
    rw [e0] at ht ⊢
    rw [List.take_length]
    exact lcp_whole (by rw [hl1, hl2]) ht
  | succ j =>
    have hi : ns.length - 1 - (j + 1) < (names K1 ns).length := by rw [hl1]; omega
    have hi2 : ns.length - 1 - (j + 1) < (names K2 ns).length := by rw [hl2]; omega
    refine lcp_at ht hi hi2 fun q => ?_
    have ht2 : (names K1 ns).take (ns.length - 1 - j) = (names K2 ns).take (ns.length - 1 - j) := by
      rw [show ns.length - 1 - j = ns.length - 1 - (j + 1) + 1 by omega, List.take_add_one, List.take_add_one, ht, List.getElem?_eq_getElem hi, List.getElem?_eq_getElem hi2, q]
    have hq2 := (agree C h1 h2 (ns.length - 1 - j) j (by omega)).mp ht2
    have hmem : ns.getD j 0 ∈ ns.filter (agreeP K1 K2) := List.mem_filter.mpr ⟨getD_mem' (by omega), (agreeP_iff j).mpr hq2⟩
    have := hle _ hmem
    have := C.rise j (by omega)
    omega
theorem agree_some {ns : List Int} (C : CutsOk ns) {K1 K2 : Nat} (h1 : K1 < 1000000) (h2 : K2 < 1000000) : 0 < (ns.filter (agreeP K1 K2)).length := by
  have := C.two
  have hm : ns.getD (ns.length - 1) 0 ∈ ns.filter (agreeP K1 K2) := List.mem_filter.mpr ⟨getD_mem' (by omega), (agreeP_iff _).mpr (by rw [C.end6, Nat.div_eq_of_lt h1, Nat.div_eq_of_lt h2])⟩
  exact List.length_pos_of_mem hm
theorem cut_mem {ns : List Int} (C : CutsOk ns) {x : Int} (h : x ∈ ns) : 0 ≤ x ∧ x ≤ 6 := by
  obtain ⟨k, hk, rfl⟩ := mem_at h
  have := C.le6 hk
  rw [C.cast]; omega
/-- a list of one, taken many times -/
theorem foldl_rep (v : Value) : ∀ (n : Nat) (acc : Array Value), List.foldl (fun x1 x2 => x1 ++ x2) acc (List.replicate n #[v]) = acc ++ (List.replicate n v).toArray
  | 0, acc => by simp
  | n + 1, acc => by rw [List.replicate_succ, List.foldl_cons, foldl_rep v n, List.replicate_succ]; apply Array.toList_inj.mp; simp
theorem strs_rep {y : Str} {t : Tok} : ∀ n, StrsAre (List.replicate n (.str y t)) (List.replicate n y)
  | 0 => .nil
  | n + 1 => .cons _ _ (strs_rep n)
theorem strs_app {vs us : List Value} {xs ys : List Str} (h : StrsAre vs xs) (h2 : StrsAre us ys) : StrsAre (vs ++ us) (xs ++ ys) := by
  induction h with
  | nil => exact h2
  | cons y t _ ih => exact .cons y t ih
section
variable {prog : Program} {w : World} {A : Around} {E : Value → Shared → Prop} {s : Shared} {h₀ : Heap} {L : Addr} {m : Str → Option Value} {news : List (Addr × Obj)}
theorem mulL {l : Addr} {v : Value} {k : Nat} {x : Int} {u : Tok} {Q : Value → Shared → Prop} (F : Fr h₀ L s.heap m) (N : News h₀ L s.heap news) (hm : (l, W.listOf [v].toArray k) ∈ news) (h0 : 0 ≤ x) (h1 : x ≤ 100)
    (h : ∀ D h', Fr h₀ L h' m → News h₀ L h' ((D, W.listOf (List.replicate x.toNat v).toArray 0) :: news) → (∀ p ∈ news, p.1 < D) → Q (.ref D) { s with heap := h' }) : wpAny (model prog w) A (binaryOp .Mult (.ref l) (.int x u)) Q E s := by
  refine mul_list F N (N.get hm) (by omega) (by omega) (by simp; omega) fun h' F' N' => h _ h' F' ?_ fun p hp => Heap.lt_size (N p hp).1
  have e := foldl_rep v x.toNat #[]
  rw [Array.empty_append] at e
  rw [← e]
  exact N'
end
end
section
open PySem PySem.W PyProof.Rows PySem.Spec PySem.Calls
open PySem.Builtin PySem.Builtin.Str PySem.StrLaws
set_option Elab.async false
set_option maxRecDepth 100000
set_option maxHeartbeats 1000000
theorem start_Pu5 : True := by w_top off; trivial
theorem flat_len {B : Nat} : ∀ (L : List Str), (∀ n ∈ L, n.length ≤ B) → (L.flatMap fun y => 47 :: y.cps.toList).length ≤ L.length * (B + 1)
  | [], _ => by simp
  | x :: r, h => by
    rw [List.flatMap_cons, List.length_append, List.length_cons, ← len_tl, List.length_cons, Nat.add_mul]
    have h1 := flat_len r fun n hn => h n (.tail _ hn)
    have h2 := h x (.head _)
    omega
theorem path_len {L : List Str} (h : ∀ n ∈ L, n.length ≤ 6) (hl : L.length ≤ 30) : (pathOf L).length ≤ 300 := by
  by_cases e : L = []
  · subst e; rw [len_tl, tl_path_nil]; simp
  · rw [len_tl, tl_path e]
    have := flat_len L h
    omega
theorem path_head (L : List Str) : (pathOf L).cps.toList[0]? = some 47 := by
  cases L with
  | nil => rw [tl_path_nil]; rfl
  | cons x r => rw [tl_path (by simp)]; simp [List.flatMap_cons]
theorem path_starts (L : List Str) : Txt.startswith (pathOf L) (Str.ofString "/") = true := by
  rw [Txt.startswith, slash_is, Bool.and_eq_true, decide_eq_true_eq]
  exact (subAt_one (pathOf L) 47 0).mpr (path_head L)
theorem path_one (L : List Str) : 1 ≤ (pathOf L).length := by
  have := path_head L
  rw [len_tl]
  rcases h : (pathOf L).cps.toList with _ | ⟨c, r⟩
  · rw [h] at this; simp at this
  · simp
theorem path_first (L : List Str) : Txt.slice (pathOf L) none (some 1) = Str.ofString "/" := by
  refine str_ext ?_
  have h1 := path_one L
  have h2 := path_head L
  rw [sl_to _ 1 (by decide) (by omega), tl_slash]
  rcases h : (pathOf L).cps.toList with _ | ⟨c, r⟩
  · rw [h] at h2; simp at h2
  · rw [h] at h2
    have : c = 47 := by simpa using h2
    rw [this]; rfl
theorem path_second {x : Str} {r : List Str} (hx : Ok x) : Txt.slice (pathOf (x :: r)) (some 1) (some 2) ≠ Str.ofString "/" := by
  intro q
  have e : (pathOf (x :: r)).cps.toList = 47 :: (x.cps.toList ++ r.flatMap fun y => 47 :: y.cps.toList) := by rw [tl_path (by simp)]; simp [List.flatMap_cons]
  obtain ⟨c, z, hc⟩ : ∃ c z, x.cps.toList = c :: z := by
    cases h : x.cps.toList with
    | nil => exact absurd h hx.1
    | cons c z => exact ⟨c, z, rfl⟩
  have hl : 2 ≤ (pathOf (x :: r)).length := by rw [len_tl, e, hc]; simp
  have q1 := congrArg (fun z : Str => z.cps.toList) q
  simp only [sl_mid (pathOf (x :: r)) 1 2 (by decide) (by decide) (by omega), tl_slash, e, hc] at q1
  have : c = 47 := by simpa using q1
  exact hx.2 (by rw [hc, this]; exact .head _)
theorem name_short {ns : List Int} (C : CutsOk ns) (K : Nat) : ∀ n ∈ names K ns, n.length ≤ 6 := by
  intro n hn
  obtain ⟨k, hk, rfl⟩ := List.mem_map.mp (List.mem_reverse.mp hn)
  have hk' := List.mem_range.mp hk
  have h1 := C.step (k := k) (by omega)
  have h2 := C.le6 (k := k + 1) (by omega)
  rw [nmAt, C.cast, C.cast, len_tl, tl_name _ _ _ h1]
  simp; omega
theorem dd_short : dd.length ≤ 6 := by decide +kernel
/-- the way from one to the other -/
theorem way {ns : List Int} (C : CutsOk ns) (K1 K2 : Nat) {j : Nat} (hj : j < ns.length) (ht : (names K1 ns).take (ns.length - 1 - j) = (names K2 ns).take (ns.length - 1 - j)) :
    normF ((List.replicate j dd ++ (names K2 ns).drop (ns.length - 1 - j)).foldl jstep (pathOf (names K1 ns))) = pathOf (names K2 ns) := by
  have hl1 := names_len K1 ns
  rw [jfold_path _ _ (fun n hn => (names_nm C K1 n hn).ok) (fun b hb => by
    rcases List.mem_append.mp hb with h | h
    · rw [(List.mem_replicate.mp h).2]; exact dd_ok
    · exact (names_nm C K2 b (List.mem_of_mem_drop h)).ok)]
  rw [norm_path (names_nm C K1) (fun b hb => names_nm C K2 b (List.mem_of_mem_drop hb)) (by omega), hl1, ht, List.take_append_drop]
theorem way_path {ns : List Int} (C : CutsOk ns) (K1 K2 : Nat) (j : Nat) (d : Nat) :
    (List.replicate j dd ++ (names K2 ns).drop d).foldl jstep (pathOf (names K1 ns)) = pathOf (names K1 ns ++ (List.replicate j dd ++ (names K2 ns).drop d)) :=
  jfold_path _ _ (fun n hn => (names_nm C K1 n hn).ok) (fun b hb => by
    rcases List.mem_append.mp hb with h | h
    · rw [(List.mem_replicate.mp h).2]; exact dd_ok
    · exact (names_nm C K2 b (List.mem_of_mem_drop h)).ok)
theorem way_short {ns : List Int} (C : CutsOk ns) (K1 K2 : Nat) {j d : Nat} (hj : j ≤ 8) (i : Nat) : (((List.replicate j dd ++ (names K2 ns).drop d).take i).foldl jstep (pathOf (names K1 ns))).length ≤ 300 := by
  have hf := C.few
  rw [jfold_path _ _ (fun n hn => (names_nm C K1 n hn).ok) (fun b hb => by
    rcases List.mem_append.mp (List.mem_of_mem_take hb) with h | h
    · rw [(List.mem_replicate.mp h).2]; exact dd_ok
    · exact (names_nm C K2 b (List.mem_of_mem_drop h)).ok)]
  refine path_len (fun n hn => ?_) ?_
  · rcases List.mem_append.mp hn with h | h
    · exact name_short C K1 n h
    · rcases List.mem_append.mp (List.mem_of_mem_take h) with h | h
      · rw [(List.mem_replicate.mp h).2]; exact dd_short
      · exact name_short C K2 n (List.mem_of_mem_drop h)
  · rw [List.length_append, List.length_take, List.length_append, List.length_replicate, List.length_drop, names_len, names_len]; omega +splitDisjunctions

end
section
open PySem PySem.W PyProof.Rows PySem.Spec PySem.Calls
set_option Elab.async false
set_option maxRecDepth 100000
set_option maxHeartbeats 4000000
theorem start_Pr : True := by w_top off; trivial
theorem filt_keep {ys : List Value} {ns : List Int} {p : Int → Bool} {i : Nat} {x : Int} {t : Tok} (hG : Hold (IntsAre ys ((ns.take i).filter p))) (hx : ns[i]? = some x) (hp : p x = true) : Hold (IntsAre (ys ++ [.int x t]) ((ns.take (i + 1)).filter p)) := by
  rw [List.take_add_one, hx]
  show IntsAre _ ((ns.take i ++ [x]).filter p)
  rw [List.filter_append, List.filter_cons_of_pos hp]
  exact intsSnoc hG
theorem filt_drop {ys : List Value} {ns : List Int} {p : Int → Bool} {i : Nat} {x : Int} (hG : Hold (IntsAre ys ((ns.take i).filter p))) (hx : ns[i]? = some x) (hp : p x = false) : Hold (IntsAre ys ((ns.take (i + 1)).filter p)) := by
  rw [List.take_add_one, hx]
  show IntsAre _ ((ns.take i ++ [x]).filter p)
  rw [List.filter_append, List.filter_cons_of_neg (by rw [hp]; simp), List.filter_nil, List.append_nil]
  exact hG
theorem CutsOk.names_in {ns : List Int} (C : CutsOk ns) : ∀ i, i + 1 < ns.length → 0 ≤ ns.getD i 0 ∧ ns.getD i 0 < ns.getD (i + 1) 0 ∧ ns.getD (i + 1) 0 ≤ 6 := fun i h =>
  ⟨C.nonneg i, C.rise i h, (cut_mem C (getD_mem' h)).2⟩
theorem take_room {ns : List Int} (C : CutsOk ns) (K d : Nat) : (((names K ns).take d).map (·.length)).sum + ((names K ns).take d).length * (Str.ofString "/").length ≤ 16777216 ∧ (Txt.join (Str.ofString "/") ((names K ns).take d)).length ≤ 16000000 := by
  have h1 : ((names K ns).take d).length ≤ 3000 := by have := C.few; rw [List.length_take, names_len]; omega +splitDisjunctions
  have h2 : ∀ y ∈ (names K ns).take d, y.length ≤ 1000 := fun y hy => Nat.le_trans (name_short C K y (List.mem_of_mem_take hy)) (by decide)
  exact ⟨joinRoom (by decide) h1 h2, joinLen (by decide) h1 h2⟩
section
variable {w : World} {A : Around} {s : Shared} {mean : ExcName → Option Value} {mg mb : Str → Option Value} {Q E : Value → Shared → Prop}
theorem commonpath_is {x y z : Str} {tx ty : Tok} {a : Addr} {n : Nat} (hl : s.heap.get? a = some (W.listOf [Value.str x tx, Value.str y ty].toArray n)) (X : (hd.heap_1 w.params).In s.heap) (T : Tp mean mg mb s.heap) (hdep : A.depth + 3 < recursionLimit) (hun : A.units + 60 < cLine) (hh : A.handled = none) {ns : List Int} {K1 K2 : Nat} (C : CutsOk ns)
    (ex : x = pathOf (names K1 ns)) (ey : y = pathOf (names K2 ns)) (ez : Str.ofString "/" ++ Txt.join (Str.ofString "/") (lcpF (names K1 ns) (names K2 ns)) = z)
    (h : ∀ t h' tk', Ext s.heap h' → Q (.str z t) { s with heap := h', toks := tk' }) : wpAny (model P0 w) A (call (.ref 148) [.ref a]) Q E s := by
  subst ex ey ez
  have hf := C.few
  have hx : (pathOf (names K1 ns)).length ≤ 1000 := Nat.le_trans (path_len (name_short C K1) (by rw [names_len]; omega)) (by decide)
  have hy : (pathOf (names K2 ns)).length ≤ 1000 := Nat.le_trans (path_len (name_short C K2) (by rw [names_len]; omega)) (by decide)
  have h9 := c_commonpath (Q := Q) (E := E) hl X T hdep hun hh hx hy (path_starts _) (path_starts _)
  rw [keep_path (names_nm C K1), keep_path (names_nm C K2)] at h9
  exact h9 (by rw [names_len, names_len]) h
theorem up_is {x z : Str} {k : Int} {tx tk : Tok} (X : (hd.heap_1 w.params).In s.heap) (T : Tp mean mg mb s.heap) (hdep : A.depth + 3 < recursionLimit) (hun : A.units + 24 < cLine) (hh : A.handled = none) {ns : List Int} {K : Nat} (C : CutsOk ns) (hk : 0 ≤ k) (hk2 : k ≤ 10)
    (ex : x = pathOf (names K ns)) (ez : pathOf ((names K ns).take (ns.length - 1 - k.toNat)) = z)
    (h : ∀ t h' tk', Ext s.heap h' → Q (.str z t) { s with heap := h', toks := tk' }) : wpAny (model P0 w) A (call (.ref 179) [.str x tx, .int k tk]) Q E s := by
  subst ex ez
  have hf := C.few
  have hok := fun n hn => (names_nm C K n hn).ok
  have h9 := c_up (Q := Q) (E := E) (x := pathOf (names K ns)) (k := k) (tx := tx) (tk := tk) X T hdep hun hh hk hk2 (fun i => by
    rw [up_path i hok]
    exact Nat.le_trans (path_len (fun n hn => name_short C K n (List.mem_of_mem_take hn)) (by rw [List.length_take, names_len]; omega +splitDisjunctions)) (by decide))
  rw [up_path k.toNat hok, names_len] at h9
  exact h9 h
theorem join_way {x z : Str} {ta : Tok} {vs : List Value} {ns : List Int} {K1 K2 j d : Nat} (C : CutsOk ns) (hj : j ≤ 8) (hs : StrsAre vs (List.replicate j dd ++ (names K2 ns).drop d)) (X : (hd.heap_1 w.params).In s.heap) (T : Tp mean mg mb s.heap) (hdep : A.depth + 2 < recursionLimit) (hun : A.units + 16 < cLine) (hh : A.handled = none)
    (ex : x = pathOf (names K1 ns)) (ez : pathOf (names K1 ns ++ (List.replicate j dd ++ (names K2 ns).drop d)) = z)
    (h : ∀ t h' tk', Ext s.heap h' → Q (.str z t) { s with heap := h', toks := tk' }) : wpAny (model P0 w) A (call (.ref 122) (.str x ta :: vs)) Q E s := by
  subst ex ez
  have hf := C.few
  rw [← way_path C K1 K2 j d] at h
  refine c_join hs X T hdep hun hh (fun i => Nat.le_trans (way_short C K1 K2 hj i) (by decide)) (fun b hb => ?_) ?_ h
  · rcases List.mem_append.mp hb with q | q
    · rw [(List.mem_replicate.mp q).2]; exact Nat.le_trans dd_short (by decide)
    · exact Nat.le_trans (name_short C K2 b (List.mem_of_mem_drop q)) (by decide)
  · rw [strs_len hs, List.length_append, List.length_replicate, List.length_drop, names_len]; omega +splitDisjunctions
theorem norm_way {x z : Str} {tx : Tok} {ns : List Int} {K1 K2 j : Nat} (C : CutsOk ns) (hj : j < ns.length) (ht : (names K1 ns).take (ns.length - 1 - j) = (names K2 ns).take (ns.length - 1 - j)) (X : (hd.heap_1 w.params).In s.heap) (T : Tp mean mg mb s.heap) (hdep : A.depth + 3 < recursionLimit) (hun : A.units + 24 < cLine) (hh : A.handled = none)
    (ex : x = pathOf (names K1 ns ++ (List.replicate j dd ++ (names K2 ns).drop (ns.length - 1 - j)))) (ez : pathOf (names K2 ns) = z)
    (h : ∀ t h' tk', Ext s.heap h' → Q (.str z t) { s with heap := h', toks := tk' }) : wpAny (model P0 w) A (call (.ref 143) [.str x tx]) Q E s := by
  subst ex ez
  have hf := C.few
  have htwo := C.two
  rw [← way C K1 K2 hj ht, way_path C K1 K2 j] at h
  refine c_normpath X T hdep hun hh ?_ (path_first _) ?_ h
  · refine Nat.le_trans (path_len (fun n hn => ?_) ?_) (show 300 ≤ 1000 by decide)
    · rcases List.mem_append.mp hn with q | q
      · exact name_short C K1 n q
      · rcases List.mem_append.mp q with q | q
        · rw [(List.mem_replicate.mp q).2]; exact dd_short
        · exact name_short C K2 n (List.mem_of_mem_drop q)
    · rw [List.length_append, List.length_append, List.length_replicate, List.length_drop, names_len, names_len]; omega
  · obtain ⟨y, r, e⟩ : ∃ y r, names K1 ns = y :: r := by
      cases q : names K1 ns with
      | nil => have := names_len K1 ns; rw [q] at this; simp at this; omega
      | cons y r => exact ⟨y, r, rfl⟩
    rw [e, List.cons_append]
    exact path_second (names_nm C K1 y (by rw [e]; exact .head _)).ok
end
section
local macro_rules | `(tactic| walk_at "StarOf ref") => `(tactic| walk_at "mine stop")
theorem reg_31 : True := by
  k_with "mine 31" => (k_here; (with_reducible show wpAny _ _ (binaryOp _ (Value.ref _) (Value.int _ _)) _ _ _); k_dflt (refine' mulL ?x1 ?x2 ?x3 ?x4 ?x5 ?_; (case x1 => k_asm); (case x2 => k_asm); (case x3 => exact .head _); (case x4 => omega); (case x5 => omega)); k_whole; intro D' h' F' N' l1; (try k_lt l1); (try k_sweep))
  trivial
local macro_rules | `(tactic| walk_at "binaryOp Mult ref int") => `(tactic| walk_at "mine 31")
theorem reg_32 : True := by
  k_with "mine 32" => (k_here; (with_reducible show wpAny _ _ (subscriptTail _ (PySem.Expr.Slice (some _) none none _) (Value.ref _) (Value.ref _)) _ _ _); refine Hold.in ?_)
  trivial
local macro_rules | `(tactic| walk_at "subscriptTail Name Slice ref ref") => `(tactic| walk_at "mine 32")
local macro_rules | `(tactic| walk_at "call builtin:min") => `(tactic| walk_at "mine stop")
local macro_rules | `(tactic| walk_at "binaryOp Add ref ref") => `(tactic| walk_at "mine stop")
local macro_rules | `(tactic| walk_at "subscriptTail Name Constant ref int") => `(tactic| walk_at "mine stop")
local macro_rules | `(tactic| walk_at "call ref") => `(tactic| walk_at "mine stop")
variable {w : World} {A : Around} {s : Shared} {mean : ExcName → Option Value} {mg mb : Str → Option Value} {Q E : Value → Shared → Prop}
theorem c_pair {K1 K2 : Nat} {tk1 tk2 : Tok} {a p : Addr} {vs : List Value} {ns : List Int} {t1 t2 : Tok} {n : Nat} (C : CutsOk ns) (hl : s.heap.IsList a vs.toArray) (hi : IntsAre vs ns)
    (hp : s.heap.get? p = some (W.listOf [Value.str (pathOf (names K1 ns)) t1, Value.str (pathOf (names K2 ns)) t2].toArray n)) (h1 : K1 < 1000000) (h2 : K2 < 1000000) (X : (hd.heap_1 w.params).In s.heap) (T : Tp mean mg mb s.heap) (hdep : A.depth + 5 < recursionLimit) (hun : A.units + 100 < cLine) (hh : A.handled = none)
    (h : ∀ h' tk', Ext s.heap h' → Q (.bool true) { s with heap := h', toks := tk' }) : wpAny (model P0 w) A (call (.ref 184) [.int (K1 : Int) tk1, .int (K2 : Int) tk2, .ref p, .ref a]) Q E s := by
  obtain ⟨hd0, dp, fr, gd, un⟩ := A
  dsimp only at hh hdep hun
  subst hh
  refine' enterC (binds := [(Str.ofString "one", .int (K1 : Int) tk1), (Str.ofString "other", .int (K2 : Int) tk2), (Str.ofString "paths", .ref p), (Str.ofString "cuts", .ref a)]) ?x1 ?x2 ?x3 ?x4 ?x5 ?x6 ?x7 ?x8 ?x9 ?x10 ?x11 ?_
  walk_at "mine enteredC"
  have hvl0 := hi.length
  have hfew := C.few
  have htwo := C.two
  have hget := fun i v => ints_get hi (i := i) (v := v)
  k_steps
  refine Hold.out ?_
  refine' LCt.CompSrcT.base rfl ?F ?N hl ?hz ?_
  (case F => k_asm)
  (case N => k_asm)
  (case hz => rw [List.size_toArray, sizeLine_eq]; omega)
  intro g9
  refine compT (fun i ys => Hold (IntsAre ys ((ns.take i).filter (agreeP K1 K2)))) (.inl hl) (Hold.in .nil) ?_ ?_
  · rintro i v I oI oCa oC D m₂ ys h tk E' hin hP hG hC hx F9 N9
    obtain ⟨x, tx, rfl, hxi⟩ := hget _ _ (by simpa using hP)
    have hb := cut_mem C (List.mem_of_getElem? hxi)
    k_steps
    · exact cend (by k_asm) (by k_asm) (fun _ hp => hp) (filt_keep hG hxi (decide_eq_true (by assumption)))
    · exact cend (by k_asm) (by k_asm) (fun _ hp => hp) (filt_drop hG hxi (decide_eq_false (by assumption)))
  intro ys hG D h9 tk9 F9 N9 off9
  rw [List.size_toArray, hvl0, List.take_length] at hG
  k_steps
  refine Hold.out ?_
  refine min_list_N rfl (by k_asm) (by k_asm) ⟨_, News.get (by k_asm) (.head _), rfl, _, rfl⟩ hG (agree_some C h1 h2) ?_
  intro h' M tM tk' F8 N8 hMm hMle
  obtain ⟨j, hj, hMj, hcount, hnames, hlcp, htake⟩ := pair_pure C h1 h2 hMm hMle
  have hM := cut_mem C (List.mem_filter.mp hMm).1
  clear F9 N9 hMm hMle
  k_steps
  refine Hold.out ?_
  with_reducible rename Fr _ _ _ _ => F7
  with_reducible rename News _ _ _ _ => N7
  simp only [List.cons_append, List.nil_append] at N7
  refine' c_names (ns := ns) (hl.at fun o e => Fr.keep F7 _ _ e) hi (by omega) (by omega) C.names_in (by omega) (by omega) ?x1 ?x2 ?x3 ?x4 ?x5 ?_
  walk_at "mine side"
  k_whole
  intro a9 h9 tk9 vs9 k9 kE kA kO hS9
  rw [hnames] at hS9
  replace hS9 := Hold.in hS9
  walk_at "mine new"
  obtain ⟨hRoom, hJl⟩ := take_room C K1 (ns.length - 1 - j)
  k_steps
  refine Hold.out ?_
  refine' LCt.CompSrcT.base rfl ?F ?N hl ?hz ?_
  (case F => k_asm)
  (case N => k_asm)
  (case hz => rw [List.size_toArray, sizeLine_eq]; omega)
  intro g9
  refine compT (fun i ys => Hold (IntsAre ys ((ns.take i).filter fun p => decide (p < M)))) (.inl hl) (Hold.in .nil) ?_ ?_
  · rintro i v I oI oCa oC D m₂ ys h tk E' hin hP hG hC hx F9 N9
    obtain ⟨x, tx, rfl, hxi⟩ := hget _ _ (by simpa using hP)
    have hb := cut_mem C (List.mem_of_getElem? hxi)
    k_steps
    · exact cend (by k_asm) (by k_asm) (fun _ hp => hp) (filt_keep hG hxi (decide_eq_true (by assumption)))
    · exact cend (by k_asm) (by k_asm) (fun _ hp => hp) (filt_drop hG hxi (decide_eq_false (by assumption)))
  intro ys2 hG2 D2 h9 tk9 F9 N9 off9
  rw [List.size_toArray, hvl0, List.take_length] at hG2
  have hys : ys2.length = j := (Hold.out hG2).length.trans hcount
  k_steps
  refine Hold.out ?_
  refine item_litK ⟨_, Fr.keep (by k_asm) _ _ hp, rfl, _, rfl⟩ (by decide) (by decide) rfl ?_
  k_steps
  refine Hold.out ?_
  refine item_litK ⟨_, Fr.keep (by k_asm) _ _ hp, rfl, _, rfl⟩ (by decide) (by decide) rfl ?_
  k_steps
  refine Hold.out ?_
  have hne : (Str.ofString "/" ++ Txt.join (Str.ofString "/") ((names K1 ns).take (ns.length - 1 - j)) != Str.ofString "/" ++ Txt.join (Str.ofString "/") ((names K1 ns).take (ns.length - 1 - j))) = false := bne_self_eq_false _
  refine' commonpath_is (News.get (by k_asm) (.head _)) ?x1 ?x2 ?x3 ?x4 ?x5 C rfl rfl (by rw [hlcp]) ?_
  walk_at "mine side"
  k_whole
  intro t' h' tk' kE
  walk_at "mine ext"
  k_steps
  refine Hold.out ?_
  refine' up_is (K := K1) ?x1 ?x2 ?x3 ?x4 ?x5 C ?x6 ?x7 rfl (z := Str.ofString "/" ++ Txt.join (Str.ofString "/") ((names K1 ns).take (ns.length - 1 - j))) ?x8 ?_
  walk_at "mine side"
  (case x6 => omega)
  (case x7 => omega)
  (case x8 => rw [← hys, Int.toNat_natCast]; rfl)
  k_whole
  intro t' h' tk' kE
  walk_at "mine ext"
  k_steps
  refine Hold.out ?_
  with_reducible rename Fr _ _ _ _ => F7
  refine' c_names (ns := ns) (hl.at fun o e => Fr.keep F7 _ _ e) hi (by omega) (by omega) C.names_in (by omega) (by omega) ?x1 ?x2 ?x3 ?x4 ?x5 ?_
  walk_at "mine side"
  k_whole
  intro a8 h9 tk9 vs8 k8 kE kA kO hS8
  rw [namesF_all C] at hS8
  have hvl8 := (strs_len hS8).trans (names_len K2 ns)
  replace hS8 := Hold.in hS8
  walk_at "mine new"
  k_steps
  refine Hold.out ?_
  refine' slice_from_strs ?F ?N ?l ?i ?o ?z ?_ ?s ?t
  (case F => k_asm)
  (case N => k_asm)
  (case l => exact ⟨_, News.get (by k_asm) (.head _), rfl, _, rfl⟩)
  (case i => exact hS8)
  (case o => omega)
  (case z => omega)
  (case s => with_unfolding_all rfl)
  (case t => kmk_pure)
  intro D7 ws7 h7 F7 N7 l7 hS7
  k_lt l7
  k_steps
  have hl7 : ws7.length ≤ 10 := by rw [strs_len (Hold.out hS7), List.length_drop, names_len]; omega
  refine Hold.out ?_
  refine addL (by k_asm) (by k_asm) ⟨_, News.get (by k_asm) (.head _), rfl, _, rfl⟩ ⟨_, News.get (by k_asm) (.tail _ (.tail _ (.head _))), rfl, _, rfl⟩ (by rw [List.length_replicate]; omega) ?_
  intro D6 h6 F6 N6 l6
  k_lt l6
  k_steps
  refine Hold.out ?_
  refine' star_seq ?k1 ?k2 ?m ?c ?d ?T ?e ?z ?_
  (case k1 => k_asm)
  (case k2 => k_asm)
  (case m => exact .head _)
  (case c => exact rfl)
  (case d => exact rfl)
  (case T => exact .inl rfl)
  (case e => exact rfl)
  (case z => exact sz_line (by rw [List.length_append, List.length_replicate]; omega))
  k_whole
  intro h5 F5 N5
  try dsimp only [List.nil_append, List.cons_append]
  k_steps
  refine Hold.out ?_
  have ej : ((ys2.length : Nat) : Int).toNat = j := by rw [Int.toNat_natCast, hys]
  have ed : ((ns.length : Int) - 1 - ((ys2.length : Nat) : Int)).toNat = ns.length - 1 - j := by omega
  rw [List.append_nil]
  have hsw : ∀ tk, StrsAre (List.replicate ((ys2.length : Nat) : Int).toNat (Value.str (Str.ofString "..") tk) ++ ws7) (List.replicate ((ys2.length : Nat) : Int).toNat dd ++ (names K2 ns).drop ((ns.length : Int) - 1 - ((ys2.length : Nat) : Int)).toNat) := fun tk => strs_app (strs_rep _) (Hold.out hS7)
  refine' join_way (K1 := K1) (K2 := K2) C (by omega) (hsw _) ?x1 ?x2 ?x3 ?x4 ?x5 rfl (z := pathOf (names K1 ns ++ (List.replicate j dd ++ (names K2 ns).drop (ns.length - 1 - j)))) (by rw [ej, ed]) ?_
  walk_at "mine side"
  k_whole
  intro t' h' tk' kE
  walk_at "mine ext"
  k_steps
  refine Hold.out ?_
  refine' norm_way (K1 := K1) (K2 := K2) C hj htake ?x1 ?x2 ?x3 ?x4 ?x5 rfl rfl ?_
  walk_at "mine side"
  k_whole
  intro t' h' tk' kE
  walk_at "mine ext"
  k_steps
  rw [beq_self_eq_true]
  exact h _ _ (Fr.keep (by k_asm))
end
end
section
open PySem PySem.W PyProof.Rows PySem.Spec PySem.Calls
set_option Elab.async false
set_option maxRecDepth 100000
set_option maxHeartbeats 4000000
theorem start_Cu : True := by w_top off; trivial
local macro_rules | `(tactic| walk_at "subscriptTail Name UnaryOp ref int") => `(tactic| walk_at "mine stop")
def psum : List Int → Int → List Int
  | [], _ => []
  | x :: r, t => (t + x) :: psum r (t + x)
theorem psum_snoc (l : List Int) (x : Int) : ∀ t, psum (l ++ [x]) t = psum l t ++ [t + l.sum + x] := by
  induction l with
  | nil => intro t; simp [psum]
  | cons y r ih => intro t; rw [List.cons_append, psum, psum, ih, List.sum_cons, List.cons_append, Int.add_assoc t y r.sum]
theorem psum_len (l : List Int) : ∀ t, (psum l t).length = l.length := by
  induction l with
  | nil => intro t; rfl
  | cons y r ih => intro t; rw [psum, List.length_cons, List.length_cons, ih]
theorem filt_snoc {α : Type} (p : α → Bool) (l : List α) (x : α) : (l ++ [x]).filter p = l.filter p ++ (if p x = true then [x] else []) := by
  rw [List.filter_append]
  cases h : p x <;> simp [h]
def extraF (ns : List Int) : List Int := ((List.range (5 - ns.sum).toNat).map fun (i : Nat) => ns.sum + 1 + (i : Int)).filter fun p => decide (Int.fmod (p - ns.sum) (ns.getLast?.getD 1) = 0)
def cutsF (ns : List Int) (b : Bool) : List Int := 0 :: ((psum ns 0 ++ if b = true then extraF ns else []).filter fun p => decide (p < 6)) ++ [6]
theorem item_lastA {prog : Program} {w : World} {A : Around} {E : Value → Shared → Prop} {s : Shared} {l : Addr} {vs : List Value} {v : Value} {value slice : PySem.Expr} {u : Tok} {Q : Value → Shared → Prop} (hl : s.heap.IsList l vs.toArray) (hv : vs.getLast? = some v) (h : Q v s)
    (hs : subscripted slice false (.ref l) (.int (-1) u) = operate [.ref l, .int (-1) u] (getItem (.ref l) (.int (-1) u)) := by with_unfolding_all rfl) :
    wpAny (model prog w) A (subscriptTail value slice (.ref l) (.int (-1) u)) Q E s := by
  have hne : vs ≠ [] := by rintro rfl; simp at hv
  have hpos : 0 < vs.length := List.length_pos_iff.mpr hne
  refine tail_any hl.typeIs slot_list_getitem.lookup (wpAny_getItem_list_neg hl (by decide) (by simp; omega) (by decide) ?_ h) hs
  have e : (-1 + (vs.toArray.size : Int)).toNat = vs.length - 1 := by simp; omega
  rw [e]
  rw [List.getLast?_eq_getElem?] at hv
  simpa using hv
theorem ints_last {vs : List Value} {ns : List Int} (hi : IntsAre vs ns) (hne : ns ≠ []) : ∃ z t, vs.getLast? = some (.int z t) ∧ ns.getLast? = some z := by
  have hl := hi.length
  have hpos : 0 < ns.length := List.length_pos_iff.mpr hne
  obtain ⟨z, t, e1, e2⟩ := ints_get hi (i := ns.length - 1) (v := vs[ns.length - 1]) (List.getElem?_eq_getElem (by omega))
  refine ⟨z, t, ?_, ?_⟩
  · rw [List.getLast?_eq_getElem?, hl, List.getElem?_eq_getElem (by omega), e1]
  · rw [List.getLast?_eq_getElem?, e2]
theorem sum_le (ns : List Int) (hn : ns.length ≤ 3) (hp : ∀ x ∈ ns, 1 ≤ x ∧ x ≤ 3) : 0 ≤ ns.sum ∧ ns.sum ≤ 9 := by
  rcases ns with _ | ⟨a, _ | ⟨b, _ | ⟨c, _ | ⟨d, r⟩⟩⟩⟩
  · simp
  · have := hp a (by simp); simp; omega
  · have := hp a (by simp); have := hp b (by simp); simp; omega
  · have := hp a (by simp); have := hp b (by simp); have := hp c (by simp); simp; omega
  · simp at hn
section
variable {w : World} {A : Around} {s : Shared} {mean : ExcName → Option Value} {mg mb : Str → Option Value} {Q E : Value → Shared → Prop}
theorem c_cuts {a : Addr} {vs : List Value} {ns : List Int} {b : Bool} (hl : s.heap.IsList a vs.toArray) (hi : IntsAre vs ns) (hn : ns.length ≤ 3) (hp : ∀ x ∈ ns, 1 ≤ x ∧ x ≤ 3) (X : (hd.heap_1 w.params).In s.heap) (T : Tp mean mg mb s.heap) (hdep : A.depth + 3 < recursionLimit) (hun : A.units + 24 < cLine) (hh : A.handled = none)
    (hb : b = true → ns ≠ [])
    (h : ∀ a h' tk' vs k, Ext s.heap h' → s.heap.get? a = none → h'.get? a = some (W.listOf (List.toArray vs) k) → IntsAre vs (cutsF ns b) → Q (.ref a) { s with heap := h', toks := tk' }) : wpAny (model P0 w) A (call (.ref 167) [.ref a, .bool b]) Q E s := by
  obtain ⟨hd0, dp, fr, gd, un⟩ := A
  dsimp only at hh hdep hun
  subst hh
  refine' enterC (binds := [(Str.ofString "sizes", .ref a), (Str.ofString "on", .bool b)]) ?x1 ?x2 ?x3 ?x4 ?x5 ?x6 ?x7 ?x8 ?x9 ?x10 ?x11 ?_
  walk_at "mine enteredC"
  have hvl0 := hi.length
  have hlast := fun h => ints_last hi h
  have hget := fun i v => ints_get hi (i := i) (v := v)
  k_steps
  refine Hold.out ?_
  refine' iter_listA (fun m₀ n₀ i m nx => ∃ lc cT oT0 oT o1 rest vs' k tot t, n₀ = (lc, o1) :: (cT, oT0) :: rest ∧ nx = (lc, W.listOf (List.toArray vs') k) :: (cT, oT) :: rest ∧ (∀ y, y ≠ Str.ofString "size" → m y = m₀ y) ∧ oT.data = .cell (some (.int tot t)) ∧
      IntsAre vs' (psum (ns.take i) 0) ∧ tot = (ns.take i).sum) ?x1 ?x2 ?x3 ?x4 ?x5 ?x6 ?x7 ?x8
  (case x1 => exact rfl)
  (case x2 => exact hl.at fun o e => Fr.keep (by k_asm) _ _ e)
  (case x3 => exact list_ne hl (by k_asm))
  (case x4 => k_asm)
  (case x5 => k_asm)
  (case x6 => exact ⟨_, _, _, _, _, _, [], _, _, _, rfl, rfl, fun _ _ => rfl, by assumption, .nil, rfl⟩)
  (case x7 =>
    rintro i v m₁ n₁ h9 tk9 own hv ⟨lc, cT, oT0, oT, o1, rest, vs', k, tot, t, hn0, rfl, hm, hd, hI, ht⟩ hown - hnw F9 N9
    obtain ⟨e1, e2⟩ := List.cons.inj hn0
    obtain ⟨e3, e4⟩ := List.cons.inj e2
    obtain ⟨rfl, -⟩ := Prod.mk.inj e1
    obtain ⟨rfl, -⟩ := Prod.mk.inj e3
    subst e4
    obtain ⟨u, rfl⟩ := map1 (Str.ofString "size") hm
    obtain ⟨x, tx, rfl, hxi⟩ := hget _ _ hv
    clear hm hn0 e1 e2 e3
    have hvl := hI.length
    rw [psum_len, List.length_take] at hvl
    have hO1 := own_ne hown hnw (.head _) hl (fun p hp => N9 p (List.mem_append_left _ hp))
    have hO2 := own_ne hown hnw (.tail _ (.head _)) hl (fun p hp => N9 p (List.mem_append_left _ hp))
    have hO3 := own_ne hown hnw (.tail _ (.tail _ (.head _))) hl (fun p hp => N9 p (List.mem_append_left _ hp))
    k_steps
    refine' turnA ?nx ?F ?N ?ho ?hx hnw ?hc ?hj
    (case F => k_asm)
    (case N => k_asm)
    (case hj =>
      refine' ⟨_, _, _, _, _, _, vs' ++ [Value.int (tot + x) tk9], k + 1, tot + x, tk9, rfl, rfl, fun y h => by simp only [if_neg h], by assumption, ?_, ?_⟩
      · rw [List.take_add_one, hxi]
        show IntsAre _ (psum (ns.take i ++ [x]) 0)
        rw [psum_snoc, Int.zero_add, ← ht]
        exact intsSnoc hI
      · rw [List.take_add_one, hxi]
        show _ = (ns.take i ++ [x]).sum
        rw [List.sum_append, ht]; simp)
    (case hc => exact rfl)
    (case hx => exact fun p hp => List.mem_append_left own hp)
    (case ho => exact fun p hp => List.mem_append_right [_, _, _] hp))
  rintro m₁ n₁ h9 tk9 ⟨lc, cT, oT0, oT, o1, rest, vs', k, tot, t, hn0, rfl, hm, hd, hI, ht⟩ F9 N9
  obtain ⟨e1, e2⟩ := List.cons.inj hn0
  obtain ⟨e3, e4⟩ := List.cons.inj e2
  obtain ⟨rfl, -⟩ := Prod.mk.inj e1
  obtain ⟨rfl, -⟩ := Prod.mk.inj e3
  subst e4
  obtain ⟨u, rfl⟩ := map1 (Str.ofString "size") hm
  clear hm hn0 e1 e2 e3
  rw [hvl0, List.take_length] at hI ht
  have hvl := hI.length
  rw [psum_len] at hvl
  replace hI := Hold.in hI
  have htp : 0 ≤ tot ∧ tot ≤ 9 := by rw [ht]; exact sum_le ns hn hp
  cases b
  · k_steps
    refine Hold.out ?_
    refine' LCt.CompSrcT.ledger rfl ?F ?N ?hm ?hz ?_
    (case F => k_asm)
    (case N => k_asm)
    (case hm => k_mem)
    (case hz => exact sz_line (by walk_at "mine num"))
    intro g9
    refine compT (fun i ys => IntsAre ys (((psum ns 0).take i).filter fun p => decide (p < 6))) (.inr ⟨_, by k_mem, rfl, _, rfl⟩) .nil ?_ ?_
    · rintro i v I oI C oC D m₂ ys h tk E' hin hP hG hC hx F9 N9
      obtain ⟨x, tx, rfl, hxi⟩ := ints_get (Hold.out hI) (by simpa using hP)
      k_steps
      · have q : x < 6 := by assumption
        refine cend (by k_asm) (by k_asm) (fun _ hp => hp) ?_
        rw [List.take_add_one, hxi]
        show IntsAre _ (((psum ns 0).take i ++ [x]).filter _)
        rw [filt_snoc, if_pos (by simpa using q)]
        exact intsSnoc hG
      · have q : ¬ x < 6 := by assumption
        refine cend (by k_asm) (by k_asm) (fun _ hp => hp) ?_
        rw [List.take_add_one, hxi]
        show IntsAre _ (((psum ns 0).take i ++ [x]).filter _)
        rw [filt_snoc, if_neg (by simpa using q), List.append_nil]
        exact hG
    · intro ys hG D h9 tk9 F9 N9 off9
      rw [List.size_toArray, (Hold.out hI).length, List.take_length] at hG
      have hyl : ys.length ≤ 100 := by
        have q1 := hG.length
        have q2 := List.length_filter_le (fun p => decide (p < 6)) (psum ns 0)
        rw [q1]; refine Nat.le_trans q2 ?_
        rw [psum_len]; omega
      replace hG := Hold.in hG
      k_steps
      refine h _ _ _ _ _ (Fr.keep (by k_asm)) (News.fresh (by k_asm) (.head _)) (News.get (by k_asm) (.head _)) ?_
      rw [cutsF, if_neg Bool.false_ne_true, List.append_nil]
      exact intsSnoc (.cons _ _ (Hold.out hG))
  · k_steps
    refine Hold.out ?_
    refine LCt.CompSrcT.range rfl (by k_asm) (by k_asm) (by assumption) (range_small (by omega) (by omega) (by omega) (by omega)) range_len (by rw [sizeLine_eq]; omega) ?_
    intro g9
    refine compT (fun i ys => IntsAre ys (((List.range i).map fun (i : Nat) => ns.sum + 1 + (i : Int)).filter fun p => decide (Int.fmod (p - ns.sum) (ns.getLast?.getD 1) = 0))) trivial .nil ?_ ?_
    · rintro i v I oI C oC D m₂ ys h tk E' hin ⟨t, rfl⟩ hG hC hx F9 N9
      replace hG := Hold.in hG
      obtain ⟨z, tz, hz1, hz2⟩ := hlast (hb rfl)
      have hzp := hp z (List.mem_of_getLast? hz2)
      rw [hz2] at hG
      k_steps
      refine Hold.out ?_
      refine item_lastA (hl.at fun o e => Fr.keep (by k_asm) _ _ e) hz1 ?_
      k_steps
      · refine cend (by k_asm) (by k_asm) (fun _ hp => hp) ?_
        rw [List.range_succ, List.map_append, hz2]
        show IntsAre _ ((List.map (fun (i : Nat) => ns.sum + 1 + (i : Int)) (List.range i) ++ [ns.sum + 1 + (i : Int)]).filter _)
        rw [filt_snoc, if_pos (by rw [decide_eq_true_eq, Option.getD_some, ← ht]; assumption), ← ht]
        exact intsSnoc (ht ▸ Hold.out hG)
      · refine cend (by k_asm) (by k_asm) (fun _ hp => hp) ?_
        rw [List.range_succ, List.map_append, hz2]
        show IntsAre _ ((List.map (fun (i : Nat) => ns.sum + 1 + (i : Int)) (List.range i) ++ [ns.sum + 1 + (i : Int)]).filter _)
        rw [filt_snoc, if_neg (by rw [decide_eq_true_eq, Option.getD_some, ← ht]; assumption), List.append_nil]
        exact Hold.out hG
    · intro ys hG D h9 tk9 F9 N9 off9
      have hxl : (extraF ns).length ≤ 10 := by
        refine Nat.le_trans (List.length_filter_le _ _) ?_
        rw [List.length_map, List.length_range]; omega
      have hJ : Hold (IntsAre (vs' ++ ys) (psum ns 0 ++ extraF ns)) := by
        refine Hold.in ((Hold.out hI).append ?_)
        rw [show (6 - (tot + 1)).toNat = (5 - ns.sum).toNat by rw [ht]; omega] at hG
        exact hG
      have hyl9 : ys.length ≤ 10 := by
        have q1 := (Hold.out hJ).length
        rw [List.length_append, List.length_append, psum_len] at q1; omega
      replace hG := Hold.in hG
      k_steps
      refine Hold.out ?_
      refine' LCt.CompSrcT.ledger rfl ?F ?N ?hm ?hz ?_
      (case F => k_asm)
      (case N => k_asm)
      (case hm => k_mem)
      (case hz => exact sz_line (by walk_at "mine num"))
      intro g9
      refine compT (fun i ys => IntsAre ys (((psum ns 0 ++ extraF ns).take i).filter fun p => decide (p < 6))) (.inr ⟨_, by k_mem, rfl, _, rfl⟩) .nil ?_ ?_
      · rintro i v I oI C oC D m₂ ys h tk E' hin hP hG hC hx F9 N9
        obtain ⟨x, tx, rfl, hxi⟩ := ints_get (Hold.out hJ) (by simpa using hP)
        k_steps
        · have q : x < 6 := by assumption
          refine cend (by k_asm) (by k_asm) (fun _ hp => hp) ?_
          rw [List.take_add_one, hxi]
          show IntsAre _ (((psum ns 0 ++ extraF ns).take i ++ [x]).filter _)
          rw [filt_snoc, if_pos (by simpa using q)]
          exact intsSnoc hG
        · have q : ¬ x < 6 := by assumption
          refine cend (by k_asm) (by k_asm) (fun _ hp => hp) ?_
          rw [List.take_add_one, hxi]
          show IntsAre _ (((psum ns 0 ++ extraF ns).take i ++ [x]).filter _)
          rw [filt_snoc, if_neg (by simpa using q), List.append_nil]
          exact hG
      · intro ys hG D h9 tk9 F9 N9 off9
        rw [List.size_toArray, (Hold.out hJ).length, List.take_length] at hG
        have hyl : ys.length ≤ 100 := by
          have q1 := hG.length
          have q2 := List.length_filter_le (fun p => decide (p < 6)) (psum ns 0 ++ extraF ns)
          rw [q1]; refine Nat.le_trans q2 ?_
          rw [List.length_append, psum_len]; omega
        replace hG := Hold.in hG
        k_steps
        refine h _ _ _ _ _ (Fr.keep (by k_asm)) (News.fresh (by k_asm) (.head _)) (News.get (by k_asm) (.head _)) ?_
        rw [cutsF, if_pos rfl]
        exact intsSnoc (.cons _ _ (Hold.out hG))
end
end
section
open PySem PySem.W PyProof.Rows PySem.Spec PySem.Calls
set_option Elab.async false
set_option maxRecDepth 100000
set_option maxHeartbeats 4000000
theorem start_Un : True := by w_top off; trivial
def unlikeF (ns : List Int) : Nat := ((List.range ns.length).filter fun k => decide (ns.getD k 0 ∉ ns.take k)).length
section
variable {w : World} {A : Around} {s : Shared} {mean : ExcName → Option Value} {mg mb : Str → Option Value} {Q E : Value → Shared → Prop}
theorem c_unlike {a : Addr} {vs : List Value} {ns : List Int} (hl : s.heap.IsList a vs.toArray) (hi : IntsAre vs ns) (hn : ns.length ≤ 10) (X : (hd.heap_1 w.params).In s.heap) (T : Tp mean mg mb s.heap) (hdep : A.depth + 3 < recursionLimit) (hun : A.units + 24 < cLine) (hh : A.handled = none)
    (h : ∀ t h' tk', Ext s.heap h' → Q (.int (unlikeF ns) t) { s with heap := h', toks := tk' }) : wpAny (model P0 w) A (call (.ref 196) [.ref a]) Q E s := by
  obtain ⟨hd0, dp, fr, gd, un⟩ := A
  dsimp only at hh hdep hun
  subst hh
  refine' enterC (binds := [(Str.ofString "row", .ref a)]) ?x1 ?x2 ?x3 ?x4 ?x5 ?x6 ?x7 ?x8 ?x9 ?x10 ?x11 ?_
  walk_at "mine enteredC"
  have hvl := hi.length
  k_steps
  refine Hold.out ?_
  refine LCt.CompSrcT.range rfl (by k_asm) (by k_asm) (by assumption) (range_small (by omega) (by omega) (by omega) (by omega)) range_len (by rw [sizeLine_eq]; omega) ?_
  intro g9
  refine compT (fun i ys => ys.length = ((List.range i).filter fun k => decide (ns.getD k 0 ∉ ns.take k)).length) trivial rfl ?_ ?_
  · rintro i v I oI C oC D m₂ ys h tk E' hin ⟨t, rfl⟩ hG hC hx F9 N9
    rw [Int.zero_add] at hx
    k_steps
    · refine cend (by k_asm) (by k_asm) (fun p hp => .tail _ hp) ?_
      have q : ((List.take (i : Int).toNat ns).any fun x => x == ns.getD (i : Int).toNat 0) = true := by assumption
      rw [Int.toNat_natCast] at q
      have q' : ns.getD i 0 ∈ ns.take i := by simpa using q
      rw [filt_succ, hG, if_neg (by rw [decide_eq_true_eq]; exact fun q2 => q2 q')]; rfl
    · refine cend (by k_asm) (by k_asm) (fun p hp => .tail _ hp) ?_
      have q : ((List.take (i : Int).toNat ns).any fun x => x == ns.getD (i : Int).toNat 0) = false := by assumption
      rw [Int.toNat_natCast] at q
      have q' : ns.getD i 0 ∉ ns.take i := by
        intro q1
        have : ((List.take i ns).any fun x => x == ns.getD i 0) = true := by simpa using q1
        rw [this] at q; cases q
      rw [filt_succ, List.length_append, hG, if_pos (by rw [decide_eq_true_eq]; exact q')]; rfl
  · intro ys hG
    have hyl : ys.length ≤ 10 := by
      have := List.length_filter_le (fun k => decide ¬ns.getD k 0 ∈ List.take k ns) (List.range ((ns.length : Int) - 0).toNat)
      rw [List.length_range] at this; omega
    intro D h9 tk9 F9 N9 off9
    k_steps
    have e : (ys.length : Int) = unlikeF ns := by rw [hG, unlikeF]; simp
    rw [e]
    exact h _ _ _ (Fr.keep (by k_asm))
end
end
section
open PySem PySem.W PyProof.Rows PySem.Spec PySem.Calls
open PySem.Builtin PySem.Builtin.Str PySem.StrLaws
set_option Elab.async false
set_option maxRecDepth 100000
set_option maxHeartbeats 1000000
theorem start_Pu6 : True := by w_top off; trivial
/-- where the sizes cut, by places alone -/
def prunL (ns : List Int) : Nat → Nat × List (Nat × Nat) → Nat → Nat × List (Nat × Nat)
  | 0, st, _ => st
  | f + 1, st, j => match iv ns none j with | none => st | some y => if st.1 = 0 then st else prunL ns f (st.1 - y.toNat, (st.1 - y.toNat, st.1) :: st.2) (j + 1)
def placeL (ns : List Int) (n : Nat) : List (Nat × Nat) := if (prunL ns 16 (n, []) 0).1 = 0 then (prunL ns 16 (n, []) 0).2 else (0, (prunL ns 16 (n, []) 0).1) :: (prunL ns 16 (n, []) 0).2
def segS (x : Str) (p : Nat × Nat) : Str := ⟨((x.cps.toList.take p.2).drop p.1).toArray⟩
theorem tl_seg (x : Str) (p : Nat × Nat) : (segS x p).cps.toList = (x.cps.toList.take p.2).drop p.1 := by simp [segS]
theorem prun_is {ns : List Int} (hp : ∀ x ∈ ns, 0 ≤ x ∧ x ≤ 127) (x : Str) : ∀ (f j : Nat) (rest : Str) (ps : List (Nat × Nat)) (r : Nat), r ≤ x.length → rest.cps.toList = x.cps.toList.take r →
    ∃ rest', (prun ns f (rest, ps.map (segS x)) j) = (rest', (prunL ns f (r, ps) j).2.map (segS x)) ∧ rest'.cps.toList = x.cps.toList.take (prunL ns f (r, ps) j).1 ∧ (prunL ns f (r, ps) j).1 ≤ x.length
  | 0, j, rest, ps, r, hr, hx => ⟨rest, rfl, hx, hr⟩
  | f + 1, j, rest, ps, r, hr, hx => by
    have hrl : rest.length = r := by rw [len_tl, hx, List.length_take, ← len_tl]; omega
    rw [prun, prunL]
    cases hiv : iv ns none j with
    | none => exact ⟨rest, rfl, hx, hr⟩
    | some y =>
      have hy := iv_pos hp (fun z e => by cases e) hiv
      simp only
      by_cases h0 : r = 0
      · rw [if_pos (by omega), if_pos h0]; exact ⟨rest, rfl, hx, hr⟩
      · rw [if_neg (by omega), if_neg h0]
        have e1 : (Txt.slice rest none (some (-y))).cps.toList = x.cps.toList.take (r - y.toNat) := by
          rw [sl_to_neg rest y (by omega), hx, List.take_take, hrl]; congr 1; omega
        have e2 : Txt.slice rest (some (-y)) none = segS x (r - y.toNat, r) := by
          refine str_ext ?_
          rw [sl_from_neg rest y (by omega), hx, tl_seg, hrl]
        have := prun_is hp x f (j + 1) (Txt.slice rest none (some (-y))) ((r - y.toNat, r) :: ps) (r - y.toNat) (by omega) e1
        rw [pstep, e2]
        exact this
theorem place_is {ns : List Int} (hp : ∀ x ∈ ns, 0 ≤ x ∧ x ≤ 127) (x : Str) : placeN ns x = (placeL ns x.length).map (segS x) := by
  obtain ⟨rest, e1, e2, e3⟩ := prun_is hp x 16 0 x [] x.length (Nat.le_refl _) (by rw [len_tl, List.take_length])
  rw [List.map_nil] at e1
  rw [placeN, placeL, e1]
  simp only
  have hl : rest.length = (prunL ns 16 (x.length, []) 0).1 := by rw [len_tl, e2, List.length_take, ← len_tl]; omega
  rw [hl]
  split
  · rfl
  · rw [List.map_cons]
    congr 1
    refine str_ext ?_
    rw [tl_seg, e2]; simp
def okB (ns : List Int) : Bool := decide (2 ≤ ns.length) && decide (ns.length ≤ 8) && decide (ns.getD 0 0 = 0) && ((List.range (ns.length - 1)).all fun k => decide (ns.getD k 0 < ns.getD (k + 1) 0)) && decide (ns.getD (ns.length - 1) 0 = 6)
theorem okB_ok {ns : List Int} (h : okB ns = true) : CutsOk ns := by
  simp only [okB, Bool.and_eq_true, decide_eq_true_eq, List.all_eq_true] at h
  obtain ⟨⟨⟨⟨h1, h2⟩, h3⟩, h4⟩, h5⟩ := h
  exact ⟨h1, h2, h3, fun k hk => h4 k (List.mem_range.mpr (by omega)), h5⟩
/-- the row behind the sizes -/
def tailF (m : Nat) : List Int := if m = 0 then [] else if m = 1 then [127, 1] else [0]
def segsF (c : List Int) : List (Nat × Nat) := ((List.range (c.length - 1)).map fun k => (6 - cut c (k + 1), 6 - cut c k)).reverse
def rowOk (s : List Int) (m : Nat) : Bool := (s.isEmpty && m == 2) || (okB (cutsF s (m == 2)) && decide (placeL (s ++ tailF m) 6 = segsF (cutsF s (m == 2))))
def ones : List (List Int) := [[1], [2], [3]]
def allS : List (List Int) := [[]] ++ ones ++ (ones.flatMap fun a => ones.map fun b => a ++ b) ++ (ones.flatMap fun a => ones.flatMap fun b => ones.map fun c => a ++ b ++ c)
theorem rows_ok : (allS.all fun s => rowOk s 0 && rowOk s 1 && rowOk s 2) = true := by decide +kernel
theorem in_allS {s : List Int} (hn : s.length ≤ 3) (hp : ∀ x ∈ s, 1 ≤ x ∧ x ≤ 3) : s ∈ allS := by
  rcases s with _ | ⟨a, _ | ⟨b, _ | ⟨c, _ | ⟨d, r⟩⟩⟩⟩
  · decide
  · have ha := hp a (by simp)
    have : a = 1 ∨ a = 2 ∨ a = 3 := by omega
    rcases this with rfl | rfl | rfl <;> decide
  · have ha := hp a (by simp)
    have hb := hp b (by simp)
    have h1 : a = 1 ∨ a = 2 ∨ a = 3 := by omega
    have h2 : b = 1 ∨ b = 2 ∨ b = 3 := by omega
    rcases h1 with rfl | rfl | rfl <;> rcases h2 with rfl | rfl | rfl <;> decide
  · have ha := hp a (by simp)
    have hb := hp b (by simp)
    have hc := hp c (by simp)
    have h1 : a = 1 ∨ a = 2 ∨ a = 3 := by omega
    have h2 : b = 1 ∨ b = 2 ∨ b = 3 := by omega
    have h3 : c = 1 ∨ c = 2 ∨ c = 3 := by omega
    rcases h1 with rfl | rfl | rfl <;> rcases h2 with rfl | rfl | rfl <;> rcases h3 with rfl | rfl | rfl <;> decide
  · simp at hn
theorem row_is {s : List Int} (hn : s.length ≤ 3) (hp : ∀ x ∈ s, 1 ≤ x ∧ x ≤ 3) {m : Nat} (hm : m < 3) (hb : s ≠ [] ∨ m ≠ 2) : CutsOk (cutsF s (m == 2)) ∧ placeL (s ++ tailF m) 6 = segsF (cutsF s (m == 2)) := by
  have h1 := List.all_eq_true.mp rows_ok s (in_allS hn hp)
  simp only [Bool.and_eq_true] at h1
  obtain ⟨⟨h0, h1⟩, h2⟩ := h1
  have : rowOk s m = true := by
    have : m = 0 ∨ m = 1 ∨ m = 2 := by omega
    rcases this with rfl | rfl | rfl <;> assumption
  rw [rowOk, Bool.or_eq_true, Bool.and_eq_true, Bool.and_eq_true, decide_eq_true_eq] at this
  rcases this with ⟨q1, q2⟩ | ⟨q1, q2⟩
  · exfalso
    rcases hb with q | q
    · exact q (by simpa using q1)
    · exact q (by simpa using q2)
  · exact ⟨okB_ok q1, q2⟩
/-- the figures of a key -/
def figS (K : Nat) : Str := Txt.join (Str.ofString "") ((List.range 6).map fun (j : Nat) => dig (Int.fmod (Int.fdiv (K : Int) (10 ^ ((5 : Int) - (j : Int)).toNat)) 10))
theorem tl_fig (K : Nat) : (figS K).cps.toList = (List.range 6).map fun j => dg K (5 - j) := by
  have := tl_figs K 6 fun j => (5 : Int) - (j : Int)
  rw [figS, this]
  refine List.map_congr_left fun j hj => ?_
  congr 1
  have := List.mem_range.mp hj
  omega
theorem fig_len (K : Nat) : (figS K).length = 6 := by rw [len_tl, tl_fig]; simp
theorem seg_name (K : Nat) {c c' : Nat} (h : c < c') (h6 : c' ≤ 6) : segS (figS K) (6 - c', 6 - c) = nameF (K : Int) (c : Int) (c' : Int) := by
  refine str_ext ?_
  rw [tl_seg, tl_fig, tl_name K c c' h]
  refine List.ext_getElem (by simp; omega) fun i h1 h2 => ?_
  simp only [List.length_drop, List.length_take, List.length_map, List.length_range] at h1
  simp only [List.getElem_drop, List.getElem_take, List.getElem_map, List.getElem_range]
  congr 1
  omega
theorem place_names {s : List Int} (hn : s.length ≤ 3) (hp : ∀ x ∈ s, 1 ≤ x ∧ x ≤ 3) {m : Nat} (hm : m < 3) (hb : s ≠ [] ∨ m ≠ 2) (K : Nat) : placeN (s ++ tailF m) (figS K) = names K (cutsF s (m == 2)) := by
  obtain ⟨C, e⟩ := row_is hn hp hm hb
  rw [place_is (fun x hx => by
    rcases List.mem_append.mp hx with h | h
    · have := hp x h; omega
    · have : m = 0 ∨ m = 1 ∨ m = 2 := by omega
      rcases this with rfl | rfl | rfl
      · cases h
      · have : x = 127 ∨ x = 1 := by simpa [tailF] using h
        omega
      · have : x = 0 := by simpa [tailF] using h
        omega), fig_len, e, segsF, names, List.map_reverse, List.map_map]
  congr 1
  refine List.map_congr_left fun k hk => ?_
  have hk' := List.mem_range.mp hk
  show segS (figS K) (6 - cut _ (k + 1), 6 - cut _ k) = nmAt K _ k
  rw [seg_name K (C.step (by omega)) (C.le6 (by omega)), nmAt, C.cast, C.cast]
/-- the path of a key -/
theorem place_path {s : List Int} (hn : s.length ≤ 3) (hp : ∀ x ∈ s, 1 ≤ x ∧ x ≤ 3) {m : Nat} (hm : m < 3) (hb : s ≠ [] ∨ m ≠ 2) (K : Nat) : (placeN (s ++ tailF m) (figS K)).foldl jstep (Str.ofString "/") = pathOf (names K (cutsF s (m == 2))) := by
  obtain ⟨C, _⟩ := row_is hn hp hm hb
  rw [place_names hn hp hm hb, ← path_nil, jfold_path _ _ (by simp) (fun b hb => (names_nm C K b hb).ok), List.nil_append]

end
section
open PySem PySem.W PyProof.Rows PySem.Spec PySem.Calls
open PySem.Builtin PySem.Builtin.Str PySem.StrLaws
set_option Elab.async false
set_option maxRecDepth 100000
set_option maxHeartbeats 1000000
theorem start_Pu7 : True := by w_top off; trivial
def down : Nat → List Nat
  | 0 => [0]
  | i + 1 => (i + 1) :: down i
theorem mem_down : ∀ {i k : Nat}, k ∈ down i ↔ k ≤ i
  | 0, k => by simp [down]
  | i + 1, k => by rw [down, List.mem_cons, mem_down (i := i)]; omega
def fresh (met : List Str) (P : Nat → Str) (i : Nat) : Nat := ((down i).map fun k => if P k ∈ met then 0 else 1).sum
theorem fresh_zero {met : List Str} {P : Nat → Str} : ∀ {i : Nat}, (∀ k, k ≤ i → P k ∈ met) → fresh met P i = 0
  | 0, h => by simp [fresh, down, h 0 (Nat.le_refl _)]
  | i + 1, h => by
    have := fresh_zero (met := met) (P := P) (i := i) fun k hk => h k (by omega)
    rw [fresh, down, List.map_cons, List.sum_cons, if_pos (h _ (Nat.le_refl _))]
    rw [fresh] at this; omega
theorem fresh_congr {met met' : List Str} {P : Nat → Str} {i : Nat} (h : ∀ k, k ≤ i → (P k ∈ met ↔ P k ∈ met')) : fresh met P i = fresh met' P i := by
  rw [fresh, fresh]
  congr 1
  refine List.map_congr_left fun k hk => ?_
  have := h k (mem_down.mp hk)
  by_cases q : P k ∈ met
  · rw [if_pos q, if_pos (this.mp q)]
  · rw [if_neg q, if_neg fun r => q (this.mpr r)]
/-- going up from a place: what is new is taken, till an old one is met -/
theorem climb_is {P : Nat → Str} {m : Nat} (h0 : dirnameF (P 0) = P 0) (hs : ∀ i, i < m → dirnameF (P (i + 1)) = P i) (hinj : ∀ i k, i ≤ m → k ≤ m → P i = P k → i = k) :
    ∀ (i f : Nat) (met : List Str), i ≤ m → i + 2 ≤ f → (∀ k, k ≤ i → P k ∈ met → ∀ k', k' ≤ k → P k' ∈ met) →
      (climb f met (P i)).length = met.length + fresh met P i ∧ ∀ x, x ∈ climb f met (P i) ↔ x ∈ met ∨ ∃ k, k ≤ i ∧ x = P k
  | i, 0, met, _, hf, _ => by omega
  | i, f + 1, met, hi, hf, hc => by
    by_cases hm : P i ∈ met
    · have hall : ∀ k, k ≤ i → P k ∈ met := fun k hk => hc i (Nat.le_refl _) hm k hk
      rw [climb_in hm, fresh_zero hall]
      refine ⟨rfl, fun x => ⟨.inl, ?_⟩⟩
      rintro (h | ⟨k, hk, rfl⟩)
      · exact h
      · exact hall k hk
    · rw [climb_out hm]
      cases i with
      | zero =>
        rw [h0]
        obtain ⟨g, rfl⟩ : ∃ g, f = g + 1 := ⟨f - 1, by omega⟩
        rw [climb_in (by simp)]
        refine ⟨by simp [fresh, down, hm], fun x => ?_⟩
        rw [List.mem_append, List.mem_singleton]
        constructor
        · rintro (h | h)
          · exact .inl h
          · exact .inr ⟨0, Nat.le_refl _, h⟩
        · rintro (h | ⟨k, hk, h⟩)
          · exact .inl h
          · rw [show k = 0 by omega] at h; exact .inr h
      | succ i =>
        rw [hs i (by omega)]
        have hmem : ∀ k, k ≤ i → (P k ∈ met ++ [P (i + 1)] ↔ P k ∈ met) := fun k hk => by
          rw [List.mem_append, List.mem_singleton]
          constructor
          · rintro (h | h)
            · exact h
            · have := hinj k (i + 1) (by omega) hi h; omega
          · exact .inl
        obtain ⟨e1, e2⟩ := climb_is h0 hs hinj i f (met ++ [P (i + 1)]) (by omega) (by omega) (fun k hk hp k' hk' => (hmem k' (by omega)).mpr (hc k (by omega) ((hmem k hk).mp hp) k' hk'))
        refine ⟨?_, fun x => ?_⟩
        · rw [e1, List.length_append, List.length_singleton, fresh_congr hmem]
          have : fresh met P (i + 1) = 1 + fresh met P i := by rw [fresh, down, List.map_cons, List.sum_cons, if_neg hm]; rfl
          omega
        · rw [e2, List.mem_append, List.mem_singleton]
          constructor
          · rintro ((h | h) | ⟨k, hk, h⟩)
            · exact .inl h
            · exact .inr ⟨i + 1, Nat.le_refl _, h⟩
            · exact .inr ⟨k, by omega, h⟩
          · rintro (h | ⟨k, hk, h⟩)
            · exact .inl (.inl h)
            · rcases Nat.lt_or_ge k (i + 1) with q | q
              · exact .inr ⟨k, by omega, h⟩
              · rw [show k = i + 1 by omega] at h; exact .inl (.inr h)
theorem down_range : ∀ m : Nat, (List.range (m + 1)).map (fun k => m - k) = down m
  | 0 => rfl
  | m + 1 => by
    rw [List.range_succ_eq_map, List.map_cons, List.map_map, down, ← down_range m]
    congr 1
    refine List.map_congr_left fun k _ => ?_
    show m + 1 - (k + 1) = m - k
    omega
/-- the folders of a key -/
def fold (K : Nat) (ns : List Int) (i : Nat) : Str := pathOf ((names K ns).take i)
theorem fold_dir0 (K : Nat) (ns : List Int) : dirnameF (fold K ns 0) = fold K ns 0 := dir_nil
theorem fold_ok {ns : List Int} (C : CutsOk ns) (K i : Nat) : ∀ n ∈ (names K ns).take i, Ok n := fun n hn => (names_nm C K n (List.mem_of_mem_take hn)).ok
theorem fold_dir {ns : List Int} (C : CutsOk ns) (K : Nat) (i : Nat) (hi : i < ns.length - 1) : dirnameF (fold K ns (i + 1)) = fold K ns i := by
  rw [fold, dir_path (fold_ok C K _), fold]
  congr 1
  rw [List.dropLast_eq_take, List.take_take, List.length_take, names_len]
  congr 1; omega
theorem fold_inj {ns : List Int} (C : CutsOk ns) {K1 K2 i k : Nat} (hi : i ≤ ns.length - 1) (hk : k ≤ ns.length - 1) (h : fold K1 ns i = fold K2 ns k) : i = k ∧ (names K1 ns).take i = (names K2 ns).take k := by
  have e := path_inj (fold_ok C K1 i) (fold_ok C K2 k) h
  have := congrArg List.length e
  rw [List.length_take, List.length_take, names_len, names_len] at this
  exact ⟨by omega, e⟩
theorem unlike_snoc (l : List Int) (x : Int) : unlikeF (l ++ [x]) = unlikeF l + if x ∈ l then 0 else 1 := by
  rw [unlikeF, List.length_append, List.length_singleton, filt_succ]
  have e1 : ((List.range l.length).filter fun k => decide ((l ++ [x]).getD k 0 ∉ (l ++ [x]).take k)) = (List.range l.length).filter fun k => decide (l.getD k 0 ∉ l.take k) := by
    refine List.filter_congr fun k hk => ?_
    have hk' := List.mem_range.mp hk
    rw [List.getD_eq_getElem?_getD, List.getD_eq_getElem?_getD, List.getElem?_append_left hk', List.take_append_of_le_length (by omega)]
  have e2 : (l ++ [x]).getD l.length 0 = x := by rw [List.getD_eq_getElem?_getD]; simp
  have e3 : (l ++ [x]).take l.length = l := by simp
  rw [e1, e2, e3, unlikeF]
  by_cases h : x ∈ l <;> simp [h]
theorem sum_add (l : List Nat) (f g : Nat → Nat) : (l.map fun x => f x + g x).sum = (l.map f).sum + (l.map g).sum := by
  induction l with
  | nil => rfl
  | cons a l ih => simp only [List.map_cons, List.sum_cons, ih]; omega
/-- how many unlike quotients there are at all cuts -/
def dueF (Ks : List Nat) (ns : List Int) : Nat := ((List.range ns.length).map fun j => unlikeF (Ks.map fun (K : Nat) => Int.fdiv (K : Int) (10 ^ (ns.getD j 0).toNat))).sum
def metF (Ks : List Nat) (ns : List Int) : List Str := (Ks.map fun K => pathOf (names K ns)).foldl (climb 12) []
theorem met_is {ns : List Int} (C : CutsOk ns) : ∀ (n : Nat) (Ks : List Nat), Ks.length = n → (∀ K ∈ Ks, K < 1000000) →
    (metF Ks ns).length = dueF Ks ns ∧ ∀ x, x ∈ metF Ks ns ↔ ∃ K ∈ Ks, ∃ k, k ≤ ns.length - 1 ∧ x = fold K ns k
  | 0, Ks, hn, _ => by
    have := List.length_eq_zero_iff.mp hn
    subst this
    refine ⟨?_, fun x => by simp [metF]⟩
    show 0 = _
    rw [dueF]
    symm
    have : ∀ l : List Nat, (l.map fun j => unlikeF (([] : List Nat).map fun (K : Nat) => Int.fdiv (K : Int) (10 ^ (ns.getD j 0).toNat))).sum = 0 := by
      intro l
      induction l with
      | nil => rfl
      | cons a l ih => rw [List.map_cons, List.sum_cons, ih]; rfl
    exact this _
  | n + 1, Ks, hn, hK => by
    obtain ⟨Ks', K, rfl⟩ : ∃ Ks' K, Ks = Ks' ++ [K] := ⟨Ks.dropLast, Ks.getLast (by rintro rfl; simp at hn), (List.dropLast_concat_getLast _).symm⟩
    obtain ⟨e1, e2⟩ := met_is C n Ks' (by simpa using hn) fun K' h => hK K' (by simp [h])
    have hKl := hK K (by simp)
    have htwo := C.two
    have hfew := C.few
    have hmet : metF (Ks' ++ [K]) ns = climb 12 (metF Ks' ns) (fold K ns (ns.length - 1)) := by
      rw [metF, List.map_append, List.foldl_append, fold, List.take_of_length_le (by rw [names_len]; omega)]; rfl
    have hmem : ∀ j, j < ns.length → (fold K ns (ns.length - 1 - j) ∈ metF Ks' ns ↔ Int.fdiv (K : Int) (10 ^ (ns.getD j 0).toNat) ∈ Ks'.map fun (K : Nat) => Int.fdiv (K : Int) (10 ^ (ns.getD j 0).toNat)) := fun j hj => by
      rw [e2, List.mem_map]
      constructor
      · rintro ⟨K', hK', k, hk, h⟩
        obtain ⟨q1, q2⟩ := fold_inj C (by omega) hk h
        subst q1
        refine ⟨K', hK', ?_⟩
        have q3 := (agree C hKl (hK K' (by simp [hK'])) (ns.length - 1 - j) j (by omega)).mp q2
        rw [cast_q, cast_q]
        show ((K' / 10 ^ cut ns j : Nat) : Int) = ((K / 10 ^ cut ns j : Nat) : Int)
        rw [q3]
      · rintro ⟨K', hK', h⟩
        refine ⟨K', hK', ns.length - 1 - j, by omega, ?_⟩
        rw [cast_q, cast_q] at h
        have h' : K' / 10 ^ cut ns j = K / 10 ^ cut ns j := Int.ofNat.inj h
        rw [fold, fold, (agree C hKl (hK K' (by simp [hK'])) (ns.length - 1 - j) j (by omega)).mpr h'.symm]
    have hcl : ∀ k, k ≤ ns.length - 1 → fold K ns k ∈ metF Ks' ns → ∀ k', k' ≤ k → fold K ns k' ∈ metF Ks' ns := by
      intro k hk h k' hk'
      obtain ⟨K', hK', i, hi, q⟩ := (e2 _).mp h
      obtain ⟨q1, q2⟩ := fold_inj C hk hi q
      subst q1
      refine (e2 _).mpr ⟨K', hK', k', by omega, ?_⟩
      have q3 := congrArg (List.take k') q2
      rw [List.take_take, List.take_take, Nat.min_eq_left hk'] at q3
      rw [fold, fold, q3]
    obtain ⟨c1, c2⟩ := climb_is (P := fold K ns) (m := ns.length - 1) (fold_dir0 K ns) (fold_dir C K) (fun i k hi hk h => (fold_inj C hi hk h).1) (ns.length - 1) 12 (metF Ks' ns) (Nat.le_refl _) (by omega) hcl
    refine ⟨?_, fun x => ?_⟩
    · rw [hmet, c1, e1]
      have h1 : fresh (metF Ks' ns) (fold K ns) (ns.length - 1) = ((List.range ns.length).map fun j => if Int.fdiv (K : Int) (10 ^ (ns.getD j 0).toNat) ∈ (Ks'.map fun (K : Nat) => Int.fdiv (K : Int) (10 ^ (ns.getD j 0).toNat)) then 0 else 1).sum := by
        rw [fresh, ← down_range, List.map_map, show ns.length - 1 + 1 = ns.length by omega]
        congr 1
        refine List.map_congr_left fun j hj => ?_
        have := hmem j (List.mem_range.mp hj)
        show (if fold K ns (ns.length - 1 - j) ∈ metF Ks' ns then 0 else 1) = _
        by_cases q : fold K ns (ns.length - 1 - j) ∈ metF Ks' ns
        · rw [if_pos q, if_pos (this.mp q)]
        · rw [if_neg q, if_neg fun r => q (this.mpr r)]
      rw [h1, dueF, dueF, ← sum_add]
      congr 1
      refine List.map_congr_left fun j _ => ?_
      rw [List.map_append, List.map_cons, List.map_nil, unlike_snoc]
    · rw [hmet, c2, e2]
      constructor
      · rintro (⟨K', hK', k, hk, h⟩ | ⟨k, hk, h⟩)
        · exact ⟨K', by simp [hK'], k, hk, h⟩
        · exact ⟨K, by simp, k, hk, h⟩
      · rintro ⟨K', hK', k, hk, h⟩
        rcases List.mem_append.mp hK' with q | q
        · exact .inl ⟨K', q, k, hk, h⟩
        · rw [List.mem_singleton.mp q] at h; exact .inr ⟨k, hk, h⟩
theorem folders_is {ns : List Int} (C : CutsOk ns) {Ks : List Nat} (hK : ∀ K ∈ Ks, K < 1000000) : ((Ks.map fun K => pathOf (names K ns)).foldl (climb 12) []).length = dueF Ks ns := (met_is C Ks.length Ks rfl hK).1

end
section
open PySem PySem.W PyProof.Rows PySem.Spec PySem.Calls
set_option Elab.async false
set_option maxRecDepth 100000
set_option maxHeartbeats 4000000
theorem start_Sz : True := by w_top off; trivial
def szF : Nat → Int → List Int
  | 0, _ => []
  | k + 1, y => if Int.fmod y 4 = 0 then [] else Int.fmod y 4 :: szF k (Int.fdiv y 4)
section
variable {w : World} {A : Around} {s : Shared} {mean : ExcName → Option Value} {mg mb : Str → Option Value} {Q E : Value → Shared → Prop}
theorem c_sizes {x : Int} {tx : Tok} (X : (hd.heap_1 w.params).In s.heap) (T : Tp mean mg mb s.heap) (hdep : A.depth + 3 < recursionLimit) (hun : A.units + 24 < cLine) (hh : A.handled = none) (hx : 0 ≤ x) (hx2 : x ≤ 2000000)
    (h : ∀ a h' tk' vs k, Ext s.heap h' → s.heap.get? a = none → h'.get? a = some (W.listOf (List.toArray vs) k) → IntsAre vs (szF 3 (x.fdiv 3)) → Q (.ref a) { s with heap := h', toks := tk' }) : wpAny (model P0 w) A (call (.ref 155) [.int x tx]) Q E s := by
  obtain ⟨hd0, dp, fr, gd, un⟩ := A
  dsimp only at hh hdep hun
  subst hh
  refine' enter (binds := [(Str.ofString "x", .int x tx)]) ?x1 ?x2 ?x3 ?x4 ?x5 ?x6 ?x7 ?x8 ?x9 ?x10 ?x11 ?_
  walk_at "mine entered"
  k_steps
  refine Hold.out ?_
  refine' while_K (fun m₀ n m news => ∃ left t vs' ns k l', m (Str.ofString "left") = some (.int left t) ∧ m (Str.ofString "row") = some (.ref l') ∧ (∀ y, y ≠ Str.ofString "left" → y ≠ Str.ofString "row" → m y = m₀ y) ∧ news = [(l', W.listOf (List.toArray vs') k)] ∧ IntsAre vs' ns ∧
      0 ≤ left ∧ left ≤ 2000000 ∧ ns.length ≤ 3 ∧ n = 4 - ns.length ∧ szF 3 (x.fdiv 3) = ns ++ szF (3 - ns.length) left)
    (fun m₀ m news => ∃ left t vs' k l', m (Str.ofString "left") = some (.int left t) ∧ m (Str.ofString "row") = some (.ref l') ∧ (∀ y, y ≠ Str.ofString "left" → y ≠ Str.ofString "row" → m y = m₀ y) ∧ news = [(l', W.listOf (List.toArray vs') k)] ∧ IntsAre vs' (szF 3 (x.fdiv 3))) (n₀ := 4) ?x1 ?x2 ?x3 ?x4 ?x5
  (case x1 => k_asm)
  (case x2 => k_asm)
  (case x3 =>
    have hd3 := Int.fdiv_eq_ediv_of_nonneg x (show (0:Int) ≤ 3 by decide)
    exact ⟨_, _, [], [], _, _, rfl, rfl, fun _ _ _ => rfl, rfl, .nil, by omega, by omega, by simp, rfl, by simp⟩)
  (case x4 =>
    rintro n m₁ n₁ h9 tk9 ⟨left, t, vs', ns, k, l', hm1, hm2, hm3, rfl, hI, h0, h1, h2, h3, h4⟩ F9 N9
    obtain rfl := known2 (Str.ofString "left") (Str.ofString "row") hm1 hm2 hm3
    clear hm1 hm2 hm3
    have hvl := hI.length
    have hd4 := Int.fdiv_eq_ediv_of_nonneg left (show (0:Int) ≤ 4 by decide)
    k_steps
    · have q : left.fmod 4 ≠ 0 := by assumption
      have hlt : ns.length < 3 := by omega
      refine wturn (4 - (ns.length + 1)) [(l', W.listOf (vs' ++ [Value.int (left.fmod 4) _]).toArray (k + 1))] (by omega) (by k_asm) (by k_asm) (fun _ hp => hp)
        ⟨left.fdiv 4, _, _, ns ++ [left.fmod 4], k + 1, l', rfl, rfl, fun y h1 h2 => by simp only [if_neg h1, if_neg h2], rfl, intsSnoc hI, by omega, by omega, by simp; omega, by simp, ?_⟩
      obtain ⟨f, hf⟩ : ∃ f, 3 - ns.length = f + 1 := ⟨2 - ns.length, by omega⟩
      rw [h4, hf, szF, if_neg q, List.length_append, List.length_singleton, show 3 - (ns.length + 1) = f by omega, List.append_assoc]; rfl
    · refine wexit [(l', W.listOf vs'.toArray k)] (by k_asm) (by k_asm) (fun _ hp => hp) ⟨left, t, vs', k, l', rfl, rfl, fun y h1 h2 => by simp only [if_neg h1, if_neg h2], rfl, ?_⟩
      rw [h4, show 3 - ns.length = 0 by omega, szF, List.append_nil]; exact hI
    · have q : left.fmod 4 = 0 := by assumption
      refine wexit [(l', W.listOf vs'.toArray k)] (by k_asm) (by k_asm) (fun _ hp => hp) ⟨left, t, vs', k, l', rfl, rfl, fun y h1 h2 => by simp only [if_neg h1, if_neg h2], rfl, ?_⟩
      have : szF (3 - ns.length) left = [] := by
        cases 3 - ns.length with
        | zero => rfl
        | succ f => rw [szF, if_pos q]
      rw [h4, this, List.append_nil]; exact hI)
  rintro m₁ n₁ h9 tk9 ⟨left, t, vs', k, l', hm1, hm2, hm3, rfl, hI⟩ F9 N9
  obtain rfl := known2 (Str.ofString "left") (Str.ofString "row") hm1 hm2 hm3
  clear hm1 hm2 hm3
  k_steps
  exact h _ _ _ _ _ (Fr.keep (by k_asm)) (News.fresh (by k_asm) (.head _)) (News.get (by k_asm) (.head _)) hI
end
end
section
open PySem PySem.W PyProof.Rows PySem.Spec PySem.Calls
set_option Elab.async false
set_option maxRecDepth 100000
set_option maxHeartbeats 2000000
theorem start_Ct : True := by w_top off; trivial
/-- a mark in the context: the walk stops at the next statement -/
inductive Stop : Prop | mk
def CutPost (h₀ : Heap) (L : Addr) (s : Shared) (R : (Str → Option Value) → List (Addr × Obj) → Prop) (f : Flow) (s' : Shared) : Prop :=
  f = .next ∧ ∃ h tk m news, s' = { s with heap := h, toks := tk } ∧ Fr h₀ L h m ∧ News h₀ L h news ∧ R m news
theorem map_snoc {ys : List Value} {l : List Int} {f : Int → Int} {i : Nat} {x : Int} {t : Tok} (hG : Hold (IntsAre ys ((l.take i).map f))) (hx : l[i]? = some x) : Hold (IntsAre (ys ++ [.int (f x) t]) ((l.take (i + 1)).map f)) := by
  rw [List.take_add_one, hx]
  show IntsAre _ ((l.take i ++ [x]).map f)
  rw [List.map_append]
  exact intsSnoc hG
/-- what is drawn: numbers of six figures -/
theorem drawn_nat (l : List Int) : ∃ Ds : List Nat, (l.map fun x => Int.fmod x 1000000) = Ds.map (fun (K : Nat) => (K : Int)) ∧ (∀ K ∈ Ds, K < 1000000) ∧ Ds.length = l.length := by
  refine ⟨l.map fun x => (Int.fmod x 1000000).toNat, ?_, ?_, by simp⟩
  · rw [List.map_map]
    refine List.map_congr_left fun x _ => ?_
    have h1 := Int.emod_nonneg x (show (1000000 : Int) ≠ 0 by decide)
    show _ = (((Int.fmod x 1000000).toNat : Nat) : Int)
    rw [Int.fmod_eq_emod_of_nonneg x (show (0 : Int) ≤ 1000000 by decide)]
    omega
  · intro K hK
    obtain ⟨x, _, rfl⟩ := List.mem_map.mp hK
    have h1 := Int.emod_nonneg x (show (1000000 : Int) ≠ 0 by decide)
    have h2 := Int.emod_lt_of_pos x (show (0 : Int) < 1000000 by decide)
    rw [Int.fmod_eq_emod_of_nonneg x (show (0 : Int) ≤ 1000000 by decide)]
    omega
theorem name_fr {s : Shared} {L : Addr} {h : Heap} {m : Str → Option Value} (_F : Fr s.heap L h m) : ∃ b, b = s := ⟨_, rfl⟩
theorem name_cell {o : Obj} {d : Data} (_h : o.data = d) : ∃ b, b = o := ⟨_, rfl⟩
theorem bare_of {a b : Array GenState} (h : a = #[]) (u : BareUp a b) : AllBare b := u (by rw [h]; intro y hy; simp at hy)
theorem end_true {c : ClaimW} {cl : Str → Option Addr} {mean : ExcName → Option Value} {args : List WData} {s₁ s' : Shared} {L : Addr} {m : Str → Option Value} {b : Bool} (F : Fr s₁.heap L s'.heap m) (hg : AllBare s'.gens) (hn : ∀ cls, c.raises args cls = false) (hp : c.post args (.bool true) args = true) (hb : b = true) (hos : s'.os = s₁.os) : GoodWG c cl mean args s₁ (.ok (.ret (.bool b))) s' := by
  subst hb
  exact ⟨.inl ⟨_, _, _, rfl, hn, .bool true, hp, unshared_nil⟩, .of_keep F.keep, hos, hg⟩
section
variable {prog : Program} {w : World} {A : Around} {E : Value → Shared → Prop} {s : Shared} {env : Env} {h₀ : Heap} {L : Addr}
/-- the end kept apart from the walk: True, the old heap kept, the generators bare -/
theorem law_abs {c : Sem Flow} {Q : Flow → Shared → Prop} {h₁ : Heap} {m₁ : Str → Option Value} (_F : Fr h₀ L h₁ m₁)
    (hQ : ∀ h tk G m, Fr h₀ L h m → AllBare G → Q (.ret (.bool true)) { s with heap := h, toks := tk, gens := G })
    (h : ∀ Q' : Flow → Shared → Prop, (∀ h tk G m, Fr h₀ L h m → AllBare G → Q' (.ret (.bool true)) { s with heap := h, toks := tk, gens := G }) → wpAny (model prog w) A c Q' (fun _ _ => False) s) : wpAny (model prog w) A c Q E s :=
  wpAny_mono (h Q hQ) (fun _ _ q => q) fun _ _ e => e.elim
/-- a statement whose ways meet behind it -/
theorem cut_stmt {st : Stmt} {rest : List Stmt} {Q : Flow → Shared → Prop} {m₀ : Str → Option Value} {n₀ : List (Addr × Obj)} (R : (Str → Option Value) → (Str → Option Value) → List (Addr × Obj) → Prop) (_F : Fr h₀ L s.heap m₀) (_N : News h₀ L s.heap n₀)
    (h1 : wpAny (model prog w) A (exec st env) (CutPost h₀ L s (R m₀)) E s)
    (h2 : ∀ h tk m news, R m₀ m news → Fr h₀ L h m → News h₀ L h news → wpAny (model prog w) A (execs rest env) Q E { s with heap := h, toks := tk }) : wpAny (model prog w) A (execs (st :: rest) env) Q E s := by
  refine wpAny_execs_cons (wpAny_mono h1 (fun f s' q => ?_) fun _ _ e => e)
  obtain ⟨rfl, h, tk, m, news, rfl, F, N, r⟩ := q
  exact h2 h tk m news r F N
theorem cut_post {R : (Str → Option Value) → List (Addr × Obj) → Prop} {h : Heap} {tk : Nat} {m : Str → Option Value} {all : List (Addr × Obj)} (news : List (Addr × Obj)) (F : Fr h₀ L h m) (N : News h₀ L h all) (sub : ∀ p ∈ news, p ∈ all) (r : R m news) : CutPost h₀ L s R .next { s with heap := h, toks := tk } :=
  ⟨rfl, h, tk, m, news, rfl, F, fun p hp => N p (sub p hp), r⟩
theorem head_val {ys : List Value} {Ds : List Nat} (hG : Hold (IntsAre ys (Ds.map fun (K : Nat) => (K : Int)))) (tk : Tok) : ∃ t, (ys ++ [Value.int 0 tk])[0]? = some (.int ((Ds.headD 0 : Nat) : Int) t) := by
  cases Ds with
  | nil => cases (show IntsAre ys [] from hG); exact ⟨tk, rfl⟩
  | cons D Ds => cases (show IntsAre ys ((D : Int) :: _) from hG) with | cons _ t _ => exact ⟨t, rfl⟩
theorem item_head {l : Addr} {ys : List Value} {Ds : List Nat} {tk u : Tok} {value slice : PySem.Expr} {Q : Value → Shared → Prop} (hl : s.heap.IsList l (ys ++ [Value.int 0 tk]).toArray) (hG : Hold (IntsAre ys (Ds.map fun (K : Nat) => (K : Int)))) (h : ∀ t, Q (.int ((Ds.headD 0 : Nat) : Int) t) s)
    (hs : subscripted slice false (.ref l) (.int 0 u) = operate [.ref l, .int 0 u] (getItem (.ref l) (.int 0 u)) := by with_unfolding_all rfl) :
    wpAny (model prog w) A (subscriptTail value slice (.ref l) (.int 0 u)) Q E s := by
  obtain ⟨t, e⟩ := head_val hG tk
  exact item_litK hl (by decide) (by decide) e (h t) hs
theorem headD_lt {Ds : List Nat} (h : ∀ K ∈ Ds, K < 1000000) : Ds.headD 0 < 1000000 := by
  cases Ds with
  | nil => decide
  | cons D r => exact h D (.head _)
end
end
section
open PySem PySem.W PyProof.Rows PySem.Spec PySem.Calls
set_option Elab.async false
set_option maxRecDepth 100000
set_option maxHeartbeats 2000000
theorem start_Gx : True := by w_top off; trivial
section
variable {M : Model} {A : Around} {E : Value → Shared → Prop} {s : Shared} {Q : Unit → Shared → Prop}
theorem note_first {base : Heap} {env : Env} {outer : List Env} {L e : Addr} {oe : Obj} {vs : Array Value} {a0 : Value}
    (hfr : A.frames = some (env :: outer)) (hl : s.heap.FunFrames base (env :: outer)) (hf : env.frame = some L)
    (he : s.heap.get? e = some oe) (hkb : base.StaysIn s.heap) (hen : base.get? e = none) (hd : oe.data = .fields vs) (h1 : vs[1]? = some .none) (h0 : vs[0]? = some a0)
    (h : ∀ h', Heap.HeldW base (env :: outer) e oe.cls a0 L h' → s.heap.UpToSlots h' → Q () { s with heap := h' }) : wpAny M A (noteFrame (.ref e) env) Q E s := by
  unfold noteFrame
  simp only [hf]
  refine wpAny_bind (wpAny_field he hd h1 ?_)
  rw [if_neg (by decide)]
  exact wpAny_entryW hfr hl hf he hkb hen hd (Array.getElem?_eq_some_iff.mp h1).1 h0 fun h' ⟨x1, x2, x3, x4⟩ => h h' ⟨x1, hen, x2, x3⟩ x4
theorem note_newK {base h : Heap} {env : Env} {outer : List Env} {L e : Addr} {cls : String} {news : List (Addr × Obj)} (hfr : A.frames = some (env :: outer)) (hst : base.StaysIn h) (hF : h.FunFrames base (env :: outer)) (hf : env.frame = some L) (hx : Heap.NewExc h s.heap e cls)
    (N : ∀ q ∈ news, h.get? q.1 = some q.2 ∧ base.get? q.1 = none ∧ ∀ env' ∈ (env :: outer), env'.frame ≠ some q.1)
    (hQ : ∀ B a0 h', base.StaysIn B → (∀ q ∈ news, B.get? q.1 = some q.2) → Heap.HeldW B (env :: outer) e (.type cls) a0 L h' → s.heap.UpToSlots h' → Q () { s with heap := h' }) : wpAny M A (noteFrame (.ref e) env) Q E s := by
  have hin : ∀ env' ∈ (env :: outer), ∀ b, env'.frame = some b → b ∈ (env :: outer).filterMap (·.frame) := fun env' he b hb => List.mem_filterMap.mpr ⟨env', he, hb⟩
  have st : base.StaysIn (hideAll h ((env :: outer).filterMap (·.frame))) := fun b o q => hideAll_get _ (hst b o q) fun hm => by
    rw [(hF.mem hm).1] at q; cases q
  have hl : ∀ q ∈ news, (hideAll h ((env :: outer).filterMap (·.frame))).get? q.1 = some q.2 := fun q hq => by
    refine hideAll_get _ (N q hq).1 fun hm => ?_
    obtain ⟨env', he, hf'⟩ := List.mem_filterMap.mp hm
    exact (N q hq).2.2 env' he hf'
  obtain ⟨ob, tp, he, hcls, hd⟩ := hx.there
  have hen : (hideAll h ((env :: outer).filterMap (·.frame))).get? e = none := by
    cases q : (hideAll h ((env :: outer).filterMap (·.frame))).get? e with
    | none => rfl
    | some o => have := of_hideAll _ q; rw [hx.new] at this; cases this
  refine note_first (a0 := tp) hfr ((funFrames_hide hF hin).of_keeps fun b o hb _ => ⟨o, hx.keeps b o hb, rfl⟩) hf he (fun b o hb => hx.keeps b o (of_hideAll _ hb)) hen hd rfl rfl fun h' hH hu => ?_
  exact hQ _ tp h' st hl (by rw [← hcls]; exact hH) hu
theorem flight_here {base : Heap} {l : List Env} {e L : Addr} {cls a0 : Value} (hh : Heap.HeldW base l e cls a0 L s.heap) (hQ : ∀ h', Heap.HeldW base l e cls a0 L h' → s.heap.UpToSlots h' → Q () { s with heap := h' }) :
    wpAny M A (do
      if (← field (.ref e) 1) == .none then unsupported "frame.own-activation:exception-without-traceback"
      setFlight (.ref e) (some L)) Q E s := by
  obtain ⟨hkb, hen, hl, oe, vs, T, oT, ts, he, hcls, hd, h1, hnT, hTe, hT, hdT, h3⟩ := hh
  have hsz3 : 3 < ts.size := (Array.getElem?_eq_some_iff.mp h3).1
  have other : ∀ b, b ≠ T → (s.heap.update T (Obj.mapFields (·.setIfInBounds 3 ((some L : Option Addr).elim Value.none fun f => rawInt f)))).get? b = s.heap.get? b :=
    fun b hb => Heap.get?_update_other _ _ (Ne.symm hb)
  have noRecord : ∀ b o, s.heap.get? b = some o → (∀ vs, o.data ≠ .fields vs) → b ≠ T := fun b o hb hnf q => by
    rw [q, hT] at hb; injection hb with hb; subst hb; exact hnf ts hdT
  refine wpAny_bind (wpAny_field he hd h1 ?_)
  rw [if_neg (show ¬ ((Value.ref T == Value.none) = true) from by simp)]
  show wpAny M A (setFlight (.ref e) (some L)) Q E s
  unfold setFlight
  refine wpAny_bind (wpAny_field he hd h1 ?_)
  rw [if_pos (show (Value.ref T != Value.none) = true from by simp)]
  refine wpAny_setField hT hdT hsz3 (hQ _ ⟨fun b o hbo => (other b fun q => by rw [q, hnT] at hbo; cases hbo).trans (hkb b o hbo), hen,
    hl.of_keeps fun b o hb hnf => ⟨o, (other b (noRecord b o hb hnf)).trans hb, rfl⟩, ?_⟩ fun b o hb hnf => ⟨o.slots, (other b (noRecord b o hb hnf)).trans hb⟩)
  exact ⟨oe, vs, T, _, _, (other e (Ne.symm hTe)).trans he, hcls, hd, h1, hnT, hTe, Heap.get?_update_self _ hT (Obj.isFreed_of_fields (Obj.data_mapFields hdT _)), Obj.data_mapFields hdT _, by simp [hsz3]⟩
end
end
section
open PySem PySem.W PyProof.Rows PySem.Spec PySem.Calls
set_option Elab.async false
set_option maxRecDepth 100000
set_option maxHeartbeats 4000000
theorem start_Gr : True := by w_top off; trivial
/-- the generator ends with a ValueError that has left its frame -/
def gX (h₀ : Heap) (Lc : Addr) (mc : Str → Option Value) (own : List (Addr × Obj)) (lawE : Env) : GenEnd := fun _ s₀ r s' => ∃ e h₉ h' tk B a0, r = .error (.ref e) ∧ s' = { s₀ with heap := h', toks := tk } ∧ Fr h₀ Lc h₉ mc ∧ h₉.UpToSlots h' ∧ h₀.StaysIn B ∧ (∀ q ∈ own, B.get? q.1 = some q.2) ∧ Heap.FlyingW B [lawE] e (.type "ValueError") a0 h'
theorem wrap_raise {α : Type} {K : α → Sem Fin} {H : Value → Sem Fin} {gd : Bool → Bool} {lv : List Value → List Value} {e : Value} : (Sem.raise e : Sem α).wrap K H gd lv = H e := rfl
section
variable {w : World} {A : Around} {s : Shared} {mean : ExcName → Option Value} {mg mb : Str → Option Value} {Q E : Value → Shared → Prop}
theorem c_genX {h₀ : Heap} {Lc : Addr} {mc : Str → Option Value} {l : Addr} {t : Tok} {kl : Nat} (F₀ : Fr h₀ Lc s.heap mc) (X : (hd.heap_1 w.params).In h₀) (T : Tp mean mg mb h₀) (hdep : A.depth + 2 < recursionLimit)
    (hl : News h₀ Lc s.heap [(l, W.listOf [Value.int 0 t].toArray kl)])
    (h : ∀ L a h₁ tk gs oL, s.heap.get? L = none → Ext s.heap h₁ → h₁.IsGen a s.gens.size → a ≠ L → s.heap.get? a = none → h₁.get? L = some oL → NoSeq oL →
      (∀ (A' : Around) (lawE : Env) (oa : Obj) (mc : Str → Option Value), A'.handled = none → A'.frames = some [lawE] → lawE.frame = some Lc → lawE.scope.kind ≠ .module → ∀ s' : Shared, Fr h₀ Lc s'.heap mc → News h₀ Lc s'.heap [(l, W.listOf [Value.int 0 t].toArray kl), (a, oa)] → s'.heap.get? L = some oL →
        Seg (model P0 w) A' (gX h₀ Lc mc [(l, W.listOf [Value.int 0 t].toArray kl), (a, oa)] lawE) (fun _ _ _ _ _ => False) 1 s' gs ((model P0 w).den gs) [] s') →
      Q (.ref a) { s with heap := h₁, toks := tk, gens := s.gens.push (.fresh gs) }) : wpAny (model P0 w) A (call (.ref 28) [.ref l]) Q E s := by
  have X' : (hd.heap_1 w.params).In s.heap := X.keeps F₀.keep
  have T' := Top.keeps T F₀.keep
  refine' enterG (binds := [(Str.ofString "grouping", .ref l)]) ?x1 ?x2 ?x3 ?x4 ?x5 ?x6 ?x7 ?x8 ?x9 ?x10 ?x11 ?_
  (case x1 => k_asm); (case x2 => k_asm); (case x3 => first | omega | (dsimp only; omega)); (case x4 => k_dflt k_is); (case x5 => k_dflt k_is); (case x6 => rfl); (case x7 => exact locs rfl); (case x8 => decide); (case x9 => exact rfl); (case x10 => exact rfl); (case x11 => exact rfl)
  intro L a h₁ tk F hg haL ha
  obtain ⟨oL, _, _, hoL, hLd, -⟩ := id F.ns
  have hL0 : s.heap.get? L = none := Heap.get?_none_of_le F.above
  refine h L a h₁ tk _ oL hL0 F.keep hg haL ha hoL (fun _ _ q => by rw [hLd] at q; cases q) fun A' lawE oa mc hh hfr hlf hlk s' Fc Nl hL => ?_
  clear h
  obtain ⟨hd0, dp, fr, gd, un⟩ := A'
  dsimp only at hh hfr
  subst hh hfr
  refine seg_func ?_
  obtain ⟨oLc, esc, epc, hoLc, hnc⟩ := id Fc.ns
  have hLcL : @Ne Nat Lc L := fun q => by
    obtain ⟨o, _, _, e, _⟩ := id F₀.ns
    rw [q, hL0] at e; cases e
  have hLn : h₀.get? L = none := by
    cases q : h₀.get? L with
    | none => rfl
    | some o => have := F₀.keep _ _ q; rw [hL0] at this; cases this
  have F' : Fr h₀ L s'.heap (fun y => [(Str.ofString "grouping", Value.ref l)].reverse.lookup y) := ⟨F.ns.at' fun o e => by rw [hoL] at e; cases e; exact hL, Fc.keep, Nat.le_trans (Nat.le_of_lt (Nat.lt_of_le_of_lt F₀.above F₀.ns.lt)) F.above⟩
  have hlL : @Ne Nat l L := fun q => by
    have := (hl _ (.head _)).1
    dsimp only at this
    rw [q, hL0] at this; cases this
  have N' : News h₀ L s'.heap [(l, W.listOf [Value.int 0 t].toArray kl), (a, oa), (Lc, oLc)] := fun p hp => by
    rcases List.mem_cons.mp hp with rfl | hp
    · exact ⟨(Nl _ (.head _)).1, hlL, (Nl _ (.head _)).2.2⟩
    · rcases List.mem_cons.mp hp with rfl | hp
      · exact ⟨(Nl _ (.tail _ (.head _))).1, haL, (Nl _ (.tail _ (.head _))).2.2⟩
      · rw [List.mem_singleton.mp hp]
        refine ⟨hoLc, hLcL, ?_⟩
        cases q : h₀.get? Lc with
        | none => rfl
        | some o => exact absurd (Nat.lt_of_lt_of_le (Heap.lt_size q) Fc.above) (Nat.lt_irrefl _)
  refine sg_stmt (wpAny_Assign_Name (wpAny_Constant_none (wpAny_storeName_local rfl F'.ns (fun h₂ hn₂ hs₂ => ?_) rfl)) rfl)
  have F2 := F'.set hn₂ hs₂
  have N2 := N'.set hs₂
  refine seg_execs_cons (sg_for (fun _ => rfl) ?_)
  clear N' F'
  k_steps
  refine wpAny_pyIter_list (items := [Value.int 0 t].toArray) ⟨_, News.get (by k_asm) (.head _), rfl, _, rfl⟩ ?_
  intro pz
  have hsz : h₂.objs.size = s'.heap.objs.size := hs₂.1
  dsimp only at hsz ⊢
  with_reducible rename Fr _ _ _ _ => F3
  with_reducible rename News _ _ _ _ => N3
  generalize hIe : h₂.objs.size = I at *
  have hpI : ∀ b o, h₂.get? b = some o → (h₂.push { cls := Value.type "list_iterator", data := Data.fields #[Value.ref l, Value.int 0 0] }).get? b = some o := fun b o e => Heap.get?_push_of_some _ e
  have F4 := fr_ext F3 hpI
  have N4 := news_ext N3 hpI
  have hit : (h₂.push { cls := Value.type "list_iterator", data := Data.fields #[Value.ref l, Value.int 0 0] }).get? I = some (itObj l 0) := by rw [← hIe]; exact Heap.get?_push_size _ rfl
  have hI0 : h₀.get? I = none := by rw [← hIe]; exact fresh_none F3
  have hLI : L ≠ I := by rw [← hIe]; exact Nat.ne_of_lt F3.ns.lt
  have hnI : ∀ p ∈ [(l, W.listOf [Value.int 0 t].toArray kl), (a, oa), (Lc, oLc)], p.1 ≠ I := fun p hp => by rw [← hIe]; exact Nat.ne_of_lt (Heap.lt_size (N3 p hp).1)
  have hlI : l ≠ I := hnI _ (.head _)
  generalize (h₂.push { cls := Value.type "list_iterator", data := Data.fields #[Value.ref l, Value.int 0 0] }) = h₄ at *
  refine sg_forLoop (fun _ => rfl) (fun _ _ => False) (fun _ _ q => q.elim) ?_
  refine (Walks.list rfl I l hlI [Value.int 0 t].toArray).item 0 _ _ _ (by simp) ⟨⟨_, hit, rfl, rfl⟩, ⟨_, N4.get (.head _), rfl, _, rfl⟩⟩ ?_
  intro v h₆ tk₆ hv hst hk6
  obtain rfl : Value.int 0 t = v := by simpa using hv
  have F6 := LCg.fr_but F4 hk6 hLI hI0
  have N6 := LCg.news_but N4 hk6 hnI
  clear F4 N4 F3 N3
  k_steps
  refine sg_stmt ?_
  k_steps
  refine seg_execs_cons (sg_if ?_)
  k_steps
  rw [if_pos (by rfl)]
  refine sg_stmt ?_
  k_steps
  with_reducible rename Fr _ _ _ _ => F9
  with_reducible rename News _ _ _ _ => N9
  with_reducible rename Heap.NewExc _ _ _ _ => hx
  have Fc9 : Fr h₀ Lc _ mc := ⟨⟨oLc, esc, epc, N9.get (.tail _ (.tail _ (.head _))), hnc⟩, F9.keep, Fc.above⟩
  have hLc0 : h₀.get? Lc = none := (N9 _ (.tail _ (.tail _ (.head _)))).2.2
  refine seg_wrap (wpAny_bind ?_)
  refine note_newK (base := h₀) (news := [(l, W.listOf [Value.int 0 t].toArray kl), (a, oa)]) (outer := [lawE]) rfl F9.keep (Heap.FunFrames.cons (fun q => by cases q) rfl F9.ns hLn (Heap.FunFrames.cons hlk hlf Fc9.ns hLc0 trivial)) rfl hx ?_ ?_
  · intro q hq
    have hq9 : q ∈ [(l, W.listOf [Value.int 0 t].toArray kl), (a, oa), (Lc, oLc)] := by
      rcases List.mem_cons.mp hq with rfl | hq
      · exact .head _
      · rw [List.mem_singleton.mp hq]; exact .tail _ (.head _)
    refine ⟨(N9 q hq9).1, (N9 q hq9).2.2, fun env' he' => ?_⟩
    rcases List.mem_cons.mp he' with rfl | he'
    · exact fun z => (N9 q hq9).2.1 (Option.some.inj z).symm
    · rw [List.mem_singleton.mp he', hlf]
      exact fun z => (Nl q hq).2.1 (Option.some.inj z).symm
  intro B a0 h7 hB hBn hH hu
  refine wpAny_theTreesLotGoes ?_
  show Seg _ _ _ _ _ _ _ (leafOf (.error (.ref _))) _ _
  refine seg_leaf (.error (.ref _)) ?_
  dsimp only
  rw [Sem.onRaise_eq_wrap, Sem.wrap_wrap]
  rw [wrap_raise]
  rw [show ∀ (m : Sem Unit) (f : Unit → Sem Flow), Sem.bind m f = m >>= f from fun _ _ => rfl, Sem.bind_eq_wrap', Sem.wrap_wrap]
  refine seg_wrap (flight_here hH fun h8 hH8 hu8 => ?_)
  rw [wrap_raise]
  dsimp only
  refine seg_wrap ?_
  unfold leaving
  refine wpAny_bind (wpAny_noteFrame_againW rfl hH8.2.2.2 ?_)
  refine wpAny_landsW hH8 fun h9 hfl hu9 => ?_
  show Seg _ _ _ _ _ _ _ (leafOf (.error (.ref _))) _ _
  obtain ⟨f1, f2, ⟨_, _, f3⟩, f4⟩ := hfl
  refine seg_end (.error (.ref _)) ⟨_, _, _, _, B, a0, rfl, rfl, Fc9, ?_, hB, hBn, ⟨f1, f2, f3, f4⟩⟩
  exact ((Heap.UpToSlots.of_keeps hx.keeps).trans hu).trans (hu8.trans hu9)
end
end
section
open PySem PySem.W PyProof.Rows PySem.Spec PySem.Calls
set_option Elab.async false
set_option maxRecDepth 100000
set_option maxHeartbeats 4000000
theorem start_Gy : True := by w_top off; trivial
theorem sub_ve_stop : isSubtype (.type "ValueError") (.type "StopIteration") = pure false := by rw [isSubtype_type]; kernel_rfl
section
variable {prog : Program} {w : World} {A : Around} {E : Value → Shared → Prop} {s : Shared}
theorem next_raise {a : Addr} {g n : Nat} {gs : GenState} {R : GenEnd} {Q : Option Value → Shared → Prop} (hl : s.heap.NoLimit) (hroom : A.depth < recursionLimit) (hg : s.heap.IsGen a g) (hgs : s.gens[g]? = some gs)
    (hgo : gs.Goes (model prog w) A.in1 R (fun _ _ _ _ _ => False) n (.send .none) (s.setGen g .running))
    (hR : ∀ x s₁, R n (s.setGen g .running) x s₁ → ∃ e ob, x = .error (.ref e) ∧ s₁.heap.get? e = some ob ∧ ob.cls = .type "ValueError" ∧ (∃ o nm qn, s₁.heap.get? a = some o ∧ o.cls = .type "generator" ∧ o.data = .fields #[.int g 0, nm, qn]) ∧ E (.ref e) (s₁.setGen g .finished)) :
    wpAny (model prog w) A (pyNext (.ref a)) Q E s := by
  unfold pyNext
  refine wpAny_bind (wpAny_attempt (wpAny_callSpecial?_slot (name := Str.ofString "__next__") hg.typeIs slot_gen_next
    (wpAny_call_entry slot_gen_next hg.typeIs entry_gen_next ?_ (args_gen_next _))))
  show wpAny _ A.in1 (Builtin.Generator.genWake (.ref a) (.send .none)) _ _ s
  unfold Builtin.Generator.genWake
  refine wpAny_bind (wpAny_holding (wpAny_genNumber hg (wpAny_bind (wpAny_genState hgs ?_))))
  cases gs with
  | running => exact hgo.elim
  | finished => exact hgo.elim
  | _ =>
    refine wpAny_bind (wpAny_roomToWake hl hroom ?_)
    show wpAny _ A.in1 (.resume g (.send .none) [] _) _ _ s
    refine wpAny_resumeQ hgs hgo (fun x s₁ hx => ?_) (fun v s₁ gs' hb hv => hv.elim)
    obtain ⟨e, ob, rfl, he, hc, ⟨o, nm, qn, ho, hoc, hod⟩, hE⟩ := hR x s₁ hx
    have hI : ∀ h' : Heap, (s₁.setGen g .finished).heap = s₁.heap := fun _ => rfl
    show wpAny _ A.in1 (Builtin.Generator.genLeft (.ref a) (.ref e)) _ _ _
    unfold Builtin.Generator.genLeft Builtin.Generator.madeByALambda
    refine wpAny_bind (wpAny_bind (wpAny_load ho ?_))
    refine wpAny_pure ?_
    refine wpAny_bind (wpAny_isInstance (T := "ValueError") (b := false) ⟨_, he, hc⟩ sub_ve_stop ?_)
    dsimp only
    rw [if_neg (by rw [Bool.and_false]; simp)]
    unfold Builtin.Generator.genEscaped
    refine wpAny_bind (wpAny_isInstance (T := "ValueError") (b := false) ⟨_, he, hc⟩ sub_ve_stop ?_)
    rw [if_pos (by simp)]
    refine wpAny_throw ?_
    refine wpAny_bind (wpAny_isInstance (T := "ValueError") (b := false) ⟨_, he, hc⟩ sub_ve_stop ?_)
    rw [if_neg (by simp)]
    exact wpAny_throw hE
end
end
section
open PySem PySem.W PyProof.Rows PySem.Spec PySem.Calls
set_option Elab.async false
set_option maxRecDepth 100000
set_option maxHeartbeats 4000000
theorem start_Gz : True := by w_top off; trivial
section
variable {w : World} {A : Around} {s : Shared} {mean : ExcName → Option Value} {mg mb : Str → Option Value} {E : Value → Shared → Prop} {h₀ : Heap} {env : Env} {target : Expr} {body : List Stmt} {Q : Flow → Shared → Prop}
/-- a for over the generator that raises at once -/
theorem for_genX {Lc a L l : Addr} {mc : Str → Option Value} {gs : Code} {oL oa ol : Obj} {g : Nat} (hfr : A.frames = some [env]) (hf : env.frame = some Lc) (hk : env.scope.kind ≠ .module) (hh : A.handled = none) (T : Tp mean mg mb h₀) (hdep : A.depth < recursionLimit)
    (hg : s.heap.IsGen a g) (hgs : s.gens[g]? = some (.fresh gs)) (F : Fr h₀ Lc s.heap mc) (N : News h₀ Lc s.heap [(l, ol), (a, oa)]) (hL : s.heap.get? L = some oL)
    (hseg : ∀ (A' : Around) (lawE : Env) (oa : Obj) (mc : Str → Option Value), A'.handled = none → A'.frames = some [lawE] → lawE.frame = some Lc → lawE.scope.kind ≠ .module → ∀ s' : Shared, Fr h₀ Lc s'.heap mc → News h₀ Lc s'.heap [(l, ol), (a, oa)] → s'.heap.get? L = some oL →
        Seg (model P0 w) A' (gX h₀ Lc mc [(l, ol), (a, oa)] lawE) (fun _ _ _ _ _ => False) 1 s' gs ((model P0 w).den gs) [] s')
    (hE : ∀ e h₉ B a0 h' tk G, Fr h₀ Lc h₉ mc → h₉.UpToSlots h' → h₀.StaysIn B → Heap.HeldW B [env] e (.type "ValueError") a0 Lc h' → BareUp s.gens G → E (.ref e) { s with heap := h', toks := tk, gens := G }) :
    wpAny (model P0 w) A (pyIter (.ref a)) (fun it s₂ => codeAny (model P0 w) A (.forLoop target it body [] env) (fun r s' => match r with | .ok f => Q f s' | .error e => cameBackBy (model P0 w) A env E e s') s₂) E s := by
  refine wpAny_pyIter_gen hg ?_
  refine codeAny_forLoop_any (R := fun r s' => match r with | .ok f => Q f s' | .error e => cameBackBy (model P0 w) A env E e s') (fun _ s' => s' = s) ?_ 0 rfl
  rintro n s' rfl
  refine next_raise (n := 1) (R := gX h₀ Lc mc [(l, ol), (a, oa)] env) (T.nolimit.keeps F.keep) hdep hg hgs ⟨rfl, hseg A.in1 env oa mc hh hfr hf hk (s'.setGen g .running) F N hL⟩ ?_
  rintro x s₁ ⟨e, h₉, h', tk, B, a0, rfl, rfl, F9, hu, hB, hBn, hfl⟩
  obtain ⟨ob, hob, hoc⟩ := hfl.there
  obtain ⟨o, nm, qn, ho, hc, hd, hs⟩ := id hg
  have hoa : oa = o := by
    have := (N _ (.tail _ (.head _))).1
    dsimp only at this
    rw [ho] at this; cases this; rfl
  refine ⟨e, ob, rfl, hob, hoc, ⟨o, nm, qn, hoa ▸ hfl.1 _ _ (hBn _ (.tail _ (.head _))), hc, hd⟩, ?_⟩
  show wpAny _ _ (noteFrame (.ref e) env) _ _ _
  refine wpAny_looks_onW hfr hf hfl fun h2 hH hu2 => ?_
  show wpAny _ _ (do
    if (← field (.ref e) 1) == .none then unsupported "frame.own-activation:exception-without-traceback"
    setFlight (.ref e) env.frame) _ _ _
  rw [hf]
  refine flight_here hH fun h3 hH3 hu3 => ?_
  exact hE e h₉ B a0 h3 tk _ F9 (hu.trans (hu2.trans hu3)) hB hH3 (bareup_set (gs' := .finished) hgs rfl)
end
end
section
open PySem PySem.W PyProof.Rows PySem.Spec PySem.Calls
set_option Elab.async false
set_option maxRecDepth 100000
set_option maxHeartbeats 2000000
theorem start_Tg : True := by w_top off; trivial
/-- a turn's end of a loop whose body may draw from generators -/
def TurnOkG (h₀ : Heap) (L I : Addr) (J : (Str → Option Value) → List (Addr × Obj) → Prop) (own : List (Addr × Obj)) (s s₂ : Shared) : Prop :=
  ∃ h' tk G m' news' nx, s₂ = { s with heap := h', toks := tk, gens := G } ∧ BareUp s.gens G ∧ Fr h₀ L h' m' ∧ News h₀ L h' news' ∧ (∀ p ∈ own, p ∈ news') ∧ (∀ p ∈ nx, p ∈ news') ∧ (∀ p ∈ nx, p.1 ≠ I) ∧ J m' nx
def TurnPostG (h₀ : Heap) (L I : Addr) (J : (Str → Option Value) → List (Addr × Obj) → Prop) (own : List (Addr × Obj)) (s : Shared) (Q : Flow → Shared → Prop) (f : Flow) (s₂ : Shared) : Prop :=
  match f with
  | .ret v => Q (.ret v) s₂
  | .brk => Q .next s₂
  | _ => TurnOkG h₀ L I J own s s₂
theorem turnG {h₀ : Heap} {L I : Addr} {J : (Str → Option Value) → List (Addr × Obj) → Prop} {own news' : List (Addr × Obj)} {s : Shared} {h' : Heap} {tk : Nat} {G : Array GenState} {m' : Str → Option Value} (nx : List (Addr × Obj)) (hb : BareUp s.gens G) (F : Fr h₀ L h' m') (N : News h₀ L h' news')
    (ho : ∀ p ∈ own, p ∈ news') (hx : ∀ p ∈ nx, p ∈ news') (hc : ∀ p ∈ nx, p.1 ≠ I) (hj : J m' nx) : TurnOkG h₀ L I J own s { s with heap := h', toks := tk, gens := G } := ⟨h', tk, G, m', news', nx, rfl, hb, F, N, ho, hx, hc, hj⟩
section
variable {prog : Program} {w : World} {A : Around} {E : Value → Shared → Prop} {s : Shared} {env : Env} {h₀ : Heap} {target : Expr} {body : List Stmt} {Q : Flow → Shared → Prop} {m₀ : Str → Option Value} {news : List (Addr × Obj)}
theorem iter_listG {l : Addr} {vs : List Value} {n : Nat} (J : (Str → Option Value) → Nat → (Str → Option Value) → List (Addr × Obj) → Prop)
    (hh : A.handled = none) (hlm : (l, W.listOf vs.toArray n) ∈ news) (F : Fr h₀ env.locals s.heap m₀) (N : News h₀ env.locals s.heap news) (hj : J m₀ 0 m₀ news)
    (turn : ∀ i v m₁ news₁ h tk G oI, vs[i]? = some v → J m₀ i m₁ news₁ → BareUp s.gens G → (∀ a n, oI.data ≠ .seq a n) → (∀ p ∈ news₁, p.1 ≠ s.heap.objs.size) → Fr h₀ env.locals h m₁ → News h₀ env.locals h (news₁ ++ [(s.heap.objs.size, oI), (l, W.listOf vs.toArray n)]) →
      wpAny (model prog w) A (assign target env v) (fun _ s₂ => wpAny (model prog w) A (execs body env) (TurnPostG h₀ env.locals s.heap.objs.size (J m₀ (i + 1)) [(s.heap.objs.size, oI), (l, W.listOf vs.toArray n)] s Q) (fun _ _ => False) s₂) (fun _ _ => False) { s with heap := h, toks := tk, gens := G })
    (done : ∀ m₁ news₁ h tk G, J m₀ vs.length m₁ news₁ → BareUp s.gens G → Fr h₀ env.locals h m₁ → News h₀ env.locals h news₁ → Q .next { s with heap := h, toks := tk, gens := G }) :
    wpAny (model prog w) A (pyIter (.ref l)) (fun it s₂ => codeAny (model prog w) A (.forLoop target it body [] env) (fun r s' => match r with | .ok f => Q f s' | .error e => cameBackBy (model prog w) A env E e s') s₂) E s := by
  have hl := N.isList hlm
  have hlL : l ≠ env.locals := (N _ hlm).2.1
  have hlt : l < s.heap.objs.size := Heap.lt_size (N _ hlm).1
  have hne : l ≠ s.heap.objs.size := Nat.ne_of_lt hlt
  have hIL : s.heap.objs.size ≠ env.locals := Nat.ne_of_gt F.ns.lt
  have hI0 := fresh_none F
  have hnI : ∀ p ∈ news, p.1 ≠ s.heap.objs.size := fun p hp => Nat.ne_of_lt (Heap.lt_size (N p hp).1)
  refine wpAny_pyIter_list hl ?_
  have WW := Walks.list (prog := prog) (w := w) hh s.heap.objs.size l hne vs.toArray
  rw [List.size_toArray] at WW
  have hLfp : env.locals ∉ [s.heap.objs.size] := fun q => hIL (List.mem_singleton.mp q).symm
  refine codeAny_forLoop_any (R := fun r s' => match r with | .ok f => Q f s' | .error e => cameBackBy (model prog w) A env E e s')
    (fun k s' => ∃ i h' tk G m' nx, s' = { s with heap := h', toks := tk, gens := G } ∧ k = vs.length + 1 - i ∧ i ≤ vs.length ∧ (h'.IsListIter s.heap.objs.size l i ∧ h'.IsList l vs.toArray) ∧ h'.get? l = some (W.listOf vs.toArray n) ∧ BareUp s.gens G ∧ Fr h₀ env.locals h' m' ∧ News h₀ env.locals h' nx ∧ (∀ p ∈ nx, p.1 ≠ s.heap.objs.size) ∧ J m₀ i m' nx) ?_ (vs.length + 1)
    ⟨0, _, s.toks, s.gens, m₀, news, rfl, rfl, Nat.zero_le _, ⟨⟨_, Heap.get?_push_size _ rfl, rfl, rfl⟩, hl.at fun o e => Heap.get?_push_of_some _ e⟩, Heap.get?_push_of_some _ (N _ hlm).1, BareUp.refl _, F.push _, fun p hp => ⟨Heap.get?_push_of_some _ (N p hp).1, (N p hp).2⟩, hnI, hj⟩
  rintro k s' ⟨i, h', tk, G, m', nx, rfl, rfl, hi, hst, hll, hbu, F', N', hnx, hJ⟩
  have next : ∀ h₁ : Heap, (∀ b o, b ∉ [s.heap.objs.size] → h'.get? b = some o → h₁.get? b = some o) → Fr h₀ env.locals h₁ m' ∧ News h₀ env.locals h₁ nx := fun h₁ hk =>
    ⟨⟨F'.ns.at' fun o e => hk _ o hLfp e, fun b o e => hk b o (fun q => by rw [List.mem_singleton.mp q, hI0] at e; cases e) (F'.keep b o e), F'.above⟩, fun p hp => ⟨hk _ _ (fun q => hnx p hp (List.mem_singleton.mp q)) (N' p hp).1, (N' p hp).2⟩⟩
  by_cases hlt' : i < vs.length
  · refine WW.item i _ _ _ hlt' hst fun v h₁ tk₁ hP hst₁ hk₁ => ?_
    obtain ⟨F₁, N₁⟩ := next h₁ hk₁
    have hl₁ := hk₁ l _ (fun q => hne (List.mem_singleton.mp q)) hll
    refine letGo_listiter hst₁.1 ?_
    obtain ⟨oI, hoI, hcI, hdI⟩ := id hst₁.1
    have hsI : ∀ a n, oI.data ≠ .seq a n := fun a n q => by rw [hdI] at q; cases q
    have Nown : News h₀ env.locals h₁ [(s.heap.objs.size, oI), (l, W.listOf vs.toArray n)] := fun p hp => by
      rcases List.mem_cons.mp hp with rfl | hp
      · exact ⟨hoI, hIL, hI0⟩
      · rw [List.mem_singleton.mp hp]; exact ⟨hl₁, hlL, (N _ hlm).2.2⟩
    refine wpAny_mono (turn i v m' nx h₁ tk₁ G oI (by simpa using hP) hJ hbu hsI hnx F₁ (N₁.append Nown)) (fun _ s₂ q => wpAny_mono q (fun f s₃ q => ?_) fun _ _ e => e.elim) fun _ _ e => e.elim
    have fin : TurnOkG h₀ env.locals s.heap.objs.size (J m₀ (i + 1)) [(s.heap.objs.size, oI), (l, W.listOf vs.toArray n)] s s₃ →
        ∃ k', k' < vs.length + 1 - i ∧ ∃ i h' tk G m' nx, s₃ = { s with heap := h', toks := tk, gens := G } ∧ k' = vs.length + 1 - i ∧ i ≤ vs.length ∧ (h'.IsListIter s.heap.objs.size l i ∧ h'.IsList l vs.toArray) ∧ h'.get? l = some (W.listOf vs.toArray n) ∧ BareUp s.gens G ∧ Fr h₀ env.locals h' m' ∧ News h₀ env.locals h' nx ∧ (∀ p ∈ nx, p.1 ≠ s.heap.objs.size) ∧ J m₀ i m' nx := by
      rintro ⟨h₃, tk₃, G₃, m₃, news₃, nx₃, rfl, hb₃, F₃, N₃, ho₃, hx₃, hc₃, hj₃⟩
      have e1 := (N₃ _ (ho₃ _ (.head _))).1
      have e2 := (N₃ _ (ho₃ _ (.tail _ (.head _)))).1
      dsimp only at e1 e2
      refine ⟨vs.length + 1 - (i + 1), by omega, i + 1, h₃, tk₃, G₃, m₃, nx₃, rfl, rfl, hlt', ⟨⟨oI, e1, hcI, hdI⟩, ⟨_, e2, rfl, _, rfl⟩⟩, e2, hb₃, F₃, fun p hp => N₃ p (hx₃ p hp), hc₃, hj₃⟩
    cases f with
    | ret v => exact q
    | brk => exact q
    | next => exact fin q
    | cont => exact fin q
  · have hin : i = vs.length := by omega
    subst hin
    refine WW.done _ _ _ hst fun h₁ tk₁ hk₁ => wpAny_execs_nil ?_
    obtain ⟨F₁, N₁⟩ := next h₁ hk₁
    exact done m' nx h₁ tk₁ G hJ hbu F₁ N₁
end
end
section
open PySem PySem.W PyProof.Rows PySem.Spec PySem.Calls
set_option Elab.async false
set_option maxRecDepth 100000
set_option maxHeartbeats 0
theorem szF_ok : ∀ (k : Nat) (y : Int), (szF k y).length ≤ k ∧ ∀ x ∈ szF k y, 1 ≤ x ∧ x ≤ 3
  | 0, y => ⟨Nat.le_refl _, fun x hx => by cases hx⟩
  | k + 1, y => by
    rw [szF]
    split
    · exact ⟨Nat.zero_le _, fun x hx => by cases hx⟩
    · rename_i h
      obtain ⟨h1, h2⟩ := szF_ok k (Int.fdiv y 4)
      refine ⟨by rw [List.length_cons]; omega, fun x hx => ?_⟩
      rcases List.mem_cons.mp hx with rfl | hx
      · rw [Int.fmod_eq_emod_of_nonneg y (show (0 : Int) ≤ 4 by decide)] at h ⊢
        have := Int.emod_nonneg y (show (4 : Int) ≠ 0 by decide)
        have := Int.emod_lt_of_pos y (show (0 : Int) < 4 by decide)
        omega
      · exact h2 x hx
theorem row_head {sz : List Int} (hp : ∀ x ∈ sz, 1 ≤ x ∧ x ≤ 3) {m : Nat} (hm : m < 3) (hb : ¬ (sz = [] ∧ m = 2)) : List.take 1 (sz ++ tailF m) ≠ [0] ∧ (sz ++ tailF m).head? ≠ some 0 := by
  have hm' : m = 0 ∨ m = 1 ∨ m = 2 := by omega
  cases sz with
  | nil =>
    rcases hm' with rfl | rfl | rfl
    · exact ⟨by decide, by decide⟩
    · exact ⟨by decide, by decide⟩
    · exact absurd ⟨rfl, rfl⟩ hb
  | cons x r =>
    have hx := hp x (.head _)
    constructor
    · intro q
      have : x = 0 := by simpa using q
      omega
    · intro q
      have : x = 0 := by simpa using q
      omega
theorem getD_cast (l : List Nat) (i : Nat) : (l.map fun (K : Nat) => (K : Int)).getD i 0 = ((l.getD i 0 : Nat) : Int) := by
  rw [List.getD_eq_getElem?_getD, List.getD_eq_getElem?_getD, List.getElem?_map]
  cases l[i]? <;> rfl
theorem getD_lt {l : List Nat} {B : Nat} (h : ∀ K ∈ l, K < B) (hB : 0 < B) (i : Nat) : l.getD i 0 < B := by
  rw [List.getD_eq_getElem?_getD]
  cases e : l[i]? with
  | none => exact hB
  | some K => exact h K (List.mem_of_getElem? e)
theorem last_cast {vs : List Value} {Ks : List Nat} (h : IntsAre vs (Ks.map fun (K : Nat) => (K : Int))) (hn : Ks ≠ []) : ∃ Z t, vs.getLast? = some (.int ((Z : Nat) : Int) t) ∧ Z ∈ Ks := by
  obtain ⟨z, t, e1, e2⟩ := ints_last h (by simpa using hn)
  rw [List.getLast?_map] at e2
  cases e : Ks.getLast? with
  | none => rw [e] at e2; cases e2
  | some Z =>
    rw [e] at e2
    cases e2
    exact ⟨Z, t, e1, List.mem_of_getLast? e⟩
theorem keys_snoc {vs : List Value} {Ks : List Nat} {z : Int} {Z : Nat} {t : Tok} (h : Hold (IntsAre vs (Ks.map fun (K : Nat) => (K : Int)))) (e : z = ((Z : Nat) : Int)) : Hold (IntsAre (vs ++ [.int z t]) ((Ks ++ [Z]).map fun (K : Nat) => (K : Int))) := by
  subst e
  rw [List.map_append]
  exact intsSnoc h
theorem key_val (a b : Nat) : Int.fdiv (a : Int) 1000 * 1000 + Int.fmod (b : Int) 1000 = ((a / 1000 * 1000 + b % 1000 : Nat) : Int) := by
  rw [show (1000 : Int) = ((1000 : Nat) : Int) from rfl, cast_fdiv, cast_fmod]
  omega
theorem mod_two {F0 m : Nat} (h : Int.fmod (((F0 : Nat) : Int) + 29) 3 = ((m : Nat) : Int)) : (Int.fmod (((F0 : Nat) : Int) + 29) 3 == 2) = (m == 2) := by
  rw [h]
  by_cases q : m = 2
  · subst q; rfl
  · rw [show (m == 2) = false from beq_eq_false_iff_ne.mpr q]
    exact beq_eq_false_iff_ne.mpr (by omega)
theorem keys_get {vs : List Value} {Ks : List Nat} (h : IntsAre vs (Ks.map fun (K : Nat) => (K : Int))) {i : Nat} {v : Value} (hv : vs[i]? = some v) : ∃ K t, v = .int ((K : Nat) : Int) t ∧ Ks[i]? = some K := by
  obtain ⟨x, t, e1, e2⟩ := ints_get h hv
  rw [List.getElem?_map] at e2
  cases e : Ks[i]? with
  | none => rw [e] at e2; cases e2
  | some K => rw [e] at e2; cases e2; exact ⟨K, t, e1, rfl⟩
theorem full_room {ns : List Int} (C : CutsOk ns) (K : Nat) : ((names K ns).map (·.length)).sum + (names K ns).length * (Str.ofString "/").length ≤ 16777216 ∧ (Txt.join (Str.ofString "/") (names K ns)).length ≤ 16000000 := by
  have := take_room C K (names K ns).length
  rw [List.take_length] at this
  exact this
section
variable {w : World} {A : Around} {s : Shared} {mean : ExcName → Option Value} {mg mb : Str → Option Value} {Q E : Value → Shared → Prop}
theorem place_key {x z : Str} {tx : Tok} {l : Addr} {vs : List Value} {sz ct rwl : List Int} {m K : Nat} (X : (hd.heap_1 w.params).In s.heap) (T : Tp mean mg mb s.heap) (hdep : A.depth + 4 < recursionLimit) (hun : A.units + 40 < cLine) (hh : A.handled = none)
    (hl : s.heap.IsList l vs.toArray) (hi : IntsAre vs rwl) (hsl : sz.length ≤ 3) (hsp : ∀ x ∈ sz, 1 ≤ x ∧ x ≤ 3) (hm : m < 3) (hb : ¬ (sz = [] ∧ m = 2)) (hrw : sz ++ tailF m = rwl) (hrl : rwl.length ≤ 5) (hr2 : rwl.head? ≠ some 0) (hct : cutsF sz (m == 2) = ct)
    (ex : x = figS K) (ez : pathOf (names K ct) = z)
    (h : ∀ t h' tk' G, Ext s.heap h' → BareUp s.gens G → Q (.str z t) { s with heap := h', toks := tk', gens := G }) : wpAny (model P0 w) A (call (.ref 162) [.str x tx, .ref l]) Q E s := by
  subst ex ez hct
  have hb' : sz ≠ [] ∨ m ≠ 2 := by
    by_cases q : sz = []
    · exact .inr fun r => hb ⟨q, r⟩
    · exact .inl q
  rw [← place_path hsl hsp hm hb' K, hrw] at h
  refine c_place X T hdep hun hh hl hi (by omega) hr2 (fun x hx => ?_) (by rw [fig_len]; decide) h
  rw [← hrw] at hx
  rcases List.mem_append.mp hx with q | q
  · have := hsp x q; omega
  · have hm' : m = 0 ∨ m = 1 ∨ m = 2 := by omega
    rcases hm' with rfl | rfl | rfl
    · cases q
    · have : x = 127 ∨ x = 1 := by simpa [tailF] using q
      omega
    · have : x = 0 := by simpa [tailF] using q
      omega
end
theorem getD_path {Ks : List Nat} {f : Nat → Str} {i : Nat} (h : i < Ks.length) : (Ks.map f).getD i Str.empty = f (Ks.getD i 0) := by
  rw [List.getD_eq_getElem?_getD, List.getD_eq_getElem?_getD, List.getElem?_map, List.getElem?_eq_getElem h]; rfl
section
variable {w : World} {A : Around} {s : Shared} {mean : ExcName → Option Value} {mg mb : Str → Option Value} {Q E : Value → Shared → Prop}
theorem pair_is {K1 K2 : Nat} {x y : Int} {p1 p2 : Str} {tk1 tk2 : Tok} {a p : Addr} {vs : List Value} {ns : List Int} {t1 t2 : Tok} {n : Nat} (C : CutsOk ns) (hl : s.heap.IsList a vs.toArray) (hi : IntsAre vs ns)
    (hp : s.heap.get? p = some (W.listOf [Value.str p1 t1, Value.str p2 t2].toArray n)) (ex : x = ((K1 : Nat) : Int)) (ey : y = ((K2 : Nat) : Int)) (e1 : p1 = pathOf (names K1 ns)) (e2 : p2 = pathOf (names K2 ns)) (h1 : K1 < 1000000) (h2 : K2 < 1000000) (X : (hd.heap_1 w.params).In s.heap) (T : Tp mean mg mb s.heap) (hdep : A.depth + 5 < recursionLimit) (hun : A.units + 100 < cLine) (hh : A.handled = none)
    (h : ∀ h' tk', Ext s.heap h' → Q (.bool true) { s with heap := h', toks := tk' }) : wpAny (model P0 w) A (call (.ref 184) [.int x tk1, .int y tk2, .ref p, .ref a]) Q E s := by
  subst ex ey e1 e2
  exact c_pair C hl hi hp h1 h2 X T hdep hun hh h
end
def dueN (Ks : List Nat) (ns : List Int) (i : Nat) : Nat := ((List.range i).map fun j => unlikeF (Ks.map fun (K : Nat) => Int.fdiv (K : Int) (10 ^ (ns.getD j 0).toNat))).sum
theorem dueN_succ (Ks : List Nat) (ns : List Int) (i : Nat) : dueN Ks ns (i + 1) = dueN Ks ns i + unlikeF (Ks.map fun (K : Nat) => Int.fdiv (K : Int) (10 ^ (ns.getD i 0).toNat)) := by
  rw [dueN, List.range_succ, List.map_append, List.sum_append]; simp [dueN]
theorem ex_int {m : Option Value} {v w : Int} {t : Tok} (h : m = some (.int v t)) (e : w = v) : ∃ t, m = some (.int w t) := by subst e; exact ⟨t, h⟩
theorem getD_of {l : List Int} {i : Nat} {x : Int} (h : l[i]? = some x) : l.getD i 0 = x := by rw [List.getD_eq_getElem?_getD, h]; rfl
theorem quot_snoc {ys : List Value} {Ks : List Nat} {i K : Nat} {f : Nat → Int} {t : Tok} (hG : Hold (IntsAre ys ((Ks.take i).map f))) (hK : Ks[i]? = some K) : Hold (IntsAre (ys ++ [.int (f K) t]) ((Ks.take (i + 1)).map f)) := by
  rw [List.take_add_one, hK]
  show Hold (IntsAre _ ((Ks.take i ++ [K]).map f))
  rw [List.map_append]
  exact Hold.out (intsSnoc (Hold.in hG))
theorem far_up {ns : List Int} (C : CutsOk ns) {Ks : List Nat} : ∀ x ∈ (Ks.map fun K => pathOf (names K ns)), ∀ i, 10 ≤ i → Nat.repeat dirnameF i x = Str.ofString "/" := by
  intro x hx i hi
  obtain ⟨K, _, rfl⟩ := List.mem_map.mp hx
  have := C.few
  rw [up_path i fun n hn => (names_nm C K n hn).ok, names_len, show ns.length - 1 - i = 0 by omega, List.take_zero, path_nil]
theorem up_short {ns : List Int} (C : CutsOk ns) {Ks : List Nat} : ∀ x ∈ (Ks.map fun K => pathOf (names K ns)), ∀ i, (Nat.repeat dirnameF i x).length ≤ 1000 := by
  intro x hx i
  obtain ⟨K, _, rfl⟩ := List.mem_map.mp hx
  have := C.few
  rw [up_path i fun n hn => (names_nm C K n hn).ok]
  exact Nat.le_trans (path_len (fun n hn => name_short C K n (List.mem_of_mem_take hn)) (by rw [List.length_take, names_len]; omega)) (by decide)
theorem sub_ve_ve : isSubtype (.type "ValueError") (.type "ValueError") = pure true := by rw [isSubtype_type]; kernel_rfl
theorem row_zero {vs : List Value} {sz : List Int} {m : Nat} (h : Hold (IntsAre vs (sz ++ tailF m))) (hb : sz = [] ∧ m = 2) : ∃ t, vs = [Value.int 0 t] := by
  obtain ⟨rfl, rfl⟩ := hb
  cases (show IntsAre vs [0] from h) with
  | cons _ t h => cases h; exact ⟨t, rfl⟩
theorem reg_33 : True := by
  k_with "mine 33" => walk_at "mine stop"
  trivial
local macro_rules | `(tactic| walk_at "subscriptTail BinOp Name Add List Constant ref int") => `(tactic| walk_at "mine 33")
theorem reg_34 : True := by
  k_with "mine 34" => (k_here; (have m9 : Stop := by assumption); clear m9; refine Hold.in ?_)
  trivial
local macro_rules | `(tactic| walk_at "execs cons") => `(tactic| walk_at "mine 34")
local macro_rules | `(tactic| walk_at "call ref") => `(tactic| walk_at "mine stop")
theorem reg_35 : True := by
  k_with "law side" => ((case x1 => k_in); (case x2 => exact Top.keeps (by k_asm) (Fr.keep (by k_asm))); (case x3 => ((try simp only [depth_in1, depth_deeper, depth_caller, recursionLimit]); omega)); (case x4 => ((have hcL9 := cLine_is); (simp only [units_in1, units_deeper, Around.mark_units, units_caller, cLine] at *); omega)); (case x5 => first | assumption | exact rfl))
  trivial
local macro_rules | `(tactic| walk_at "exec For Name Name cons nil") => `(tactic| walk_at "mine stop")
local macro_rules | `(tactic| walk_at "exec Try") => `(tactic| walk_at "mine stop")
theorem law_holds : PySem.Challenge.rw_pd0141_01.Holds := by
  w_top off
  refine hd ?_
  k_fill
  intro w s₀ s₁ mg mb G Y fa o pm cd doc dV kV ho hd hcd hD hmg hg args vals as hpre hlay hrd hwl hlo
  have KX := kIn_of Y
  have X := (Ground.X G).1
  have V := (Ground.X G).2
  try w_nolog (first | (have GL := glob_more (Ground.glob G (by decide +kernel) (by decide +kernel)) V) | (have GL := glob_more (Ground.glob G (by decide +kernel)) V))
  refine Ground.open G ?_
  intro T B D TE TW
  try (refine guard_noD D (by decide +kernel) ?_; clear D)
  obtain ⟨_, _, M⟩ := bmod_of_top T
  have TA := at_of_top T
  try (obtain ⟨_, _, he, B0⟩ := based_of_top T rfl hmg ho hd; have he' : cd = _ := he; subst he'; clear he)
  clear hmg
  wrow_args hpre hlay hrd hwl hlo
  first | refine callC_kw (enter_call ?_) | refine enter_call ?_ | refine callC_kw (enter_callW ?_) | refine enter_callW ?_ | w_how
  w_top on
  have K0 := below_caller (Top.heap T)
  w_call any ho hd hcd hD T F
  clear hd TA
  k_drop
  all_goals try k_fold
  with_reducible rename Fr _ _ _ _ => F00
  refine law_abs F00 ?_ ?_
  · intro h9 tk9 G9 m9 F9 hb9
    refine end_true F9 hb9 (raisesW_false ?_) ?_ rfl rfl
    · wrow_none_raised
    · first | kc_post | wrow_post
  intro Q9 hQ9

  w_top off
  rename List Int => scr
  with_reducible rename IntsAre _ _ => hScr
  with_reducible rename Fr _ _ _ _ => F0
  with_reducible rename News _ _ _ _ => N0
  with_reducible rename CellsAre _ _ _ => X0
  clear X0
  obtain ⟨s1, e⟩ := name_fr F0
  subst e
  with_reducible rename (_ : Obj).data = Data.cell _ => hcB
  obtain ⟨oB, e⟩ := name_cell hcB
  subst e
  replace hcB := Hold.out hcB
  with_reducible rename (_ : Obj).data = Data.cell _ => hcA
  obtain ⟨oA, e⟩ := name_cell hcA
  subst e
  replace hcA := Hold.out hcA
  k_steps
  refine Hold.out ?_
  with_reducible rename (IntsAre _ (List.take 5 _)) => hT5
  have hln5 : (List.take 5 scr).length ≤ 5 := List.length_take_le 5 _
  generalize List.take 5 scr = t5 at *
  have hl5 := hT5.length
  have hget := fun i v => ints_get hT5 (i := i) (v := v)
  replace hT5 := Hold.in hT5
  refine' LCg.CompSrc.ledger rfl ?F ?N ?hm ?hz ?_
  (case F => k_asm)
  (case N => k_asm)
  (case hm => k_mem)
  (case hz => exact sz_line (by omega))
  intro g9
  refine compU (fun i ys => Hold (IntsAre ys ((t5.take i).map fun x => Int.fmod x 1000000))) (.inr ⟨_, by k_mem, rfl, _, rfl⟩) (Hold.in .nil) ?_ ?_
  · rintro i v I oI C oC D m₂ ys h tk E' hin hP hG hC hx F9 N9
    obtain ⟨x, tx, rfl, hxi⟩ := hget _ _ (by simpa using hP)
    k_steps
    refine cend (by k_asm) (by k_asm) (fun _ hp => hp) (map_snoc hG hxi)
  intro ys hG D h9 tk9 F9 N9 off9
  rw [List.size_toArray, hl5, List.take_length] at hG
  obtain ⟨Ds, hDs, hDb, hDl⟩ := drawn_nat t5
  rw [hDs] at hG
  have hyl := (Hold.out hG).length
  rw [List.length_map] at hyl
  have hDn : Ds.length ≤ 5 := by omega
  clear hT5 hget hDs hDl off9
  replace hcA : oA.data = Data.cell none := Hold.in hcA
  replace hcB : oB.data = Data.cell none := Hold.in hcB

  w_top off
  have hF0 := headD_lt hDb
  k_steps
  refine Hold.out ?_
  refine item_head ⟨_, News.get (by k_asm) (.head _), rfl, _, rfl⟩ hG ?_
  intro t0
  replace hG := Hold.in hG
  have stop := Stop.mk
  k_steps
  refine Hold.out ?_
  refine wpAny_execs_cons ?_
  k_steps
  refine Hold.out ?_
  clear stop
  with_reducible rename (IntsAre _ (List.drop 1 _)) => hI1
  rw [← List.map_drop] at hI1
  have hI1l := hI1.length
  rw [List.length_map, List.length_drop] at hI1l
  with_reducible rename Fr _ _ _ _ => F1
  with_reducible rename News _ _ _ _ => N1
  refine cut_stmt (fun m₀ m n => ∃ (D : Addr) (vs : List Value) (k : Nat) (Ns : List Nat), m (Str.ofString "numbers") = some (.ref D) ∧ (∀ y, y ≠ Str.ofString "numbers" → m y = m₀ y) ∧ n = [(D, W.listOf (List.toArray vs) k), (s1.heap.objs.size + 1 + 1, oA), (s1.heap.objs.size + 1, oB)] ∧
    Hold (IntsAre vs (Ns.map fun (K : Nat) => (K : Int))) ∧ (∀ K ∈ Ns, K < 1000000) ∧ 2 ≤ Ns.length ∧ Ns.length ≤ 4) F1 N1 ?_ ?_
  · k_steps
    · with_reducible rename News _ _ _ _ => N7
      refine cut_post [_, (_, oA), (_, oB)] (by k_asm) N7 (List.forall_mem_cons.mpr ⟨.head _, List.forall_mem_cons.mpr ⟨by k_mem, List.forall_mem_cons.mpr ⟨by k_mem, List.forall_mem_nil _⟩⟩⟩)
        ⟨_, _, _, Ds.drop 1 ++ [307, 98], rfl, fun y h => by simp only [if_neg h], rfl, ?_, ?_, ?_, ?_⟩
      · rw [List.map_append]
        exact Hold.out (hI1.append (.cons _ _ (.cons _ _ .nil)))
      · intro K hK
        rcases List.mem_append.mp hK with q | q
        · exact hDb K (List.mem_of_mem_drop q)
        · have : K = 307 ∨ K = 98 := by simpa using q
          omega
      · simp
      · rw [List.length_append, List.length_drop]; simp; omega
    · refine cut_post [_, (_, oA), (_, oB)] F1 N1 (List.forall_mem_cons.mpr ⟨.head _, List.forall_mem_cons.mpr ⟨by k_mem, List.forall_mem_cons.mpr ⟨by k_mem, List.forall_mem_nil _⟩⟩⟩)
        ⟨_, _, _, Ds.drop 1, rfl, fun y h => rfl, rfl, Hold.out hI1, fun K hK => hDb K (List.mem_of_mem_drop hK), by rw [List.length_drop]; omega, by rw [List.length_drop]; omega⟩
  rintro h8 tk8 m8 n8 ⟨D8, vs8, k8, Ns, hm1, hm2, rfl, hI8, hNb, hN2, hN4⟩ F8 N8
  obtain rfl := known1 (Str.ofString "numbers") hm1 hm2
  clear hm1 hm2 hI1 hI1l F1 N1 hG
  have hvl8 := (Hold.in hI8).length
  rw [List.length_map] at hvl8

  w_top off
  generalize Ds.headD 0 = F0 at *
  k_steps
  refine Hold.out ?_
  refine' c_sizes ?x1 ?x2 ?x3 ?x4 ?x5 (by omega) (by omega) ?_
  walk_at "law side"
  k_whole
  intro a9 h9 tk9 vs9 k9 kE kA kO hS9
  obtain ⟨hsl, hsp⟩ := szF_ok 3 (((F0 : Nat) : Int) + 29 |>.fdiv 3)
  have hvl9 := hS9.length
  obtain ⟨sz, hsz⟩ : ∃ sz, szF 3 ((((F0 : Nat) : Int) + 29).fdiv 3) = sz := ⟨_, rfl⟩
  rw [hsz] at hS9 hsl hsp hvl9
  replace hS9 := Hold.out hS9
  walk_at "mine new"
  have stop := Stop.mk
  k_steps
  refine Hold.out ?_
  clear stop
  with_reducible rename Fr _ _ _ _ => F1
  with_reducible rename News _ _ _ _ => N1
  refine cut_stmt (fun m₀ mp n => ∃ (D : Addr) (vs : List Value) (k m : Nat), mp (Str.ofString "row") = some (.ref D) ∧ (∀ y, y ≠ Str.ofString "row" → mp y = m₀ y) ∧ n = [(D, W.listOf (List.toArray vs) k), (a9, W.listOf (List.toArray vs9) k9), (D8, W.listOf (List.toArray vs8) k8), (s1.heap.objs.size + 1 + 1, oA), (s1.heap.objs.size + 1, oB)] ∧
    Hold (IntsAre vs (sz ++ tailF m)) ∧ m < 3 ∧ Int.fmod (((F0 : Nat) : Int) + 29) 3 = ((m : Nat) : Int)) F1 N1 ?_ ?_
  · k_steps
    · with_reducible rename News _ _ _ _ => N6
      with_reducible rename (Int.fmod _ _ = _) => hm6
      refine cut_post [_, (a9, _), (D8, _), (_, oA), (_, oB)] (by k_asm) N6 (List.forall_mem_cons.mpr ⟨.head _, List.forall_mem_cons.mpr ⟨by k_mem, List.forall_mem_cons.mpr ⟨by k_mem, List.forall_mem_cons.mpr ⟨by k_mem, List.forall_mem_cons.mpr ⟨by k_mem, List.forall_mem_nil _⟩⟩⟩⟩⟩)
        ⟨_, _, _, 0, rfl, fun y h => by simp only [if_neg h], rfl, Hold.out ((Hold.in hS9).append .nil), by decide, hm6⟩
    · with_reducible rename News _ _ _ _ => N6
      with_reducible rename (Int.fmod _ _ = _) => hm6
      refine cut_post [_, (a9, _), (D8, _), (_, oA), (_, oB)] (by k_asm) N6 (List.forall_mem_cons.mpr ⟨.head _, List.forall_mem_cons.mpr ⟨by k_mem, List.forall_mem_cons.mpr ⟨by k_mem, List.forall_mem_cons.mpr ⟨by k_mem, List.forall_mem_cons.mpr ⟨by k_mem, List.forall_mem_nil _⟩⟩⟩⟩⟩)
        ⟨_, _, _, 1, rfl, fun y h => by simp only [if_neg h], rfl, Hold.out ((Hold.in hS9).append (.cons _ _ (.cons _ _ .nil))), by decide, hm6⟩
    · with_reducible rename News _ _ _ _ => N6
      with_reducible rename (Int.fmod _ _ = _) => hm6
      refine cut_post [_, (a9, _), (D8, _), (_, oA), (_, oB)] (by k_asm) N6 (List.forall_mem_cons.mpr ⟨.head _, List.forall_mem_cons.mpr ⟨by k_mem, List.forall_mem_cons.mpr ⟨by k_mem, List.forall_mem_cons.mpr ⟨by k_mem, List.forall_mem_cons.mpr ⟨by k_mem, List.forall_mem_nil _⟩⟩⟩⟩⟩)
        ⟨_, _, _, 2, rfl, fun y h => by simp only [if_neg h], rfl, Hold.out ((Hold.in hS9).append (.cons _ _ .nil)), by decide, hm6⟩
  rintro h7 tk7 m7 n7 ⟨D7, vs7, k7, m, hm1, hm2, rfl, hI7, hm3, hmod⟩ F7 N7
  obtain rfl := known1 (Str.ofString "row") hm1 hm2
  clear hm1 hm2 F1 N1

  w_top off
  by_cases hb : sz = [] ∧ m = 2
  · w_top off
    obtain ⟨t7, rfl⟩ := row_zero hI7 hb
    have hrow : sz ++ tailF m = [0] := by rw [hb.1, hb.2]; rfl
    k_steps
    refine Hold.out ?_
    with_reducible rename Fr _ _ _ _ => F6
    with_reducible rename News _ _ _ _ => N6
    refine' c_genX (h₀ := s1.heap) F6 ?x1 ?x2 ?x3 (news_one N6 (by k_mem)) ?_
    (case x1 => k_in)
    (case x2 => exact T)
    (case x3 => ((try simp only [depth_in1, depth_deeper, depth_caller, recursionLimit]); omega))
    k_whole
    intro Lg ag h5 tk5 gs oLg hLg0 hx hgn haL ha0 hoLg hnL hseg
    obtain ⟨oa, nm, qn, hoa, hca, hda, hsa⟩ := id hgn
    have N5 := (news_one (news_new F6 N6 hx ha0 hoa) (.head _)).append (news_new F6 N6 hx hLg0 hoLg)
    simp only [List.cons_append, List.nil_append] at N5
    have F5 := fr_ext F6 hx
    k_steps
    refine Hold.out ?_
    refine wpAny_Try_except ?_
    k_steps
    refine Hold.out ?_
    refine wpAny_For ?_ (fun _ => rfl)
    k_steps
    with_reducible rename Fr _ _ _ _ => F4
    with_reducible rename News _ _ _ _ => N4
    refine' for_genX (h₀ := s1.heap) (L := Lg) (l := D7) (oL := oLg) (oa := oa) (g := s1.gens.size) (gs := gs) ?y1 ?y2 ?y3 ?y4 T ?y5 ⟨oa, nm, qn, News.get N4 (by k_mem), hca, hda, hsa⟩ ?y6 F4 ((news_one N4 (by k_mem)).append (news_one N4 (by k_mem))) (News.get N4 (by k_mem)) hseg ?_
    (case y1 => rfl)
    (case y2 => rfl)
    (case y3 => exact fun q => by cases q)
    (case y4 => rfl)
    (case y5 => ((try simp only [depth_in1, depth_deeper, depth_caller, recursionLimit]); omega))
    (case y6 => simp)
    intro e h₉ B0' a0 h' tk' G' F9 hu hB hH hbu
    show wpAny _ _ (noteFrame (.ref e) _) _ _ _
    refine wpAny_noteFrame_againW rfl hH.2.2.2 ?_
    refine wpAny_landsW hH fun h3 hfl hu3 => ?_
    have F3 := F9.of_stays (fun b o q => hfl.1 _ _ (hB b o q)) (hu.trans hu3)
    obtain ⟨ob, hob, hoc⟩ := hfl.there
    refine wpAny_handleBy_builtin (X := "ValueError") (T := "ValueError") (b := true) PySem.F.isExc_ValueError PySem.F.notTuple_ValueError sub_ve_ve ?_
    clear F4 N4
    k_steps
    · exact ⟨ob, hob, hoc⟩
    refine lands_againW hfl fun h4 hfl4 hu4 => ?_
    have F2 := F3.of_stays (fun b o q => hfl4.1 _ _ (hB b o q)) hu4
    k_steps
    exact hQ9 _ _ _ _ F2 (hbu (AllBare.push (AllBare.of_eq hg) rfl))
  obtain ⟨hr1, hr2⟩ := row_head hsp hm3 hb
  have hrl : (sz ++ tailF m).length ≤ 5 := by
    have hm' : m = 0 ∨ m = 1 ∨ m = 2 := by omega
    rw [List.length_append]
    rcases hm' with rfl | rfl | rfl <;> simp [tailF] <;> omega
  obtain ⟨rwl, hrw⟩ : ∃ r, sz ++ tailF m = r := ⟨_, rfl⟩
  rw [hrw] at hI7 hr1 hr2 hrl
  replace hI7 := Hold.in hI7
  have hvl7 := hI7.length
  k_steps
  refine Hold.out ?_

  w_top off
  with_reducible rename Fr _ _ _ _ => F6
  with_reducible rename News _ _ _ _ => N6
  have N5 : News s1.heap s1.heap.objs.size _ [(_, _), (D7, W.listOf vs7.toArray k7), (a9, W.listOf vs9.toArray k9), (D8, W.listOf vs8.toArray k8), (s1.heap.objs.size + 1 + 1, oA), (s1.heap.objs.size + 1, oB)] := fun p hp => N6 p (by
    rcases List.mem_cons.mp hp with rfl | hp
    · exact .head _
    · exact .tail _ (.tail _ (.tail _ hp)))
  have hItem := fun i => getD_lt hNb (by decide) i
  replace hI8 := Hold.in hI8
  refine' iter_rangeA (n := ((vs8.length : Int) - 0).toNat) (fun m₀ n₀ i m nx => ∃ (lk : Addr) (vsK : List Value) (k : Nat) (Ks : List Nat) (oK : Obj), m (Str.ofString "keys") = some (.ref lk) ∧ (∀ y, y ≠ Str.ofString "k" → y ≠ Str.ofString "keys" → m y = m₀ y) ∧
    nx = [(lk, W.listOf (List.toArray vsK) k), (D7, W.listOf (List.toArray vs7) k7), (a9, W.listOf (List.toArray vs9) k9), (D8, W.listOf (List.toArray vs8) k8), (s1.heap.objs.size + 1 + 1, oA), (s1.heap.objs.size + 1, oK)] ∧ (∃ v, oK.data = .cell v) ∧
    Hold (IntsAre vsK (Ks.map fun (K : Nat) => (K : Int))) ∧ (∀ K ∈ Ks, K < 1000000) ∧ Ks.length = i) ?x1 ?x2 ?x3 ?x4 ?x5 ?la5x6 ?la5x7 ?la5x8 ?la5x9
  (case x1 => exact rfl)
  (case x2 => assumption)
  (case x3 => exact range_small (by omega) (by omega) (by omega) (by omega))
  (case x4 => exact range_len)
  (case x5 => exact F6)
  (case la5x6 => exact N5)
  (case la5x7 => exact ⟨_, [], _, [], _, rfl, fun _ _ _ => rfl, rfl, ⟨_, hcB⟩, Hold.out .nil, fun K hK => by (cases hK), rfl⟩)
  (case la5x8 =>
    rintro i t m₁ n₁ h9 tk9 own hin ⟨lk, vsK, kK, Ks, oK, hm1, hm2, rfl, ⟨vK, hvK⟩, hIK, hKb, hKl⟩ hown ⟨oI, hoI, hsI⟩ hnw F9 N9
    obtain ⟨u, rfl⟩ := map2 (Str.ofString "k") (Str.ofString "keys") hm1 hm2
    clear hm1 hm2
    have hO1 := own_ne1 hown hnw (.tail _ (.tail _ (.tail _ (.tail _ (.tail _ (.head _))))))
    have hN1 : @Ne Nat lk (_ + 1) := data_ne N9 (List.mem_append_left _ (.head _)) (List.mem_append_left _ (.tail _ (.tail _ (.tail _ (.tail _ (.tail _ (.head _))))))) (by rw [hvK]; exact fun q => nomatch q)
    have hN2 : @Ne Nat D7 (_ + 1) := data_ne N9 (List.mem_append_left _ (.tail _ (.head _))) (List.mem_append_left _ (.tail _ (.tail _ (.tail _ (.tail _ (.tail _ (.head _))))))) (by rw [hvK]; exact fun q => nomatch q)
    have hN3 : @Ne Nat a9 (_ + 1) := data_ne N9 (List.mem_append_left _ (.tail _ (.tail _ (.head _)))) (List.mem_append_left _ (.tail _ (.tail _ (.tail _ (.tail _ (.tail _ (.head _))))))) (by rw [hvK]; exact fun q => nomatch q)
    have hN4 : @Ne Nat D8 (_ + 1) := data_ne N9 (List.mem_append_left _ (.tail _ (.tail _ (.tail _ (.head _))))) (List.mem_append_left _ (.tail _ (.tail _ (.tail _ (.tail _ (.tail _ (.head _))))))) (by rw [hvK]; exact fun q => nomatch q)
    have hlK := (Hold.in hIK).length
    rw [List.length_map] at hlK
    rw [Int.zero_add] at F9
    k_steps
    · have hz1 := hItem i
      have hz2 := getD_lt hKb (by decide) (-1 + ((Ks.map fun (K : Nat) => (K : Int)).length : Int)).toNat
      with_reducible rename Fr _ _ _ _ => F4
      with_reducible rename News _ _ _ _ => N4
      refine turnB [_, (D7, _), (a9, _), (D8, _), (_, oA), (_, _)] F4 N4 (fun p hp => .tail _ (.tail _ (.tail _ (.tail _ (.tail _ (.tail _ (.tail _ (.tail _ hp))))))))
        (List.forall_mem_cons.mpr ⟨.head _, List.forall_mem_cons.mpr ⟨.tail _ (.tail _ (.tail _ (.head _))), List.forall_mem_cons.mpr ⟨.tail _ (.tail _ (.tail _ (.tail _ (.head _)))), List.forall_mem_cons.mpr ⟨.tail _ (.tail _ (.tail _ (.tail _ (.tail _ (.head _))))), List.forall_mem_cons.mpr ⟨.tail _ (.tail _ (.tail _ (.tail _ (.tail _ (.tail _ (.head _)))))), List.forall_mem_cons.mpr ⟨.tail _ (.tail _ (.tail _ (.tail _ (.tail _ (.tail _ (.tail _ (.head _))))))), List.forall_mem_nil _⟩⟩⟩⟩⟩⟩)
        (List.forall_mem_cons.mpr ⟨ne_iter N4 (.head _) hoI (fun p hp => .tail _ (.tail _ (.tail _ (.tail _ (.tail _ (.tail _ (.tail _ (.tail _ hp)))))))) hsI, List.forall_mem_cons.mpr ⟨hnw (D7, _) (.tail _ (.head _)), List.forall_mem_cons.mpr ⟨hnw (a9, _) (.tail _ (.tail _ (.head _))), List.forall_mem_cons.mpr ⟨hnw (D8, _) (.tail _ (.tail _ (.tail _ (.head _)))), List.forall_mem_cons.mpr ⟨hnw (_, oA) (.tail _ (.tail _ (.tail _ (.tail _ (.head _))))), List.forall_mem_cons.mpr ⟨hnw (_, oK) (.tail _ (.tail _ (.tail _ (.tail _ (.tail _ (.head _)))))), List.forall_mem_nil _⟩⟩⟩⟩⟩⟩)
        ⟨_, _, _, Ks ++ [Ks.getD (-1 + ((Ks.map fun (K : Nat) => (K : Int)).length : Int)).toNat 0 / 1000 * 1000 + Ns.getD i 0 % 1000], _, rfl, fun y h1 h2 => by simp only [if_neg h1, if_neg h2], rfl, ⟨_, by assumption⟩, keys_snoc hIK (by rw [getD_cast, getD_cast, Int.toNat_natCast, key_val]), ?_, by rw [List.length_append, hKl]; rfl⟩
      intro K hK
      rcases List.mem_append.mp hK with q | q
      · exact hKb K q
      · rw [List.mem_singleton.mp q]
        omega
    · with_reducible rename Fr _ _ _ _ => F4
      with_reducible rename News _ _ _ _ => N4
      refine turnB [_, (D7, _), (a9, _), (D8, _), (_, oA), (_, _)] F4 N4 (fun p hp => .tail _ (.tail _ (.tail _ (.tail _ (.tail _ (.tail _ (.tail _ (.tail _ hp))))))))
        (List.forall_mem_cons.mpr ⟨.head _, List.forall_mem_cons.mpr ⟨.tail _ (.tail _ (.tail _ (.head _))), List.forall_mem_cons.mpr ⟨.tail _ (.tail _ (.tail _ (.tail _ (.head _)))), List.forall_mem_cons.mpr ⟨.tail _ (.tail _ (.tail _ (.tail _ (.tail _ (.head _))))), List.forall_mem_cons.mpr ⟨.tail _ (.tail _ (.tail _ (.tail _ (.tail _ (.tail _ (.head _)))))), List.forall_mem_cons.mpr ⟨.tail _ (.tail _ (.tail _ (.tail _ (.tail _ (.tail _ (.tail _ (.head _))))))), List.forall_mem_nil _⟩⟩⟩⟩⟩⟩)
        (List.forall_mem_cons.mpr ⟨ne_iter N4 (.head _) hoI (fun p hp => .tail _ (.tail _ (.tail _ (.tail _ (.tail _ (.tail _ (.tail _ (.tail _ hp)))))))) hsI, List.forall_mem_cons.mpr ⟨hnw (D7, _) (.tail _ (.head _)), List.forall_mem_cons.mpr ⟨hnw (a9, _) (.tail _ (.tail _ (.head _))), List.forall_mem_cons.mpr ⟨hnw (D8, _) (.tail _ (.tail _ (.tail _ (.head _)))), List.forall_mem_cons.mpr ⟨hnw (_, oA) (.tail _ (.tail _ (.tail _ (.tail _ (.head _))))), List.forall_mem_cons.mpr ⟨hnw (_, oK) (.tail _ (.tail _ (.tail _ (.tail _ (.tail _ (.head _)))))), List.forall_mem_nil _⟩⟩⟩⟩⟩⟩)
        ⟨_, _, _, Ks ++ [Ns.getD i 0], _, rfl, fun y h1 h2 => by simp only [if_neg h1, if_neg h2], rfl, ⟨_, by assumption⟩, keys_snoc hIK (by rw [getD_cast, Int.toNat_natCast]), ?_, by rw [List.length_append, hKl]; rfl⟩
      intro K hK
      rcases List.mem_append.mp hK with q | q
      · exact hKb K q
      · rw [List.mem_singleton.mp q]
        exact hItem i)
  rintro m₁ n₁ h5 tk5 ⟨lk, vsK, kK, Ks, oK, hm1, hm2, rfl, ⟨vK, hvK⟩, hIK, hKb, hKl⟩ F5 N5
  obtain ⟨u, rfl⟩ := map2 (Str.ofString "k") (Str.ofString "keys") hm1 hm2
  clear hm1 hm2 F6 N6 hItem hcB
  have hKl2 : Ks.length = Ns.length := by omega
  have hlK := (Hold.in hIK).length
  rw [List.length_map] at hlK
  dsimp only

  w_top off
  have hmb := mod_two hmod
  k_steps
  refine Hold.out ?_
  with_reducible rename News _ _ _ _ => N4
  refine' c_cuts (ns := sz) ⟨_, News.get N4 (.tail _ (.tail _ (.head _))), rfl, _, rfl⟩ (Hold.in hS9) hsl hsp ?x1 ?x2 ?x3 ?x4 ?x5 (fun q e => by rw [hmb] at q; exact hb ⟨e, by simpa using q⟩) ?_
  walk_at "law side"
  k_whole
  intro aC hC tkC vsC kC kE kA kO hSC
  rw [hmb] at hSC
  obtain ⟨C, -⟩ := row_is hsl hsp hm3 (show sz ≠ [] ∨ m ≠ 2 by
    by_cases q : sz = []
    · exact .inr fun r => hb ⟨q, r⟩
    · exact .inl q)
  obtain ⟨ct, hct⟩ : ∃ ct, cutsF sz (m == 2) = ct := ⟨_, rfl⟩
  rw [hct] at hSC C
  have hlC := hSC.length
  replace hSC := Hold.out hSC
  walk_at "mine new"
  k_steps

  w_top off
  refine Hold.out ?_
  refine wpAny_For ?_ (fun _ => rfl)
  k_steps
  with_reducible rename News _ _ _ _ => N4
  have N5 : News s1.heap _ _ [(_, _), (aC, W.listOf vsC.toArray kC), (lk, W.listOf vsK.toArray kK), (D7, W.listOf vs7.toArray k7), (s1.heap.objs.size + 1 + 1, oA), (s1.heap.objs.size + 1, oK)] := fun p hp => N4 p (by
    rcases List.mem_cons.mp hp with rfl | hp
    · exact .head _
    · rcases List.mem_cons.mp hp with rfl | hp
      · exact .tail _ (.head _)
      · rcases List.mem_cons.mp hp with rfl | hp
        · exact .tail _ (.tail _ (.head _))
        · rcases List.mem_cons.mp hp with rfl | hp
          · exact .tail _ (.tail _ (.tail _ (.head _)))
          · exact .tail _ (.tail _ (.tail _ (.tail _ (.tail _ (.tail _ hp))))))
  refine' iter_listG (l := lk) (n := kK) (vs := vsK) (fun m₀ i m nx => ∃ (lp : Addr) (vsP : List Value) (k : Nat) (oK : Obj), m (Str.ofString "paths") = some (.ref lp) ∧ (∀ y, y ≠ Str.ofString "path" → y ≠ Str.ofString "paths" → m y = m₀ y) ∧
    nx = [(lp, W.listOf (List.toArray vsP) k), (aC, W.listOf (List.toArray vsC) kC), (lk, W.listOf (List.toArray vsK) kK), (D7, W.listOf (List.toArray vs7) k7), (s1.heap.objs.size + 1 + 1, oA), (s1.heap.objs.size + 1, oK)] ∧ (∃ v, oK.data = .cell v) ∧
    Hold (StrsAre vsP ((Ks.take i).map fun K => pathOf (names K ct)))) ?x1 ?x2 ?x3 ?x4 ?x5 ?la7x6 ?la7x7
  (case x1 => exact rfl)
  (case x4 => exact N5)
  (case x2 => exact .tail _ (.tail _ (.head _)))
  (case x3 => k_asm)
  (case x5 => exact ⟨_, [], _, _, rfl, fun _ _ _ => rfl, rfl, ⟨_, hvK⟩, Hold.out .nil⟩)
  (case la7x6 =>
    rintro i v m₁ n₁ h9 tk9 G9 oI hv ⟨lp, vsP, kP, oK2, hm1, hm2, rfl, ⟨vK2, hvK2⟩, hSP⟩ hbu hsI hnw F9 N9
    obtain ⟨u, rfl⟩ := map2 (Str.ofString "path") (Str.ofString "paths") hm1 hm2
    clear hm1 hm2 N4 N5
    obtain ⟨K, tK, rfl, hKi⟩ := keys_get (Hold.in hIK) hv
    have hKlt := hKb K (List.mem_of_getElem? hKi)
    have hlP := strs_len (Hold.in hSP)
    rw [List.length_map, List.length_take] at hlP
    simp only [List.cons_append, List.nil_append] at N9
    have hN1 : @Ne Nat lp (_ + 1) := data_ne N9 (.head _) (.tail _ (.tail _ (.tail _ (.tail _ (.tail _ (.head _)))))) (by rw [hvK2]; exact fun q => nomatch q)
    have hN2 : @Ne Nat aC (_ + 1) := data_ne N9 (.tail _ (.head _)) (.tail _ (.tail _ (.tail _ (.tail _ (.tail _ (.head _)))))) (by rw [hvK2]; exact fun q => nomatch q)
    have hN3 : @Ne Nat lk (_ + 1) := data_ne N9 (.tail _ (.tail _ (.head _))) (.tail _ (.tail _ (.tail _ (.tail _ (.tail _ (.head _)))))) (by rw [hvK2]; exact fun q => nomatch q)
    have hN4' : @Ne Nat D7 (_ + 1) := data_ne N9 (.tail _ (.tail _ (.tail _ (.head _)))) (.tail _ (.tail _ (.tail _ (.tail _ (.tail _ (.head _)))))) (by rw [hvK2]; exact fun q => nomatch q)
    have hN5 : @Ne Nat _ (_ + 1) := Ne.symm <| hnw (_, oK2) (.tail _ (.tail _ (.tail _ (.tail _ (.tail _ (.head _))))))
    refine wpAny_assign_Name ?_
    k_steps
    refine Hold.out ?_
    refine LCg.CompSrc.range rfl (by k_asm) (by k_asm) (by assumption) (range_small (by omega) (by omega) (by omega) (by omega)) range_len (by rw [sizeLine_eq]; omega) ?_
    intro g9
    refine compU (fun n ys => Hold (StrsAre ys ((List.range n).map fun (j : Nat) => dig (Int.fmod (Int.fdiv (K : Int) (10 ^ ((5 : Int) - (j : Int)).toNat)) 10)))) trivial (Hold.out .nil) ?_ ?_
    · rintro j v I oI9 Ca oC D m₂ ys h tk E' hjn ⟨t, rfl⟩ hG hCa hx F9 N9
      rw [Int.zero_add] at hx
      have hj6 : j < 6 := hjn
      k_steps
      refine cend (by k_asm) (by k_asm) (fun _ hp => hp) ?_
      rw [List.range_succ, List.map_append]
      exact Hold.out (strsSnoc (Hold.in hG))
    intro ys hG D h8 tk8 F8 N8 off8
    rw [show ((6 : Int) - 0).toNat = 6 from rfl] at hG
    have hA1 := strs_len (Hold.in hG)
    rw [List.length_map, List.length_range] at hA1
    have hA2 := fun y => figs_le (r := List.range 6) (f := fun (j : Nat) => Int.fdiv (K : Int) (10 ^ ((5 : Int) - (j : Int)).toNat)) (y := y)
    have hRoom := joinRoom (sep := Str.ofString "") (by decide) (by rw [List.length_map, List.length_range]; decide) hA2
    replace hG := Hold.in hG
    clear F9 N9
    k_steps
    refine Hold.out ?_
    with_reducible rename News _ _ _ _ => N3
    refine' place_key (K := K) (z := Str.ofString "/" ++ Txt.join (Str.ofString "/") (names K ct)) ?x1 ?x2 ?x3 ?x4 ?x5 ⟨_, News.get N3 (by k_mem : (D7, W.listOf vs7.toArray k7) ∈ _), rfl, _, rfl⟩ hI7 hsl hsp hm3 hb hrw hrl hr2 hct rfl rfl ?_
    walk_at "law side"
    k_whole
    intro t' h' tk' G' kE hbG
    walk_at "mine ext"
    k_steps
    refine Hold.out ?_
    with_reducible rename News _ _ _ _ => N2
    refine' c_names (ns := ct) ⟨_, News.get N2 (by k_mem : (aC, W.listOf vsC.toArray kC) ∈ _), rfl, _, rfl⟩ (Hold.in hSC) (by have := C.few; omega) (by have := C.two; omega) C.names_in (by omega) (by omega) ?x1 ?x2 ?x3 ?x4 ?x5 ?_
    walk_at "law side"
    k_whole
    intro a6 h6 tk6 vs6 k6 kE kA kO hS6
    rw [namesF_all C] at hS6
    replace hS6 := Hold.out hS6
    walk_at "mine new"
    obtain ⟨hRoom2, hJl2⟩ := full_room C K
    have hne : (Str.ofString "/" ++ Txt.join (Str.ofString "/") (names K ct) != Str.ofString "/" ++ Txt.join (Str.ofString "/") (names K ct)) = false := bne_self_eq_false _
    k_steps
    with_reducible rename Fr _ _ _ _ => F2
    with_reducible rename News _ _ _ _ => N1
    show TurnOkG _ _ _ _ _ _ _
    refine turnG [_, (aC, _), (lk, _), (D7, _), (_, oA), (_, _)] (hbu.trans hbG) F2 N1 (List.forall_mem_cons.mpr ⟨.tail _ (.tail _ (.tail _ (.tail _ (.tail _ (.tail _ (.tail _ (.tail _ (.tail _ (.tail _ (.head _)))))))))), List.forall_mem_cons.mpr ⟨.tail _ (.tail _ (.tail _ (.tail _ (.tail _ (.tail _ (.tail _ (.tail _ (.tail _ (.tail _ (.tail _ (.head _))))))))))), List.forall_mem_nil _⟩⟩)
      (List.forall_mem_cons.mpr ⟨.head _, List.forall_mem_cons.mpr ⟨.tail _ (.tail _ (.tail _ (.tail _ (.tail _ (.head _))))), List.forall_mem_cons.mpr ⟨.tail _ (.tail _ (.tail _ (.tail _ (.tail _ (.tail _ (.head _)))))), List.forall_mem_cons.mpr ⟨.tail _ (.tail _ (.tail _ (.tail _ (.tail _ (.tail _ (.tail _ (.head _))))))), List.forall_mem_cons.mpr ⟨.tail _ (.tail _ (.tail _ (.tail _ (.tail _ (.tail _ (.tail _ (.tail _ (.head _)))))))), List.forall_mem_cons.mpr ⟨.tail _ (.tail _ (.tail _ (.tail _ (.tail _ (.tail _ (.tail _ (.tail _ (.tail _ (.head _))))))))), List.forall_mem_nil _⟩⟩⟩⟩⟩⟩)
      (List.forall_mem_cons.mpr ⟨ne_iter N1 (.head _) (.tail _ (.tail _ (.tail _ (.tail _ (.tail _ (.tail _ (.tail _ (.tail _ (.tail _ (.tail _ (.head _))))))))))) (fun _ h => h) hsI, List.forall_mem_cons.mpr ⟨hnw (aC, _) (.tail _ (.head _)), List.forall_mem_cons.mpr ⟨hnw (lk, _) (.tail _ (.tail _ (.head _))), List.forall_mem_cons.mpr ⟨hnw (D7, _) (.tail _ (.tail _ (.tail _ (.head _)))), List.forall_mem_cons.mpr ⟨hnw (_, oA) (.tail _ (.tail _ (.tail _ (.tail _ (.head _))))), List.forall_mem_cons.mpr ⟨hnw (_, oK2) (.tail _ (.tail _ (.tail _ (.tail _ (.tail _ (.head _)))))), List.forall_mem_nil _⟩⟩⟩⟩⟩⟩)
      ⟨_, _, _, _, rfl, fun y h1 h2 => by simp only [if_neg h1, if_neg h2], rfl, ⟨_, by assumption⟩, ?_⟩
    rw [List.take_add_one, hKi]
    show Hold (StrsAre _ ((Ks.take i ++ [K]).map fun K => pathOf (names K ct)))
    rw [List.map_append]
    exact Hold.out (strsSnoc (Hold.in hSP)))
  rintro m₁ n₁ h5 tk5 G5 ⟨lp, vsP, kP, oK2, hm1, hm2, rfl, ⟨vK2, hvK2⟩, hSP⟩ hbu F5 N6
  obtain ⟨u, rfl⟩ := map2 (Str.ofString "path") (Str.ofString "paths") hm1 hm2
  clear hm1 hm2 N4 N5
  rw [hlK, List.take_length] at hSP
  have hlP := strs_len (Hold.in hSP)
  rw [List.length_map] at hlP
  dsimp only

  w_top off
  have hKl4 : Ks.length ≤ 4 := by omega
  have hml : (Ks.map fun (K : Nat) => (K : Int)).length = Ks.length := List.length_map ..
  replace hIK := Hold.in hIK
  k_steps
  refine Hold.out ?_
  with_reducible rename Fr _ _ _ _ => F4
  with_reducible rename News _ _ _ _ => N4
  refine' iter_rangeA (n := (((Ks.map fun (K : Nat) => (K : Int)).length : Int) - 0).toNat) (fun m₀ n₀ i m nx => (∀ y, y ≠ Str.ofString "i" → y ≠ Str.ofString "j" → m y = m₀ y) ∧ nx = n₀) ?x1 ?x2 ?x3 ?x4 ?x5 ?la8x6 ?la8x7 ?la8x8 ?la8x9
  (case x1 => exact rfl)
  (case x2 => assumption)
  (case x3 => exact range_small (by omega) (by omega) (by omega) (by omega))
  (case x4 => exact range_len)
  (case x5 => exact F4)
  (case la8x6 => exact N4)
  (case la8x7 => exact ⟨fun _ _ _ => rfl, rfl⟩)
  (case la8x8 =>
    rintro i t m₁ n₁ h9 tk9 own hin ⟨hm, rfl⟩ hown ⟨oI, hoI, hsI⟩ hnw F9 N9
    obtain ⟨u1, u2, rfl⟩ := map2u (Str.ofString "i") (Str.ofString "j") hm
    clear hm
    rw [Int.zero_add] at F9
    simp only [List.cons_append, List.nil_append] at N9
    clear F4 N4
    have hiK : Hold (i < Ks.length) := Hold.out (by omega)
    have hi9 : i ≤ 1000000 := by omega
    clear hin
    k_steps
    refine Hold.out ?_
    replace hiK := Hold.in hiK
    with_reducible rename Fr _ _ _ _ => F3
    with_reducible rename News _ _ _ _ => N3
    refine' iter_rangeA (n := (((i : Nat) : Int) + 1 - 0).toNat) (fun m₀ n₀ j m nx => (∀ y, y ≠ Str.ofString "j" → m y = m₀ y) ∧ nx = n₀) ?y1 ?y2 ?y3 ?y4 ?y5 ?y6 ?y7 ?y8 ?y9
    (case y1 => exact rfl)
    (case y2 => assumption)
    (case y3 => exact range_small (by omega) (by omega) (by omega) (by omega))
    (case y4 => exact range_len)
    (case y5 => exact F3)
    (case y6 => exact N3)
    (case y7 => exact ⟨fun _ _ => rfl, rfl⟩)
    (case y8 =>
      rintro j t2 m₂ n₂ h8 tk8 own2 hjn ⟨hm, rfl⟩ hown2 ⟨oI2, hoI2, hsI2⟩ hnw2 F8 N8
      obtain ⟨u3, rfl⟩ := map1 (Str.ofString "j") hm
      clear hm
      rw [Int.zero_add] at F8
      have hjK : j < Ks.length := by omega
      simp only [List.cons_append, List.nil_append] at N8
      clear F3 N3
      k_steps
      refine Hold.out ?_
      with_reducible rename News _ _ _ _ => N2
      refine' pair_is (K1 := Ks.getD i 0) (K2 := Ks.getD j 0) C ⟨_, News.get N2 (by k_mem : (aC, W.listOf vsC.toArray kC) ∈ _), rfl, _, rfl⟩ (Hold.in hSC) (News.get N2 (.head _)) (by rw [getD_cast, Int.toNat_natCast]) (by rw [getD_cast, Int.toNat_natCast]) (by rw [Int.toNat_natCast]; exact getD_path hiK) (by rw [Int.toNat_natCast]; exact getD_path hjK) (getD_lt hKb (by decide) i) (getD_lt hKb (by decide) j) ?x1 ?x2 ?x3 ?x4 ?x5 ?_
      walk_at "law side"
      k_whole
      intro h' tk' kE
      walk_at "mine ext"
      k_steps
      with_reducible rename Fr _ _ _ _ => F1
      with_reducible rename News _ _ _ _ => N1
      refine turnB _ F1 N1 (fun p hp => .tail _ (.tail _ (.tail _ (.tail _ (.tail _ (.tail _ (.tail _ (List.mem_append_right own hp)))))))) (fun p hp => .tail _ (List.mem_append_left own2 hp)) hnw2 ⟨fun y h => by simp only [if_neg h], rfl⟩)
    rintro m₂ n₂ h8 tk8 ⟨hm, rfl⟩ F8 N8
    obtain ⟨u3, rfl⟩ := map1 (Str.ofString "j") hm
    clear hm
    dsimp only
    k_steps
    show TurnOkA _ _ _ _ _ _ _
    refine turnB _ F8 N8 (fun p hp => .tail _ (.tail _ (.tail _ (.tail _ (.tail _ (.tail _ hp)))))) (fun p hp => List.mem_append_left own hp) hnw ⟨fun y h1 h2 => by simp only [if_neg h1, if_neg h2], rfl⟩)
  rintro m₁ n₁ h9 tk9 ⟨hm, rfl⟩ F9 N9
  obtain ⟨u1, u2, rfl⟩ := map2u (Str.ofString "i") (Str.ofString "j") hm
  clear hm F4 N4
  dsimp only

  w_top off
  with_reducible rename IntsAre _ (List.map _ Ks) => hIK
  replace hIK := Hold.out hIK
  k_steps
  refine Hold.out ?_
  refine wpAny_For ?_ (fun _ => rfl)
  k_steps
  with_reducible rename News _ _ _ _ => N4
  refine' iter_listG (l := aC) (n := kC) (vs := vsC) (fun m₀ i m nx => ∃ (oP : Obj), (∃ t, m (Str.ofString "due") = some (.int ((dueN Ks ct i : Nat) : Int) t)) ∧ (∀ y, y ≠ Str.ofString "due" → m y = m₀ y) ∧
    nx = [(lp, W.listOf (List.toArray vsP) kP), (aC, W.listOf (List.toArray vsC) kC), (lk, W.listOf (List.toArray vsK) kK), (D7, W.listOf (List.toArray vs7) k7), (s1.heap.objs.size + 1 + 1, oP), (s1.heap.objs.size + 1, oK2)] ∧ (∃ v, oP.data = .cell v)) ?x1 ?x2 ?x3 ?x4 ?x5 ?la9x6 ?la9x7
  (case x1 => exact rfl)
  (case x4 => exact N4)
  (case x2 => exact .tail _ (.head _))
  (case x3 => k_asm)
  (case x5 => exact ⟨_, ⟨_, rfl⟩, fun _ _ => rfl, rfl, ⟨_, hcA⟩⟩)
  (case la9x6 =>
    rintro i v m₁ n₁ h9 tk9 G9 oI hv ⟨oP, ⟨td, hm1⟩, hm2, rfl, ⟨vP, hvP⟩⟩ hbu2 hsI hnw F9 N9
    obtain rfl := known1 (Str.ofString "due") hm1 hm2
    clear hm1 hm2 N4
    obtain ⟨x, tx, rfl, hxi⟩ := ints_get (Hold.in hSC) hv
    have hb6 := cut_mem C (List.mem_of_getElem? hxi)
    simp only [List.cons_append, List.nil_append] at N9
    have hN1 : @Ne Nat lp (_ + 1 + 1) := data_ne N9 (.head _) (.tail _ (.tail _ (.tail _ (.tail _ (.head _))))) (by rw [hvP]; exact fun q => nomatch q)
    have hN2 : @Ne Nat aC (_ + 1 + 1) := data_ne N9 (.tail _ (.head _)) (.tail _ (.tail _ (.tail _ (.tail _ (.head _))))) (by rw [hvP]; exact fun q => nomatch q)
    have hN3 : @Ne Nat lk (_ + 1 + 1) := data_ne N9 (.tail _ (.tail _ (.head _))) (.tail _ (.tail _ (.tail _ (.tail _ (.head _))))) (by rw [hvP]; exact fun q => nomatch q)
    have hN4' : @Ne Nat D7 (_ + 1 + 1) := data_ne N9 (.tail _ (.tail _ (.tail _ (.head _)))) (.tail _ (.tail _ (.tail _ (.tail _ (.head _))))) (by rw [hvP]; exact fun q => nomatch q)
    have hN5 : @Ne Nat _ (_ + 1 + 1) := Ne.symm <| hnw (_, oP) (.tail _ (.tail _ (.tail _ (.tail _ (.head _)))))
    refine wpAny_assign_Name ?_
    k_steps
    refine Hold.out ?_
    refine' LCg.CompSrc.ledger (ax := lk) (its := vsK.toArray) rfl ?F ?N ?hm ?hz ?_
    (case F => k_asm)
    (case N => k_asm)
    (case hm => k_mem)
    (case hz => exact sz_line (by omega))
    intro g9
    refine compU (fun n ys => Hold (IntsAre ys ((Ks.take n).map fun (K : Nat) => Int.fdiv (K : Int) (10 ^ x.toNat)))) (.inr ⟨_, by k_mem, rfl, _, rfl⟩) (Hold.out .nil) ?_ ?_
    · rintro n v I oI9 Ca oC D m₂ ys h tk E' hjn hP hG hCa hx F9 N9
      obtain ⟨K, tK, rfl, hKi⟩ := keys_get (Hold.in hIK) (by simpa using hP)
      have hKlt := hKb K (List.mem_of_getElem? hKi)
      k_steps
      exact cend (by k_asm) (by k_asm) (fun _ hp => hp) (quot_snoc hG hKi)
    intro ys hG D h8 tk8 F8 N8 off8
    rw [List.size_toArray, hlK, List.take_length] at hG
    clear F9 N9
    k_steps
    refine Hold.out ?_
    with_reducible rename News _ _ _ _ => N3
    refine' c_unlike ⟨_, News.get N3 (.head _), rfl, _, rfl⟩ (Hold.in hG) (by rw [List.length_map]; omega) ?x1 ?x2 ?x3 ?x4 ?x5 ?_
    walk_at "law side"
    k_whole
    intro t' h' tk' kE
    walk_at "mine ext"
    k_steps
    with_reducible rename Fr _ _ _ _ => F2
    with_reducible rename News _ _ _ _ => N2
    show TurnOkG _ _ _ _ _ _ _
    refine turnG [(lp, _), (aC, _), (lk, _), (D7, _), (_, _), (_, oK2)] hbu2 F2 N2 (List.forall_mem_cons.mpr ⟨.tail _ (.tail _ (.tail _ (.tail _ (.tail _ (.tail _ (.tail _ (.head _))))))), List.forall_mem_cons.mpr ⟨.tail _ (.tail _ (.tail _ (.tail _ (.tail _ (.tail _ (.tail _ (.tail _ (.head _)))))))), List.forall_mem_nil _⟩⟩)
      (List.forall_mem_cons.mpr ⟨.tail _ (.head _), List.forall_mem_cons.mpr ⟨.tail _ (.tail _ (.head _)), List.forall_mem_cons.mpr ⟨.tail _ (.tail _ (.tail _ (.head _))), List.forall_mem_cons.mpr ⟨.tail _ (.tail _ (.tail _ (.tail _ (.head _)))), List.forall_mem_cons.mpr ⟨.tail _ (.tail _ (.tail _ (.tail _ (.tail _ (.head _))))), List.forall_mem_cons.mpr ⟨.tail _ (.tail _ (.tail _ (.tail _ (.tail _ (.tail _ (.head _)))))), List.forall_mem_nil _⟩⟩⟩⟩⟩⟩)
      (List.forall_mem_cons.mpr ⟨hnw (lp, _) (.head _), List.forall_mem_cons.mpr ⟨hnw (aC, _) (.tail _ (.head _)), List.forall_mem_cons.mpr ⟨hnw (lk, _) (.tail _ (.tail _ (.head _))), List.forall_mem_cons.mpr ⟨hnw (D7, _) (.tail _ (.tail _ (.tail _ (.head _)))), List.forall_mem_cons.mpr ⟨hnw (_, oP) (.tail _ (.tail _ (.tail _ (.tail _ (.head _))))), List.forall_mem_cons.mpr ⟨hnw (_, oK2) (.tail _ (.tail _ (.tail _ (.tail _ (.tail _ (.head _)))))), List.forall_mem_nil _⟩⟩⟩⟩⟩⟩)
      ⟨_, ex_int rfl (by rw [dueN_succ, getD_of hxi, Int.natCast_add]), fun y h1 => by simp only [if_neg h1], rfl, ⟨_, by assumption⟩⟩)
  rintro m₁ n₁ h7 tk7 G7 ⟨oP, ⟨td, hm1⟩, hm2, rfl, -⟩ hbu2 F7' N7'
  obtain rfl := known1 (Str.ofString "due") hm1 hm2
  clear hm1 hm2 N4
  have hdue : dueN Ks ct vsC.length = ((Ks.map fun K => pathOf (names K ct)).foldl (climb 12) []).length := by
    rw [folders_is C hKb, hlC]; rfl
  dsimp only

  w_top off
  k_steps
  refine Hold.out ?_
  with_reducible rename News _ _ _ _ => N3
  refine' c_folders ⟨_, News.get N3 (by k_mem : (lp, W.listOf vsP.toArray kP) ∈ _), rfl, _, rfl⟩ (Hold.in hSP) (by rw [List.length_map]; omega) (far_up C) (up_short C) ?x1 ?x2 ?x3 ?x4 ?x5 ?_
  walk_at "law side"
  k_whole
  intro t' h' tk' kE
  rw [← hdue]
  walk_at "mine ext"
  k_steps
  rw [beq_self_eq_true]
  with_reducible rename Fr _ _ _ _ => Fend
  exact hQ9 _ _ _ _ Fend (bare_of hg (hbu.trans hbu2))

end
end Mine
theorem PySem.Challenge.cw_pd0141_01_holds : PySem.Challenge.rw_pd0141_01.Holds := by
  exact Mine.law_holds

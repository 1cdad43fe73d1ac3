import PyProof.Rows.All
import Wide.All
import OpenK.AllK
import Wide.FinOn
import PySem.Challenge.RW_mq0207_01
set_option Elab.async false
set_option compiler.extract_closed false

section
open PySem PySem.W PyProof.Rows
namespace Mine
set_option maxRecDepth 100000
set_option maxHeartbeats 8000000
open_top hd for PySem.Challenge.rw_mq0207_01
end Mine
end

section
open PySem PySem.W PyProof.Rows
namespace Mine
set_option maxRecDepth 100000
set_option maxHeartbeats 8000000
theorem filled : Challenge.rw_mq0207_01.prog = Challenge.rw_mq0207_01.prog ∧ hd.heap_39 = hd.heap_39 := by
  k_fill
  exact ⟨rfl, rfl⟩

/-- the whole heap is kept -/
def Keeps (h h' : Heap) : Prop := ∀ b o, h.get? b = some o → h'.get? b = some o
theorem Keeps.trans {a b c : Heap} (h : Keeps a b) (g : Keeps b c) : Keeps a c := fun x o e => g x o (h x o e)
theorem Keeps.refl (a : Heap) : Keeps a a := fun _ _ e => e

theorem callP {prog : Program} {w : World} {A₀ A : Around} {s : Shared} {base h₀ : Heap} {outer : List Env} {L : Addr} {m : Str → Option Value} {env : Env} {K : Frag} {p : Program} {loose : List Str} {mean : ExcName → Option Value} {mg mb : Str → Option Value}
    {R : Result → Shared → Prop} {name qual : Str} {params : Arguments} {body : List Stmt} {scope : Scope} {dV kV doc pm cdv ct oc : Value} {an od : Option Addr} {osl : Array (Option Value)} {f : Addr} {args : Args} {binds : List (Str × Value)}
    (B : Below A₀ base outer h₀) (F : Fr h₀ L s.heap m) (X₀ : K.In h₀) (T : Top p loose mean mg mb h₀) (hA : A.frames = some (env :: outer)) (hf : env.frame = some L) (hke : env.scope.kind = .function)
    (ho : K.lookup f = some ⟨oc, od, .func (fnOf name qual params body scope dV kV doc pm an cdv ct), osl⟩) (hcd : codeIn K cdv qual = true) (hroom : A.depth < recursionLimit)
    (hbind : BindsTo s (fnOf name qual params body scope dV kV doc pm an cdv ct) args binds) (hloc : ∀ y ∈ binds, scope.names.lookup y.1 = some .local)
    (h : ∀ g L' h₁, g = s.heap → Fr g L' h₁ (fun y => binds.reverse.lookup y) → News g L' h₁ [] → Below A base (env :: outer) g → K.In g → Top p loose mean mg mb g →
      wpAny (model prog w) (A.deeper (envOf qual scope L' f cdv)) (execs body (envOf qual scope L' f cdv))
        (fun fl s' => R (.ok (.ret (match fl with | .ret v => v | _ => .none))) s')
        (fun e s' => wpAny (model prog w) (A.deeper (envOf qual scope L' f cdv)) (leaving (envOf qual scope L' f cdv) e) (fun _ s'' => R (.error e) s'') (fun e' s'' => R (.error e') s'') s')
        { s with heap := h₁, toks := s.toks + binds.length })
    (hco : scope.isCoroutine = false) (hgen : scope.isGenerator = false) (hk : scope.kind = .function)
    (hcell : ∀ x ∈ scope.names, x.2 ≠ .cell) : codeAny (model prog w) A (.call (.ref f) args) R s := by
  refine codeAny_call_def (fd := fnOf name qual params body scope dV kV doc pm an cdv ct) (body := body) (binds := binds) hroom ((X₀.keeps F.keep) _ _ ho) rfl (T.nolimit.keeps F.keep) (codeRec_of (X₀.keeps F.keep) hcd) rfl hbind hcell hloc (fun h₁ hns hk₁ => ?_) hco hgen hk
  have B₁ := pushX B F hf hke
  have B₂ : Below A base (env :: outer) s.heap := ⟨hA, B₁.stays, B₁.frames⟩
  exact h s.heap s.heap.objs.size h₁ rfl ⟨hns, hk₁, Nat.le_refl _⟩ News.nil B₂ (X₀.keeps F.keep) (T.keeps F.keep)

/-- what a call stands in -/
structure Ok (w : World) (p : Program) (loose : List Str) (mean : ExcName → Option Value) (mg mb : Str → Option Value) (A : Around) (h : Heap) (n u : Nat) : Prop where
  out : ∃ A₀ base outer h₀ L m env, Below A₀ base outer h₀ ∧ Fr h₀ L h m ∧ (hd.heap_39 w.params).In h₀ ∧ Top p loose mean mg mb h₀ ∧ A.frames = some (env :: outer) ∧ env.frame = some L ∧ env.scope.kind = .function
  handled : A.handled = none
  depth : A.depth + n < recursionLimit
  units : A.units + u < cLine
theorem Fr.keeps' {h₀ h h' : Heap} {L : Addr} {m : Str → Option Value} (F : Fr h₀ L h m) (k : Keeps h h') : Fr h₀ L h' m := by
  obtain ⟨⟨oL, es, ep, hL, r⟩, kk, ab⟩ := F
  exact ⟨⟨oL, es, ep, k _ _ hL, r⟩, fun b o e => k b o (kk b o e), ab⟩
theorem News.keeps' {h₀ h h' : Heap} {L : Addr} {news : List (Addr × Obj)} (N : News h₀ L h news) (k : Keeps h h') : News h₀ L h' news :=
  fun q hq => ⟨k _ _ (N q hq).1, (N q hq).2⟩

/-- a call of a def of the text, its whole heap kept -/
def Cl (prog : Program) (w : World) (p : Program) (loose : List Str) (mean : ExcName → Option Value) (mg mb : Str → Option Value) (f : Addr) (n u : Nat) (pre : Heap → Prop) (vs : List Value) (Out : Heap → Heap → Value → Prop) : Prop :=
  ∀ (A : Around) (s : Shared) (Q E : Value → Shared → Prop), Ok w p loose mean mg mb A s.heap n u → pre s.heap →
    (∀ r h' tk', Keeps s.heap h' → Out s.heap h' r → Q r { s with heap := h', toks := tk' }) →
    wpAny (model prog w) A (call (.ref f) vs) Q E s
theorem Cl.enter {prog : Program} {w : World} {p : Program} {loose : List Str} {mean : ExcName → Option Value} {mg mb : Str → Option Value} {f : Addr} {n u : Nat} {pre : Heap → Prop} {vs : List Value} {Out : Heap → Heap → Value → Prop}
    {name qual : Str} {params : Arguments} {body : List Stmt} {scope : Scope} {dV kV doc pm cdv ct oc : Value} {an od : Option Addr} {osl : Array (Option Value)} {binds : List (Str × Value)}
    (ho : (hd.heap_39 w.params).lookup f = some ⟨oc, od, .func (fnOf name qual params body scope dV kV doc pm an cdv ct), osl⟩) (hcd : codeIn (hd.heap_39 w.params) cdv qual = true)
    (hbind : ∀ s, BindsTo s (fnOf name qual params body scope dV kV doc pm an cdv ct) ⟨vs, []⟩ binds) (hloc : ∀ y ∈ binds, scope.names.lookup y.1 = some .local)
    (hco : scope.isCoroutine = false) (hgen : scope.isGenerator = false) (hk : scope.kind = .function)
    (hcell : ∀ x ∈ scope.names, x.2 ≠ .cell)
    (h : ∀ (dp un : Nat) (gd : Option (List Code)) (outer : List Env) (base g : Heap) (L' : Addr) (h₁ : Heap) (s : Shared) (Q E : Value → Shared → Prop) (A : Around), g = s.heap → pre g → Fr g L' h₁ (fun y => binds.reverse.lookup y) → News g L' h₁ [] →
      A = { handled := none, depth := dp, frames := some outer, guards := gd, units := un } → Below A base outer g → (hd.heap_39 w.params).In g → Top p loose mean mg mb g → dp + n < recursionLimit → un + u < cLine →
      (∀ r h' tk', Keeps g h' → Out g h' r → Q r { s with heap := h', toks := tk' }) →
      wpAny (model prog w) (Around.deeper { handled := none, depth := dp, frames := some outer, guards := gd, units := un } (envOf qual scope L' f cdv)) (execs body (envOf qual scope L' f cdv))
        (fun fl s' => Q (match fl with | .ret v => v | _ => .none) s')
        (fun e s' => wpAny (model prog w) (Around.deeper { handled := none, depth := dp, frames := some outer, guards := gd, units := un } (envOf qual scope L' f cdv)) (leaving (envOf qual scope L' f cdv) e) (fun _ s'' => E e s'') (fun e' s'' => E e' s'') s')
        { s with heap := h₁, toks := s.toks + binds.length }) : Cl prog w p loose mean mg mb f n u pre vs Out := by
  intro A s Q E ok hpre hret
  obtain ⟨⟨A₀, base, outer, h₀, L, m, env, B, F, X, T, hA, hf, hke⟩, hh, hdp, hun⟩ := ok
  obtain ⟨hd', dp, fr, gd, un⟩ := A
  dsimp only at hh hA hdp hun
  subst hh
  subst hA
  refine wpAny_call ?_
  refine callP B F X T rfl hf hke ho hcd (by show dp < _; omega) (hbind s) hloc ?_ hco hgen hk hcell
  intro g L' h₁ hg F' N' B' X' T'
  exact h dp un gd (env :: outer) base g L' h₁ s Q E _ hg (hg ▸ hpre) F' N' rfl B' X' T' hdp hun (fun r h' tk' k o => hret r h' tk' (hg ▸ k) (hg ▸ o))
/-- a contract at work -/
theorem Cl.use {prog : Program} {w : World} {p : Program} {loose : List Str} {mean : ExcName → Option Value} {mg mb : Str → Option Value} {f : Addr} {n u : Nat} {pre : Heap → Prop} {vs : List Value} {Out : Heap → Heap → Value → Prop}
    {A A₀ : Around} {base h₀ : Heap} {outer : List Env} {L : Addr} {m : Str → Option Value} {env : Env} {news : List (Addr × Obj)} {s : Shared} {Q E : Value → Shared → Prop}
    (C : Cl prog w p loose mean mg mb f n u pre vs Out) (B : Below A₀ base outer h₀) (F : Fr h₀ L s.heap m) (N : News h₀ L s.heap news) (X : (hd.heap_39 w.params).In h₀) (T : Top p loose mean mg mb h₀)
    (hh : A.handled = none) (hA : A.frames = some (env :: outer)) (hf : env.frame = some L) (hk : env.scope.kind = .function) (hd : A.depth + n < recursionLimit) (hu : A.units + u < cLine) (hp : pre s.heap)
    (k : ∀ r h' tk', Fr h₀ L h' m → News h₀ L h' news → Keeps s.heap h' → Out s.heap h' r → Q r { s with heap := h', toks := tk' }) : wpAny (model prog w) A (call (.ref f) vs) Q E s :=
  C A s Q E ⟨⟨A₀, base, outer, h₀, L, m, env, B, F, X, T, hA, hf, hk⟩, hh, hd, hu⟩ hp fun r h' tk' kk o => k r h' tk' (Fr.keeps' F kk) (News.keeps' N kk) kk o
end Mine
end

section
open PySem PySem.W PyProof.Rows
namespace Mine
theorem freshC1 : True := by
  w_top off
  trivial
set_option maxRecDepth 100000
set_option maxHeartbeats 8000000
def modeF (x : Int) : Int := 65536 * x + 4096 * ((x.fdiv 3).fmod 16) + (x.fdiv 48 * 585).fmod 4096
def rightsF (x : Int) : Int := (x.fdiv 48 * 585).fmod 4096
def kinds : Str := Str.ofString "-?bcdlps"
def kindTab : Str := Str.ofString "?pc?d?b?-?l?s???"
def stepF (R r : Int) (k : Nat) : Int := 16 * r + 4 * (((R.fdiv (8 ^ k)).fmod 8).fdiv 2) + 2 * (((R.fdiv (8 ^ k)).fmod 8).fmod 2) + (((R.fdiv (8 ^ k)).fmod 8) + (((R.fdiv 512).fdiv (2 ^ k)).fmod 2)).fmod 2
def rankF (x : Int) : Int := stepF (rightsF x) (stepF (rightsF x) (stepF (rightsF x) (Txt.find (Str.ofString "-?bcdlps") (Txt.item (Str.ofString "?pc?d?b?-?l?s???") ((x.fdiv 3).fmod 16))) 2) 1) 0
theorem fmod16 (y : Int) : ∃ n : Nat, n < 16 ∧ y.fmod 16 = n := by
  have h1 : 0 ≤ y.fmod 16 := Int.fmod_nonneg_of_pos _ (by decide)
  have h2 : y.fmod 16 < 16 := Int.fmod_lt_of_pos _ (by decide)
  exact ⟨(y.fmod 16).toNat, by omega, by omega⟩
theorem kind_cases : ∀ n : Nat, n < 16 → Txt.find (Str.ofString "-?bcdlps") (Txt.item (Str.ofString "?pc?d?b?-?l?s???") (n : Int)) ≠ -1 := by decide +kernel
theorem kind_found (x : Int) : ¬ Txt.find (Str.ofString "-?bcdlps") (Txt.item (Str.ofString "?pc?d?b?-?l?s???") ((x.fdiv 3).fmod 16)) = -1 := by
  obtain ⟨n, h, e⟩ := fmod16 (x.fdiv 3)
  rw [e]
  exact kind_cases n h
section
variable {prog p : Program} {w : World} {loose : List Str} {mean : ExcName → Option Value} {mg mb : Str → Option Value}
theorem cl_mode (x : Int) (t : Tok) :
    Cl prog w p loose mean mg mb 82 1 20 (fun _ => True) [.int x t] (fun _ _ r => ∃ t, r = .int (modeF x) t) := by
  refine' Cl.enter ?k6 ?k7 ?k9 ?kB ?c2 ?c3 ?c4 ?c5 ?_
  case k6 => k_is
  case k7 => k_is
  case k9 => exact fun _ => BindsTo.of_eq rfl
  case c5 => decide
  case kB => exact locs rfl
  case c2 => exact rfl
  case c3 => exact rfl
  case c4 => exact rfl
  intro dp un gd outer base g L' h₁ s Q E A hg hpre F' N' hA B' X' T' hdp hun hret
  k_fold
  k_steps
  exact hret _ _ _ (Fr.keep (by assumption)) ⟨_, rfl⟩
theorem cl_three (x y : Str) (t u : Tok) :
    Cl prog w p loose mean mg mb 28 1 20 (fun _ => True) [.str x t, .str y u] (fun _ _ r => ∃ t, r = .int (b2i (decide (y.cps.toList < x.cps.toList)) - b2i (decide (x.cps.toList < y.cps.toList))) t) := by
  refine' Cl.enter ?k6 ?k7 ?k9 ?kB ?c2 ?c3 ?c4 ?c5 ?_
  case k6 => k_is
  case k7 => k_is
  case k9 => exact fun _ => BindsTo.of_eq rfl
  case c5 => decide
  case kB => exact locs rfl
  case c2 => exact rfl
  case c3 => exact rfl
  case c4 => exact rfl
  intro dp un gd outer base g L' h₁ s Q E A hg hpre F' N' hA B' X' T' hdp hun hret
  k_fold
  k_steps
  exact hret _ _ _ (Fr.keep (by assumption)) ⟨_, rfl⟩
theorem cl_rank (x : Int) (t : Tok) :
    Cl prog w p loose mean mg mb 89 1 20 (fun _ => True) [.int x t] (fun _ _ r => ∃ t, r = .int (rankF x) t) := by
  refine' Cl.enter ?k6 ?k7 ?k9 ?kB ?c2 ?c3 ?c4 ?c5 ?_
  case k6 => k_is
  case k7 => k_is
  case k9 => exact fun _ => BindsTo.of_eq rfl
  case c5 => decide
  case kB => exact locs rfl
  case c2 => exact rfl
  case c3 => exact rfl
  case c4 => exact rfl
  intro dp un gd outer base g L' h₁ s Q E A hg hpre F' N' hA B' X' T' hdp hun hret
  k_fold
  k_steps
  · exact absurd (by assumption) (kind_found x)
  · exact hret _ _ _ (Fr.keep (by assumption)) ⟨_, rfl⟩
end
end Mine
end

section
open PySem PySem.W PyProof.Rows PySem.Calls
namespace Mine
set_option maxRecDepth 100000
set_option maxHeartbeats 8000000
section
variable {prog : Program} {w : World} {A : Around} {E : Value → Shared → Prop} {s : Shared}
open AutoSeq1 (wpAny_loadPart')

theorem next_tup_item {it l : Addr} {i : Nat} {items} {x : Value} {Q : Value → Shared → Prop} (hit : s.heap.IsTupleIter it l i) (hl : s.heap.IsTuple l items) (hx : items[i]? = some x)
    (hQ : ∀ h', h'.IsTupleIter it l (i + 1) → Heap.SameBut it s.heap h' → Q x { s with heap := h' }) : wpAny (model prog w) A (Builtin.SmallTypes.nextOf (.ref it)) Q E s := by
  obtain ⟨o, ho, hc, hd⟩ := id hit
  obtain ⟨ol, hol, _, nl, hdl⟩ := hl
  unfold Builtin.SmallTypes.nextOf
  refine wpAny_bind (wpAny_callSpecial?_slot (name := Str.ofString "__next__") hit.typeIs PySem.F.slot_tuple_iterator_next
    (wpAny_call_entry PySem.F.slot_tuple_iterator_next hit.typeIs PySem.F.entry_tuple_iterator_next ?_ (PySem.F.args_tuple_iterator_next_1 _)))
  show wpAny _ _ (field (.ref it) 0 >>= _) _ _ s
  refine wpAny_bind (wpAny_field ho hd (x := .ref l) rfl ?_)
  show wpAny _ _ (if (Value.ref l == Value.none) = true then _ else _) _ _ s
  rw [if_neg (show ¬ ((Value.ref l == Value.none) = true) from Bool.false_ne_true)]
  show wpAny _ _ (field (.ref it) 1 >>= _) _ _ s
  refine wpAny_bind (wpAny_field ho hd (x := .int i 0) rfl ?_)
  show wpAny _ _ (seqItems? (.ref l) >>= _) _ _ s
  refine wpAny_bind (wpAny_seqItems hol hdl ?_)
  simp only [Int.toNat_natCast, hx]
  refine wpAny_bind (wpAny_setField ho hd (by simp) (wpAny_pure ⟨x, rfl, wpAny_pure (hQ _ ?_ (Heap.SameBut.update ..))⟩))
  exact ⟨_, Heap.get?_update_self _ ho (Obj.isFreed_of_fields (Obj.data_mapFields hd _)), (Obj.cls_mapFields ..).trans hc, by
    rw [Obj.data_mapFields hd]; simp [rawInt]⟩

theorem next_tup_end {it l : Addr} {i : Nat} {items} {Q : Value → Shared → Prop} (hh : A.handled = none) (hit : s.heap.IsTupleIter it l i) (hl : s.heap.IsTuple l items) (hx : items[i]? = none)
    (hE : ∀ h' e, Heap.ExtBut it s.heap h' → (∃ o, h'.get? e = some o ∧ o.cls = .type "StopIteration") → E (.ref e) { s with heap := h' }) : wpAny (model prog w) A (Builtin.SmallTypes.nextOf (.ref it)) Q E s := by
  obtain ⟨o, ho, hc, hd⟩ := id hit
  obtain ⟨ol, hol, _, nl, hdl⟩ := hl
  unfold Builtin.SmallTypes.nextOf
  refine wpAny_bind (wpAny_callSpecial?_slot (name := Str.ofString "__next__") hit.typeIs PySem.F.slot_tuple_iterator_next
    (wpAny_call_entry PySem.F.slot_tuple_iterator_next hit.typeIs PySem.F.entry_tuple_iterator_next ?_ (PySem.F.args_tuple_iterator_next_1 _)))
  show wpAny _ _ (field (.ref it) 0 >>= _) _ _ s
  refine wpAny_bind (wpAny_field ho hd (x := .ref l) rfl ?_)
  show wpAny _ _ (if (Value.ref l == Value.none) = true then _ else _) _ _ s
  rw [if_neg (show ¬ ((Value.ref l == Value.none) = true) from Bool.false_ne_true)]
  show wpAny _ _ (field (.ref it) 1 >>= _) _ _ s
  refine wpAny_bind (wpAny_field ho hd (x := .int i 0) rfl ?_)
  show wpAny _ _ (seqItems? (.ref l) >>= _) _ _ s
  refine wpAny_bind (wpAny_seqItems hol hdl ?_)
  simp only [Int.toNat_natCast, hx]
  refine wpAny_bind (wpAny_rule (wpAny_bind (wpAny_setField ho hd (by simp) ?_)))
  show wpAny _ _ (newExc (.type "StopIteration") [] >>= _) _ _ _
  refine wpAny_bind ?_
  simp only [newExc, newTuple]
  refine wpAny_bind (wpAny_newObj_type ?_ (by size_fits))
  refine wpAny_bind (m := firstArgMember _ _) (wpAny_of_eq (a := Value.none) (by first | rfl | (simp only [firstArgMember]; rfl)) ?_)
  refine wpAny_newObj_type ?_ (by size_fits)
  simp only [raiseNew]
  refine wpAny_bind (wpAny_handled ?_)
  first | rw [show A.in1.handled = none from hh] | rw [hh]
  refine wpAny_bind (wpAny_pure (wpAny_throw ?_))
  exact hE _ _ (((Heap.SameBut.update ..).extBut.push _).push _) ⟨_, Heap.get?_push_size _ rfl, rfl⟩

theorem draws_tup (hh : A.handled = none) (it l : Addr) (hne : l ≠ it) (items : Array Value) :
    Draws prog w A it [it, l] items.size (fun i v => items[i]? = some v) (fun i h => h.IsTupleIter it l i ∧ h.IsTuple l items) where
  live := fun _ _ st => let ⟨o, ho, _⟩ := st.1; ⟨o, ho⟩
  frame := fun _ _ _ st hk => ⟨st.1.at fun o e => hk it (by simp) o e, st.2.at fun o e => hk l (by simp) o e⟩
  item := fun i s Q E hi st hQ => by
    refine next_tup_item st.1 st.2 (x := items[i]) (by simp [hi]) fun h' hit' hs' => ?_
    exact hQ _ h' s.toks (by simp [hi]) ⟨hit', st.2.extBut hs'.extBut hne⟩ hs'
  done := fun s Q E st hE => next_tup_end hh st.1 st.2 (by simp) hE

theorem meets_enum_newT (l : Addr) (items : Array Value) (n : Nat) (dct : Option Addr) (sl : Array (Option Value)) :
    Meets (Builtin.«enumerate.__new__» ⟨[.type "enumerate", .ref l], []⟩) (fun _ R s => s.heap.get? l = some { cls := .type "tuple", dict := dct, data := .seq items n, slots := sl } ∧
      R (.ok (.ret (.ref (s.heap.push { cls := .type "tuple_iterator", data := .fields #[.ref l, .int 0 0] }).objs.size)))
        { s with heap := (s.heap.push { cls := .type "tuple_iterator", data := .fields #[.ref l, .int 0 0] }).push { cls := .type "enumerate", data := .fields #[.none, .bool false, .ref s.heap.objs.size, rawInt 0, .none, .none] } }) :=
  .of_wp fun prog w A R s h => by
    obtain ⟨hp, g, d, tk, os⟩ := s; obtain ⟨hl, h⟩ := h
    have hsub := sub_enumerate
    have hL : Heap.IsTuple (Shared.heap ⟨hp, g, d, tk, os⟩) l items := ⟨_, hl, rfl, n, rfl⟩
    wp_walk using wpAny_loadPart' hl
    refine wpAny_stack_any fun st => wpAny_pure ?_
    split
    · rename_i c _ _ _ _ _
      cases (c == Value.type "enumerate")
      · wp_walk using wpAny_loadPart' hl, wpAny_pyIter_tuple hL
        exact ⟨_, rfl, h⟩
      · wp_walk using wpAny_loadPart' hl, wpAny_pyIter_tuple hL
        exact ⟨_, rfl, h⟩
    · wp_walk using wpAny_loadPart' hl, wpAny_pyIter_tuple hL
      exact ⟨_, rfl, h⟩

theorem call_enum_tuple {l : Addr} {items : Array Value} {Q : Value → Shared → Prop} (hL : s.heap.IsTuple l items)
    (h : ∀ h', IsEnum h' (s.heap.objs.size + 1) s.heap.objs.size 0 .none → h'.IsTupleIter s.heap.objs.size l 0 → h'.objs.size = s.heap.objs.size + 2 →
      (∀ b o, s.heap.get? b = some o → h'.get? b = some o) → Q (.ref (s.heap.objs.size + 1)) { s with heap := h' }) :
    wpAny (model prog w) A (call (.type "enumerate") [.ref l]) Q E s := by
  obtain ⟨⟨c, dct, dt, sl⟩, hl, hc, n, hd⟩ := hL
  replace hc : c = .type "tuple" := hc
  replace hd : dt = .seq items n := hd
  subst hc hd
  refine callType_new PySem.F.called_enumerate (by decide) (PySem.F.typeCall_enumerate_1 _) (PySem.F.newCall_enumerate_1 _) (fun obj => PySem.F.args_object_init_2 obj _) PySem.F.entry_enumerate_new
    (meets_enum_newT l items n dct sl) ⟨hl, ?_⟩
  have hz : (s.heap.push { cls := .type "tuple_iterator", data := .fields #[.ref l, .int 0 0] }).objs.size = s.heap.objs.size + 1 := Heap.size_push ..
  show _ ∧ _
  rw [hz]
  have he : IsEnum ((s.heap.push { cls := .type "tuple_iterator", data := .fields #[.ref l, .int 0 0] }).push
      { cls := .type "enumerate", data := .fields #[.none, .bool false, .ref s.heap.objs.size, rawInt 0, .none, .none] }) (s.heap.objs.size + 1) s.heap.objs.size 0 .none := by
    have := Heap.get?_push_size (s.heap.push { cls := .type "tuple_iterator", data := .fields #[.ref l, .int 0 0] })
      (o := { cls := .type "enumerate", data := .fields #[.none, .bool false, .ref s.heap.objs.size, rawInt 0, .none, .none] }) rfl
    rw [hz] at this; exact this
  refine ⟨⟨_, he, rfl⟩, h _ he ⟨_, Heap.get?_push_of_some _ (Heap.get?_push_size _ rfl), rfl, rfl⟩ (by rw [Heap.size_push, hz]) fun b o x => Heap.get?_push_of_some _ (Heap.get?_push_of_some _ x)⟩
end

section
variable {prog : Program} {w : World} {A : Around} {E : Value → Shared → Prop} {s : Shared} {env : Env} {h₀ : Heap} {body orelse : List Stmt} {Q : Flow → Shared → Prop} {K : Frag}
/-- for .. in enumerate(a tuple of the top) -/
theorem enum_K {elts : List Expr} {k : Nat} {pos : Pos} {ax : Addr} {lo : Obj} {vs : List Value} {xs : List Itm} {n : Nat} {m₀ : Str → Option Value} {news : List (Addr × Obj)}
    (hh : A.handled = none) (F : Fr h₀ env.locals s.heap m₀) (N : News h₀ env.locals s.heap news) (X₀ : K.In h₀) (hk : K.lookup ax = some lo) (hc : lo.cls = .type "tuple") (hd : lo.data = .seq vs.toArray n) (hx : enumItems 0 vs = xs)
    (rest₀ : ∀ I : Addr, (∀ p ∈ news, p.1 < I) → ItemsRest prog w A E h₀ env (.Tuple elts k pos) body Q s [(I + 1, "enumerate"), (I, "tuple_iterator")] [] xs m₀ news) :
    wpAny (model prog w) A (call (.type "enumerate") [.ref ax]) (fun xv s₁ => wpAny (model prog w) A (pyIter xv) (fun it s₂ => TurnsAt prog w A h₀ env (.Tuple elts k pos) body Q E it s₂) E s₁) E s := by
  subst hx
  have hg : h₀.get? ax = some lo := X₀ _ _ hk
  have hax : s.heap.get? ax = some lo := F.keep _ _ hg
  have hl : s.heap.IsTuple ax vs.toArray := ⟨lo, hax, hc, n, hd⟩
  have hlt : ax < s.heap.objs.size := Heap.lt_size hax
  have hLs : env.locals < s.heap.objs.size := F.ns.lt
  have hne : ax ≠ s.heap.objs.size := Nat.ne_of_lt hlt
  refine call_enum_tuple hl fun h' hE hI hsz hk => ?_
  refine wpAny_pyIter_enum hE ?_
  refine ktg_core (tk0 := s.toks) (keep := []) (KTurns.ofWalksU (WalksT.enumerateD (draws_tup (A := A.in1) hh s.heap.objs.size ax hne vs.toArray) (s.heap.objs.size + 1) (Nat.succ_ne_self _) ?_ (by simp)).toU) (by simp [enumItems_length]) ?_ ?_ ?_ ?_ ?_ ?_ ?_ ?_ (F.keeps hk) (N.grown hk) trivial (rest₀ _ fun p hp => Heap.lt_size (N p hp).1)
  · intro hm
    have : s.heap.objs.size + 1 = s.heap.objs.size ∨ s.heap.objs.size + 1 = ax := by simpa using hm
    rcases this with e | e
    · exact Nat.succ_ne_self _ e
    · exact ktu_ne 1 hlt e.symm
  · rintro i v h ⟨T, vals, rfl, ⟨t, x, hx, rfl⟩, hT⟩
    refine ⟨_, enumItems_get vs 0 i (v := x) (by simpa using hx), T, t, rfl, ?_⟩
    show IsTup h T #[.int ((0 + i : Nat) : Int) t, x]
    rw [Nat.zero_add]
    exact hT
  · rintro i h ⟨⟨old, he⟩, ⟨oi, hoi, hic, _⟩, _⟩
    have he' : ∃ oe : Obj, h.get? (s.heap.objs.size + 1) = some oe ∧ oe.cls = .type "enumerate" := ⟨_, he, rfl⟩
    obtain ⟨oe, h1, h2⟩ := he'
    refine ⟨[(s.heap.objs.size + 1, oe), (s.heap.objs.size, oi)], ⟨⟨rfl, h2⟩, ⟨rfl, hic⟩, trivial⟩, fun p hp => ?_⟩
    rcases List.mem_cons.mp hp with rfl | hp
    · exact h1
    · rw [List.mem_singleton.mp hp]; exact hoi
  · intro b hb
    have hb' : b = s.heap.objs.size + 1 ∨ b = s.heap.objs.size := by simpa using hb
    rcases hb' with rfl | rfl
    · exact ⟨by simp, ktu_new F (Nat.le_add_right _ _)⟩
    · exact ⟨by simp, ktu_new F (Nat.le_refl _)⟩
  · intro b hb
    simpa using hb
  · intro b hb
    have hb' : b = s.heap.objs.size + 1 ∨ b = s.heap.objs.size ∨ b = ax := by simpa using hb
    rcases hb' with rfl | rfl | rfl
    · exact .inl (by simp)
    · exact .inl (by simp)
    · exact .inr (.inr ⟨lo, hg⟩)
  · intro hI'
    have hb' : env.locals = s.heap.objs.size + 1 ∨ env.locals = s.heap.objs.size ∨ env.locals = ax := by simpa using hI'
    rcases hb' with e | e | e
    · exact ktu_ne 1 hLs e
    · exact Nat.ne_of_lt hLs e
    · exact absurd (Heap.lt_size hg) (Nat.not_lt.mpr (e ▸ F.above))
  · intro p hp hI'
    have hb' : p.1 = s.heap.objs.size + 1 ∨ p.1 = s.heap.objs.size := by simpa using hI'
    have hlp := Heap.lt_size (N p hp).1
    rcases hb' with e | e
    · exact ktu_ne 1 hlp e
    · exact Nat.ne_of_lt hlp e
  · exact ⟨⟨.none, hE⟩, hI, hl.at fun o e => hk ax o e⟩

/-- the end of a turn -/
def ElseEnd (h₀ : Heap) (L : Addr) (s : Shared) (I : Addr) (it : Obj) (rest : (Str → Option Value) → List (Addr × Obj) → Prop) (s₃ : Shared) : Prop :=
  ∃ h' tk' m' news', s₃ = { s with heap := h', toks := tk' } ∧ Fr h₀ L h' m' ∧ News h₀ L h' ((I, it) :: news') ∧ (∀ p ∈ news', p.1 ≠ I) ∧ rest m' news'
theorem else_end {L : Addr} {I : Addr} {it : Obj} {rest : (Str → Option Value) → List (Addr × Obj) → Prop} {h' : Heap} {tk' : Nat} {m' : Str → Option Value} {news' : List (Addr × Obj)} (F : Fr h₀ L h' m') (N : News h₀ L h' ((I, it) :: news')) (off : ∀ p ∈ news', p.1 ≠ I) (r : rest m' news') :
    ElseEnd h₀ L s I it rest { s with heap := h', toks := tk' } := ⟨h', tk', m', news', rfl, F, N, off, r⟩
/-- the turns of a for with an else over a tuple of the top -/
def ElseRest (prog : Program) (w : World) (A : Around) (E : Value → Shared → Prop) (h₀ : Heap) (env : Env) (target : Expr) (body orelse : List Stmt) (Q : Flow → Shared → Prop) (s : Shared) (I : Addr) : List Value → (Str → Option Value) → List (Addr × Obj) → Prop
  | [], m, news => ∀ h tk, Fr h₀ env.locals h m → News h₀ env.locals h news → wpAny (model prog w) A (execs orelse env) Q E { s with heap := h, toks := tk }
  | v :: r, m, news => ∀ h tk it, it.cls = .type "tuple_iterator" → Fr h₀ env.locals h m → News h₀ env.locals h ((I, it) :: news) →
      wpAny (model prog w) A (assign target env v) (fun _ s₂ => wpAny (model prog w) A (execs body env) (fun f s₃ => match f with
        | .ret u => Q (.ret u) s₃
        | .brk => Q .next s₃
        | _ => ElseEnd h₀ env.locals s I it (ElseRest prog w A E h₀ env target body orelse Q s I r) s₃) E s₂) E { s with heap := h, toks := tk }
theorem else_nil {target : Expr} {I : Addr} {m : Str → Option Value} {news : List (Addr × Obj)} (h : ∀ h tk, Fr h₀ env.locals h m → News h₀ env.locals h news → wpAny (model prog w) A (execs orelse env) Q E { s with heap := h, toks := tk }) :
    ElseRest prog w A E h₀ env target body orelse Q s I [] m news := h
theorem else_cons {target : Expr} {I : Addr} {v : Value} {r : List Value} {m : Str → Option Value} {news : List (Addr × Obj)} (h : ∀ h tk it, it.cls = .type "tuple_iterator" → Fr h₀ env.locals h m → News h₀ env.locals h ((I, it) :: news) →
      wpAny (model prog w) A (assign target env v) (fun _ s₂ => wpAny (model prog w) A (execs body env) (fun f s₃ => match f with
        | .ret u => Q (.ret u) s₃
        | .brk => Q .next s₃
        | _ => ElseEnd h₀ env.locals s I it (ElseRest prog w A E h₀ env target body orelse Q s I r) s₃) E s₂) E { s with heap := h, toks := tk }) :
    ElseRest prog w A E h₀ env target body orelse Q s I (v :: r) m news := h

theorem all_mono : ∀ {ws : List (Addr × String)} {k k' : List (Addr × Obj) → Prop}, AllObj ws k → (∀ its, k its → k' its) → AllObj ws k'
  | [], _, _, h, m => m _ h
  | _ :: _, _, _, h, m => fun o hc => all_mono (h o hc) fun _ x => m _ x
/-- a longer ledger asks less -/
theorem items_weak {target : Expr} {ws : List (Addr × String)} {keep small big : List (Addr × Obj)} {xs : List Itm} {m : Str → Option Value} (hs : ∀ p ∈ small, p ∈ big) (h : ItemsRest prog w A E h₀ env target body Q s ws keep xs m small) : ItemsRest prog w A E h₀ env target body Q s ws keep xs m big := by
  cases xs with
  | nil => exact fun h' tk F N => h h' tk F fun p hp => N p (hs p hp)
  | cons a r => exact fun v h' tk ha F => all_mono (h v h' tk ha F) fun its k N => k fun p hp => N p (by
      rcases List.mem_append.mp hp with hp | hp
      · exact List.mem_append_left _ hp
      · exact List.mem_append_right _ (hs p hp))

theorem for_else {target : Expr} {y : Str} {py pos : Pos} {ax : Addr} {lo : Obj} {vs : List Value} {n : Nat} {m₀ : Str → Option Value} {news : List (Addr × Obj)} (hh : A.handled = none)
    (F : Fr h₀ env.locals s.heap m₀) (N : News h₀ env.locals s.heap news) (X₀ : K.In h₀) (hk : K.lookup ax = some lo) (hc : lo.cls = .type "tuple") (hd : lo.data = .seq vs.toArray n)
    (hname : ∀ Q' : Value → Shared → Prop, Q' (.ref ax) s → wpAny (model prog w) A (eval (.Name y py) env) Q' E s)
    (rest₀ : ∀ I : Addr, (∀ p ∈ news, p.1 < I) → ElseRest prog w A E h₀ env target body orelse Q s I vs m₀ news)
    (hE : PassesOwn (model prog w) A env E) (hs : ∀ x, foldedSetIterable (.Name y py) env x = pure x := by intro _; rfl) :
    wpAny (model prog w) A (exec (.For target (.Name y py) body orelse pos) env) Q E s := by
  have hg : h₀.get? ax = some lo := X₀ _ _ hk
  have hax : s.heap.get? ax = some lo := F.keep _ _ hg
  have hl : s.heap.IsTuple ax vs.toArray := ⟨lo, hax, hc, n, hd⟩
  have hlt : ax < s.heap.objs.size := Heap.lt_size hax
  have hne : ax ≠ s.heap.objs.size := Nat.ne_of_lt hlt
  have hLs : env.locals < s.heap.objs.size := F.ns.lt
  refine wpAny_For (hname _ (wpAny_pyIter_tuple hl ?_)) hs
  have hIn : h₀.get? s.heap.objs.size = none := ktu_new F (Nat.le_refl _)
  refine codeAny_forLoop_any (fun k s' => ∃ h' tk m' news' i, s' = { s with heap := h', toks := tk } ∧ h'.IsTupleIter s.heap.objs.size ax i ∧ Fr h₀ env.locals h' m' ∧ News h₀ env.locals h' news' ∧ (∀ p ∈ news', p.1 ≠ s.heap.objs.size) ∧
    ElseRest prog w A E h₀ env target body orelse Q s s.heap.objs.size (vs.drop i) m' news' ∧ i ≤ vs.length ∧ k = vs.length + 1 - i) ?_ (vs.length + 1)
    ⟨_, s.toks, m₀, news, 0, rfl, ⟨_, Heap.get?_push_size _ rfl, rfl, rfl⟩, F.push _, fun p hp => ⟨Heap.get?_push_of_some _ (N p hp).1, (N p hp).2⟩, fun p hp => Nat.ne_of_lt (Heap.lt_size (N p hp).1), rest₀ _ fun p hp => Heap.lt_size (N p hp).1, Nat.zero_le _, rfl⟩
  rintro k s' ⟨h', tk, m', news', i, rfl, hit, F', N', hoff, hR, hi, rfl⟩
  have hl' : h'.IsTuple ax vs.toArray := ⟨lo, F'.keep _ _ hg, hc, n, hd⟩
  have nextF : ∀ h₁ : Heap, (∀ b o, b ≠ s.heap.objs.size → h'.get? b = some o → h₁.get? b = some o) → Fr h₀ env.locals h₁ m' ∧ News h₀ env.locals h₁ news' := fun h₁ hk₁ =>
    ⟨⟨F'.ns.at' fun o e => hk₁ _ o (Nat.ne_of_lt hLs) e, fun b o e => hk₁ b o (fun q => by rw [q, hIn] at e; cases e) (F'.keep b o e), F'.above⟩, fun p hp => ⟨hk₁ _ _ (hoff p hp) (N' p hp).1, (N' p hp).2⟩⟩
  by_cases hlt' : i < vs.length
  · have hx : vs.toArray[i]? = some vs[i] := by simp [hlt']
    refine wpAny_pyNext_tuple_item (s := { s with heap := h', toks := tk }) hit hl' hx fun h₁ hit₁ hs₁ => ?_
    obtain ⟨F₁, N₁⟩ := nextF h₁ fun b o hb e => (hs₁.2 b hb).trans e
    refine letGo_tupleiter (show Heap.IsTupleIter (Shared.heap { s with heap := h₁, toks := tk }) s.heap.objs.size ax (i + 1) from hit₁) ?_
    obtain ⟨it, hit0, hitc, hitd⟩ := hit₁
    have hdrop : vs.drop i = vs[i] :: vs.drop (i + 1) := List.drop_eq_getElem_cons hlt'
    rw [hdrop] at hR
    refine wpAny_mono (hR h₁ tk it hitc F₁ fun p hp => ?_) (fun _ s₂ h₂ => wpAny_mono h₂ (fun f s₃ h₃ => ?_) fun e s' he => hE e s' he) fun e s' he => hE e s' he
    · rcases List.mem_cons.mp hp with rfl | hp
      · exact ⟨hit0, Nat.ne_of_gt hLs, hIn⟩
      · exact N₁ p hp
    have go : ElseEnd h₀ env.locals s s.heap.objs.size it (ElseRest prog w A E h₀ env target body orelse Q s s.heap.objs.size (vs.drop (i + 1))) s₃ →
        ∃ j, j < vs.length + 1 - i ∧ ∃ h' tk m' news' i', s₃ = { s with heap := h', toks := tk } ∧ h'.IsTupleIter s.heap.objs.size ax i' ∧ Fr h₀ env.locals h' m' ∧ News h₀ env.locals h' news' ∧ (∀ p ∈ news', p.1 ≠ s.heap.objs.size) ∧
          ElseRest prog w A E h₀ env target body orelse Q s s.heap.objs.size (vs.drop i') m' news' ∧ i' ≤ vs.length ∧ j = vs.length + 1 - i' := by
      rintro ⟨h₄, tk₄, m₄, news₄, rfl, F₄, N₄, off₄, R₄⟩
      exact ⟨vs.length + 1 - (i + 1), by omega, h₄, tk₄, m₄, news₄, i + 1, rfl, ⟨it, (N₄ _ (.head _)).1, hitc, hitd⟩, F₄, fun p hp => N₄ p (.tail _ hp), off₄, R₄, hlt', rfl⟩
    cases f with
    | ret v => exact h₃
    | brk => exact h₃
    | cont => exact go h₃
    | next => exact go h₃
  · have hin : i = vs.length := by omega
    subst hin
    have hx : vs.toArray[vs.length]? = none := by simp
    refine wpAny_pyNext_tuple_end (s := { s with heap := h', toks := tk }) hh hit hl' hx fun h₁ hs₁ => ?_
    obtain ⟨F₁, N₁⟩ := nextF h₁ fun b o hb e => hs₁ b o hb e
    rw [List.drop_length] at hR
    exact wpAny_mono (hR h₁ tk F₁ N₁) (fun f s₃ h₃ => h₃) fun e s' he => hE e s' he
end
end Mine
end

section
open PySem PySem.W PyProof.Rows PySem.Calls
namespace Mine
theorem freshF1 : True := by
  w_top off
  trivial
set_option maxRecDepth 100000
set_option maxHeartbeats 8000000
/-- the first sign of a row -/
def kindC (x : Int) : Str :=
  if Builtin.bitAnd x 61440 = 40960 then Str.ofString "l" else if Builtin.bitAnd x 61440 = 49152 then Str.ofString "s" else if Builtin.bitAnd x 61440 = 32768 then Str.ofString "-"
  else if Builtin.bitAnd x 61440 = 24576 then Str.ofString "b" else if Builtin.bitAnd x 61440 = 16384 then Str.ofString "d" else if Builtin.bitAnd x 61440 = 8192 then Str.ofString "c"
  else if Builtin.bitAnd x 61440 = 4096 then Str.ofString "p" else Str.ofString "?"
def pick1 (x b : Int) (c : String) : Str := if Builtin.bitAnd x b = b then Str.ofString c else Str.ofString "-"
def pick3 (x b1 b2 b3 : Int) (c1 c2 : String) : Str := if Builtin.bitAnd x b1 = b1 then Str.ofString c1 else if Builtin.bitAnd x b2 = b2 then Str.ofString c2 else if Builtin.bitAnd x b3 = b3 then Str.ofString "x" else Str.ofString "-"
/-- the signs of a row -/
def signs (x : Int) : List Str := [kindC x, pick1 x 256 "r", pick1 x 128 "w", pick3 x 2112 2048 64 "s" "S", pick1 x 32 "r", pick1 x 16 "w", pick3 x 1032 1024 8 "s" "S", pick1 x 4 "r", pick1 x 2 "w", pick3 x 513 512 1 "t" "T"]
theorem pick1_len (x b : Int) (c : String) (h : (Str.ofString c).length = 1) : (pick1 x b c).length = 1 := by unfold pick1; split <;> first | exact h | rfl
theorem pick3_len (x b1 b2 b3 : Int) (c1 c2 : String) (h1 : (Str.ofString c1).length = 1) (h2 : (Str.ofString c2).length = 1) : (pick3 x b1 b2 b3 c1 c2).length = 1 := by unfold pick3; repeat' split
                                                                                                                                                                          all_goals first | exact h1 | exact h2 | rfl
theorem kindC_len (x : Int) : (kindC x).length = 1 := by unfold kindC; repeat' split
                                                         all_goals rfl
theorem signs_ok (x : Int) : ((signs x).map (·.length)).sum + (signs x).length * (Str.ofString "").length ≤ 16777216 := by
  have e : (Str.ofString "").length = 0 := rfl
  simp only [signs, List.map_cons, List.map_nil, List.sum_cons, List.sum_nil, kindC_len, pick1_len _ _ "r" rfl, pick1_len _ _ "w" rfl, pick3_len _ _ _ _ "s" "S" rfl rfl, pick3_len _ _ _ _ "t" "T" rfl rfl, e]
  omega
theorem strs_snoc {vs : List Value} {cs : List Str} {c c' : Str} {t : Tok} (h : StrsAre vs cs) (e : c = c') : StrsAre (vs ++ [.str c t]) (cs ++ [c']) := by
  subst e
  induction h with
  | nil => exact .cons _ _ .nil
  | cons y u _ ih => exact .cons y u ih
theorem forget2 {m : Str → Option Value} {a b : Str} {va vb : Value} (ha : m a = some va) (hb : m b = some vb) : m = fun y => if y = a then some va else if y = b then some vb else m y := by
  funext y
  by_cases h1 : y = a
  · rw [if_pos h1, h1, ha]
  · rw [if_neg h1]
    by_cases h2 : y = b
    · rw [if_pos h2, h2, hb]
    · rw [if_neg h2]
abbrev Row (IR : List Itm → (Str → Option Value) → List (Addr × Obj) → Prop) (PL : Addr) (x : Int) (t : Tok) (cs : List Str) (r : List Itm) : Prop :=
  ∀ (u : Str → Option Value) (vs : List Value) (n : Nat), StrsAre vs cs → IR r (fun y => if y = Str.ofString "perm" then some (.ref PL) else if y = Str.ofString "mode" then some (.int x t) else u y) [(PL, listOf vs.toArray n)]
theorem chain10 {IR : List Itm → (Str → Option Value) → List (Addr × Obj) → Prop} {PL : Addr} {x : Int} {t : Tok} {i0 i1 i2 i3 i4 i5 i6 i7 i8 i9 : Itm} (c0 c1 c2 c3 c4 c5 c6 c7 c8 c9 : Str)
    (s0 : ∀ r, Row IR PL x t [c0] r → Row IR PL x t [] (i0 :: r))
    (s1 : ∀ r, Row IR PL x t [c0, c1] r → Row IR PL x t [c0] (i1 :: r))
    (s2 : ∀ r, Row IR PL x t [c0, c1, c2] r → Row IR PL x t [c0, c1] (i2 :: r))
    (s3 : ∀ r, Row IR PL x t [c0, c1, c2, c3] r → Row IR PL x t [c0, c1, c2] (i3 :: r))
    (s4 : ∀ r, Row IR PL x t [c0, c1, c2, c3, c4] r → Row IR PL x t [c0, c1, c2, c3] (i4 :: r))
    (s5 : ∀ r, Row IR PL x t [c0, c1, c2, c3, c4, c5] r → Row IR PL x t [c0, c1, c2, c3, c4] (i5 :: r))
    (s6 : ∀ r, Row IR PL x t [c0, c1, c2, c3, c4, c5, c6] r → Row IR PL x t [c0, c1, c2, c3, c4, c5] (i6 :: r))
    (s7 : ∀ r, Row IR PL x t [c0, c1, c2, c3, c4, c5, c6, c7] r → Row IR PL x t [c0, c1, c2, c3, c4, c5, c6] (i7 :: r))
    (s8 : ∀ r, Row IR PL x t [c0, c1, c2, c3, c4, c5, c6, c7, c8] r → Row IR PL x t [c0, c1, c2, c3, c4, c5, c6, c7] (i8 :: r))
    (s9 : ∀ r, Row IR PL x t [c0, c1, c2, c3, c4, c5, c6, c7, c8, c9] r → Row IR PL x t [c0, c1, c2, c3, c4, c5, c6, c7, c8] (i9 :: r))
    (e : Row IR PL x t [c0, c1, c2, c3, c4, c5, c6, c7, c8, c9] []) : Row IR PL x t [] [i0, i1, i2, i3, i4, i5, i6, i7, i8, i9] :=
  s0 _ (s1 _ (s2 _ (s3 _ (s4 _ (s5 _ (s6 _ (s7 _ (s8 _ (s9 _ e)))))))))
theorem use_row {IR : List Itm → (Str → Option Value) → List (Addr × Obj) → Prop} {PL : Addr} {x : Int} {t : Tok} {cs : List Str} {r : List Itm} {m : Str → Option Value} {vs : List Value} {n : Nat} (hm1 : m (Str.ofString "perm") = some (.ref PL)) (hm2 : m (Str.ofString "mode") = some (.int x t)) (hS : StrsAre vs cs) (R : Row IR PL x t cs r) :
    IR r m [(PL, listOf vs.toArray n)] := Eq.mpr (congrArg (fun m' => IR r m' [(PL, listOf vs.toArray n)]) (forget2 hm1 hm2)) (R m vs n hS)
local macro_rules | `(tactic| walk_at "ElseEnd") => `(tactic| (refine else_end (by assumption) (by assumption) (by k_all) ?_))
local macro_rules | `(tactic| walk_at "ElseRest") => `(tactic| first | (refine else_cons ?_; intro h' tk' o' hc' F' N') | (refine else_nil ?_; intro h' tk' F' N'))
section
variable {prog p : Program} {w : World} {loose : List Str} {mean : ExcName → Option Value} {mg mb : Str → Option Value}
theorem cl_ifmt (x : Int) (t : Tok) :
    Cl prog w p loose mean mg mb 35 1 20 (fun _ => True) [.int x t] (fun _ _ r => ∃ t, r = .int (Builtin.bitAnd x 61440) t) := by
  refine' Cl.enter ?k6 ?k7 ?k9 ?kB ?c2 ?c3 ?c4 ?c5 ?_
  case k6 => k_is
  case k7 => k_is
  case k9 => exact fun _ => BindsTo.of_eq rfl
  case c5 => decide
  case kB => exact locs rfl
  case c2 => exact rfl
  case c3 => exact rfl
  case c4 => exact rfl
  intro dp un gd outer base g L' h₁ s Q E A hg hpre F' N' hA B' X' T' hdp hun hret
  k_fold
  k_steps
  exact hret _ _ _ (Fr.keep (by assumption)) ⟨_, rfl⟩
local macro_rules | `(tactic| walk_at "call ref") => `(tactic| ((with_reducible show wpAny _ _ (call (Value.ref 35) [Value.int _ _]) _ _ _); (refine Cl.use (cl_ifmt _ _) (by assumption) (by assumption) (by assumption) (by assumption) (by assumption) rfl rfl rfl rfl ?kd ?ku trivial ?_); (case kd => (dsimp only [Around.deeper]; omega)); (case ku => (dsimp only [Around.deeper]; omega)); (intro r' h' tk' F' N' K' o'; (refine Exists.elim o' ?_); intro t' e'; subst e'; clear o' K'; (try dsimp only); (try k_sweep))))
theorem cl_filemode (x : Int) (t : Tok) :
    Cl prog w p loose mean mg mb 75 2 40 (fun _ => True) [.int x t] (fun _ _ r => ∃ t, r = .str (Txt.join (Str.ofString "") (signs x)) t) := by
  refine' Cl.enter ?k6 ?k7 ?k9 ?kB ?c2 ?c3 ?c4 ?c5 ?_
  case k6 => k_is
  case k7 => k_is
  case k9 => exact fun _ => BindsTo.of_eq rfl
  case c5 => decide
  case kB => exact locs rfl
  case c2 => exact rfl
  case c3 => exact rfl
  case c4 => exact rfl
  intro dp un gd outer base g L' h₁ s Q E A hg hpre F' N' hA B' X' T' hdp hun hret
  k_fold
  iterate 7 walk1
  rename_i PL _ _ h F1 N1
  refine wpAny_execs_cons (For_turns F1 ?_)
  iterate 6 walk1
  refine enum_K (K := hd.heap_39 w.params) rfl F1 N1 X' (by k_is) rfl rfl rfl (fun I lI => ?_)
  k_lt lI
  clear F1 N1
  refine use_row (vs := []) (t := t) rfl rfl .nil (chain10 (kindC x) (pick1 x 256 "r") (pick1 x 128 "w") (pick3 x 2112 2048 64 "s" "S") (pick1 x 32 "r") (pick1 x 16 "w") (pick3 x 1032 1024 8 "s" "S") (pick1 x 4 "r") (pick1 x 2 "w") (pick3 x 513 512 1 "t" "T") ?s0 ?s1 ?s2 ?s3 ?s4 ?s5 ?s6 ?s7 ?s8 ?s9 ?fin)
  case s0 =>
    intro r hR u vs n hS
    refine ItemsRest.pair (fun T2 t2 h2 tk2 hT2 F2 => ?_)
    refine AllObj.cons (fun o1 hc1 => AllObj.cons (fun o2 hc2 => AllObj.nil (fun N2 => ?_)))
    simp only [List.cons_append, List.nil_append] at N2
    dsimp only at hc1 hc2
    replace hT2 : IsTup h2 T2 #[Value.int 0 t2, Value.ref 43] := hT2
    k_steps
    refine for_else (K := hd.heap_39 w.params) (ax := 43) (vs := [.ref 36, .ref 37, .ref 38, .ref 39, .ref 40, .ref 41, .ref 42]) rfl (by assumption) (by assumption) X' (by k_is) rfl rfl (fun Q' q => ld (by assumption) rfl q) (fun I2 l2 => ?_) (by passes_own)
    k_lt l2
    k_steps
    all_goals (simp only [List.push_toArray])
    all_goals first
      | exact use_row rfl rfl (strs_snoc hS (by unfold kindC; repeat (first | rw [if_pos (by assumption)] | rw [if_neg (by assumption)]))) hR
      | exact items_weak (fun p hp => .tail _ hp) (use_row rfl rfl (strs_snoc hS (by unfold kindC; repeat (first | rw [if_pos (by assumption)] | rw [if_neg (by assumption)]))) hR)
  case s1 =>
    intro r hR u vs n hS
    refine ItemsRest.pair (fun T2 t2 h2 tk2 hT2 F2 => ?_)
    refine AllObj.cons (fun o1 hc1 => AllObj.cons (fun o2 hc2 => AllObj.nil (fun N2 => ?_)))
    simp only [List.cons_append, List.nil_append] at N2
    dsimp only at hc1 hc2
    replace hT2 : IsTup h2 T2 #[Value.int 1 t2, Value.ref 45] := hT2
    k_steps
    refine for_else (K := hd.heap_39 w.params) (ax := 45) (vs := [.ref 44]) rfl (by assumption) (by assumption) X' (by k_is) rfl rfl (fun Q' q => ld (by assumption) rfl q) (fun I2 l2 => ?_) (by passes_own)
    k_lt l2
    k_steps
    all_goals (simp only [List.push_toArray])
    all_goals first
      | exact use_row rfl rfl (strs_snoc hS (by unfold pick1; repeat (first | rw [if_pos (by assumption)] | rw [if_neg (by assumption)]))) hR
      | exact items_weak (fun p hp => .tail _ hp) (use_row rfl rfl (strs_snoc hS (by unfold pick1; repeat (first | rw [if_pos (by assumption)] | rw [if_neg (by assumption)]))) hR)
  case s2 =>
    intro r hR u vs n hS
    refine ItemsRest.pair (fun T2 t2 h2 tk2 hT2 F2 => ?_)
    refine AllObj.cons (fun o1 hc1 => AllObj.cons (fun o2 hc2 => AllObj.nil (fun N2 => ?_)))
    simp only [List.cons_append, List.nil_append] at N2
    dsimp only at hc1 hc2
    replace hT2 : IsTup h2 T2 #[Value.int 2 t2, Value.ref 47] := hT2
    k_steps
    refine for_else (K := hd.heap_39 w.params) (ax := 47) (vs := [.ref 46]) rfl (by assumption) (by assumption) X' (by k_is) rfl rfl (fun Q' q => ld (by assumption) rfl q) (fun I2 l2 => ?_) (by passes_own)
    k_lt l2
    k_steps
    all_goals (simp only [List.push_toArray])
    all_goals first
      | exact use_row rfl rfl (strs_snoc hS (by unfold pick1; repeat (first | rw [if_pos (by assumption)] | rw [if_neg (by assumption)]))) hR
      | exact items_weak (fun p hp => .tail _ hp) (use_row rfl rfl (strs_snoc hS (by unfold pick1; repeat (first | rw [if_pos (by assumption)] | rw [if_neg (by assumption)]))) hR)
  case s3 =>
    intro r hR u vs n hS
    refine ItemsRest.pair (fun T2 t2 h2 tk2 hT2 F2 => ?_)
    refine AllObj.cons (fun o1 hc1 => AllObj.cons (fun o2 hc2 => AllObj.nil (fun N2 => ?_)))
    simp only [List.cons_append, List.nil_append] at N2
    dsimp only at hc1 hc2
    replace hT2 : IsTup h2 T2 #[Value.int 3 t2, Value.ref 51] := hT2
    k_steps
    refine for_else (K := hd.heap_39 w.params) (ax := 51) (vs := [.ref 48, .ref 49, .ref 50]) rfl (by assumption) (by assumption) X' (by k_is) rfl rfl (fun Q' q => ld (by assumption) rfl q) (fun I2 l2 => ?_) (by passes_own)
    k_lt l2
    k_steps
    all_goals (simp only [List.push_toArray])
    all_goals first
      | exact use_row rfl rfl (strs_snoc hS (by unfold pick3; repeat (first | rw [if_pos (by assumption)] | rw [if_neg (by assumption)]))) hR
      | exact items_weak (fun p hp => .tail _ hp) (use_row rfl rfl (strs_snoc hS (by unfold pick3; repeat (first | rw [if_pos (by assumption)] | rw [if_neg (by assumption)]))) hR)
  case s4 =>
    intro r hR u vs n hS
    refine ItemsRest.pair (fun T2 t2 h2 tk2 hT2 F2 => ?_)
    refine AllObj.cons (fun o1 hc1 => AllObj.cons (fun o2 hc2 => AllObj.nil (fun N2 => ?_)))
    simp only [List.cons_append, List.nil_append] at N2
    dsimp only at hc1 hc2
    replace hT2 : IsTup h2 T2 #[Value.int 4 t2, Value.ref 53] := hT2
    k_steps
    refine for_else (K := hd.heap_39 w.params) (ax := 53) (vs := [.ref 52]) rfl (by assumption) (by assumption) X' (by k_is) rfl rfl (fun Q' q => ld (by assumption) rfl q) (fun I2 l2 => ?_) (by passes_own)
    k_lt l2
    k_steps
    all_goals (simp only [List.push_toArray])
    all_goals first
      | exact use_row rfl rfl (strs_snoc hS (by unfold pick1; repeat (first | rw [if_pos (by assumption)] | rw [if_neg (by assumption)]))) hR
      | exact items_weak (fun p hp => .tail _ hp) (use_row rfl rfl (strs_snoc hS (by unfold pick1; repeat (first | rw [if_pos (by assumption)] | rw [if_neg (by assumption)]))) hR)
  case s5 =>
    intro r hR u vs n hS
    refine ItemsRest.pair (fun T2 t2 h2 tk2 hT2 F2 => ?_)
    refine AllObj.cons (fun o1 hc1 => AllObj.cons (fun o2 hc2 => AllObj.nil (fun N2 => ?_)))
    simp only [List.cons_append, List.nil_append] at N2
    dsimp only at hc1 hc2
    replace hT2 : IsTup h2 T2 #[Value.int 5 t2, Value.ref 55] := hT2
    k_steps
    refine for_else (K := hd.heap_39 w.params) (ax := 55) (vs := [.ref 54]) rfl (by assumption) (by assumption) X' (by k_is) rfl rfl (fun Q' q => ld (by assumption) rfl q) (fun I2 l2 => ?_) (by passes_own)
    k_lt l2
    k_steps
    all_goals (simp only [List.push_toArray])
    all_goals first
      | exact use_row rfl rfl (strs_snoc hS (by unfold pick1; repeat (first | rw [if_pos (by assumption)] | rw [if_neg (by assumption)]))) hR
      | exact items_weak (fun p hp => .tail _ hp) (use_row rfl rfl (strs_snoc hS (by unfold pick1; repeat (first | rw [if_pos (by assumption)] | rw [if_neg (by assumption)]))) hR)
  case s6 =>
    intro r hR u vs n hS
    refine ItemsRest.pair (fun T2 t2 h2 tk2 hT2 F2 => ?_)
    refine AllObj.cons (fun o1 hc1 => AllObj.cons (fun o2 hc2 => AllObj.nil (fun N2 => ?_)))
    simp only [List.cons_append, List.nil_append] at N2
    dsimp only at hc1 hc2
    replace hT2 : IsTup h2 T2 #[Value.int 6 t2, Value.ref 59] := hT2
    k_steps
    refine for_else (K := hd.heap_39 w.params) (ax := 59) (vs := [.ref 56, .ref 57, .ref 58]) rfl (by assumption) (by assumption) X' (by k_is) rfl rfl (fun Q' q => ld (by assumption) rfl q) (fun I2 l2 => ?_) (by passes_own)
    k_lt l2
    k_steps
    all_goals (simp only [List.push_toArray])
    all_goals first
      | exact use_row rfl rfl (strs_snoc hS (by unfold pick3; repeat (first | rw [if_pos (by assumption)] | rw [if_neg (by assumption)]))) hR
      | exact items_weak (fun p hp => .tail _ hp) (use_row rfl rfl (strs_snoc hS (by unfold pick3; repeat (first | rw [if_pos (by assumption)] | rw [if_neg (by assumption)]))) hR)
  case s7 =>
    intro r hR u vs n hS
    refine ItemsRest.pair (fun T2 t2 h2 tk2 hT2 F2 => ?_)
    refine AllObj.cons (fun o1 hc1 => AllObj.cons (fun o2 hc2 => AllObj.nil (fun N2 => ?_)))
    simp only [List.cons_append, List.nil_append] at N2
    dsimp only at hc1 hc2
    replace hT2 : IsTup h2 T2 #[Value.int 7 t2, Value.ref 61] := hT2
    k_steps
    refine for_else (K := hd.heap_39 w.params) (ax := 61) (vs := [.ref 60]) rfl (by assumption) (by assumption) X' (by k_is) rfl rfl (fun Q' q => ld (by assumption) rfl q) (fun I2 l2 => ?_) (by passes_own)
    k_lt l2
    k_steps
    all_goals (simp only [List.push_toArray])
    all_goals first
      | exact use_row rfl rfl (strs_snoc hS (by unfold pick1; repeat (first | rw [if_pos (by assumption)] | rw [if_neg (by assumption)]))) hR
      | exact items_weak (fun p hp => .tail _ hp) (use_row rfl rfl (strs_snoc hS (by unfold pick1; repeat (first | rw [if_pos (by assumption)] | rw [if_neg (by assumption)]))) hR)
  case s8 =>
    intro r hR u vs n hS
    refine ItemsRest.pair (fun T2 t2 h2 tk2 hT2 F2 => ?_)
    refine AllObj.cons (fun o1 hc1 => AllObj.cons (fun o2 hc2 => AllObj.nil (fun N2 => ?_)))
    simp only [List.cons_append, List.nil_append] at N2
    dsimp only at hc1 hc2
    replace hT2 : IsTup h2 T2 #[Value.int 8 t2, Value.ref 63] := hT2
    k_steps
    refine for_else (K := hd.heap_39 w.params) (ax := 63) (vs := [.ref 62]) rfl (by assumption) (by assumption) X' (by k_is) rfl rfl (fun Q' q => ld (by assumption) rfl q) (fun I2 l2 => ?_) (by passes_own)
    k_lt l2
    k_steps
    all_goals (simp only [List.push_toArray])
    all_goals first
      | exact use_row rfl rfl (strs_snoc hS (by unfold pick1; repeat (first | rw [if_pos (by assumption)] | rw [if_neg (by assumption)]))) hR
      | exact items_weak (fun p hp => .tail _ hp) (use_row rfl rfl (strs_snoc hS (by unfold pick1; repeat (first | rw [if_pos (by assumption)] | rw [if_neg (by assumption)]))) hR)
  case s9 =>
    intro r hR u vs n hS
    refine ItemsRest.pair (fun T2 t2 h2 tk2 hT2 F2 => ?_)
    refine AllObj.cons (fun o1 hc1 => AllObj.cons (fun o2 hc2 => AllObj.nil (fun N2 => ?_)))
    simp only [List.cons_append, List.nil_append] at N2
    dsimp only at hc1 hc2
    replace hT2 : IsTup h2 T2 #[Value.int 9 t2, Value.ref 67] := hT2
    k_steps
    refine for_else (K := hd.heap_39 w.params) (ax := 67) (vs := [.ref 64, .ref 65, .ref 66]) rfl (by assumption) (by assumption) X' (by k_is) rfl rfl (fun Q' q => ld (by assumption) rfl q) (fun I2 l2 => ?_) (by passes_own)
    k_lt l2
    k_steps
    all_goals (simp only [List.push_toArray])
    all_goals first
      | exact use_row rfl rfl (strs_snoc hS (by unfold pick3; repeat (first | rw [if_pos (by assumption)] | rw [if_neg (by assumption)]))) hR
      | exact items_weak (fun p hp => .tail _ hp) (use_row rfl rfl (strs_snoc hS (by unfold pick3; repeat (first | rw [if_pos (by assumption)] | rw [if_neg (by assumption)]))) hR)
  case fin =>
    intro u vs n hS
    refine ItemsRest.zero (fun h2 tk2 F2 N2 => ?_)
    k_steps
    have hl : h2.IsList PL vs.toArray := ⟨_, (N2 _ (.head _)).1, rfl, n, rfl⟩
    refine join_list (s := { s with heap := h2, toks := _ }) hl hS (signs_ok x) fun t' k' => ?_
    exact hret _ _ _ F2.keep ⟨_, rfl⟩
end
end Mine
end

section
open PySem PySem.W PyProof.Rows PySem.Calls
namespace Mine
set_option maxRecDepth 100000
set_option maxHeartbeats 8000000

/-- a new exception, raised while another may be in hand -/
structure NewX (h h' : Heap) (e : Addr) (c : Value) : Prop where
  keeps : ∀ b o, h.get? b = some o → h'.get? b = some o
  new : h.get? e = none
  there : ∃ ob vs, h'.get? e = some ob ∧ ob.cls = .type "IndexError" ∧ ob.data = .fields vs ∧ vs[1]? = some .none ∧ vs[2]? = some c

/-- nothing is in hand, or an exception whose own context is none -/
def Hand (A : Around) (h : Heap) : Prop := A.handled = none ∨ ∃ e₁ ob vs, A.handled = some (.ref e₁) ∧ h.get? e₁ = some ob ∧ ob.data = .fields vs ∧ vs[2]? = some .none

theorem entry_unchain : entryFor table "proto.unchain" = some Builtin.«proto.unchain» := entryFor_of_fast (by kernel_rfl)

section
variable {prog : Program} {w : World} {A : Around} {E : Value → Shared → Prop} {s : Shared}
theorem raise_X {α : Type} {msg : String} {Q : α → Shared → Prop} (hh : Hand A s.heap)
    (h : ∀ h' tk e, NewX s.heap h' e (A.handled.getD .none) → E (.ref e) { s with heap := h', toks := tk }) :
    wpAny (model prog w) A (raiseErrorWords "IndexError" msg : Sem α) Q E s := by
  unfold raiseErrorWords
  refine wpAny_bind (wpAny_mkText (wpAny_bind ?_))
  unfold newExc newTuple
  refine wpAny_bind (wpAny_newObj_type ?_)
  refine wpAny_bind (m := firstArgMember _ _) (wpAny_of_eq (a := Value.none) (by simp only [firstArgMember, plainExc_IndexError.first]; rfl) ?_)
  rw [plainExc_IndexError.own]
  refine wpAny_newObj_type ?_
  have kp : ∀ (h : Heap) (o1 o2 : Obj), ∀ b o, h.get? b = some o → ((h.push o1).push o2).get? b = some o := fun h o1 o2 b o hb => Heap.get?_push_of_some _ (Heap.get?_push_of_some _ hb)
  unfold raiseNew
  refine wpAny_bind (wpAny_handled ?_)
  rcases hh with hh | ⟨e₁, ob, vs, hh, he₁, hd₁, h2⟩
  · rw [hh]
    first
      | refine wpAny_throw ?_
      | refine wpAny_bind (wpAny_pure (wpAny_throw ?_))
    exact h _ _ _ ⟨kp _ _ _, Heap.get?_none_of_le (by simp), _, _, Heap.get?_push_size _ rfl, rfl, rfl, by simp, by simp [hh]⟩
  · rw [hh]
    have hlt : e₁ < s.heap.objs.size := Heap.lt_size he₁
    generalize ho1 : ({ cls := Value.type "tuple", data := .seq [Value.str (Str.ofString msg) s.toks].toArray } : Obj) = o1
    have hz : (s.heap.push o1).objs.size = s.heap.objs.size + 1 := Heap.size_push ..
    have hne : e₁ ≠ (s.heap.push o1).objs.size := by rw [hz]; exact Nat.ne_of_lt (Nat.lt_succ_of_lt hlt)
    dsimp only
    rw [if_pos (show (Value.ref e₁ != Value.ref (s.heap.push o1).objs.size) = true from bne_iff_ne.mpr fun q => hne (Value.ref.inj q))]
    refine wpAny_bind (wpAny_holding (wpAny_runValue (codeAny_builtin entry_unchain ?_)))
    show wpAny _ _ (field (.ref e₁) 2 >>= _) _ _ _
    refine wpAny_bind (wpAny_field (kp _ _ _ _ _ he₁) hd₁ h2 ?_)
    rw [if_pos (show (Value.none == Value.none) = true from rfl)]
    refine wpAny_pure ?_
    unfold updateField
    dsimp only
    have hget := Heap.get?_push_size (s.heap.push o1) (o := { cls := Value.type "IndexError", data := Data.fields (#[Value.ref s.heap.objs.size, Value.none, Value.none, Value.none, Value.bool false, Value.none] ++ #[]) }) rfl
    refine wpAny_bind (wpAny_bind (wpAny_load hget ?_))
    dsimp only
    rw [if_pos (by simp)]
    refine wpAny_update hget (wpAny_throw ?_)
    refine h _ _ _ ⟨fun b o hb => ?_, Heap.get?_none_of_le (by rw [hz]; exact Nat.le_succ _), ?_⟩
    · have hlt' : b < s.heap.objs.size := Heap.lt_size hb
      rw [Heap.get?_update_other _ _ (by rw [hz]; exact Nat.ne_of_gt (Nat.lt_succ_of_lt hlt'))]
      exact kp _ _ _ b o hb
    · exact ⟨_, _, Heap.get?_update_self _ hget rfl, rfl, rfl, by simp, by simp [hh]⟩

/-- an item of a list past its end, whatever is in hand -/
theorem item_out {l : Addr} {items : Array Value} {k : Int} {t : Tok} {Q : Value → Shared → Prop} (hA : Hand A s.heap) (hl : s.heap.IsList l items)
    (h0 : 0 ≤ k) (hout : (items.size : Int) ≤ k) (hhi : k < 2 ^ 63)
    (hE : ∀ h' tk e, NewX s.heap h' e (A.handled.getD .none) → E (.ref e) { s with heap := h', toks := tk }) :
    wpAny (model prog w) A (getItem (.ref l) (.int k t)) Q E s := by
  obtain ⟨o, ho, hc, ne, hd⟩ := id hl
  unfold getItem
  try with_reducible refine wpAny_holding ?_
  first | refine wpAny_bind (wpAny_pure ?_) | skip
  refine wpAny_bind (wpAny_sequenceKey hl.typeIs (by decide) ?_)
  refine wpAny_bind (wpAny_callSpecial?_slot (name := Str.ofString "__getitem__") hl.typeIs slot_list_getitem
    (wpAny_call_entry slot_list_getitem hl.typeIs entry_list_getitem ?_ (args_list_getitem _ _)))
  show wpAny _ _ (Builtin.List.listSubscript? (.int k t) >>= _) _ _ s
  refine wpAny_bind (wpAny_listSubscript_int (fitsIndex_of h0 hhi) ?_)
  clear hhi
  obtain ⟨j, rfl⟩ := Int.eq_ofNat_of_zero_le h0
  have hx : items[j]? = none := Array.getElem?_eq_none (by omega)
  show wpAny _ _ ((seqItemAt l j >>= fun r => pure (r.map (j, ·))) >>= _) _ _ s
  refine wpAny_bind (wpAny_bind (wpAny_seqItemAt ho hd (wpAny_pure ?_)))
  rw [hx]
  have hA' : Hand A.in1 s.heap := hA
  first
    | exact wpAny_bind (wpAny_rule (raise_X hA' hE))
    | exact wpAny_bind (wpAny_rule (wpAny_bind (raise_X hA' hE)))
    | exact wpAny_bind (wpAny_bind (wpAny_rule (raise_X hA' hE)))
    | exact wpAny_rule (raise_X hA' hE)
end

section
variable {M : Model} {A : Around} {E : Value → Shared → Prop} {s : Shared}
/-- a frame is noted on an exception that has none yet -/
theorem note_first {base : Heap} {env : Env} {outer : List Env} {L e : Addr} {oe : Obj} {vs : Array Value} {Q : Unit → Shared → Prop}
    (hfr : A.frames = some (env :: outer)) (hl : s.heap.FunFrames base (env :: outer)) (hf : env.frame = some L)
    (he : s.heap.get? e = some oe) (hd : oe.data = .fields vs) (h1 : vs[1]? = some .none)
    (h : ∀ h' T oT ts, (∀ b o, b ≠ e → b ∉ (env :: outer).filterMap (·.frame) → s.heap.get? b = some o → h'.get? b = some o) →
      (∀ b o, b ≠ e → s.heap.get? b = some o → ∃ sl, h'.get? b = some { o with slots := sl }) →
      h'.get? e = some (oe.mapFields (·.setIfInBounds 1 (.ref T))) → s.heap.get? T = none → T ≠ e → h'.get? T = some oT → oT.data = .fields ts → ts[3]? = some (rawInt L) → Q () { s with heap := h' }) :
    wpAny M A (noteFrame (.ref e) env) Q E s := by
  have hsz : 1 < vs.size := (Array.getElem?_eq_some_iff.mp h1).1
  unfold noteFrame
  simp only [hf]
  refine wpAny_bind (wpAny_field he hd h1 ?_)
  rw [if_neg (by decide)]
  have hene : e ∉ (env :: outer).filterMap (·.frame) := fun hm => by
    obtain ⟨_, o, ho, hnf⟩ := hl.mem hm
    rw [he] at ho; injection ho with ho; subst ho; exact hnf vs hd
  refine wpAny_bind (wpAny_frameOf_fun hfr hl hf fun h₁ hs₁ => ?_)
  refine wpAny_bind (wpAny_entryPlaceOf fun pl hpl => ?_)
  unfold EntryCells.newEntry newFields
  refine wpAny_bind (wpAny_newObj_type ?_ (hpl.sizeOk5 _ _ _ _ _))
  have he₁ : h₁.get? e = some oe := (hs₁.2.1 e hene).trans he
  have he₂ := Heap.get?_push_of_some (h := h₁) { cls := .type "traceback", dict := none, data := .fields ([Value.none, .ref L, .none, rawInt L, .none] ++ (if pl.isEmpty then List.replicate 6 Value.none else pl)).toArray } he₁
  refine wpAny_setField he₂ hd hsz ?_
  have hTe : h₁.objs.size ≠ e := Nat.ne_of_gt (Heap.lt_size he₁)
  have hd₃ := Obj.data_mapFields hd (·.setIfInBounds 1 (Value.ref h₁.objs.size))
  have he₃ := Heap.get?_update_self (Obj.mapFields (·.setIfInBounds 1 (Value.ref h₁.objs.size))) he₂ (Obj.isFreed_of_fields hd₃)
  have hT₃ := (Heap.get?_update_other (h₁.push { cls := .type "traceback", dict := none, data := .fields ([Value.none, .ref L, .none, rawInt L, .none] ++ (if pl.isEmpty then List.replicate 6 Value.none else pl)).toArray })
    (Obj.mapFields (·.setIfInBounds 1 (Value.ref h₁.objs.size))) (Ne.symm hTe)).trans (Heap.get?_push_size h₁ rfl)
  have keep : ∀ b o, b ≠ e → h₁.get? b = some o →
      ((h₁.push { cls := .type "traceback", dict := none, data := .fields ([Value.none, .ref L, .none, rawInt L, .none] ++ (if pl.isEmpty then List.replicate 6 Value.none else pl)).toArray }).update e (Obj.mapFields (·.setIfInBounds 1 (Value.ref h₁.objs.size)))).get? b = some o :=
    fun b o hbe hb => by
      rw [Heap.get?_update_other _ _ (Ne.symm hbe)]
      exact Heap.get?_push_of_some _ hb
  refine h _ h₁.objs.size _ _ (fun b o hbe hbf hb => keep b o hbe ((hs₁.2.1 b hbf).trans hb)) (fun b o hbe hb => ?_) he₃ ?_ hTe hT₃ rfl (by first | (simp; done) | (rcases hpl with rfl | ⟨_, _, _, _, _, _, _, rfl⟩ <;> simp))
  · obtain ⟨sl, hs⟩ := hs₁.2.2 b o hb
    exact ⟨sl, keep b _ hbe hs⟩
  · rw [hs₁.1]; exact Heap.get?_none_of_le (Nat.le_refl _)
end

/-- an exception in hand: its traceback's flight is fl -/
structure Ex (g : Heap) (L : Addr) (h : Heap) (m : Str → Option Value) (news : List (Addr × Obj)) (e : Addr) (fl c : Value) : Prop where
  fr : Fr g L h m
  made : News g L h news
  new : g.get? e = none
  off : ∀ p ∈ news, p.1 ≠ e
  there : ∃ oe T oT vs ts, h.get? e = some oe ∧ oe.cls = .type "IndexError" ∧ oe.data = .fields vs ∧ vs[1]? = some (.ref T) ∧ vs[2]? = some c ∧ h.get? T = some oT ∧ oT.data = .fields ts ∧ ts[3]? = some fl ∧
    T ≠ L ∧ T ≠ e ∧ g.get? T = none ∧ ∀ p ∈ news, p.1 ≠ T

section
variable {M : Model} {A : Around} {E : Value → Shared → Prop} {s : Shared} {g : Heap} {L : Addr} {m : Str → Option Value} {news : List (Addr × Obj)} {e : Addr} {fl c : Value} {env : Env} {Q : Unit → Shared → Prop}
theorem Ex.again (H : Ex g L s.heap m news e (rawInt L) c) (hf : env.frame = some L) (k : Q () s) : wpAny M A (noteFrame (.ref e) env) Q E s := by
  obtain ⟨_, _, _, _, oe, T, oT, vs, ts, he, _, hd, h1, _, hT, hdT, h3, _⟩ := H
  unfold noteFrame
  simp only [hf]
  refine wpAny_bind (wpAny_field he hd h1 ?_)
  rw [if_pos (show (Value.ref T != Value.none) = true from by simp)]
  refine wpAny_bind (wpAny_field hT hdT h3 ?_)
  rw [if_pos (show (rawInt L == rawInt L) = true from by simp)]
  exact wpAny_pure k
theorem Ex.fly {f : Option Addr} (H : Ex g L s.heap m news e fl c) (k : ∀ h', Ex g L h' m news e (f.elim .none fun f => rawInt f) c → Q () { s with heap := h' }) : wpAny M A (setFlight (.ref e) f) Q E s := by
  obtain ⟨F, N, hn, ho, oe, T, oT, vs, ts, he, hc, hd, h1, h2, hT, hdT, h3, hTL, hTe, hTg, hTn⟩ := H
  have hsz : 3 < ts.size := (Array.getElem?_eq_some_iff.mp h3).1
  unfold setFlight
  refine wpAny_bind (wpAny_field he hd h1 ?_)
  rw [if_pos (show (Value.ref T != Value.none) = true from by simp)]
  refine wpAny_setField hT hdT hsz (k _ ?_)
  obtain ⟨oL, es, ep, hL, r⟩ := F.ns
  have other : ∀ b, b ≠ T → (s.heap.update T (Obj.mapFields (·.setIfInBounds 3 (f.elim Value.none fun f => rawInt f)))).get? b = s.heap.get? b := fun b hb => Heap.get?_update_other _ _ (Ne.symm hb)
  refine ⟨⟨⟨oL, es, ep, (other L hTL.symm).trans hL, r⟩, fun b o q => (other b fun z => by rw [z, hTg] at q; cases q).trans (F.keep b o q), F.above⟩,
    fun p hp => ⟨(other _ (hTn p hp)).trans (N p hp).1, (N p hp).2⟩, hn, ho, oe, T, _, vs, _, (other e hTe.symm).trans he, hc, hd, h1, h2, Heap.get?_update_self _ hT (Obj.isFreed_of_fields (Obj.data_mapFields hdT _)),
    Obj.data_mapFields hdT _, by simp [hsz], hTL, hTe, hTg, hTn⟩
theorem Ex.pass {α : Type} {what : String} {Q : α → Shared → Prop} (H : Ex g L s.heap m news e fl c) (hf : env.frame = some L) (k : ∀ h', Ex g L h' m news e (rawInt L) c → E (.ref e) { s with heap := h' }) :
    wpAny M A (PySem.passOn what (.ref e) env) Q E s := by
  obtain ⟨oe, T, oT, vs, ts, he, _, hd, h1, _⟩ := H.there
  unfold PySem.passOn
  refine wpAny_bind (wpAny_field he hd h1 ?_)
  rw [if_neg (show ¬ ((Value.ref T == Value.none) = true) from by simp)]
  rw [hf]
  first
    | exact wpAny_bind (wpAny_pure (wpAny_bind (H.fly fun h' H' => wpAny_throw (k h' H'))))
    | exact wpAny_bind (H.fly fun h' H' => wpAny_throw (k h' H'))
theorem Ex.came (H : Ex g L s.heap m news e (rawInt L) c) (hf : env.frame = some L) (k : ∀ h', Ex g L h' m news e (rawInt L) c → E (.ref e) { s with heap := h' }) : cameBackBy M A env E (.ref e) s := by
  obtain ⟨oe, T, oT, vs, ts, he, _, hd, h1, _⟩ := H.there
  unfold cameBackBy
  refine wpAny_bind (wpAny_field he hd h1 ?_)
  rw [if_neg (show ¬ ((Value.ref T == Value.none) = true) from by simp)]
  rw [hf]
  first
    | exact wpAny_bind (wpAny_pure (H.fly fun h' H' => k h' H'))
    | exact H.fly fun h' H' => k h' H'
/-- the exception's own objects on the ledger -/
theorem Ex.led (H : Ex g L s.heap m news e fl c) : ∃ oe T oT vs ts, News g L s.heap ((e, oe) :: (T, oT) :: news) ∧ oe.cls = .type "IndexError" ∧ oe.data = .fields vs ∧ vs[1]? = some (.ref T) ∧ vs[2]? = some c ∧ oT.data = .fields ts ∧ ts[3]? = some fl ∧
    T ≠ L ∧ T ≠ e ∧ g.get? T = none ∧ g.get? e = none ∧ (∀ p ∈ news, p.1 ≠ e) ∧ ∀ p ∈ news, p.1 ≠ T := by
  obtain ⟨F, N, hn, ho, oe, T, oT, vs, ts, he, hc, hd, h1, h2, hT, hdT, h3, hTL, hTe, hTg, hTn⟩ := H
  refine ⟨oe, T, oT, vs, ts, fun p hp => ?_, hc, hd, h1, h2, hdT, h3, hTL, hTe, hTg, hn, ho, hTn⟩
  have heL : e ≠ L := fun z => by
    obtain ⟨oL, es, ep, hL, hLd, _⟩ := F.ns
    rw [z, hL] at he; cases he; rw [hLd] at hd; cases hd
  rcases List.mem_cons.mp hp with rfl | hp
  · exact ⟨he, heL, hn⟩
  · rcases List.mem_cons.mp hp with rfl | hp
    · exact ⟨hT, hTL, hTg⟩
    · exact N p hp
end
end Mine
end

section
open PySem PySem.W PyProof.Rows PySem.Calls
namespace Mine
set_option maxRecDepth 100000
set_option maxHeartbeats 8000000

/-- a name of the frame is stored -/
def up (m : Str → Option Value) (x : Str) (v : Value) : Str → Option Value := fun y => if y = x then some v else m y
theorem up_same {m : Str → Option Value} {x : Str} {v : Value} : up m x v x = some v := if_pos rfl
theorem up_ne {m : Str → Option Value} {x y : Str} {v : Value} (h : y ≠ x) : up m x v y = m y := if_neg h
theorem up_up {m : Str → Option Value} {x : Str} {v u : Value} : up (up m x v) x u = up m x u := by
  funext y; unfold up; split <;> rfl
theorem up_id {m : Str → Option Value} {x : Str} {v : Value} (h : m x = some v) : up m x v = m := by
  funext y; unfold up; split
  · rename_i e; rw [e, h]
  · rfl

/-- how the items compare: by a key -/
structure Cmp (prog : Program) (w : World) (El : Value → Int → Prop) : Prop where
  eq : ∀ {v v' : Value} {k k' : Int}, El v k → El v' k' → ∀ {A : Around} {s : Shared} {Q E : Value → Shared → Prop}, Q (.bool (decide (k = k'))) s → wpAny (model prog w) A (compareOp .Eq v v') Q E s
  lt : ∀ {v v' : Value} {k k' : Int}, El v k → El v' k' → ∀ {A : Around} {s : Shared} {Q E : Value → Shared → Prop}, Q (.bool (decide (k < k'))) s → wpAny (model prog w) A (compareOp .Lt v v') Q E s
  gt : ∀ {v v' : Value} {k k' : Int}, El v k → El v' k' → ∀ {A : Around} {s : Shared} {Q E : Value → Shared → Prop}, Q (.bool (decide (k' < k))) s → wpAny (model prog w) A (compareOp .Gt v v') Q E s

/-- item by item -/
inductive Els (El : Value → Int → Prop) : List Value → List Int → Prop
  | nil : Els El [] []
  | cons {v : Value} {k : Int} {vs : List Value} {ks : List Int} : El v k → Els El vs ks → Els El (v :: vs) (k :: ks)
theorem Els.length {El : Value → Int → Prop} {vs : List Value} {ks : List Int} (h : Els El vs ks) : vs.length = ks.length := by
  induction h with
  | nil => rfl
  | cons _ _ ih => simp [ih]
theorem Els.at {El : Value → Int → Prop} {vs : List Value} {ks : List Int} (h : Els El vs ks) : ∀ {i : Nat} {k : Int}, ks[i]? = some k → ∃ v, vs[i]? = some v ∧ El v k := by
  induction h with
  | nil => intro i k h; simp at h
  | cons he _ ih =>
    intro i k h
    cases i with
    | zero => simp at h; subst h; exact ⟨_, rfl, he⟩
    | succ i => simp at h; exact ih h
theorem Els.append {El : Value → Int → Prop} {vs us : List Value} {ks js : List Int} (h : Els El vs ks) (g : Els El us js) : Els El (vs ++ us) (ks ++ js) := by
  induction h with
  | nil => exact g
  | cons he _ ih => exact .cons he ih
theorem Els.drop {El : Value → Int → Prop} {vs : List Value} {ks : List Int} (h : Els El vs ks) : ∀ n, Els El (vs.drop n) (ks.drop n) := by
  induction h with
  | nil => intro n; simp; exact .nil
  | cons he ht ih => intro n; cases n with
    | zero => exact .cons he ht
    | succ n => exact ih n

def HandN (A : Around) (news : List (Addr × Obj)) : Prop := A.handled = none ∨ ∃ e₁ ob vs, A.handled = some (.ref e₁) ∧ (e₁, ob) ∈ news ∧ ob.data = .fields vs ∧ vs[2]? = some .none
theorem HandN.hand {A : Around} {news : List (Addr × Obj)} {g h : Heap} {L : Addr} (H : HandN A news) (N : News g L h news) : Hand A h := by
  rcases H with h | ⟨e, ob, vs, h1, h2, h3, h4⟩
  · exact .inl h
  · exact .inr ⟨e, ob, vs, h1, (N _ h2).1, h3, h4⟩

theorem keep_list {g h : Heap} {L l : Addr} {m : Str → Option Value} {xs : Array Value} (F : Fr g L h m) (hl : g.IsList l xs) : h.IsList l xs := by
  obtain ⟨o, ho, r⟩ := hl
  exact ⟨o, F.keep _ _ ho, r⟩

section
variable {prog : Program} {w : World} {A : Around} {E : Value → Shared → Prop} {s : Shared} {g : Heap} {L f : Addr} {m : Str → Option Value} {news : List (Addr × Obj)} {nm : Str} {scope : Scope} {cd : Value}
  {El : Value → Int → Prop} {xs : List Value} {kx : List Int} {lx : Addr} {nl ni ne : Str} {p1 p2 p3 p4 p5 p6 p7 p8 p9 : Pos}

/-- an item at a place of the frame's, in the list or past its end -/
theorem item_at {Q : Value → Shared → Prop} {i : Nat} {t : Tok} (hx : Els El xs kx) (F : Fr g L s.heap m) (N : News g L s.heap news) (hl : g.IsList lx xs.toArray) (ml : m nl = some (.ref lx)) (mi : m ni = some (.int i t)) (hsz : kx.length < 2 ^ 62) (hi : i ≤ kx.length)
    (hH : HandN A news) (hk : scope.kind = .function) (kl : (envOf nm scope L f cd).kindOf nl = some .local) (ki : (envOf nm scope L f cd).kindOf ni = some .local) (dl : (nl == ("__debug__" : Str)) = false) (di : (ni == ("__debug__" : Str)) = false)
    (h1 : ∀ v k, kx[i]? = some k → El v k → Q v s) (h2 : i = kx.length → ∀ h' tk e, NewX s.heap h' e (A.handled.getD .none) → E (.ref e) { s with heap := h', toks := tk }) :
    wpAny (model prog w) A (eval (.Subscript (.Name nl p1) (.Name ni p2) p3) (envOf nm scope L f cd)) Q E s := by
  refine Subscript_ (ld F ml (ld F mi ?_ hk ki di) hk kl dl)
  have hl' := keep_list F hl
  have hlen := hx.length
  rcases Nat.lt_or_eq_of_le hi with hlt | he
  · have hk' : kx[i]? = some kx[i] := List.getElem?_eq_getElem hlt
    obtain ⟨v, hv, hel⟩ := hx.at hk'
    exact tail_any hl'.typeIs slot_list_getitem.lookup (wpAny_getItem_list hl' (by omega) (by omega) (by simpa using hv) (h1 v _ hk' hel)) (by with_unfolding_all rfl)
  · exact tail_any hl'.typeIs slot_list_getitem.lookup (item_out (hH.hand N) hl' (by omega) (by simp [hlen]; omega) (by omega) (h2 he)) (by with_unfolding_all rfl)

theorem drop_cons_of {ks : List Int} {i : Nat} {k : Int} (h : ks[i]? = some k) : ks.drop i = k :: ks.drop (i + 1) := by
  have hi : i < ks.length := (List.getElem?_eq_some_iff.mp h).1
  rw [List.drop_eq_getElem_cons hi]
  congr 1
  exact Option.some.inj ((List.getElem?_eq_getElem hi).symm.trans h)

/-- while xs[i] == e: i += 1 -/
theorem inner (C : Cmp prog w El) (hx : Els El xs kx) {k : Int} {v : Value} (hv : El v k) {i : Nat} {t : Tok} {Q : Flow → Shared → Prop} (F : Fr g L s.heap m) (N : News g L s.heap news) (hl : g.IsList lx xs.toArray) (ml : m nl = some (.ref lx)) (mi : m ni = some (.int i t)) (me : m ne = some v)
    (hne1 : nl ≠ ni) (hne2 : ne ≠ ni) (hi : i ≤ kx.length) (hsz : kx.length < 2 ^ 62) (hH : HandN A news)
    (hk : scope.kind = .function) (kl : (envOf nm scope L f cd).kindOf nl = some .local) (ki : (envOf nm scope L f cd).kindOf ni = some .local) (ke : (envOf nm scope L f cd).kindOf ne = some .local)
    (dl : (nl == ("__debug__" : Str)) = false) (di : (ni == ("__debug__" : Str)) = false) (de : (ne == ("__debug__" : Str)) = false)
    (hE : PassesOwn (model prog w) A (envOf nm scope L f cd) E)
    (done : ∀ h' tk i' t', i ≤ i' → i' < kx.length → (kx.drop i).dropWhile (· == k) = kx.drop i' → Fr g L h' (up m ni (.int (i' : Nat) t')) → News g L h' news → Q .next { s with heap := h', toks := tk })
    (out : ∀ h h' tk t' e, (kx.drop i).dropWhile (· == k) = [] → Fr g L h (up m ni (.int (kx.length : Nat) t')) → News g L h news → NewX h h' e (A.handled.getD .none) → E (.ref e) { s with heap := h', toks := tk }) :
    wpAny (model prog w) A (exec (.While (.Compare (.Subscript (.Name nl p1) (.Name ni p2) p3) [.Eq] [.Name ne p4] p5) [.AugAssign (.Name ni p6) .Add (.Constant (.int 1) 0 p7) p8] [] p9) (envOf nm scope L f cd)) Q E s := by
  refine wpAny_While ?_
  refine codeAny_whileLoop (fun n s' => ∃ h' tk i' t', s' = { s with heap := h', toks := tk } ∧ Fr g L h' (up m ni (.int (i' : Nat) t')) ∧ News g L h' news ∧ i ≤ i' ∧ i' ≤ kx.length ∧ (kx.drop i).dropWhile (· == k) = (kx.drop i').dropWhile (· == k) ∧ n = kx.length - i') ?_ (kx.length - i) ⟨s.heap, s.toks, i, t, rfl, by rw [up_id mi]; exact F, N, Nat.le_refl _, hi, rfl, rfl⟩
  rintro n s' ⟨h', tk, i', t', rfl, F', N', hii, hil, hdw, rfl⟩
  refine wpAny_isTrue_Compare1 ?_
  refine item_at (i := i') hx F' N' hl (by rw [up_ne hne1]; exact ml) up_same hsz hil hH hk kl ki dl di (fun u ku hku hu => ?_) (fun he h'' tk'' e X => ?_)
  · refine ld F' (by rw [up_ne hne2]; exact me) ?_ hk ke de
    refine C.eq hu hv (wpAny_truthy_bool ?_)
    have hlt : i' < kx.length := (List.getElem?_eq_some_iff.mp hku).1
    by_cases hkk : ku = k
    · rw [if_pos (by simp [hkk])]
      refine wpAny_execs_cons (wpAny_AugAssign_Name (ldn F' up_same (wpAny_Constant_int (iadd_int (stN F' N' (fun h2 F2 N2 => wpAny_execs_nil ?_) hk ki))) hk ki))
      refine ⟨kx.length - (i' + 1), by omega, h2, _, i' + 1, tk + 1, rfl, ?_, N2, by omega, by omega, ?_, rfl⟩
      · have e : (fun y => if y = ni then some (Value.int (((i' : Nat) : Int) + 1) (tk + 1)) else up m ni (.int (i' : Nat) t') y) = up m ni (.int ((i' + 1 : Nat) : Int) (tk + 1)) := by
          funext y; unfold up; split
          · simp
          · rfl
        exact e ▸ F2
      · rw [hdw, drop_cons_of hku, List.dropWhile_cons_of_pos (by simp [hkk])]
    · rw [if_neg (by simp [hkk])]
      refine wpAny_execs_nil ?_
      refine done h' tk i' t' hii hlt ?_ F' N'
      rw [hdw, drop_cons_of hku, List.dropWhile_cons_of_neg (by simp [hkk])]
  · subst he
    refine hE _ _ (out h' h'' tk'' t' e ?_ F' N' X)
    rw [hdw]; simp
end
end Mine
end

section
open PySem PySem.W PyProof.Rows PySem.Calls
namespace Mine
set_option maxRecDepth 100000
set_option maxHeartbeats 8000000

theorem slice_from (items : Array Value) {i : Nat} (h : i ≤ items.size) : (slicePick items (some (i : Int)) none none).toList = items.toList.drop i := by
  have e : sliceBounds (some (i : Int)) none none items.size = ((i : Int), ((items.size : Nat) : Int), 1) := by
    simp only [sliceBounds, Option.getD_none, show (1 : Int) > 0 by decide, if_true, if_neg (show ¬ ((i : Int) < 0) by omega)]
    congr 1
    omega
  rw [kmk_pick_nat _ e]
  simp
  rw [List.take_of_length_le (by rw [List.length_drop]; simp)]

section
variable {prog : Program} {w : World} {A : Around} {E : Value → Shared → Prop} {s : Shared} {g : Heap} {L f : Addr} {m : Str → Option Value} {news news' : List (Addr × Obj)} {news2 : Nat → List (Addr × Obj)} {nm : Str} {scope : Scope} {cd : Value}
  {x y l i : Str} {p1 p2 p3 p4 p5 p6 p7 p8 : Pos} {D lx : Addr} {v : Value}

/-- x.append(y) -/
theorem app_stmt {its : Array Value} {n : Nat} {Q : Flow → Shared → Prop} {pl : Sem Bool} (F : Fr g L s.heap m) (N : News g L s.heap news) (mx : m x = some (.ref D)) (my : m y = some v) (hD : (D, listOf its n) ∈ news)
    (U : Upd D (listOf its n) (listOf (its.push v) (n + 1)) news news') (hz : its.size ≤ sizeLine)
    (hk : scope.kind = .function) (kx : (envOf nm scope L f cd).kindOf x = some .local) (ky : (envOf nm scope L f cd).kindOf y = some .local) (dx : (x == ("__debug__" : Str)) = false) (dy : (y == ("__debug__" : Str)) = false)
    (hi : interactive (envOf nm scope L f cd) = false) (hs : swapsWith (.Call (.Attribute (.Name x p1) (Str.ofString "append") p2) [.Name y p3] [] p4) none p5.line (envOf nm scope L f cd) = pure false)
    (he : eval (.Call (.Attribute (.Name x p1) (Str.ofString "append") p2) [.Name y p3] [] p4) (envOf nm scope L f cd) = (do
      let ov ← eval (.Name x p1) (envOf nm scope L f cd)
      standAt p2.atName
      let (f', first) ← holding [ov] (getMethod ov (Str.ofString "append") pl)
      callWith p4 f' first (backTo p4 (starEach [.Name y p3] (envOf nm scope L f cd))) []))
    (k : ∀ h', Fr g L h' m → News g L h' news' → Q .next { s with heap := h' }) :
    wpAny (model prog w) A (exec (.Expr (.Call (.Attribute (.Name x p1) (Str.ofString "append") p2) [.Name y p3] [] p4) p5) (envOf nm scope L f cd)) Q E s := by
  refine wpAny_Expr_any ?_ hi hs
  refine MethodCall_ (pl := pl) (ld F mx ?_ hk kx dx) he
  refine kl_method N hD PySem.F.slot_list_append PySem.F.type_list_append ?_
  refine callWith_method1 ?_
  refine spliced_more (ld F my (spliced_none ?_) hk ky dy)
  exact append_K F N U k hz

/-- x.extend(l[i:]) -/
theorem ext_stmt {its : Array Value} {n : Nat} {xs : List Value} {j : Nat} {t : Tok} {Q : Flow → Shared → Prop} {pl : Sem Bool} (F : Fr g L s.heap m) (N : News g L s.heap news) (mx : m x = some (.ref D)) (ml : m l = some (.ref lx)) (mi : m i = some (.int (j : Nat) t)) (hD : (D, listOf its n) ∈ news)
    (hl : g.IsList lx xs.toArray) (hj : j ≤ xs.length) (U : ∀ n', Upd D (listOf its n) (listOf (its ++ (xs.drop j).toArray) n') news (news2 n')) (hz : its.size + xs.length ≤ sizeLine)
    (hk : scope.kind = .function) (kx : (envOf nm scope L f cd).kindOf x = some .local) (kl : (envOf nm scope L f cd).kindOf l = some .local) (ki : (envOf nm scope L f cd).kindOf i = some .local) (dx : (x == ("__debug__" : Str)) = false) (dl : (l == ("__debug__" : Str)) = false) (di : (i == ("__debug__" : Str)) = false)
    (hi : interactive (envOf nm scope L f cd) = false) (hs : swapsWith (.Call (.Attribute (.Name x p1) (Str.ofString "extend") p2) [.Subscript (.Name l p3) (.Slice (some (.Name i p4)) none none p5) p6] [] p7) none p8.line (envOf nm scope L f cd) = pure false)
    (he : eval (.Call (.Attribute (.Name x p1) (Str.ofString "extend") p2) [.Subscript (.Name l p3) (.Slice (some (.Name i p4)) none none p5) p6] [] p7) (envOf nm scope L f cd) = (do
      let ov ← eval (.Name x p1) (envOf nm scope L f cd)
      standAt p2.atName
      let (f', first) ← holding [ov] (getMethod ov (Str.ofString "extend") pl)
      callWith p7 f' first (backTo p7 (starEach [.Subscript (.Name l p3) (.Slice (some (.Name i p4)) none none p5) p6] (envOf nm scope L f cd))) []))
    (k : ∀ h' n', Fr g L h' m → News g L h' (news2 n') → Q .next { s with heap := h' }) :
    wpAny (model prog w) A (exec (.Expr (.Call (.Attribute (.Name x p1) (Str.ofString "extend") p2) [.Subscript (.Name l p3) (.Slice (some (.Name i p4)) none none p5) p6] [] p7) p8) (envOf nm scope L f cd)) Q E s := by
  refine wpAny_Expr_any ?_ hi hs
  refine MethodCall_ (pl := pl) (ld F mx ?_ hk kx dx) he
  refine kl_method N hD PySem.F.slot_list_extend PySem.F.type_list_extend ?_
  refine callWith_method1 ?_
  refine spliced_more ?_
  refine Subscript_ (ld F ml (wpAny_Slice ?_) hk kl dl)
  refine wpAny_evalPart_some (ld F mi (wpAny_evalPart_none (wpAny_evalPart_none ?_)) hk ki di)
  have hl' := keep_list F hl
  refine kmk_slice F N hl' (.int _ _) .none (fun D2 h2 F2 N2 l2 => spliced_none ?_) (by with_unfolding_all rfl) (fun _ => rfl) (by simp; omega)
  have e0 : (slicePick xs.toArray (some (j : Int)) none none).toList = xs.drop j := by rw [slice_from _ (by simpa using hj)]
  have hb : (D2, listOf (slicePick xs.toArray (some (j : Int)) none none) 0) ∈ (D2, listOf (slicePick xs.toArray (some (j : Int)) none none) 0) :: news := .head _
  have hsz : (slicePick xs.toArray (some (j : Int)) none none).size = xs.length - j := by rw [← Array.length_toList, e0, List.length_drop]
  have hneD : D2 ≠ D := fun q => Nat.lt_irrefl _ (q ▸ l2 _ hD)
  have drop2 : ∀ {h3 n'}, News g L h3 ((D2, listOf (slicePick xs.toArray (some (j : Int)) none none) 0) :: news2 n') → News g L h3 (news2 n') := fun N3 p hp => N3 p (.tail _ hp)
  have hno : ¬(!its.isEmpty && Builtin.List.listTooLong (its.size + (slicePick xs.toArray (some (j : Int)) none none).size)) = true := by
    simp [Builtin.List.listTooLong, hsz]; intro _; omega
  by_cases hlast : j = xs.length
  · have e1 : (slicePick xs.toArray (some (j : Int)) none none).toList = [] := by rw [e0]; simp [hlast]
    have U0 := U n
    have : its ++ (xs.drop j).toArray = its := by simp [hlast]
    rw [this] at U0
    exact kxn_extend F2 N2 hb e1 (.tail hneD U0) hno (by simp; omega) (by rw [hsz]; omega) fun h3 F3 N3 => k h3 n F3 (drop2 N3)
  · refine kl_extend (n := n) (l := its.toList ++ xs.drop j) F2 N2 hb (by rw [e0]) (by rw [e0, List.length_drop]; omega) (.tail hneD ?_) hno (by simp; omega) (by rw [hsz]; omega) fun h3 F3 N3 => k h3 (n + 1) F3 (drop2 N3)
    have U1 := U (n + 1)
    have : its ++ (xs.drop j).toArray = (its.toList ++ xs.drop j).toArray := by simp
    rw [this] at U1
    exact U1
end
end Mine
end

section
open PySem PySem.W PyProof.Rows PySem.Calls
namespace Mine
set_option maxRecDepth 100000
set_option maxHeartbeats 8000000

theorem dropWhile_le (q : Int → Bool) (l : List Int) : (l.dropWhile q).length ≤ l.length := by
  induction l with
  | nil => simp
  | cons a r ih => simp only [List.dropWhile_cons]; split <;> simp <;> omega
/-- what sorted_list_difference tells, of the keys -/
def sldF : List Int → List Int → List Int × List Int
  | [], ys => ([], ys)
  | x :: xs, [] => (x :: xs, [])
  | x :: xs, y :: ys =>
    if x < y then (x :: (sldF (xs.dropWhile (· == x)) (y :: ys)).1, (sldF (xs.dropWhile (· == x)) (y :: ys)).2)
    else if y < x then ((sldF (x :: xs) (ys.dropWhile (· == y))).1, y :: (sldF (x :: xs) (ys.dropWhile (· == y))).2)
    else sldF (xs.dropWhile (· == x)) (ys.dropWhile (· == y))
termination_by xs ys => xs.length + ys.length
decreasing_by
  all_goals (
    have h1 := dropWhile_le (· == x) xs
    have h2 := dropWhile_le (· == y) ys
    simp only [List.length_cons]
    omega)
theorem sldF_nil (ys : List Int) : sldF [] ys = ([], ys) := by unfold sldF; rfl
theorem sldF_nil' (xs : List Int) : sldF xs [] = (xs, []) := by cases xs <;> (unfold sldF; rfl)
theorem sldF_lt {x y : Int} {xs ys : List Int} (h : x < y) : sldF (x :: xs) (y :: ys) = (x :: (sldF (xs.dropWhile (· == x)) (y :: ys)).1, (sldF (xs.dropWhile (· == x)) (y :: ys)).2) := by
  rw [sldF, if_pos h]
theorem sldF_gt {x y : Int} {xs ys : List Int} (h : y < x) : sldF (x :: xs) (y :: ys) = ((sldF (x :: xs) (ys.dropWhile (· == y))).1, y :: (sldF (x :: xs) (ys.dropWhile (· == y))).2) := by
  rw [sldF, if_neg (by omega), if_pos h]
theorem sldF_eq {x y : Int} {xs ys : List Int} (h : x = y) : sldF (x :: xs) (y :: ys) = sldF (xs.dropWhile (· == x)) (ys.dropWhile (· == y)) := by
  rw [sldF, if_neg (by omega), if_neg (by omega)]

section
variable {prog : Program} {w : World} {A : Around} {E : Value → Shared → Prop} {s : Shared} {g h : Heap} {L L0 : Addr} {o0 : Obj} {m : Str → Option Value} {lists news : List (Addr × Obj)} {e : Addr} {c : Value} {env env0 : Env}

theorem Ex.first {M : Model} {Q : Unit → Shared → Prop} (hfr : A.frames = some [env, env0]) (hf : env.frame = some L) (hk : env.scope.kind = .function) (hf0 : env0.frame = some L0) (hk0 : env0.scope.kind = .function)
    (F : Fr g L h m) (N : News g L h (lists ++ [(L0, o0)])) (hoff : ∀ p ∈ lists, p.1 ≠ L0) (hd0 : ∃ es ep, o0.data = .dict es ep) (X : NewX h s.heap e c)
    (k : ∀ h' sl, Ex g L h' m (lists ++ [(L0, { o0 with slots := sl })]) e (rawInt L) c → Q () { s with heap := h' }) : wpAny M A (noteFrame (.ref e) env) Q E s := by
  obtain ⟨oe, vs, he, hc, hd, h1, h2⟩ := X.there
  obtain ⟨oL, es, ep, hL, hLd, hLr⟩ := F.ns
  obtain ⟨hL0, hL0L, hL0g⟩ := N (L0, o0) (by simp)
  have hgL : g.get? L = none := by
    cases q : g.get? L with
    | none => rfl
    | some o => exact absurd (Heap.lt_size q) (Nat.not_lt.mpr F.above)
  have hgone : ∀ b, h.get? b = none → g.get? b = none := fun b hb => by
    cases q : g.get? b with
    | none => rfl
    | some o => have := F.keep b o q; rw [hb] at this; cases this
  have hff : s.heap.FunFrames g [env, env0] := by
    refine ⟨by rw [hk]; decide, ⟨L, oL, hf, hgL, X.keeps _ _ hL, fun ws q => by rw [hLd] at q; cases q⟩, by rw [hk0]; decide, ⟨L0, o0, hf0, hL0g, X.keeps _ _ hL0, fun ws q => ?_⟩, trivial⟩
    obtain ⟨es0, ep0, hd0⟩ := hd0
    rw [hd0] at q; cases q
  have hfs : [env, env0].filterMap (·.frame) = [L, L0] := by simp [hf, hf0]
  have heL : L ≠ e := fun q => by have := X.new; rw [← q, hL] at this; cases this
  have heL0 : L0 ≠ e := fun q => by have := X.new; rw [← q, hL0] at this; cases this
  refine note_first hfr hff hf he hd h1 fun h' T oT ts kk ks he' hT hTe hT' hdT h3 => ?_
  rw [hfs] at kk
  have hTh : h.get? T = none := by
    cases q : h.get? T with
    | none => rfl
    | some o => have := X.keeps T o q; rw [hT] at this; cases this
  have ne_of : ∀ {b : Addr} {o : Obj}, h.get? b = some o → b ≠ e := fun hb q => by have := X.new; rw [← q, hb] at this; cases this
  obtain ⟨slL, hL'⟩ := ks L oL heL (X.keeps _ _ hL)
  obtain ⟨sl, hL0'⟩ := ks L0 o0 heL0 (X.keeps _ _ hL0)
  have hsz : 1 < vs.size := (Array.getElem?_eq_some_iff.mp h1).1
  have keep : ∀ b o, b ≠ L → b ≠ L0 → h.get? b = some o → h'.get? b = some o := fun b o q1 q2 hb => kk b o (ne_of hb) (by simp [q1, q2]) (X.keeps b o hb)
  refine k h' sl ⟨⟨⟨_, es, ep, hL', hLd, hLr⟩, fun b o hb => keep b o (fun q => by rw [q, hgL] at hb; cases hb) (fun q => by rw [q, hL0g] at hb; cases hb) (F.keep b o hb), F.above⟩, fun p hp => ?_, hgone e X.new, fun p hp => ?_,
    _, T, oT, vs.setIfInBounds 1 (.ref T), ts, he', (Obj.cls_mapFields ..).trans hc, Obj.data_mapFields hd _, by simp [hsz], by rw [Array.getElem?_setIfInBounds_ne (by decide)]; exact h2, hT', hdT, h3,
    (fun q => by rw [q, hL] at hTh; cases hTh), hTe, hgone T hTh, fun p hp q => ?_⟩
  · rcases List.mem_append.mp hp with hp | hp
    · have P := N p (List.mem_append_left _ hp)
      exact ⟨keep _ _ P.2.1 (hoff p hp) P.1, P.2⟩
    · rw [List.mem_singleton.mp hp]
      exact ⟨hL0', hL0L, hL0g⟩
  · rcases List.mem_append.mp hp with hp | hp
    · exact ne_of (N p (List.mem_append_left _ hp)).1
    · rw [List.mem_singleton.mp hp]; exact heL0
  · rcases List.mem_append.mp hp with hp | hp
    · have P := (N p (List.mem_append_left _ hp)).1
      rw [q, hTh] at P; cases P
    · rw [List.mem_singleton.mp hp] at q
      have q' : L0 = T := q
      rw [q', hTh] at hL0; cases hL0

/-- the try's own clause takes it -/
theorem catch_it {Q : Flow → Shared → Prop} {b₀ : Stmt} {suite : List Stmt} {t : Expr} {pos : Pos} (hf : env.frame = some L) (H : Ex g L s.heap m news e (rawInt L) c)
    (hname : ∀ (s' : Shared) (A' : Around) (E' : Value → Shared → Prop) (Q' : Value → Shared → Prop), Fr g L s'.heap m → Q' (.type "IndexError") s' → wpAny (model prog w) A' (eval t env) Q' E' s')
    (k : ∀ h' E', Fr g L h' m → News g L h' news → wpAny (model prog w) (A.mark (some (.ref e))) (execs (b₀ :: suite) env) Q E' { s with heap := h' }) :
    wpAny (model prog w) A (noteFrame (.ref e) env) (fun _ s₂ => wpAny (model prog w) A (setFlight (.ref e) none) (fun _ s₃ =>
        wpAny (model prog w) A (handleBy (.ref e) env [.ExceptHandler (some t) none (b₀ :: suite) pos]) Q E s₃) E s₂) E s := by
  refine H.again hf (H.fly fun h1 H1 => ?_)
  obtain ⟨oe, T, oT, vs, ts, he, hc, _⟩ := H1.there
  refine wpAny_handleBy_builtin (X := "IndexError") (T := "IndexError") (b := true) PySem.F.isExc_IndexError PySem.F.notTuple_IndexError PySem.F.self_IndexError (hname _ _ _ _ H1.fr ⟨rfl, ⟨oe, he, hc⟩, ?_⟩)
  rw [if_pos rfl]
  exact Ex.fly (s := { s with heap := h1 }) H1 fun h2 H2 => k h2 _ H2.fr H2.made
end

/-- a call of a def that catches what it raises: the caller's frame may turn its slots -/
def ClS (prog : Program) (w : World) (p : Program) (loose : List Str) (mean : ExcName → Option Value) (mg mb : Str → Option Value) (f : Addr) (pre : Heap → Prop) (vs : List Value) (Out : Heap → Heap → Addr → Value → Prop) : Prop :=
  ∀ (A : Around) (s : Shared) (Q E : Value → Shared → Prop) (h₀ : Heap) (L : Addr) (m : Str → Option Value) (env0 : Env), Fr h₀ L s.heap m → (hd.heap_39 w.params).In h₀ → Top p loose mean mg mb h₀ → A.handled = none → A.frames = some [env0] → env0.frame = some L → env0.scope.kind = .function →
    A.depth + 2 < recursionLimit → A.units + 40 < cLine → pre s.heap →
    (∀ r h' tk', Fr h₀ L h' m → (∀ b o, b ≠ L → s.heap.get? b = some o → h'.get? b = some o) → Out s.heap h' L r → Q r { s with heap := h', toks := tk' }) →
    wpAny (model prog w) A (call (.ref f) vs) Q E s

theorem ClS.enter {prog : Program} {w : World} {p : Program} {loose : List Str} {mean : ExcName → Option Value} {mg mb : Str → Option Value} {f : Addr} {pre : Heap → Prop} {vs : List Value} {Out : Heap → Heap → Addr → Value → Prop}
    {name qual : Str} {params : Arguments} {body : List Stmt} {scope : Scope} {dV kV doc pm cdv ct oc : Value} {an od : Option Addr} {osl : Array (Option Value)} {binds : List (Str × Value)}
    (ho : (hd.heap_39 w.params).lookup f = some ⟨oc, od, .func (fnOf name qual params body scope dV kV doc pm an cdv ct), osl⟩) (hcd : codeIn (hd.heap_39 w.params) cdv qual = true)
    (hbind : ∀ s, BindsTo s (fnOf name qual params body scope dV kV doc pm an cdv ct) ⟨vs, []⟩ binds) (hloc : ∀ y ∈ binds, scope.names.lookup y.1 = some .local)
    (hco : scope.isCoroutine = false) (hgen : scope.isGenerator = false) (hk : scope.kind = .function)
    (hcell : ∀ x ∈ scope.names, x.2 ≠ .cell)
    (h : ∀ (dp un : Nat) (gd : Option (List Code)) (env0 : Env) (L0 : Addr) (o0 : Obj) (g : Heap) (L' : Addr) (h₁ : Heap) (s : Shared) (Q E : Value → Shared → Prop), pre s.heap → (∀ b o, b ≠ L0 → s.heap.get? b = some o → g.get? b = some o) → (∀ b, s.heap.get? b = none → g.get? b = none) →
      s.heap.get? L0 = some o0 → Fr g L' h₁ (fun y => binds.reverse.lookup y) → News g L' h₁ [(L0, o0)] → (∃ es ep, o0.data = .dict es ep) → env0.frame = some L0 → env0.scope.kind = .function →
      (hd.heap_39 w.params).In g → Top p loose mean mg mb g → dp + 2 < recursionLimit → un + 40 < cLine →
      (∀ r h' tk' sl, (∀ b o, g.get? b = some o → h'.get? b = some o) → h'.get? L0 = some { o0 with slots := sl } → Out s.heap h' L0 r → Q r { s with heap := h', toks := tk' }) →
      wpAny (model prog w) (Around.deeper { handled := none, depth := dp, frames := some [env0], guards := gd, units := un } (envOf qual scope L' f cdv)) (execs body (envOf qual scope L' f cdv))
        (fun fl s' => Q (match fl with | .ret v => v | _ => .none) s')
        (fun e s' => wpAny (model prog w) (Around.deeper { handled := none, depth := dp, frames := some [env0], guards := gd, units := un } (envOf qual scope L' f cdv)) (leaving (envOf qual scope L' f cdv) e) (fun _ s'' => E e s'') (fun e' s'' => E e' s'') s')
        { s with heap := h₁, toks := s.toks + binds.length }) : ClS prog w p loose mean mg mb f pre vs Out := by
  intro A s Q E h₀ L m env0 F X T hh hA hf hke hdp hun hpre hret
  obtain ⟨hd', dp, fr, gd, un⟩ := A
  dsimp only at hh hA hdp hun
  subst hh
  subst hA
  refine wpAny_call ?_
  have K := X
  refine codeAny_call_def (fd := fnOf name qual params body scope dV kV doc pm an cdv ct) (body := body) (binds := binds) (by show dp < _; omega) ((X.keeps F.keep) _ _ ho) rfl (T.nolimit.keeps F.keep) (codeRec_of (X.keeps F.keep) hcd) rfl (hbind s) hcell hloc (fun h₁ hns hk₁ => ?_) hco hgen hk
  obtain ⟨oL, es, ep, hL, hLd, hLk, hLf⟩ := F.ns
  have st : ∀ b o, h₀.get? b = some o → (s.heap.hide L).get? b = some o := fun b o q => (Heap.hide_ne _ fun z => by rw [z] at q; exact absurd (Heap.lt_size q) (Nat.not_lt.mpr F.above)).trans (F.keep b o q)
  have hlt := Heap.lt_size hL
  refine h dp un gd env0 L oL (s.heap.hide L) s.heap.objs.size h₁ s Q E hpre (fun b o q e => (Heap.hide_ne _ q).trans e) (fun b hb => ?_) hL ⟨hns, fun b o e => hk₁ b o (Heap.of_hide e), Nat.le_of_eq (Heap.hide_size _ _)⟩ (fun q hq => ?_) ⟨es, ep, hLd⟩ hf hke (X.keeps st) (T.keeps st) hdp hun ?_
  · cases q : (s.heap.hide L).get? b with
    | none => rfl
    | some o => have := Heap.of_hide q; rw [hb] at this; cases this
  · rw [List.mem_singleton.mp hq]
    exact ⟨hk₁ _ _ hL, Nat.ne_of_lt hlt, Heap.hide_self _ _⟩
  · intro r h' tk' sl kk hL' o
    exact hret r h' tk' ⟨⟨_, es, ep, hL', hLd, hLk, hLf⟩, fun b o e => kk b o (st b o e), F.above⟩ (fun b o q e => kk b o ((Heap.hide_ne _ q).trans e)) o
end Mine
end

section
open PySem PySem.W PyProof.Rows PySem.Calls
namespace Mine
set_option maxRecDepth 100000
set_option maxHeartbeats 8000000

theorem passes_note {M : Model} {A : Around} {env : Env} {K : Value → Shared → Prop} {E₁ : Value → Value → Shared → Prop} : PassesOwn M A env (fun e s' => wpAny M A (noteFrame e env) (fun _ s'' => K e s'') (E₁ e) s') :=
  fun _ _ h => wpAny_look_again (SameStack.refl A) h

theorem try_except' {prog : Program} {w : World} {A : Around} {E Et : Value → Shared → Prop} {s : Shared} {env : Env} {body : List Stmt} {h₀ : ExceptHandler} {hs : List ExceptHandler} {pos : Pos} {Q : Flow → Shared → Prop}
    (hEt : ∀ e s₁, Et e s₁ → wpAny (model prog w) A (noteFrame e env) (fun _ s₂ => wpAny (model prog w) A (setFlight e none) (fun _ s₃ => wpAny (model prog w) A (handleBy e env (h₀ :: hs)) Q E s₃) E s₂) E s₁)
    (h : wpAny (model prog w) A (execs body env) Q Et s) :
    wpAny (model prog w) A (exec (.Try body (h₀ :: hs) [] [] pos) env) Q E s :=
  wpAny_Try_except (wpAny_mono h (fun f s₁ h₁ => by cases f <;> first | exact wpAny_execs_nil h₁ | exact h₁) hEt)

/-- what stands fast in a call of sorted_list_difference -/
structure SldP where
  g : Heap
  L : Addr
  L0 : Addr
  lx : Addr
  ly : Addr
  M : Addr
  U : Addr
  o0 : Obj
  xs : List Value
  ys : List Value
  kx : List Int
  ky : List Int
  El : Value → Int → Prop
  env0 : Env

structure SldAt (m : Str → Option Value) (P : SldP) (i j : Nat) : Prop where
  ex : m (Str.ofString "expected") = some (.ref P.lx)
  ac : m (Str.ofString "actual") = some (.ref P.ly)
  mi : m (Str.ofString "missing") = some (.ref P.M)
  un : m (Str.ofString "unexpected") = some (.ref P.U)
  vi : ∃ t, m (Str.ofString "i") = some (.int (i : Nat) t)
  vj : ∃ t, m (Str.ofString "j") = some (.int (j : Nat) t)

structure SldP.Ok (P : SldP) : Prop where
  hMU : P.M ≠ P.U
  hM0 : P.M ≠ P.L0
  hU0 : P.U ≠ P.L0
  hlx : P.g.IsList P.lx P.xs.toArray
  hly : P.g.IsList P.ly P.ys.toArray
  hx : Els P.El P.xs P.kx
  hy : Els P.El P.ys P.ky
  szx : P.kx.length < 2 ^ 20
  szy : P.ky.length < 2 ^ 20
  hd0 : ∃ es ep, P.o0.data = .dict es ep
  hf0 : P.env0.frame = some P.L0
  hk0 : P.env0.scope.kind = .function

abbrev SldP.led (P : SldP) (ms us : List Value) (nM nU : Nat) (sl : Array (Option Value)) : List (Addr × Obj) := [(P.M, listOf ms.toArray nM), (P.U, listOf us.toArray nU)] ++ [(P.L0, { P.o0 with slots := sl })]

def SldP.In (P : SldP) (m : Str → Option Value) (news : List (Addr × Obj)) (i j : Nat) : Prop :=
  ∃ ms us mk uk nM nU sl, news = P.led ms us nM nU sl ∧ SldAt m P i j ∧ i ≤ P.kx.length ∧ j ≤ P.ky.length ∧ Els P.El ms mk ∧ Els P.El us uk ∧ mk.length ≤ i ∧ uk.length ≤ j ∧
    sldF P.kx P.ky = (mk ++ (sldF (P.kx.drop i) (P.ky.drop j)).1, uk ++ (sldF (P.kx.drop i) (P.ky.drop j)).2)

def SameOs (s s₁ : Shared) : Prop := s₁ = { s with heap := s₁.heap, toks := s₁.toks }
theorem SameOs.mk' {s : Shared} {h : Heap} {tk : Nat} : SameOs s { s with heap := h, toks := tk } := rfl
theorem SameOs.heap {s s₁ : Shared} (e : SameOs s s₁) {h : Heap} : SameOs s { s₁ with heap := h } := by unfold SameOs at *; rw [e]
theorem SameOs.both {s s₁ : Shared} (e : SameOs s s₁) {h : Heap} {tk : Nat} : SameOs s { s₁ with heap := h, toks := tk } := by unfold SameOs at *; rw [e]

theorem SameOs.to {s s₁ : Shared} (e : SameOs s s₁) (h : Heap) (tk : Nat) : ({ s₁ with heap := h, toks := tk } : Shared) = { s with heap := h, toks := tk } := by
  unfold SameOs at e
  have e1 := congrArg Shared.gens e
  have e2 := congrArg Shared.drawn e
  have e3 := congrArg Shared.os e
  dsimp only at e1 e2 e3
  rw [e1, e2, e3]
/-- an IndexError on its way to the clause: new, or noted in this frame -/
def SldP.Et (P : SldP) (s : Shared) (e : Value) (s₁ : Shared) : Prop :=
  ∃ a m news i j c, e = .ref a ∧ P.In m news i j ∧ (i = P.kx.length ∨ j = P.ky.length) ∧ SameOs s s₁ ∧
    ((∃ h, Fr P.g P.L h m ∧ News P.g P.L h news ∧ NewX h s₁.heap a c) ∨ Ex P.g P.L s₁.heap m news a (rawInt P.L) c)

theorem SldP.Ok.off {P : SldP} (O : P.Ok) {ms us : List Value} {nM nU : Nat} : ∀ p ∈ [(P.M, listOf ms.toArray nM), (P.U, listOf us.toArray nU)], p.1 ≠ P.L0 := by
  intro p hp
  rcases List.mem_cons.mp hp with rfl | hp
  · exact O.hM0
  · rw [List.mem_singleton.mp hp]; exact O.hU0

theorem SldP.In.slots {P : SldP} {m : Str → Option Value} {i j : Nat} {ms us : List Value} {nM nU : Nat} {sl sl' : Array (Option Value)} (H : P.In m (P.led ms us nM nU sl) i j) : P.In m (P.led ms us nM nU sl') i j := by
  obtain ⟨ms', us', mk, uk, nM', nU', sl'', e, r⟩ := H
  refine ⟨ms, us, mk, uk, nM, nU, sl', rfl, ?_⟩
  simp only [SldP.led, List.cons_append, List.nil_append, List.cons.injEq, Prod.mk.injEq, Obj.mk.injEq, Data.seq.injEq, true_and, and_true] at e
  obtain ⟨⟨e1, _⟩, ⟨e2, _⟩, _⟩ := e
  have e1' : ms = ms' := by simpa using e1
  have e2' : us = us' := by simpa using e2
  subst e1' e2'
  exact r

/-- whatever stands behind: it is noted here, and stays what it is -/
theorem SldP.note {P : SldP} (O : P.Ok) {s : Shared} {env : Env} {M : Model} {A : Around} {E : Value → Shared → Prop} {e : Value} {s₁ : Shared} {Q : Unit → Shared → Prop} (hf : env.frame = some P.L) (hk : env.scope.kind = .function) (hfr : A.frames = some [env, P.env0])
    (H : P.Et s e s₁) (k : ∀ a m news i j c h', e = .ref a → P.In m news i j → (i = P.kx.length ∨ j = P.ky.length) → SameOs s { s₁ with heap := h' } → Ex P.g P.L h' m news a (rawInt P.L) c → Q () { s₁ with heap := h' }) :
    wpAny M A (noteFrame e env) Q E s₁ := by
  obtain ⟨a, m, news, i, j, c, rfl, hin, hij, hos, H | H⟩ := H
  · obtain ⟨h, F, N, X⟩ := H
    obtain ⟨ms, us, mk, uk, nM, nU, sl, rfl, r⟩ := hin
    refine Ex.first hfr hf hk O.hf0 O.hk0 F N O.off O.hd0 X fun h' sl' H' => ?_
    exact k a m _ i j c h' rfl ⟨ms, us, mk, uk, nM, nU, sl', rfl, r⟩ hij hos.heap H'
  · exact H.again hf (k a m news i j c s₁.heap rfl hin hij hos H)

theorem SldP.passes {P : SldP} (O : P.Ok) {s : Shared} {env : Env} {M : Model} {A : Around} (hf : env.frame = some P.L) (hk : env.scope.kind = .function) (hfr : A.frames = some [env, P.env0]) : PassesOwn M A env (P.Et s) := by
  intro e s₁ H
  refine SldP.note O hf hk hfr H fun a m news i j c h' he hin hij hos H' => ?_
  subst he
  exact Ex.came (s := { s₁ with heap := h' }) H' hf fun h'' H'' => ⟨a, m, news, i, j, c, rfl, hin, hij, hos.heap, .inr H''⟩

theorem Ex.sub {g : Heap} {L : Addr} {h : Heap} {m : Str → Option Value} {news news' : List (Addr × Obj)} {e : Addr} {fl c : Value} (H : Ex g L h m news e fl c) (hs : ∀ p ∈ news', p ∈ news) : Ex g L h m news' e fl c := by
  obtain ⟨F, N, hn, ho, oe, T, oT, vs, ts, he, hc, hd, h1, h2, hT, hdT, h3, hTL, hTe, hTg, hTn⟩ := H
  exact ⟨F, fun p hp => N p (hs p hp), hn, fun p hp => ho p (hs p hp), oe, T, oT, vs, ts, he, hc, hd, h1, h2, hT, hdT, h3, hTL, hTe, hTg, fun p hp => hTn p (hs p hp)⟩
/-- the try's own clause takes it, once it is noted -/
theorem catch_held {prog : Program} {w : World} {A : Around} {E : Value → Shared → Prop} {s : Shared} {g : Heap} {L : Addr} {m : Str → Option Value} {news : List (Addr × Obj)} {e : Addr} {fl c : Value} {env : Env} {Q : Flow → Shared → Prop} {b₀ : Stmt} {suite : List Stmt} {t : Expr} {pos : Pos}
    (H : Ex g L s.heap m news e fl c)
    (hname : ∀ (s' : Shared) (A' : Around) (E' : Value → Shared → Prop) (Q' : Value → Shared → Prop), Fr g L s'.heap m → Q' (.type "IndexError") s' → wpAny (model prog w) A' (eval t env) Q' E' s')
    (k : ∀ h' E', Fr g L h' m → News g L h' news → wpAny (model prog w) (A.mark (some (.ref e))) (execs (b₀ :: suite) env) Q E' { s with heap := h' }) :
    wpAny (model prog w) A (setFlight (.ref e) none) (fun _ s₃ => wpAny (model prog w) A (handleBy (.ref e) env [.ExceptHandler (some t) none (b₀ :: suite) pos]) Q E s₃) E s := by
  refine H.fly fun h1 H1 => ?_
  obtain ⟨oe, T, oT, vs, ts, he, hc, _⟩ := H1.there
  refine wpAny_handleBy_builtin (X := "IndexError") (T := "IndexError") (b := true) PySem.F.isExc_IndexError PySem.F.notTuple_IndexError PySem.F.self_IndexError (hname _ _ _ _ H1.fr ⟨rfl, ⟨oe, he, hc⟩, ?_⟩)
  rw [if_pos rfl]
  exact Ex.fly (s := { s with heap := h1 }) H1 fun h2 H2 => k h2 _ H2.fr H2.made

theorem SldAt.up {m : Str → Option Value} {P : SldP} {i j : Nat} (H : SldAt m P i j) {x : Str} {v : Value} (h1 : Str.ofString "expected" ≠ x) (h2 : Str.ofString "actual" ≠ x) (h3 : Str.ofString "missing" ≠ x) (h4 : Str.ofString "unexpected" ≠ x) (h5 : Str.ofString "i" ≠ x) (h6 : Str.ofString "j" ≠ x) : SldAt (up m x v) P i j :=
  ⟨(up_ne h1).trans H.ex, (up_ne h2).trans H.ac, (up_ne h3).trans H.mi, (up_ne h4).trans H.un, H.vi.elim fun t e => ⟨t, (up_ne h5).trans e⟩, H.vj.elim fun t e => ⟨t, (up_ne h6).trans e⟩⟩
theorem SldAt.upI {m : Str → Option Value} {P : SldP} {i j i' : Nat} {t : Tok} (H : SldAt m P i j) : SldAt (Mine.up m (Str.ofString "i") (.int (i' : Nat) t)) P i' j :=
  ⟨(up_ne (by decide)).trans H.ex, (up_ne (by decide)).trans H.ac, (up_ne (by decide)).trans H.mi, (up_ne (by decide)).trans H.un, ⟨t, up_same⟩, H.vj.elim fun t e => ⟨t, (up_ne (by decide)).trans e⟩⟩
theorem SldAt.upJ {m : Str → Option Value} {P : SldP} {i j j' : Nat} {t : Tok} (H : SldAt m P i j) : SldAt (Mine.up m (Str.ofString "j") (.int (j' : Nat) t)) P i j' :=
  ⟨(up_ne (by decide)).trans H.ex, (up_ne (by decide)).trans H.ac, (up_ne (by decide)).trans H.mi, (up_ne (by decide)).trans H.un, H.vi.elim fun t e => ⟨t, (up_ne (by decide)).trans e⟩, ⟨t, up_same⟩⟩
theorem step_lt {kx ky mk uk : List Int} {i j i7 : Nat} {k k' : Int} (hk : kx[i]? = some k) (hk' : ky[j]? = some k') (h : k < k') (hdw : (kx.drop (i + 1)).dropWhile (· == k) = kx.drop i7)
    (hs : sldF kx ky = (mk ++ (sldF (kx.drop i) (ky.drop j)).1, uk ++ (sldF (kx.drop i) (ky.drop j)).2)) : sldF kx ky = (mk ++ [k] ++ (sldF (kx.drop i7) (ky.drop j)).1, uk ++ (sldF (kx.drop i7) (ky.drop j)).2) := by
  rw [hs]
  have e : sldF (kx.drop i) (ky.drop j) = (k :: (sldF (kx.drop i7) (ky.drop j)).1, (sldF (kx.drop i7) (ky.drop j)).2) := by
    rw [drop_cons_of hk, drop_cons_of hk', sldF_lt h, hdw]
  rw [e]
  simp
theorem step_gt {kx ky mk uk : List Int} {i j j7 : Nat} {k k' : Int} (hk : kx[i]? = some k) (hk' : ky[j]? = some k') (h : k' < k) (hdw : (ky.drop (j + 1)).dropWhile (· == k') = ky.drop j7)
    (hs : sldF kx ky = (mk ++ (sldF (kx.drop i) (ky.drop j)).1, uk ++ (sldF (kx.drop i) (ky.drop j)).2)) : sldF kx ky = (mk ++ (sldF (kx.drop i) (ky.drop j7)).1, uk ++ [k'] ++ (sldF (kx.drop i) (ky.drop j7)).2) := by
  rw [hs]
  have e : sldF (kx.drop i) (ky.drop j) = ((sldF (kx.drop i) (ky.drop j7)).1, k' :: (sldF (kx.drop i) (ky.drop j7)).2) := by
    rw [drop_cons_of hk, drop_cons_of hk', sldF_gt h, hdw]
  rw [e]
  simp
theorem step_eq {kx ky mk uk : List Int} {i j i7 j7 : Nat} {k k' : Int} (hk : kx[i]? = some k) (hk' : ky[j]? = some k') (h : k = k') (hdx : (kx.drop (i + 1)).dropWhile (· == k) = kx.drop i7) (hdw : (ky.drop (j + 1)).dropWhile (· == k') = ky.drop j7)
    (hs : sldF kx ky = (mk ++ (sldF (kx.drop i) (ky.drop j)).1, uk ++ (sldF (kx.drop i) (ky.drop j)).2)) : sldF kx ky = (mk ++ (sldF (kx.drop i7) (ky.drop j7)).1, uk ++ (sldF (kx.drop i7) (ky.drop j7)).2) := by
  rw [hs, drop_cons_of hk, drop_cons_of hk', sldF_eq h, hdw, hdx]
end Mine
end

section
open PySem PySem.W PyProof.Rows PySem.Calls
namespace Mine
theorem freshS5 : True := by
  w_top off
  trivial
set_option maxRecDepth 100000
set_option maxHeartbeats 8000000
theorem meas1 {a b i i' j : Nat} (h : i + 1 ≤ i') (g : i' < a) : a - i' + (b - j) < a - i + (b - j) := by omega
theorem meas2 {a b i j j' : Nat} (h : j + 1 ≤ j') (g : j' < b) : a - i + (b - j') < a - i + (b - j) := by omega
theorem meas3 {a b i i' j j' : Nat} (h : i + 1 ≤ i') (g : i' < a) (h2 : j + 1 ≤ j') (g2 : j' < b) : a - i' + (b - j') < a - i + (b - j) := by omega
theorem len_snoc {mk : List Int} {k : Int} {i i' : Nat} (lm : mk.length ≤ i) (h : i + 1 ≤ i') : (mk ++ [k]).length ≤ i' := by
  rw [List.length_append]; exact Nat.le_trans (Nat.succ_le_succ lm) h
theorem len_le' {mk : List Int} {i i' : Nat} (lm : mk.length ≤ i) (h : i + 1 ≤ i') : mk.length ≤ i' := Nat.le_trans lm (Nat.le_of_succ_le h)
section
variable {prog p : Program} {w : World} {loose : List Str} {mean : ExcName → Option Value} {mg mb : Str → Option Value}
theorem cl_sld {El : Value → Int → Prop} (C : Cmp prog w El) {lx ly : Addr} {xs ys : List Value} {kx ky : List Int} (hx : Els El xs kx) (hy : Els El ys ky) (szx : kx.length < 2 ^ 20) (szy : ky.length < 2 ^ 20) :
    ClS prog w p loose mean mg mb 21 (fun h => h.IsList lx xs.toArray ∧ h.IsList ly ys.toArray) [.ref lx, .ref ly]
      (fun h h' _ r => ∃ T M U nM nU ms us, r = .ref T ∧ h'.get? T = some { cls := .type "tuple", data := .seq #[.ref M, .ref U] } ∧ h'.get? M = some (listOf ms.toArray nM) ∧ h'.get? U = some (listOf us.toArray nU) ∧
        h.get? T = none ∧ h.get? M = none ∧ h.get? U = none ∧ M < U ∧ U < T ∧ Els El ms (sldF kx ky).1 ∧ Els El us (sldF kx ky).2) := by
  refine' ClS.enter ?k6 ?k7 ?k9 ?kB ?c2 ?c3 ?c4 ?c5 ?_
  case k6 => k_is
  case k7 => k_is
  case k9 => exact fun _ => BindsTo.of_eq rfl
  case c5 => decide
  case kB => exact locs rfl
  case c2 => exact rfl
  case c3 => exact rfl
  case c4 => exact rfl
  intro dp un gd env0 L0 o0 g L h₁ s Q E hpre hg1 hg2 hL0 F N hd0 hf0 hk0 X T hdp hun hret
  k_fold
  iterate 21 walk1
  rename_i _ _ M _ l1 _ U _ l2 h F1 N1
  obtain ⟨hlx0, hly0⟩ := hpre
  have lne : ∀ {l : Addr} {items : Array Value}, s.heap.IsList l items → g.IsList l items := fun {l items} hl => by
    obtain ⟨o, ho, hc, n, hd⟩ := hl
    refine ⟨o, hg1 l o (fun q => ?_) ho, hc, n, hd⟩
    rw [q, hL0] at ho
    cases ho
    obtain ⟨es, ep, hd0⟩ := hd0
    rw [hd0] at hd
    cases hd
  let P : SldP := ⟨g, L, L0, lx, ly, M, U, o0, xs, ys, kx, ky, El, env0⟩
  have O : P.Ok := ⟨Nat.ne_of_lt l2.1, Nat.ne_of_gt l1, Nat.ne_of_gt l2.2, lne hlx0, lne hly0, hx, hy, szx, szy, hd0, hf0, hk0⟩
  have szx' : kx.length < 2 ^ 62 := Nat.lt_of_lt_of_le szx (by decide)
  have szy' : ky.length < 2 ^ 62 := Nat.lt_of_lt_of_le szy (by decide)
  have lex := hx.length
  have ley := hy.length
  have hsl : 2 ^ 20 + 2 ^ 20 + 2 ^ 20 < sizeLine := by rw [sizeLine_eq]; decide
  refine wpAny_execs_cons (wpAny_While ?_)
  refine codeAny_whileLoop (fun n s' => ∃ m news i j, SameOs s s' ∧ Fr g L s'.heap m ∧ News g L s'.heap news ∧ P.In m news i j ∧ n = (kx.length - i) + (ky.length - j)) ?turn (kx.length + ky.length) ?init
  case init =>
    refine ⟨_, P.led [] [] 0 0 o0.slots, 0, 0, rfl, F1, fun q hq => ?_, ⟨[], [], [], [], 0, 0, _, rfl, ⟨rfl, rfl, rfl, rfl, ⟨_, rfl⟩, ⟨_, rfl⟩⟩, Nat.zero_le _, Nat.zero_le _, .nil, .nil, Nat.le_refl _, Nat.le_refl _, by simp [P]⟩, rfl⟩
    simp only [SldP.led, List.cons_append, List.nil_append, List.mem_cons, List.not_mem_nil, or_false] at hq
    rcases hq with rfl | rfl | rfl
    · exact N1 _ (.tail _ (.head _))
    · exact N1 _ (.head _)
    · exact N1 _ (.tail _ (.tail _ (.head _)))
  case turn =>
    rintro n s' ⟨m, news, i, j, hos, F2, N2, hin, rfl⟩
    refine wpAny_isTrue_value (wpAny_Constant_bool (wpAny_truthy_bool ?_))
    rw [if_pos rfl]
    refine wpAny_execs_cons ?_
    refine try_except' (Et := P.Et s) ?hEt ?body
    case hEt =>
      intro e s₁ H
      refine SldP.note O rfl rfl rfl H fun a m news i j c h' he hin hij hos H' => ?_
      subst he
      refine catch_held (s := { s₁ with heap := h' }) H' (fun s' A' E' Q' F' q => name_B F' X (topRead_of T) (by k_is) PyProof.Rows.Boot.«IndexError» (by decide) q) fun h2 E' F' N' => ?_
      obtain ⟨ms, us, mk, uk, nM, nU, sl, rfl, At, hi, hj, Em, Eu, lm, lu, hsld⟩ := hin
      obtain ⟨ti, hti⟩ := At.vi
      obtain ⟨tj, htj⟩ := At.vj
      have lms := Em.length
      have lus := Eu.length
      have hi' : i ≤ kx.length := hi
      have hj' : j ≤ ky.length := hj
      refine wpAny_execs_cons (ext_stmt (its := ms.toArray) (n := nM) (xs := xs) (j := i) (news2 := fun n' => P.led (ms ++ xs.drop i) us n' nU sl) F' N' At.mi At.ex hti (.head _) O.hlx (by rw [lex]; exact hi') (fun n' => ?_) (by simp only [List.size_toArray]; omega) rfl rfl rfl rfl (by decide) (by decide) (by decide) rfl rfl rfl fun h3 n3 F3 N3 => ?_)
      · rw [List.append_toArray]
        exact Upd.head fun q hq => by
          change q ∈ [(P.U, _), (P.L0, _)] at hq
          rcases List.mem_cons.mp hq with rfl | hq
          · exact O.hMU.symm
          · rw [List.mem_singleton.mp hq]; exact O.hM0.symm
      refine wpAny_execs_cons (ext_stmt (its := us.toArray) (n := nU) (xs := ys) (j := j) (news2 := fun n' => P.led (ms ++ xs.drop i) (us ++ ys.drop j) n3 n' sl) F3 N3 At.un At.ac htj (.tail _ (.head _)) O.hly (by rw [ley]; exact hj') (fun n' => ?_) (by simp only [List.size_toArray]; omega) rfl rfl rfl rfl (by decide) (by decide) (by decide) rfl rfl rfl fun h4 n4 F4 N4 => ?_)
      · rw [List.append_toArray]
        exact Upd.tail O.hMU (Upd.head fun q hq => by
          rw [List.mem_singleton.mp hq]
          exact O.hU0.symm)
      refine wpAny_execs_cons (wpAny_Break ?_)
      refine wpAny_execs_cons (wpAny_Return_some (Tuple_ (spliced_more (ld F4 At.mi (spliced_more (ld F4 At.un (spliced_none (newTuple_N F4 N4 fun h5 F5 N5 => ?_))))))))
      have fresh : ∀ b, g.get? b = none → b ≠ L0 → s.heap.get? b = none := fun b h1 h2 => by
        cases q : s.heap.get? b with
        | none => rfl
        | some o => have := hg1 b o h2 q; rw [h1] at this; cases this
      have hT := N5 _ (.head _)
      have hM := N5 _ (.tail _ (.head _))
      have hU := N5 _ (.tail _ (.tail _ (.head _)))
      have hL := N5 _ (.tail _ (.tail _ (.tail _ (.head _))))
      have hUT : U < h4.objs.size := Heap.lt_size (N4 _ (.tail _ (.head _))).1
      have hrest : sldF (P.kx.drop i) (P.ky.drop j) = (P.kx.drop i, P.ky.drop j) := by
        rcases hij with q | q
        · rw [q]; simp [sldF_nil]
        · rw [q]; simp [sldF_nil']
      rw [hrest] at hsld
      have hst := hos.to h5 s₁.toks
      dsimp only at hst
      show Q (.ref h4.objs.size) { s₁ with heap := h5 }
      rw [show ({ s₁ with heap := h5 } : Shared) = { s with heap := h5, toks := s₁.toks } from hst]
      exact hret (.ref h4.objs.size) h5 _ sl F5.keep hL.1 ⟨h4.objs.size, M, U, n3, n4, _, _, rfl, hT.1, hM.1, hU.1, fresh _ hT.2.2 (Nat.ne_of_gt (Nat.lt_trans l2.2 hUT)), fresh _ hM.2.2 O.hM0, fresh _ hU.2.2 O.hU0, l2.1, hUT, by
        rw [show sldF kx ky = _ from hsld]; exact Em.append (hx.drop i), by
        rw [show sldF kx ky = _ from hsld]; exact Eu.append (hy.drop j)⟩
    case body =>
      obtain ⟨ms, us, mk, uk, nM, nU, sl, rfl, At, hi, hj, Em, Eu, lm, lu, hsld⟩ := hin
      obtain ⟨ti, hti⟩ := At.vi
      obtain ⟨tj, htj⟩ := At.vj
      have lms := Em.length
      have lus := Eu.length
      have hi' : i ≤ kx.length := hi
      have hj' : j ≤ ky.length := hj
      refine wpAny_execs_cons (wpAny_Assign_Name (item_at (El := El) hx F2 N2 O.hlx At.ex hti szx' hi' (.inl rfl) rfl rfl rfl (by decide) (by decide) (fun v k hk hv => ?_) (fun he h' tk' e X' => ?_)))
      rotate_left
      · exact ⟨e, m, _, i, j, _, rfl, ⟨ms, us, mk, uk, nM, nU, sl, rfl, At, hi, hj, Em, Eu, lm, lu, hsld⟩, .inl he, hos.both, .inl ⟨s'.heap, F2, N2, X'⟩⟩
      refine stN F2 N2 (fun h3 F3 N3 => ?_)
      have F3 : Fr g L h3 (up m (Str.ofString "e") v) := F3
      have At3 : SldAt (up m (Str.ofString "e") v) P i j := At.up (by decide) (by decide) (by decide) (by decide) (by decide) (by decide)
      have hi7 : i < kx.length := (List.getElem?_eq_some_iff.mp hk).1
      refine wpAny_execs_cons (wpAny_Assign_Name (item_at (El := El) hy F3 N3 O.hly At3.ac ((up_ne (by decide)).trans htj) szy' hj' (.inl rfl) rfl rfl rfl (by decide) (by decide) (fun u k' hk' hu => ?_) (fun he h' tk' e X' => ?_)))
      rotate_left
      · exact ⟨e, _, _, i, j, _, rfl, ⟨ms, us, mk, uk, nM, nU, sl, rfl, At3, hi, hj, Em, Eu, lm, lu, hsld⟩, .inr he, hos.both, .inl ⟨h3, F3, N3, X'⟩⟩
      refine stN (s := { s' with heap := h3, toks := s'.toks + 1 }) F3 N3 (fun h4 F4 N4 => ?_)
      have F4 : Fr g L h4 (up (up m (Str.ofString "e") v) (Str.ofString "a") u) := F4
      have At4 : SldAt (up (up m (Str.ofString "e") v) (Str.ofString "a") u) P i j := At3.up (by decide) (by decide) (by decide) (by decide) (by decide) (by decide)
      have hj7 : j < ky.length := (List.getElem?_eq_some_iff.mp hk').1
      have me : (up (up m (Str.ofString "e") v) (Str.ofString "a") u) (Str.ofString "e") = some v := (up_ne (by decide)).trans up_same
      have ma : (up (up m (Str.ofString "e") v) (Str.ofString "a") u) (Str.ofString "a") = some u := up_same
      generalize hm4 : up (up m (Str.ofString "e") v) (Str.ofString "a") u = m4 at F4 At4 me ma
      obtain ⟨ti4, hti4⟩ := At4.vi
      obtain ⟨tj4, htj4⟩ := At4.vj
      refine wpAny_execs_cons (wpAny_If (wpAny_isTrue_Compare1 (ld F4 me (ld F4 ma (C.lt hv hu (wpAny_truthy_bool ?_))))))
      by_cases hlt : k < k'
      · rw [if_pos (by simp [hlt])]
        refine wpAny_execs_cons (app_stmt (its := ms.toArray) (n := nM) (news' := P.led (ms ++ [v]) us (nM + 1) nU sl) F4 N4 At4.mi me (.head _) ?_ (by simp only [List.size_toArray]; omega) rfl rfl rfl (by decide) (by decide) rfl rfl rfl fun h5 F5 N5 => ?_)
        · rw [List.push_toArray]
          exact Upd.head fun q hq => by
            change q ∈ [(P.U, _), (P.L0, _)] at hq
            rcases List.mem_cons.mp hq with rfl | hq
            · exact O.hMU.symm
            · rw [List.mem_singleton.mp hq]; exact O.hM0.symm
        refine wpAny_execs_cons (wpAny_AugAssign_Name (ldn F5 hti4 (wpAny_Constant_int (iadd_int (stN F5 N5 (fun h6 F6 N6 => ?_))))))
        obtain ⟨t6, F6⟩ : ∃ t6, Fr g L h6 (up m4 (Str.ofString "i") (.int ((i + 1 : Nat) : Int) t6)) := ⟨_, F6⟩
        have At6 : SldAt (up m4 (Str.ofString "i") (.int ((i + 1 : Nat) : Int) t6)) P (i + 1) j := At4.upI
        refine wpAny_execs_cons (inner C hx hv F6 N6 O.hlx At6.ex up_same ((up_ne (by decide)).trans me) (by decide) (by decide) hi7 szx' (.inl rfl) rfl rfl rfl rfl (by decide) (by decide) (by decide) (SldP.passes O rfl rfl rfl) (fun h7 tk7 i7 t7 hii hil hdw F7 N7 => ?_) (fun h7 h8 tk8 t7 e hdw F7 N7 X7 => ?_))
        · refine wpAny_execs_nil (wpAny_execs_nil (wpAny_execs_nil ?_))
          refine ⟨kx.length - i7 + (ky.length - j), meas1 hii hil, _, _, i7, j, hos.both, F7, N7, ⟨ms ++ [v], us, mk ++ [k], uk, nM + 1, nU, sl, rfl, At6.upI, Nat.le_of_lt hil, hj, Em.append (.cons hv .nil), Eu, len_snoc lm hii, lu, step_lt hk hk' hlt hdw hsld⟩, rfl⟩
        · exact ⟨e, _, _, kx.length, j, _, rfl, ⟨ms ++ [v], us, mk ++ [k], uk, nM + 1, nU, sl, rfl, At6.upI, Nat.le_refl _, hj, Em.append (.cons hv .nil), Eu, len_snoc lm hi7, lu, step_lt hk hk' hlt (by rw [hdw]; simp [P]) hsld⟩, .inl rfl, hos.both, .inl ⟨h7, F7, N7, X7⟩⟩
      · rw [if_neg (by simp [hlt])]
        refine wpAny_execs_cons (wpAny_If (wpAny_isTrue_Compare1 (ld F4 me (ld F4 ma (C.gt hv hu (wpAny_truthy_bool ?_))))))
        by_cases hgt : k' < k
        · rw [if_pos (by simp [hgt])]
          refine wpAny_execs_cons (app_stmt (its := us.toArray) (n := nU) (news' := P.led ms (us ++ [u]) nM (nU + 1) sl) F4 N4 At4.un ma (.tail _ (.head _)) ?_ (by simp only [List.size_toArray]; omega) rfl rfl rfl (by decide) (by decide) rfl rfl rfl fun h5 F5 N5 => ?_)
          · rw [List.push_toArray]
            exact Upd.tail O.hMU (Upd.head fun q hq => by
              rw [List.mem_singleton.mp hq]
              exact O.hU0.symm)
          refine wpAny_execs_cons (wpAny_AugAssign_Name (ldn F5 htj4 (wpAny_Constant_int (iadd_int (stN F5 N5 (fun h6 F6 N6 => ?_))))))
          obtain ⟨t6, F6⟩ : ∃ t6, Fr g L h6 (up m4 (Str.ofString "j") (.int ((j + 1 : Nat) : Int) t6)) := ⟨_, F6⟩
          have At6 : SldAt (up m4 (Str.ofString "j") (.int ((j + 1 : Nat) : Int) t6)) P i (j + 1) := At4.upJ
          refine wpAny_execs_cons (inner C hy hu F6 N6 O.hly At6.ac up_same ((up_ne (by decide)).trans ma) (by decide) (by decide) hj7 szy' (.inl rfl) rfl rfl rfl rfl (by decide) (by decide) (by decide) (SldP.passes O rfl rfl rfl) (fun h7 tk7 i7 t7 hii hil hdw F7 N7 => ?_) (fun h7 h8 tk8 t7 e hdw F7 N7 X7 => ?_))
          · refine wpAny_execs_nil (wpAny_execs_nil (wpAny_execs_nil (wpAny_execs_nil ?_)))
            refine ⟨kx.length - i + (ky.length - i7), meas2 hii hil, _, _, i, i7, hos.both, F7, N7, ⟨ms, us ++ [u], mk, uk ++ [k'], nM, nU + 1, sl, rfl, At6.upJ, hi, Nat.le_of_lt hil, Em, Eu.append (.cons hu .nil), lm, len_snoc lu hii, step_gt hk hk' hgt hdw hsld⟩, rfl⟩
          · exact ⟨e, _, _, i, ky.length, _, rfl, ⟨ms, us ++ [u], mk, uk ++ [k'], nM, nU + 1, sl, rfl, At6.upJ, hi, Nat.le_refl _, Em, Eu.append (.cons hu .nil), lm, len_snoc lu hj7, step_gt hk hk' hgt (by rw [hdw]; simp [P]) hsld⟩, .inr rfl, hos.both, .inl ⟨h7, F7, N7, X7⟩⟩
        · rw [if_neg (by simp [hgt])]
          have heq : k = k' := Int.le_antisymm (Int.not_lt.mp hgt) (Int.not_lt.mp hlt)
          refine wpAny_execs_cons (wpAny_AugAssign_Name (ldn F4 hti4 (wpAny_Constant_int (iadd_int (stN F4 N4 (fun h6 F6 N6 => ?_))))))
          obtain ⟨t6, F6⟩ : ∃ t6, Fr g L h6 (up m4 (Str.ofString "i") (.int ((i + 1 : Nat) : Int) t6)) := ⟨_, F6⟩
          have At6 : SldAt (up m4 (Str.ofString "i") (.int ((i + 1 : Nat) : Int) t6)) P (i + 1) j := At4.upI
          refine wpAny_execs_cons (wpAny_Try_finally ?_)
          refine wpAny_execs_cons (inner C hx hv F6 N6 O.hlx At6.ex up_same ((up_ne (by decide)).trans me) (by decide) (by decide) hi7 szx' (.inl rfl) rfl rfl rfl rfl (by decide) (by decide) (by decide) passes_note (fun h7 tk7 i7 t7 hii hil hdw F7 N7 => ?_) (fun h7 h8 tk8 t7 e hdw F7 N7 X7 => ?_))
          · refine wpAny_execs_nil (wpAny_execs_nil ?_)
            have At7 : SldAt (up (up m4 (Str.ofString "i") (.int ((i + 1 : Nat) : Int) t6)) (Str.ofString "i") (.int (i7 : Nat) t7)) P i7 j := At6.upI
            have ma7 : (up (up m4 (Str.ofString "i") (.int ((i + 1 : Nat) : Int) t6)) (Str.ofString "i") (.int (i7 : Nat) t7)) (Str.ofString "a") = some u := (up_ne (by decide)).trans ((up_ne (by decide)).trans ma)
            generalize up (up m4 (Str.ofString "i") (.int ((i + 1 : Nat) : Int) t6)) (Str.ofString "i") (.int (i7 : Nat) t7) = m7 at F7 At7 ma7
            obtain ⟨tj7, htj7⟩ := At7.vj
            refine wpAny_execs_cons (wpAny_AugAssign_Name (ldn F7 htj7 (wpAny_Constant_int (iadd_int (stN F7 N7 (fun h8 F8 N8 => ?_))))))
            obtain ⟨t8, F8⟩ : ∃ t8, Fr g L h8 (up m7 (Str.ofString "j") (.int ((j + 1 : Nat) : Int) t8)) := ⟨_, F8⟩
            have At8 : SldAt (up m7 (Str.ofString "j") (.int ((j + 1 : Nat) : Int) t8)) P i7 (j + 1) := At7.upJ
            refine wpAny_execs_cons (inner C hy hu F8 N8 O.hly At8.ac up_same ((up_ne (by decide)).trans ma7) (by decide) (by decide) hj7 szy' (.inl rfl) rfl rfl rfl rfl (by decide) (by decide) (by decide) passes_note (fun h9 tk9 j9 t9 hjj hjl hdy F9 N9 => ?_) (fun h9 h10 tk10 t9 e hdy F9 N9 X9 => ?_))
            · refine wpAny_execs_nil (wpAny_execs_nil (wpAny_execs_nil (wpAny_execs_nil (wpAny_execs_nil ?_))))
              exact ⟨kx.length - i7 + (ky.length - j9), meas3 hii hil hjj hjl, _, _, i7, j9, hos.both, F9, N9, ⟨ms, us, mk, uk, nM, nU, sl, rfl, At8.upJ, Nat.le_of_lt hil, Nat.le_of_lt hjl, Em, Eu, len_le' lm hii, len_le' lu hjj, step_eq hk hk' heq hdw hdy hsld⟩, rfl⟩
            · refine SldP.passes O (env := envOf _ _ _ _ _) rfl rfl rfl _ _ ?_
              exact ⟨e, _, _, i7, ky.length, _, rfl, ⟨ms, us, mk, uk, nM, nU, sl, rfl, At8.upJ, Nat.le_of_lt hil, Nat.le_refl _, Em, Eu, len_le' lm hii, len_le' lu hj7, step_eq hk hk' heq hdw (by rw [hdy]; simp [P]) hsld⟩, .inr rfl, hos.both, .inl ⟨h9, F9, N9, X9⟩⟩
          · have hdw' : (kx.drop (i + 1)).dropWhile (· == k) = kx.drop kx.length := by rw [hdw]; simp
            have At7 : SldAt (up (up m4 (Str.ofString "i") (.int ((i + 1 : Nat) : Int) t6)) (Str.ofString "i") (.int (kx.length : Nat) t7)) P kx.length j := At6.upI
            have ma7 : (up (up m4 (Str.ofString "i") (.int ((i + 1 : Nat) : Int) t6)) (Str.ofString "i") (.int (kx.length : Nat) t7)) (Str.ofString "a") = some u := (up_ne (by decide)).trans ((up_ne (by decide)).trans ma)
            generalize up (up m4 (Str.ofString "i") (.int ((i + 1 : Nat) : Int) t6)) (Str.ofString "i") (.int (kx.length : Nat) t7) = m7 at F7 At7 ma7
            obtain ⟨tj7, htj7⟩ := At7.vj
            refine Ex.first rfl rfl rfl hf0 hk0 F7 N7 O.off hd0 X7 fun h8' sl8 H8 => ?_
            refine ⟨ref_ne_byPass e, ?_⟩
            refine Ex.again (env := envOf _ _ _ _ _) H8 rfl (Ex.fly (s := { s' with heap := h8', toks := tk8 }) H8 fun h9 H9 => ?_)
            obtain ⟨oe, TB, oT, vs, ts, NL, hec, hed, he1, he2, hdT, he3, hTL, hTe, hTg, heg, heo, hTo⟩ := Ex.led (s := { s' with heap := h9, toks := tk8 }) H9
            refine wpAny_execs_cons (wpAny_AugAssign_Name (ldn H9.fr htj7 (wpAny_Constant_int (iadd_int (stN (s := { s' with heap := h9, toks := _ }) H9.fr NL (fun h10 F10 N10 => ?_))))))
            obtain ⟨t10, F10⟩ : ∃ t10, Fr g L h10 (up m7 (Str.ofString "j") (.int ((j + 1 : Nat) : Int) t10)) := ⟨_, F10⟩
            have At10 : SldAt (up m7 (Str.ofString "j") (.int ((j + 1 : Nat) : Int) t10)) P kx.length (j + 1) := At7.upJ
            refine wpAny_execs_cons (inner C hy hu F10 N10 O.hly At10.ac up_same ((up_ne (by decide)).trans ma7) (by decide) (by decide) hj7 szy' (.inr ⟨e, oe, vs, rfl, .head _, hed, he2⟩) rfl rfl rfl rfl (by decide) (by decide) (by decide) passes_note (fun h11 tk11 j11 t11 hjj hjl hdy F11 N11 => ?_) (fun h11 h12 tk12 t11 e2 hdy F11 N11 X11 => ?_))
            · refine wpAny_execs_nil ?_
              have At11 := At10.upJ (j' := j11) (t := t11)
              have NL11 : News g L h11 (P.led ms us nM nU sl8) := fun q hq => N11 q (.tail _ (.tail _ hq))
              have H11 : Ex g L h11 _ (P.led ms us nM nU sl8) e .none .none := ⟨F11, NL11, heg, heo, oe, TB, oT, vs, ts, (N11 _ (.head _)).1, hec, hed, he1, he2, (N11 _ (.tail _ (.head _))).1, hdT, he3, hTL, hTe, hTg, hTo⟩
              refine Ex.pass (s := { s' with heap := h11, toks := tk11 }) H11 rfl fun h12 H12 => ?_
              exact ⟨e, _, _, kx.length, j11, _, rfl, ⟨ms, us, mk, uk, nM, nU, sl8, rfl, At11, Nat.le_refl _, Nat.le_of_lt hjl, Em, Eu, len_le' lm hi7, len_le' lu hjj, step_eq hk hk' heq hdw' hdy hsld⟩, .inl rfl, hos.both, .inr H12⟩
            · have At11 := At10.upJ (j' := ky.length) (t := t11)
              refine Ex.first (lists := (e, oe) :: (TB, oT) :: [(P.M, listOf ms.toArray nM), (P.U, listOf us.toArray nU)]) rfl rfl rfl hf0 hk0 F11 N11 (fun q hq => ?_) hd0 X11 fun h13 sl13 H13 => ?_
              · rcases List.mem_cons.mp hq with rfl | hq
                · exact (heo (P.L0, _) (.tail _ (.tail _ (.head _)))).symm
                · rcases List.mem_cons.mp hq with rfl | hq
                  · exact (hTo (P.L0, _) (.tail _ (.tail _ (.head _)))).symm
                  · exact O.off q hq
              refine Ex.came (s := { s' with heap := h13, toks := tk12 }) H13 rfl fun h14 H14 => ?_
              exact ⟨e2, _, P.led ms us nM nU sl13, kx.length, ky.length, _, rfl, ⟨ms, us, mk, uk, nM, nU, sl13, rfl, At11, Nat.le_refl _, Nat.le_refl _, Em, Eu, len_le' lm hi7, len_le' lu hj7, step_eq hk hk' heq hdw' (by rw [hdy]; simp [P]) hsld⟩, .inl rfl, hos.both, .inr (H14.sub fun q hq => .tail _ (.tail _ hq))⟩
end
end Mine
end

section
open PySem PySem.W PyProof.Rows PySem.Calls
namespace Mine
theorem freshR1 : True := by
  w_top off
  trivial
set_option maxRecDepth 100000
set_option maxHeartbeats 8000000
def fourF (r : Int) (k : Nat) : Int := (r.fdiv (16 ^ k)).fmod 16
def tri (last : String) (f : Int) (pre : Str) : Str := pre ++ Txt.item (Str.ofString "-r") (f.fdiv 8) ++ Txt.item (Str.ofString "-w") ((f.fdiv 4).fmod 2) ++ Txt.item (Str.ofString last) (f.fmod 4)
/-- the row of a rank -/
def rowF (r : Int) : Str := tri "-Ttx" (fourF r 0) (tri "-Ssx" (fourF r 1) (tri "-Ssx" (fourF r 2) (Txt.item (Str.ofString "-?bcdlps") (r.fdiv 4096))))
section
variable {prog p : Program} {w : World} {loose : List Str} {mean : ExcName → Option Value} {mg mb : Str → Option Value}
theorem cl_row (r : Int) (t : Tok) (h0 : 0 ≤ r) (h1 : r < 32768) :
    Cl prog w p loose mean mg mb 96 1 20 (fun _ => True) [.int r t] (fun _ _ v => ∃ t, v = .str (rowF r) t) := by
  have hq0 : 0 ≤ r.fdiv 4096 := Int.fdiv_nonneg h0 (by decide)
  have hq1 : r.fdiv 4096 < 8 := by rw [Int.fdiv_eq_ediv_of_nonneg _ (by decide)]; omega
  refine' Cl.enter ?k6 ?k7 ?k9 ?kB ?c2 ?c3 ?c4 ?c5 ?_
  case k6 => k_is
  case k7 => k_is
  case k9 => exact fun _ => BindsTo.of_eq rfl
  case c5 => decide
  case kB => exact locs rfl
  case c2 => exact rfl
  case c3 => exact rfl
  case c4 => exact rfl
  intro dp un gd outer base g L' h₁ s Q E A hg hpre F' N' hA B' X' T' hdp hun hret
  k_fold
  k_steps
  exact hret _ _ _ (Fr.keep (by assumption)) ⟨_, rfl⟩
end
end Mine
end

section
open PySem PySem.W PyProof.Rows PySem.Calls
namespace Mine
theorem freshL1 : True := by
  w_top off
  trivial
set_option maxRecDepth 100000
set_option maxHeartbeats 8000000
section
variable {prog : Program} {w : World} {A : Around} {E : Value → Shared → Prop} {s : Shared} {env : Env} {h₀ : Heap} {body : List Stmt} {Q : Flow → Shared → Prop}
/-- a for over a list that stands, by what holds between the turns -/
theorem for_list {target iter : Expr} {pos : Pos} {ax : Addr} {vs : List Value} {m₀ : Str → Option Value} {news : List (Addr × Obj)} (hh : A.handled = none)
    (F : Fr h₀ env.locals s.heap m₀) (N : News h₀ env.locals s.heap news) (hl₀ : h₀.IsList ax vs.toArray)
    (hname : ∀ Q' : Value → Shared → Prop, Q' (.ref ax) s → wpAny (model prog w) A (eval iter env) Q' E s)
    (J : Nat → (Str → Option Value) → List (Addr × Obj) → Prop) (h0 : J 0 m₀ news)
    (step : ∀ i v m₁ news₁ h tk I it, vs[i]? = some v → J i m₁ news₁ → (∀ p ∈ news₁, p.1 ≠ I) → Fr h₀ env.locals h m₁ → News h₀ env.locals h ((I, it) :: news₁) →
      wpAny (model prog w) A (assign target env v) (fun _ s₂ => wpAny (model prog w) A (execs body env) (fun f s₃ => match f with
        | .ret u => Q (.ret u) s₃
        | .brk => Q .next s₃
        | _ => ElseEnd h₀ env.locals s I it (J (i + 1)) s₃) E s₂) E { s with heap := h, toks := tk })
    (fin : ∀ h tk m' news', J vs.length m' news' → Fr h₀ env.locals h m' → News h₀ env.locals h news' → Q .next { s with heap := h, toks := tk })
    (hE : PassesOwn (model prog w) A env E) (hs : ∀ x, foldedSetIterable iter env x = pure x := by intro _; rfl) :
    wpAny (model prog w) A (exec (.For target iter body [] pos) env) Q E s := by
  obtain ⟨lo, hg, hc, n, hd⟩ := hl₀
  have hax : s.heap.get? ax = some lo := F.keep _ _ hg
  have hl : s.heap.IsList ax vs.toArray := ⟨lo, hax, hc, n, hd⟩
  have hlt : ax < s.heap.objs.size := Heap.lt_size hax
  have hLs : env.locals < s.heap.objs.size := F.ns.lt
  refine wpAny_For (hname _ (wpAny_pyIter_list hl ?_)) hs
  have hIn : h₀.get? s.heap.objs.size = none := ktu_new F (Nat.le_refl _)
  refine codeAny_forLoop_any (fun k s' => ∃ h' tk m' news' i, s' = { s with heap := h', toks := tk } ∧ h'.IsListIter s.heap.objs.size ax i ∧ Fr h₀ env.locals h' m' ∧ News h₀ env.locals h' news' ∧ (∀ p ∈ news', p.1 ≠ s.heap.objs.size) ∧
    J i m' news' ∧ i ≤ vs.length ∧ k = vs.length + 1 - i) ?_ (vs.length + 1)
    ⟨_, s.toks, m₀, news, 0, rfl, ⟨_, Heap.get?_push_size _ rfl, rfl, rfl⟩, F.push _, fun p hp => ⟨Heap.get?_push_of_some _ (N p hp).1, (N p hp).2⟩, fun p hp => Nat.ne_of_lt (Heap.lt_size (N p hp).1), h0, Nat.zero_le _, rfl⟩
  rintro k s' ⟨h', tk, m', news', i, rfl, hit, F', N', hoff, hR, hi, rfl⟩
  have hl' : h'.IsList ax vs.toArray := ⟨lo, F'.keep _ _ hg, hc, n, hd⟩
  have nextF : ∀ h₁ : Heap, (∀ b o, b ≠ s.heap.objs.size → h'.get? b = some o → h₁.get? b = some o) → Fr h₀ env.locals h₁ m' ∧ News h₀ env.locals h₁ news' := fun h₁ hk₁ =>
    ⟨⟨F'.ns.at' fun o e => hk₁ _ o (Nat.ne_of_lt hLs) e, fun b o e => hk₁ b o (fun q => by rw [q, hIn] at e; cases e) (F'.keep b o e), F'.above⟩, fun p hp => ⟨hk₁ _ _ (hoff p hp) (N' p hp).1, (N' p hp).2⟩⟩
  by_cases hlt' : i < vs.length
  · have hx : vs.toArray[i]? = some vs[i] := by simp [hlt']
    refine wpAny_pyNext_list_item (s := { s with heap := h', toks := tk }) hit hl' hx fun h₁ hit₁ hs₁ => ?_
    obtain ⟨F₁, N₁⟩ := nextF h₁ fun b o hb e => (hs₁.2 b hb).trans e
    refine letGo_listiter (show Heap.IsListIter (Shared.heap { s with heap := h₁, toks := tk }) s.heap.objs.size ax (i + 1) from hit₁) ?_
    obtain ⟨it, hit0, hitc, hitd⟩ := hit₁
    refine wpAny_mono (step i vs[i] m' news' h₁ tk s.heap.objs.size it (by simp [hlt']) hR hoff F₁ fun p hp => ?_) (fun _ s₂ h₂ => wpAny_mono h₂ (fun f s₃ h₃ => ?_) fun e s' he => hE e s' he) fun e s' he => hE e s' he
    · rcases List.mem_cons.mp hp with rfl | hp
      · exact ⟨hit0, Nat.ne_of_gt hLs, hIn⟩
      · exact N₁ p hp
    have go : ElseEnd h₀ env.locals s s.heap.objs.size it (J (i + 1)) s₃ →
        ∃ j, j < vs.length + 1 - i ∧ ∃ h' tk m' news' i', s₃ = { s with heap := h', toks := tk } ∧ h'.IsListIter s.heap.objs.size ax i' ∧ Fr h₀ env.locals h' m' ∧ News h₀ env.locals h' news' ∧ (∀ p ∈ news', p.1 ≠ s.heap.objs.size) ∧
          J i' m' news' ∧ i' ≤ vs.length ∧ j = vs.length + 1 - i' := by
      rintro ⟨h₄, tk₄, m₄, news₄, rfl, F₄, N₄, off₄, R₄⟩
      exact ⟨vs.length + 1 - (i + 1), by omega, h₄, tk₄, m₄, news₄, i + 1, rfl, ⟨it, (N₄ _ (.head _)).1, hitc, hitd⟩, F₄, fun p hp => N₄ p (.tail _ hp), off₄, R₄, hlt', rfl⟩
    cases f with
    | ret v => exact h₃
    | brk => exact h₃
    | cont => exact go h₃
    | next => exact go h₃
  · have hin : i = vs.length := by omega
    subst hin
    have hx : vs.toArray[vs.length]? = none := by simp
    refine wpAny_pyNext_list_end (s := { s with heap := h', toks := tk }) hh hit hl' hx fun h₁ hs₁ => ?_
    obtain ⟨F₁, N₁⟩ := nextF h₁ fun b o hb e => hs₁ b o hb e
    exact wpAny_execs_nil (fin h₁ tk m' news' hR F₁ N₁)
end

/-- the greatest of -1 and the list's ints -/
def maxF (l : List Int) : Int := l.foldl max (-1)
theorem foldl_max (l : List Int) : ∀ a : Int, a ≤ l.foldl max a ∧ (∀ x ∈ l, x ≤ l.foldl max a) ∧ (l.foldl max a = a ∨ l.foldl max a ∈ l) := by
  induction l with
  | nil => intro a; simp
  | cons b r ih =>
    intro a
    obtain ⟨h1, h2, h3⟩ := ih (max a b)
    refine ⟨by simp only [List.foldl_cons]; omega, fun x hx => ?_, ?_⟩
    · simp only [List.foldl_cons]
      rcases List.mem_cons.mp hx with rfl | hx
      · omega
      · exact h2 x hx
    · simp only [List.foldl_cons]
      rcases h3 with h3 | h3
      · by_cases h : a ≤ b
        · right; rw [h3]; rw [Int.max_eq_right h]; exact .head _
        · left; rw [h3]; omega
      · right; exact .tail _ h3
theorem max_is {l : List Int} {M : Int} (h1 : M ∈ [-1] ++ l) (h2 : ∀ a, a ∈ [-1] ++ l → a ≤ M) : M = maxF l := by
  obtain ⟨g1, g2, g3⟩ := foldl_max l (-1)
  have a1 : maxF l ≤ M := by
    unfold maxF
    rcases g3 with g3 | g3
    · rw [g3]; exact h2 _ (by simp)
    · exact h2 _ (by simp [g3])
  have a2 : M ≤ maxF l := by
    unfold maxF
    rcases List.mem_append.mp h1 with h | h
    · rw [List.mem_singleton.mp h]; exact g1
    · exact g2 M h
  omega
/-- what the other list hasn't -/
def lackF (other due : List Int) (r : Int) : List Int := if r ∉ other ∧ (r ∉ due ∨ maxF other < r) then due ++ [r] else due
def lacksF (own other : List Int) : List Int := own.foldl (lackF other) []
theorem lackF_len (other : List Int) : ∀ (own due : List Int), (own.foldl (lackF other) due).length ≤ due.length + own.length := by
  intro own
  induction own with
  | nil => intro due; simp
  | cons r own ih =>
    intro due
    have := ih (lackF other due r)
    have h2 : (lackF other due r).length ≤ due.length + 1 := by unfold lackF; split <;> simp
    simp only [List.foldl_cons, List.length_cons]
    omega
theorem any_mem {l : List Int} {k : Int} : (l.any fun x => x == k) = true ↔ k ∈ l := by simp [List.any_eq_true]
theorem any_not {l : List Int} {k : Int} (h : (l.any fun x => x == k) = false) : k ∉ l := fun q => by rw [any_mem.mpr q] at h; cases h
theorem lackF_in {other due : List Int} {k : Int} (h : (other.any fun x => x == k) = true) : lackF other due k = due := if_neg fun q => q.1 (any_mem.mp h)
theorem lackF_new {other due : List Int} {k : Int} (h : (other.any fun x => x == k) = false) (h2 : (due.any fun x => x == k) = false) : lackF other due k = due ++ [k] := if_pos ⟨any_not h, .inl (any_not h2)⟩
theorem lackF_hi {other due : List Int} {k M : Int} (h : (other.any fun x => x == k) = false) (h1 : M ∈ [-1] ++ other) (h2 : ∀ a, a ∈ [-1] ++ other → a ≤ M) (hM : M < k) : lackF other due k = due ++ [k] := if_pos ⟨any_not h, .inr (by rw [← max_is h1 h2]; exact hM)⟩
theorem lackF_lo {other due : List Int} {k M : Int} (h : (due.any fun x => x == k) = true) (h1 : M ∈ [-1] ++ other) (h2 : ∀ a, a ∈ [-1] ++ other → a ≤ M) (hM : ¬ M < k) : lackF other due k = due := if_neg fun q => by
  rcases q.2 with q | q
  · exact q (any_mem.mp h)
  · rw [← max_is h1 h2] at q; exact hM q
theorem take_snoc {ns : List Int} {i : Nat} {k : Int} (h : ns[i]? = some k) : ns.take (i + 1) = ns.take i ++ [k] := by
  rw [List.take_add_one, h]; rfl
theorem forget2b {m : Str → Option Value} {a b : Str} {va vb : Value} (ha : m a = some va) (hb : m b = some vb) : m = fun y => if y = a then some va else if y = b then some vb else m y := by
  funext y
  by_cases h1 : y = a
  · rw [if_pos h1, h1, ha]
  · rw [if_neg h1]
    by_cases h2 : y = b
    · rw [if_pos h2, h2, hb]
    · rw [if_neg h2]
structure LkAt (m : Str → Option Value) (lo lr D : Addr) : Prop where
  other : m (Str.ofString "other") = some (.ref lr)
  due : m (Str.ofString "due") = some (.ref D)
theorem ints_at : ∀ {vs : List Value} {ns : List Int}, IntsAre vs ns → ∀ {i : Nat} {v : Value}, vs[i]? = some v → ∃ k t, ns[i]? = some k ∧ v = .int k t
  | _, _, .nil, i, v, h => by simp at h
  | _, _, .cons n u r, 0, v, h => by simp at h; exact ⟨n, u, rfl, h.symm⟩
  | _, _, .cons n u r, i + 1, v, h => by simp at h; exact ints_at r h
theorem ints_snoc {vs : List Value} {ns : List Int} (h : IntsAre vs ns) (k : Int) (t : Tok) : IntsAre (vs ++ [.int k t]) (ns ++ [k]) := h.append (.cons k t .nil)
local macro_rules | `(tactic| walk_at "call builtin:list.append") => `(tactic| ((with_reducible show wpAny _ _ (call (Value.builtin _) [Value.ref _, _]) _ _ _); k_dflt (refine' append_K ?k1 ?k2 ?k3 ?_ ?z; (case k1 => k_asm); (case k2 => k_asm); (case k3 => k_upd); (case z => assumption); k_whole); intro h' F' N'; (try k_sweep)))
section
variable {prog p : Program} {w : World} {loose : List Str} {mean : ExcName → Option Value} {mg mb : Str → Option Value}
theorem cl_lacks {lo lr : Addr} {vs ws : List Value} {ns os : List Int} (hi : IntsAre vs ns) (hj : IntsAre ws os) (szn : ns.length < 2 ^ 20) (szo : os.length < 2 ^ 20) :
    Cl prog w p loose mean mg mb 108 1 40 (fun h => h.IsList lo vs.toArray ∧ h.IsList lr ws.toArray) [.ref lo, .ref lr] (fun h h' r => ∃ D n ds, r = .ref D ∧ h'.get? D = some (listOf ds.toArray n) ∧ h.get? D = none ∧ IntsAre ds (lacksF ns os)) := by
  refine' Cl.enter ?k6 ?k7 ?k9 ?kB ?c2 ?c3 ?c4 ?c5 ?_
  case k6 => k_is
  case k7 => k_is
  case k9 => exact fun _ => BindsTo.of_eq rfl
  case c5 => decide
  case kB => exact locs rfl
  case c2 => exact rfl
  case c3 => exact rfl
  case c4 => exact rfl
  intro dp un gd outer base g L h₁ s Q E A hg hpre F' N' hA B' X' T' hdp hun hret
  k_fold
  iterate 7 walk1
  rename_i D _ _ h F1 N1
  obtain ⟨hlo, hlr⟩ := hpre
  have hsl : 2 ^ 20 + 2 ^ 20 + 2 ^ 20 < sizeLine := by rw [sizeLine_eq]; decide
  have lvs := hi.length
  refine wpAny_execs_cons (for_list (h₀ := g) rfl F1 N1 hlo (fun Q' q => ld F1 rfl q) (fun i m news => LkAt m lo lr D ∧ ∃ ds n, news = [(D, listOf ds.toArray n)] ∧ IntsAre ds ((ns.take i).foldl (lackF os) [])) ⟨⟨rfl, rfl⟩, [], 0, rfl, .nil⟩ ?step ?fin (by passes_own))
  case fin =>
    rintro h2 tk2 m2 news2 ⟨At, ds, n, rfl, hds⟩ F2 N2
    refine wpAny_execs_cons (wpAny_Return_some (ld F2 At.due ?_))
    rw [List.take_of_length_le (by omega)] at hds
    exact hret _ _ _ F2.keep ⟨D, n, ds, rfl, (N2 _ (.head _)).1, (N2 _ (.head _)).2.2, hds⟩
  case step =>
    rintro i v m1 news1 h2 tk2 I it hv ⟨At, ds, n, rfl, hds⟩ hoff F2 N2
    obtain ⟨k, t, hk, rfl⟩ := ints_at hi hv
    have hI : @Ne Nat I D := (hoff _ (.head _)).symm
    have ltk := take_snoc hk
    have fold1 : ((ns.take (i + 1)).foldl (lackF os) []) = lackF os ((ns.take i).foldl (lackF os) []) k := by rw [ltk, List.foldl_append]; rfl
    have lds := hds.length
    have lfl := lackF_len os (ns.take i) []
    have ltl := List.length_take_le i ns
    have hlt7 : i < ns.length := (List.getElem?_eq_some_iff.mp hk).1
    have hsz : ds.toArray.size ≤ sizeLine := by simp only [List.size_toArray, List.length_nil] at *; omega
    generalize ((ns.take i).foldl (lackF os) []) = due at hds fold1 lds lfl
    have F2 : Fr g L h2 (fun y => if y = Str.ofString "other" then some (.ref lr) else if y = Str.ofString "due" then some (.ref D) else m1 y) := Eq.mp (congrArg (Fr g L h2) (forget2b At.other At.due)) F2
    clear F1 N1
    k_steps
    all_goals (try dsimp only)
    · refine else_end (by assumption) (by assumption) hoff ⟨⟨rfl, rfl⟩, ds, n, rfl, ?_⟩
      rw [fold1, lackF_in (by assumption)]; exact hds
    · rename_i N9
      refine else_end (by assumption) (fun q hq => N9 q (.tail _ (.tail _ hq))) (fun q hq => ?_) ⟨⟨rfl, rfl⟩, ds ++ [.int k t], n + 1, by rw [List.push_toArray], ?_⟩
      · rw [List.mem_singleton.mp hq]; exact hI.symm
      · rw [fold1, lackF_hi (by assumption) (by assumption) (by assumption) (by assumption)]; exact ints_snoc hds k t
    · rename_i N9 _ _ _
      refine else_end (by assumption) (fun q hq => N9 q (.tail _ (.tail _ hq))) hoff ⟨⟨rfl, rfl⟩, ds, n, rfl, ?_⟩
      rw [fold1, lackF_lo (by assumption) (by assumption) (by assumption) (by assumption)]; exact hds
    · refine else_end (by assumption) (by assumption) (fun q hq => ?_) ⟨⟨rfl, rfl⟩, ds ++ [.int k t], n + 1, by rw [List.push_toArray], ?_⟩
      · rw [List.mem_singleton.mp hq]; exact hI.symm
      · rw [fold1, lackF_new (by assumption) (by assumption)]; exact ints_snoc hds k t
end
end Mine
end

section
open PySem PySem.W PyProof.Rows PySem.Calls
namespace Mine
theorem freshR2 : True := by
  w_top off
  trivial
set_option maxRecDepth 100000
set_option maxHeartbeats 8000000
theorem in_rng {l : List Int} {k : Int} (h : k ∈ l) (b : ∀ n ∈ l, 0 ≤ n ∧ n < 32768) : 0 ≤ k ∧ k < 32768 := b k h
local macro_rules | `(tactic| walk_at "call ref") => `(tactic| ((with_reducible show wpAny _ _ (call (Value.ref 96) [Value.int _ _]) _ _ _); (refine Cl.use (cl_row _ _ ?b1 ?b2) (by assumption) (by assumption) (by assumption) (by assumption) (by assumption) rfl rfl rfl rfl ?kd ?ku trivial ?_); (case b1 => (first | exact (in_rng (l := _) (by assumption) (by assumption)).1)); (case b2 => (first | exact (in_rng (l := _) (by assumption) (by assumption)).2)); (case kd => (dsimp only [Around.deeper]; omega)); (case ku => (dsimp only [Around.deeper]; omega)); (intro r' h' tk' F' N' K' o'; (refine Exists.elim o' ?_); intro t' e'; subst e'; clear o'; (try dsimp only); (try k_sweep))))
local macro_rules | `(tactic| walk_at "SeqLeaf") => `(tactic| ((with_reducible show SeqLeaf (Carried (Value.str _ _) _ ∧ PySem.Keeps _ _)); (with_reducible rename Mine.Keeps _ _ => K'); exact SeqLeaf.intro ⟨Carried.str _ _, _, _, rfl, K'⟩))
theorem CarriedAll.strs {α : Type} {f : α → Str} : ∀ {vs : List Value} {as : List α}, CarriedAll vs ((as.filter fun _ => true).map fun a => PyData.str (f a)) → StrsAre vs (as.map f)
  | _, [], .nil => .nil
  | _, _ :: _, .cons (.str _ t) r => .cons _ t (CarriedAll.strs r)
section
variable {prog p : Program} {w : World} {loose : List Str} {mean : ExcName → Option Value} {mg mb : Str → Option Value}
theorem cl_rows {T la lb : Addr} {vs ws : List Value} {ns os : List Int} (hi : IntsAre vs ns) (hj : IntsAre ws os) (szn : ns.length < 2 ^ 20) (szo : os.length < 2 ^ 20) (bn : ∀ n ∈ ns, 0 ≤ n ∧ n < 32768) (bo : ∀ n ∈ os, 0 ≤ n ∧ n < 32768) :
    Cl prog w p loose mean mg mb 101 2 60 (fun h => IsTup h T #[.ref la, .ref lb] ∧ h.IsList la vs.toArray ∧ h.IsList lb ws.toArray) [.ref T] (fun h h' r => ∃ D M U nM nU ms us, r = .ref D ∧ h'.get? D = some { cls := .type "tuple", data := .seq #[.ref M, .ref U] } ∧ h'.get? M = some (listOf ms.toArray nM) ∧ h'.get? U = some (listOf us.toArray nU) ∧ h.get? D = none ∧ h.get? M = none ∧ h.get? U = none ∧ StrsAre ms (ns.map rowF) ∧ StrsAre us (os.map rowF)) := by
  refine' Cl.enter ?k6 ?k7 ?k9 ?kB ?c2 ?c3 ?c4 ?c5 ?_
  case k6 => k_is
  case k7 => k_is
  case k9 => exact fun _ => BindsTo.of_eq rfl
  case c5 => decide
  case kB => exact locs rfl
  case c2 => exact rfl
  case c3 => exact rfl
  case c4 => exact rfl
  intro dp un gd outer base g L h₁ s Q E A hg hpre F' N' hA B' X' T' hdp hun hret
  obtain ⟨hT, hla, hlb⟩ := hpre
  k_fold
  k_steps
  rename News _ _ _ _ => Nz
  exact hret _ _ _ (Fr.keep (by assumption)) ⟨_, _, _, _, _, _, _, rfl, (Nz _ (.head _)).1, (Nz _ (.tail _ (.tail _ (.head _)))).1, (Nz _ (.tail _ (.head _))).1, (Nz _ (.head _)).2.2, (Nz _ (.tail _ (.tail _ (.head _)))).2.2, (Nz _ (.tail _ (.head _))).2.2, CarriedAll.strs (by assumption), CarriedAll.strs (by assumption)⟩
end
end Mine
end

section
open PySem PySem.W PyProof.Rows PySem.Calls
namespace Mine
set_option maxRecDepth 100000
set_option maxHeartbeats 400000
theorem join_ten (a b c d e f g h i j : Nat) : Txt.join (Str.ofString "") [⟨#[a]⟩, ⟨#[b]⟩, ⟨#[c]⟩, ⟨#[d]⟩, ⟨#[e]⟩, ⟨#[f]⟩, ⟨#[g]⟩, ⟨#[h]⟩, ⟨#[i]⟩, ⟨#[j]⟩] = ⟨#[a, b, c, d, e, f, g, h, i, j]⟩ := by
  have h1 := eq_of_beq (join_plain_closes (Str.ofString "") [⟨#[a]⟩, ⟨#[b]⟩, ⟨#[c]⟩, ⟨#[d]⟩, ⟨#[e]⟩, ⟨#[f]⟩, ⟨#[g]⟩, ⟨#[h]⟩, ⟨#[i]⟩, ⟨#[j]⟩])
  rw [h1]
  have e0 : Str.ofString "" = ⟨#[]⟩ := by decide +kernel
  have app : ∀ a b : Str, a ++ b = ⟨a.cps ++ b.cps⟩ := fun _ _ => rfl
  rw [e0]
  simp [Str.join, app]
/-- the code point of an item -/
def cpA (x : String) (i : Int) : Nat := (Txt.charAt (Str.ofString x) i).getD 0
theorem item_cp (x : String) (i : Int) : Txt.item (Str.ofString x) i = ⟨#[cpA x i]⟩ := rfl
theorem str_app (a b : Str) : a ++ b = ⟨a.cps ++ b.cps⟩ := rfl
theorem tri_cp (last : String) (f : Int) (l : List Nat) : tri last f ⟨l.toArray⟩ = ⟨(l ++ [cpA "-r" (f.fdiv 8), cpA "-w" ((f.fdiv 4).fmod 2), cpA last (f.fmod 4)]).toArray⟩ := by
  unfold tri
  rw [item_cp, item_cp, item_cp]
  generalize cpA "-r" (f.fdiv 8) = a
  generalize cpA "-w" ((f.fdiv 4).fmod 2) = b
  generalize cpA last (f.fmod 4) = c
  simp [str_app]
/-- the code points of a row -/
def triL (last : String) (f : Int) : List Nat := [cpA "-r" (f.fdiv 8), cpA "-w" ((f.fdiv 4).fmod 2), cpA last (f.fmod 4)]
def rowL (r : Int) : List Nat := cpA "-?bcdlps" (r.fdiv 4096) :: (triL "-Ssx" (fourF r 2) ++ (triL "-Ssx" (fourF r 1) ++ triL "-Ttx" (fourF r 0)))
theorem row_cps (r : Int) : rowF r = ⟨(rowL r).toArray⟩ := by
  unfold rowF
  rw [item_cp]
  have e : ∀ c : Nat, (⟨#[c]⟩ : Str) = ⟨[c].toArray⟩ := fun _ => rfl
  rw [e, tri_cp, tri_cp, tri_cp]
  unfold rowL triL
  simp only [List.cons_append, List.nil_append, List.append_assoc]
theorem and_sh (b : Int) : ∀ (k : Nat) (x : Int), Builtin.bitAnd x (2 ^ k * b) = 2 ^ k * Builtin.bitAnd (x / 2 ^ k) b
  | 0, x => by simp
  | k + 1, x => by
    rw [kbt_halves]
    have e1 : (2 : Int) ^ (k + 1) * b / 2 = 2 ^ k * b := by
      rw [Int.pow_succ, Int.mul_right_comm]
      exact Int.mul_ediv_cancel _ (by decide)
    have e2 : ((2 : Int) ^ (k + 1) * b) % 2 = 0 := by
      rw [Int.pow_succ, Int.mul_right_comm]
      exact Int.mul_emod_left _ _
    rw [e1, e2, and_sh b k, if_neg (by omega), Int.ediv_ediv_of_nonneg (by decide), ← Int.pow_succ', Int.pow_succ]
    generalize Builtin.bitAnd (x / (2 ^ k * 2)) b = z
    rw [Int.add_zero, ← Int.mul_assoc, Int.mul_comm 2 (2 ^ k)]
theorem and_kind (x : Int) : Builtin.bitAnd x 61440 = 4096 * (x / 4096 % 16) := by
  have h := and_sh 15 12 x
  rw [bitAnd_m4] at h
  exact h
theorem and_one (x : Int) (k : Nat) : Builtin.bitAnd x (2 ^ k) = (x / 2 ^ k % 2) * 2 ^ k := kbt_bit x k
theorem and_two (x : Int) (k j : Nat) : Builtin.bitAnd x (2 ^ k * (2 ^ (j + 1) + 1)) = 2 ^ k * (2 * ((x / 2 ^ k / 2) / 2 ^ j % 2 * 2 ^ j) + (x / 2 ^ k % 2)) := by
  rw [and_sh, kbt_halves]
  have e1 : ((2 : Int) ^ (j + 1) + 1) / 2 = 2 ^ j := by rw [Int.pow_succ]; omega
  have e2 : ((2 : Int) ^ (j + 1) + 1) % 2 = 1 := by rw [Int.pow_succ]; omega
  rw [e1, e2, kbt_bit]
  congr 2
  split <;> omega
theorem app_lt : ∀ {a b l m : List Nat}, a.length = b.length → ((a ++ l < b ++ m) ↔ (a < b ∨ (a = b ∧ l < m)))
  | [], [], l, m, _ => by simp
  | [], _ :: _, _, _, h => by simp at h
  | _ :: _, [], _, _, h => by simp at h
  | x :: a, y :: b, l, m, h => by
    have ih := app_lt (a := a) (b := b) (l := l) (m := m) (by simpa using h)
    simp only [List.cons_append, List.cons_lt_cons_iff, ih, List.cons.injEq]
    constructor
    · rintro (h | ⟨h, h' | h'⟩)
      · exact .inl (.inl h)
      · exact .inl (.inr ⟨h, h'⟩)
      · exact .inr ⟨⟨h, h'.1⟩, h'.2⟩
    · rintro ((h | h) | ⟨h, h'⟩)
      · exact .inl h
      · exact .inr ⟨h.1, .inl h.2⟩
      · exact .inr ⟨h.1, .inr ⟨h.2, h'⟩⟩
theorem kind_ord : ∀ q q' : Fin 8, decide (cpA "-?bcdlps" (q.val : Int) < cpA "-?bcdlps" (q'.val : Int)) = decide (q.val < q'.val) := by decide +kernel
theorem kind_inj : ∀ q q' : Fin 8, decide (cpA "-?bcdlps" (q.val : Int) = cpA "-?bcdlps" (q'.val : Int)) = decide (q.val = q'.val) := by decide +kernel
theorem triS_ord : ∀ f f' : Fin 16, decide (triL "-Ssx" (f.val : Int) < triL "-Ssx" (f'.val : Int)) = decide (f.val < f'.val) := by decide +kernel
theorem triS_inj : ∀ f f' : Fin 16, decide (triL "-Ssx" (f.val : Int) = triL "-Ssx" (f'.val : Int)) = decide (f.val = f'.val) := by decide +kernel
theorem triT_ord : ∀ f f' : Fin 16, decide (triL "-Ttx" (f.val : Int) < triL "-Ttx" (f'.val : Int)) = decide (f.val < f'.val) := by decide +kernel
theorem triT_inj : ∀ f f' : Fin 16, decide (triL "-Ttx" (f.val : Int) = triL "-Ttx" (f'.val : Int)) = decide (f.val = f'.val) := by decide +kernel
theorem digits {r : Int} (h0 : 0 ≤ r) (h1 : r < 32768) : ∃ (q : Fin 8) (a b c : Fin 16), r.fdiv 4096 = (q.val : Int) ∧ fourF r 2 = (a.val : Int) ∧ fourF r 1 = (b.val : Int) ∧ fourF r 0 = (c.val : Int) ∧ r = 4096 * (q.val : Int) + 256 * (a.val : Int) + 16 * (b.val : Int) + (c.val : Int) := by
  obtain ⟨n, rfl⟩ := Int.eq_ofNat_of_zero_le h0
  have e2 : fourF (n : Int) 2 = ((n / 256 % 16 : Nat) : Int) := by
    unfold fourF
    rw [Int.fmod_eq_emod_of_nonneg _ (by decide), Int.fdiv_eq_ediv_of_nonneg _ (by decide)]; rfl
  have e1 : fourF (n : Int) 1 = ((n / 16 % 16 : Nat) : Int) := by
    unfold fourF
    rw [Int.fmod_eq_emod_of_nonneg _ (by decide), Int.fdiv_eq_ediv_of_nonneg _ (by decide)]; rfl
  have e0 : fourF (n : Int) 0 = ((n % 16 : Nat) : Int) := by
    unfold fourF
    rw [Int.fmod_eq_emod_of_nonneg _ (by decide), Int.fdiv_eq_ediv_of_nonneg _ (by decide)]; exact congrArg (fun z : Int => z % 16) (Int.ediv_one (n : Int))
  exact ⟨⟨n / 4096, by omega⟩, ⟨n / 256 % 16, Nat.mod_lt _ (by decide)⟩, ⟨n / 16 % 16, Nat.mod_lt _ (by decide)⟩, ⟨n % 16, Nat.mod_lt _ (by decide)⟩, by rw [Int.fdiv_eq_ediv_of_nonneg _ (by decide)]; dsimp only; omega, e2, e1, e0, by dsimp only; omega⟩
theorem dec_iff {p q : Prop} [Decidable p] [Decidable q] (h : decide p = decide q) : p ↔ q := by
  by_cases hp : p <;> by_cases hq : q <;> simp_all
theorem rowL_lt {r r' : Int} (h0 : 0 ≤ r) (h1 : r < 32768) (h0' : 0 ≤ r') (h1' : r' < 32768) : rowL r < rowL r' ↔ r < r' := by
  obtain ⟨q, a, b, c, eq, ea, eb, ec, er⟩ := digits h0 h1
  obtain ⟨q', a', b', c', eq', ea', eb', ec', er'⟩ := digits h0' h1'
  unfold rowL
  rw [List.cons_lt_cons_iff, app_lt (a := triL "-Ssx" (fourF r 2)) (b := triL "-Ssx" (fourF r' 2)) rfl, app_lt (a := triL "-Ssx" (fourF r 1)) (b := triL "-Ssx" (fourF r' 1)) rfl, eq, ea, eb, ec, eq', ea', eb', ec', dec_iff (kind_ord q q'), dec_iff (kind_inj q q'), dec_iff (triS_ord a a'), dec_iff (triS_inj a a'), dec_iff (triS_ord b b'), dec_iff (triS_inj b b'), dec_iff (triT_ord c c')]
  have := q.isLt; have := a.isLt; have := b.isLt; have := c.isLt
  have := q'.isLt; have := a'.isLt; have := b'.isLt; have := c'.isLt
  omega
theorem rowL_inj {r r' : Int} (h0 : 0 ≤ r) (h1 : r < 32768) (h0' : 0 ≤ r') (h1' : r' < 32768) : rowL r = rowL r' ↔ r = r' := by
  constructor
  · intro h
    rcases Int.lt_trichotomy r r' with g | g | g
    · have := (rowL_lt h0 h1 h0' h1').mpr g
      rw [h] at this
      exact absurd this (List.lt_irrefl _)
    · exact g
    · have := (rowL_lt h0' h1' h0 h1).mpr g
      rw [h] at this
      exact absurd this (List.lt_irrefl _)
  · exact fun h => h ▸ rfl
theorem cps_row (r : Int) : (rowF r).cps.toList = rowL r := by rw [row_cps]
theorem str_of_cps {s t : Str} (h : s.cps.toList = t.cps.toList) : s = t := by
  cases s; cases t; simpa using h
theorem rowF_inj {r r' : Int} (h0 : 0 ≤ r) (h1 : r < 32768) (h0' : 0 ≤ r') (h1' : r' < 32768) : rowF r = rowF r' ↔ r = r' := by
  constructor
  · intro h
    have h2 := congrArg (fun s : Str => s.cps.toList) h
    simp only [cps_row] at h2
    exact (rowL_inj h0 h1 h0' h1').mp h2
  · intro h
    rw [h]
end Mine
end

section
open PySem PySem.W PyProof.Rows PySem.Calls
namespace Mine
set_option maxRecDepth 100000
set_option maxHeartbeats 400000
theorem ch1 : ∀ b : Fin 2, (if b.val = 1 then Str.ofString "r" else Str.ofString "-") = ⟨#[cpA "-r" (b.val : Int)]⟩ := by decide +kernel
theorem ch2 : ∀ b : Fin 2, (if b.val = 1 then Str.ofString "w" else Str.ofString "-") = ⟨#[cpA "-w" (b.val : Int)]⟩ := by decide +kernel
theorem ch3 : ∀ a b : Fin 2, (if a.val = 1 ∧ b.val = 1 then Str.ofString "s" else if b.val = 1 then Str.ofString "S" else if a.val = 1 then Str.ofString "x" else Str.ofString "-") = ⟨#[cpA "-Ssx" (2 * (a.val : Int) + (((a.val + b.val) % 2 : Nat) : Int))]⟩ := by decide +kernel
theorem ch4 : ∀ a b : Fin 2, (if a.val = 1 ∧ b.val = 1 then Str.ofString "t" else if b.val = 1 then Str.ofString "T" else if a.val = 1 then Str.ofString "x" else Str.ofString "-") = ⟨#[cpA "-Ttx" (2 * (a.val : Int) + (((a.val + b.val) % 2 : Nat) : Int))]⟩ := by decide +kernel
theorem one_cast (n : Nat) : ((n : Int) = 1) = (n = 1) := by
  apply propext; omega
theorem bit_of (y : Int) : ∃ b : Fin 2, y % 2 = (b.val : Int) := ⟨⟨(y % 2).toNat, by omega⟩, by dsimp only; omega⟩
theorem pickr (m : Int) (k : Nat) {b : Int} (hb : b = 2 ^ k) : pick1 m b "r" = ⟨#[cpA "-r" (m / 2 ^ k % 2)]⟩ := by
  obtain ⟨v, hv⟩ := bit_of (m / 2 ^ k)
  have hp : (0 : Int) < 2 ^ k := Int.pow_pos (by decide)
  unfold pick1
  rw [hb, kbt_bit, hv, ← ch1 v]
  have := v.isLt
  by_cases h : v.val = 1
  · rw [h, if_pos (by simp), if_pos rfl]
  · have e : v.val = 0 := by omega
    rw [e, if_neg (by simp; omega), if_neg (by decide)]
theorem pickw (m : Int) (k : Nat) {b : Int} (hb : b = 2 ^ k) : pick1 m b "w" = ⟨#[cpA "-w" (m / 2 ^ k % 2)]⟩ := by
  obtain ⟨v, hv⟩ := bit_of (m / 2 ^ k)
  have hp : (0 : Int) < 2 ^ k := Int.pow_pos (by decide)
  unfold pick1
  rw [hb, kbt_bit, hv, ← ch2 v]
  have := v.isLt
  by_cases h : v.val = 1
  · rw [h, if_pos (by simp), if_pos rfl]
  · have e : v.val = 0 := by omega
    rw [e, if_neg (by simp; omega), if_neg (by decide)]
theorem pick_s (m lo hi : Int) (b1 b2 b3 : Int) (hl : lo % 2 = lo) (hh : hi % 2 = hi) (e1 : Builtin.bitAnd m b1 = b1 ↔ (lo = 1 ∧ hi = 1)) (e2 : Builtin.bitAnd m b2 = b2 ↔ hi = 1) (e3 : Builtin.bitAnd m b3 = b3 ↔ lo = 1) :
    pick3 m b1 b2 b3 "s" "S" = ⟨#[cpA "-Ssx" (2 * lo + (lo + hi) % 2)]⟩ := by
  obtain ⟨a, ha⟩ := bit_of lo
  obtain ⟨b, hb⟩ := bit_of hi
  rw [hl] at ha
  rw [hh] at hb
  subst ha hb
  have h := ch3 a b
  have e : 2 * (a.val : Int) + (((a.val + b.val) % 2 : Nat) : Int) = 2 * (a.val : Int) + ((a.val : Int) + (b.val : Int)) % 2 := by omega
  rw [e] at h
  rw [← h]
  unfold pick3
  simp only [e1, e2, e3]
  simp only [one_cast]
theorem pick_t (m lo hi : Int) (b1 b2 b3 : Int) (hl : lo % 2 = lo) (hh : hi % 2 = hi) (e1 : Builtin.bitAnd m b1 = b1 ↔ (lo = 1 ∧ hi = 1)) (e2 : Builtin.bitAnd m b2 = b2 ↔ hi = 1) (e3 : Builtin.bitAnd m b3 = b3 ↔ lo = 1) :
    pick3 m b1 b2 b3 "t" "T" = ⟨#[cpA "-Ttx" (2 * lo + (lo + hi) % 2)]⟩ := by
  obtain ⟨a, ha⟩ := bit_of lo
  obtain ⟨b, hb⟩ := bit_of hi
  rw [hl] at ha
  rw [hh] at hb
  subst ha hb
  have h := ch4 a b
  have e : 2 * (a.val : Int) + (((a.val + b.val) % 2 : Nat) : Int) = 2 * (a.val : Int) + ((a.val : Int) + (b.val : Int)) % 2 := by omega
  rw [e] at h
  rw [← h]
  unfold pick3
  simp only [e1, e2, e3]
  simp only [one_cast]
theorem and_b (m : Int) (k : Nat) {b : Int} (hb : b = 2 ^ k) : Builtin.bitAnd m b = (m / b % 2) * b := by subst hb; exact kbt_bit m k
theorem one_of {v : Int} (c : Int) (hc : c ≠ 0) : v * c = c ↔ v = 1 := by
  constructor
  · intro h
    have h2 : v * c = 1 * c := by rw [h, Int.one_mul]
    exact Int.eq_of_mul_eq_mul_right hc h2
  · intro h
    rw [h, Int.one_mul]
theorem b_one (m : Int) (k : Nat) {b : Int} (hb : b = 2 ^ k) (hc : b ≠ 0) : Builtin.bitAnd m b = b ↔ m / b % 2 = 1 := by
  rw [and_b m k hb]
  exact one_of b hc
theorem rest2 (a : Int) : a % 2 % 2 = a % 2 := Int.emod_emod_of_dvd a (by decide)
theorem div_div' (R : Int) {a b c : Int} (h : 0 ≤ a) (e : c = a * b) : R / c = R / a / b := by rw [e, Int.ediv_ediv_of_nonneg h]
theorem both_a {a b : Int} (ha : 0 ≤ a ∧ a < 2) (hb : 0 ≤ b ∧ b < 2) : 64 * (2 * (b * 16) + a) = 2112 ↔ (a = 1 ∧ b = 1) := by omega
theorem both_b {a b : Int} (ha : 0 ≤ a ∧ a < 2) (hb : 0 ≤ b ∧ b < 2) : 8 * (2 * (b * 64) + a) = 1032 ↔ (a = 1 ∧ b = 1) := by omega
theorem both_c {a b : Int} (ha : 0 ≤ a ∧ a < 2) (hb : 0 ≤ b ∧ b < 2) : 1 * (2 * (b * 256) + a) = 513 ↔ (a = 1 ∧ b = 1) := by omega
theorem bit_in (a : Int) : 0 ≤ a % 2 ∧ a % 2 < 2 := by omega
theorem p3a (m : Int) : pick3 m 2112 2048 64 "s" "S" = ⟨#[cpA "-Ssx" (2 * (m / 64 % 2) + (m / 64 % 2 + m / 2048 % 2) % 2)]⟩ := by
  refine pick_s m _ _ _ _ _ (rest2 _) (rest2 _) ?_ (b_one m 11 (by decide) (by decide)) (b_one m 6 (by decide) (by decide))
  have h : Builtin.bitAnd m 2112 = 64 * (2 * ((m / 64 / 2) / 16 % 2 * 16) + (m / 64 % 2)) := and_two m 6 4
  rw [h, ← div_div' m (a := 64) (b := 2) (c := 128) (by decide) (by decide), ← div_div' m (a := 128) (b := 16) (c := 2048) (by decide) (by decide)]
  exact both_a (bit_in _) (bit_in _)
theorem p3b (m : Int) : pick3 m 1032 1024 8 "s" "S" = ⟨#[cpA "-Ssx" (2 * (m / 8 % 2) + (m / 8 % 2 + m / 1024 % 2) % 2)]⟩ := by
  refine pick_s m _ _ _ _ _ (rest2 _) (rest2 _) ?_ (b_one m 10 (by decide) (by decide)) (b_one m 3 (by decide) (by decide))
  have h : Builtin.bitAnd m 1032 = 8 * (2 * ((m / 8 / 2) / 64 % 2 * 64) + (m / 8 % 2)) := and_two m 3 6
  rw [h, ← div_div' m (a := 8) (b := 2) (c := 16) (by decide) (by decide), ← div_div' m (a := 16) (b := 64) (c := 1024) (by decide) (by decide)]
  exact both_b (bit_in _) (bit_in _)
theorem p3c (m : Int) : pick3 m 513 512 1 "t" "T" = ⟨#[cpA "-Ttx" (2 * (m / 1 % 2) + (m / 1 % 2 + m / 512 % 2) % 2)]⟩ := by
  refine pick_t m _ _ _ _ _ (rest2 _) (rest2 _) ?_ (b_one m 9 (by decide) (by decide)) (b_one m 0 (by decide) (by decide))
  have h : Builtin.bitAnd m 513 = 1 * (2 * ((m / 1 / 2) / 256 % 2 * 256) + (m / 1 % 2)) := and_two m 0 8
  rw [h, ← div_div' m (a := 1) (b := 2) (c := 2) (by decide) (by decide), ← div_div' m (a := 2) (b := 256) (c := 512) (by decide) (by decide)]
  exact both_c (bit_in _) (bit_in _)
/-- the first sign by the kind's figure -/
def kindT (t : Int) : Str :=
  if 4096 * t = 40960 then Str.ofString "l" else if 4096 * t = 49152 then Str.ofString "s" else if 4096 * t = 32768 then Str.ofString "-"
  else if 4096 * t = 24576 then Str.ofString "b" else if 4096 * t = 16384 then Str.ofString "d" else if 4096 * t = 8192 then Str.ofString "c"
  else if 4096 * t = 4096 then Str.ofString "p" else Str.ofString "?"
def kindN (t : Int) : Int := Txt.find (Str.ofString "-?bcdlps") (Txt.item (Str.ofString "?pc?d?b?-?l?s???") t)
theorem kindT_cp : ∀ t : Fin 16, kindT (t.val : Int) = ⟨#[cpA "-?bcdlps" (kindN (t.val : Int))]⟩ := by decide +kernel
theorem kindN_in : ∀ t : Fin 16, 0 ≤ kindN (t.val : Int) ∧ kindN (t.val : Int) < 8 := by decide +kernel
theorem kindC_T (m : Int) : kindC m = kindT (m / 4096 % 16) := by
  unfold kindC kindT
  rw [and_kind]
theorem fig_lin (r a b c d : Int) : 16 * r + 4 * (2 * a + b) + 2 * c + d = 16 * r + (8 * a + 4 * b + (2 * c + d)) := by omega
theorem fig_half (y : Int) : y % 8 / 2 = 2 * (y / 2 / 2 % 2) + y / 2 % 2 := by omega
theorem fig_is (r y z : Int) : 16 * r + 4 * (y % 8 / 2) + 2 * (y % 8 % 2) + (y % 8 + z % 2) % 2 = 16 * r + (8 * (y / 2 / 2 % 2) + 4 * (y / 2 % 2) + (2 * (y % 2) + (y % 2 + z % 2) % 2)) := by
  have h2 : y % 8 % 2 = y % 2 := Int.emod_emod_of_dvd y (by decide)
  have h3 : (y % 8 + z % 2) % 2 = (y % 2 + z % 2) % 2 := by rw [Int.add_emod (y % 8), h2, rest2]
  rw [fig_half, h2, h3]
  exact fig_lin _ _ _ _ _
theorem step_is (R r : Int) (h0 : 0 ≤ R) (h1 : R < 4096) : stepF R r 2 = 16 * r + (8 * (R / 256 % 2) + 4 * (R / 128 % 2) + (2 * (R / 64 % 2) + (R / 64 % 2 + R / 2048 % 2) % 2)) ∧
    stepF R r 1 = 16 * r + (8 * (R / 32 % 2) + 4 * (R / 16 % 2) + (2 * (R / 8 % 2) + (R / 8 % 2 + R / 1024 % 2) % 2)) ∧
    stepF R r 0 = 16 * r + (8 * (R / 4 % 2) + 4 * (R / 2 % 2) + (2 * (R / 1 % 2) + (R / 1 % 2 + R / 512 % 2) % 2)) := by
  have f : ∀ (a b : Int), 0 ≤ b → a.fdiv b = a / b := fun a b h => Int.fdiv_eq_ediv_of_nonneg _ h
  have g : ∀ (a b : Int), 0 ≤ b → a.fmod b = a % b := fun a b h => Int.fmod_eq_emod_of_nonneg _ h
  unfold stepF
  refine ⟨?_, ?_, ?_⟩
  · rw [f R (8 ^ 2) (by decide), f (R.fdiv 512) (2 ^ 2) (by decide), f R 512 (by decide), g _ 8 (by decide), f _ 2 (by decide), g _ 2 (by decide), g _ 2 (by decide), g _ 2 (by decide)]
    have a1 : R / 128 = R / 64 / 2 := div_div' R (by decide) (by decide)
    have a2 : R / 256 = R / 64 / 2 / 2 := by rw [div_div' R (a := 128) (b := 2) (by decide) (by decide), a1]
    have a3 : R / 2048 = R / 512 / 4 := div_div' R (by decide) (by decide)
    rw [a1, a2, a3]
    exact fig_is r (R / 64) (R / 512 / 4)
  · rw [f R (8 ^ 1) (by decide), f (R.fdiv 512) (2 ^ 1) (by decide), f R 512 (by decide), g _ 8 (by decide), f _ 2 (by decide), g _ 2 (by decide), g _ 2 (by decide), g _ 2 (by decide)]
    have a1 : R / 16 = R / 8 / 2 := div_div' R (by decide) (by decide)
    have a2 : R / 32 = R / 8 / 2 / 2 := by rw [div_div' R (a := 16) (b := 2) (by decide) (by decide), a1]
    have a3 : R / 1024 = R / 512 / 2 := div_div' R (by decide) (by decide)
    rw [a1, a2, a3]
    exact fig_is r (R / 8) (R / 512 / 2)
  · rw [f R (8 ^ 0) (by decide), f (R.fdiv 512) (2 ^ 0) (by decide), f R 512 (by decide), g _ 8 (by decide), f _ 2 (by decide), g _ 2 (by decide), g _ 2 (by decide), g _ 2 (by decide)]
    have a1 : R / 2 = R / 1 / 2 := by rw [Int.ediv_one]
    have a2 : R / 4 = R / 1 / 2 / 2 := by rw [Int.ediv_one, div_div' R (a := 2) (b := 2) (by decide) (by decide)]
    have a3 : R / 512 = R / 512 / 1 := by rw [Int.ediv_one]
    rw [a1, a2]
    have h := fig_is r (R / 1) (R / 512 / 1)
    rw [← a3] at h
    have e8 : R / 8 ^ 0 = R / 1 := by simp
    have e2 : R / 512 / 2 ^ 0 = R / 512 := by simp
    rw [e8, e2]
    exact h
/-- the figures of a mode -/
theorem mode_fig (x : Int) : ∃ (t : Fin 16) (R : Int), 0 ≤ R ∧ R < 4096 ∧ (x.fdiv 3).fmod 16 = (t.val : Int) ∧ rightsF x = R ∧ modeF x = 65536 * x + 4096 * (t.val : Int) + R := by
  have h1 : 0 ≤ (x.fdiv 3).fmod 16 := Int.fmod_nonneg_of_pos _ (by decide)
  have h2 : (x.fdiv 3).fmod 16 < 16 := Int.fmod_lt_of_pos _ (by decide)
  have h3 : 0 ≤ rightsF x := Int.fmod_nonneg_of_pos _ (by decide)
  have h4 : rightsF x < 4096 := Int.fmod_lt_of_pos _ (by decide)
  have e : (((⟨((x.fdiv 3).fmod 16).toNat, by omega⟩ : Fin 16).val : Nat) : Int) = (x.fdiv 3).fmod 16 := by dsimp only; omega
  exact ⟨⟨((x.fdiv 3).fmod 16).toNat, by omega⟩, rightsF x, h3, h4, e.symm, rfl, by rw [e]; rfl⟩
theorem rank_lin (k a b c : Int) : 16 * (16 * (16 * k + a) + b) + c = 4096 * k + 256 * a + 16 * b + c := by omega
theorem rank_fig {x R : Int} {t : Fin 16} (h0 : 0 ≤ R) (h1 : R < 4096) (ht : (x.fdiv 3).fmod 16 = (t.val : Int)) (hR : rightsF x = R) :
    rankF x = 4096 * kindN (t.val : Int) + 256 * (8 * (R / 256 % 2) + 4 * (R / 128 % 2) + (2 * (R / 64 % 2) + (R / 64 % 2 + R / 2048 % 2) % 2)) +
      16 * (8 * (R / 32 % 2) + 4 * (R / 16 % 2) + (2 * (R / 8 % 2) + (R / 8 % 2 + R / 1024 % 2) % 2)) + (8 * (R / 4 % 2) + 4 * (R / 2 % 2) + (2 * (R / 1 % 2) + (R / 1 % 2 + R / 512 % 2) % 2)) := by
  unfold rankF
  rw [ht, hR]
  rw [(step_is R _ h0 h1).2.2, (step_is R _ h0 h1).2.1, (step_is R _ h0 h1).1]
  unfold kindN
  exact rank_lin _ _ _ _
theorem four_in (a b c e : Int) : 0 ≤ 8 * (a % 2) + 4 * (b % 2) + (2 * (c % 2) + e % 2) ∧ 8 * (a % 2) + 4 * (b % 2) + (2 * (c % 2) + e % 2) < 16 := by omega
theorem low_in (c e : Int) : 0 ≤ 2 * (c % 2) + e % 2 ∧ 2 * (c % 2) + e % 2 < 4 := by omega
theorem rank_lt {k g2 g1 g0 : Int} (hk : 0 ≤ k ∧ k < 8) (h2 : 0 ≤ g2 ∧ g2 < 16) (h1 : 0 ≤ g1 ∧ g1 < 16) (h0 : 0 ≤ g0 ∧ g0 < 16) : 0 ≤ 4096 * k + 256 * g2 + 16 * g1 + g0 ∧ 4096 * k + 256 * g2 + 16 * g1 + g0 < 32768 := by omega
theorem bit_low {x t R m : Int} (c d : Int) (hm : m = 65536 * x + 4096 * t + R) (hc : c ≠ 0) (hcd : 4096 = c * (2 * d)) : m / c % 2 = R / c % 2 := by
  have e : m = R + c * (2 * (d * (16 * x + t))) := by
    have h : c * (2 * (d * (16 * x + t))) = 4096 * (16 * x + t) := by rw [hcd, Int.mul_assoc, Int.mul_assoc]
    omega
  rw [e, Int.add_mul_ediv_left _ _ hc, Int.add_mul_emod_self_left]
theorem kind_at {x t R m : Int} (hm : m = 65536 * x + 4096 * t + R) (h0 : 0 ≤ R) (h1 : R < 4096) (a : 0 ≤ t) (b : t < 16) : m / 4096 % 16 = t := by omega
theorem rank_in (x : Int) : 0 ≤ rankF x ∧ rankF x < 32768 := by
  obtain ⟨t, R, h0, h1, ht, hR, _⟩ := mode_fig x
  rw [rank_fig h0 h1 ht hR]
  exact rank_lt (kindN_in t) (four_in _ _ _ _) (four_in _ _ _ _) (four_in _ _ _ _)
theorem rank_lo (x : Int) : 0 ≤ rankF x := (rank_in x).1
theorem rank_hi (x : Int) : rankF x < 32768 := (rank_in x).2
/-- a four of signs by its three signs -/
theorem triL_of (last : String) {g a b c : Int} (hg : g = 8 * a + 4 * b + c) (ha : 0 ≤ a ∧ a < 2) (hb : 0 ≤ b ∧ b < 2) (hc : 0 ≤ c ∧ c < 4) : triL last g = [cpA "-r" a, cpA "-w" b, cpA last c] := by
  unfold triL
  rw [Int.fdiv_eq_ediv_of_nonneg _ (by decide), Int.fdiv_eq_ediv_of_nonneg _ (by decide), Int.fmod_eq_emod_of_nonneg _ (by decide), Int.fmod_eq_emod_of_nonneg _ (by decide)]
  have e1 : g / 8 = a := by omega
  have e2 : g / 4 % 2 = b := by omega
  have e3 : g % 4 = c := by omega
  rw [e1, e2, e3]
theorem rowL_of {r k g2 g1 g0 : Int} (hr : r = 4096 * k + 256 * g2 + 16 * g1 + g0) (hk : 0 ≤ k) (h2 : 0 ≤ g2 ∧ g2 < 16) (h1 : 0 ≤ g1 ∧ g1 < 16) (h0 : 0 ≤ g0 ∧ g0 < 16) :
    rowL r = cpA "-?bcdlps" k :: (triL "-Ssx" g2 ++ (triL "-Ssx" g1 ++ triL "-Ttx" g0)) := by
  unfold rowL fourF
  have p2 : (16 : Int) ^ 2 = 256 := by decide
  have p1 : (16 : Int) ^ 1 = 16 := by decide
  have p0 : (16 : Int) ^ 0 = 1 := by decide
  rw [p2, p1, p0]
  rw [Int.fdiv_eq_ediv_of_nonneg _ (show (0 : Int) ≤ 4096 by decide), Int.fdiv_eq_ediv_of_nonneg _ (show (0 : Int) ≤ 256 by decide), Int.fdiv_eq_ediv_of_nonneg _ (show (0 : Int) ≤ 16 by decide), Int.fdiv_eq_ediv_of_nonneg _ (show (0 : Int) ≤ 1 by decide)]
  simp only [Int.fmod_eq_emod_of_nonneg _ (show (0 : Int) ≤ 16 by decide)]
  have e3 : r / 4096 = k := by omega
  have e2 : r / 256 % 16 = g2 := by omega
  have e1 : r / 16 % 16 = g1 := by omega
  have e0 : r / 1 % 16 = g0 := by omega
  rw [e3, e2, e1, e0]
theorem sign_row (x : Int) : Txt.join (Str.ofString "") (signs (modeF x)) = rowF (rankF x) := by
  obtain ⟨t, R, h0, h1, ht, hR, hm⟩ := mode_fig x
  have hk := kindN_in t
  rw [row_cps, rowL_of (rank_fig h0 h1 ht hR) hk.1 (four_in _ _ _ _) (four_in _ _ _ _) (four_in _ _ _ _)]
  rw [triL_of "-Ssx" (g := 8 * (R / 256 % 2) + 4 * (R / 128 % 2) + (2 * (R / 64 % 2) + (R / 64 % 2 + R / 2048 % 2) % 2)) rfl (bit_in _) (bit_in _) (low_in _ _)]
  rw [triL_of "-Ssx" (g := 8 * (R / 32 % 2) + 4 * (R / 16 % 2) + (2 * (R / 8 % 2) + (R / 8 % 2 + R / 1024 % 2) % 2)) rfl (bit_in _) (bit_in _) (low_in _ _)]
  rw [triL_of "-Ttx" (g := 8 * (R / 4 % 2) + 4 * (R / 2 % 2) + (2 * (R / 1 % 2) + (R / 1 % 2 + R / 512 % 2) % 2)) rfl (bit_in _) (bit_in _) (low_in _ _)]
  generalize modeF x = m at hm
  unfold signs
  rw [kindC_T, pickr m 8 (by decide), pickw m 7 (by decide), p3a, pickr m 5 (by decide), pickw m 4 (by decide), p3b, pickr m 2 (by decide), pickw m 1 (by decide), p3c]
  rw [kind_at hm h0 h1 (Int.natCast_nonneg _) (Int.ofNat_lt.mpr t.isLt), bit_low (2 ^ 8) 8 hm (by decide) (by decide), bit_low (2 ^ 7) 16 hm (by decide) (by decide), bit_low 64 32 hm (by decide) (by decide), bit_low 2048 1 hm (by decide) (by decide),
    bit_low (2 ^ 5) 64 hm (by decide) (by decide), bit_low (2 ^ 4) 128 hm (by decide) (by decide), bit_low 8 256 hm (by decide) (by decide), bit_low 1024 2 hm (by decide) (by decide),
    bit_low (2 ^ 2) 512 hm (by decide) (by decide), bit_low (2 ^ 1) 1024 hm (by decide) (by decide), bit_low 1 2048 hm (by decide) (by decide), bit_low 512 4 hm (by decide) (by decide), kindT_cp t, join_ten]
  simp only [List.cons_append, List.nil_append]
  rfl
end Mine
end

section
open PySem PySem.W PyProof.Rows PySem.Calls
namespace Mine
set_option maxRecDepth 100000
set_option maxHeartbeats 400000
abbrev Rise (l : List Int) : Prop := l.Pairwise (· ≤ ·)
theorem max_lt {l : List Int} {r : Int} : maxF l < r ↔ (-1 < r ∧ ∀ e ∈ l, e < r) := by
  obtain ⟨h1, h2, h3⟩ := foldl_max l (-1)
  have g1 : -1 ≤ maxF l := h1
  have g2 : ∀ x ∈ l, x ≤ maxF l := h2
  have g3 : maxF l = -1 ∨ maxF l ∈ l := h3
  constructor
  · intro h
    exact ⟨by omega, fun e he => by have := g2 e he; omega⟩
  · rintro ⟨h, k⟩
    rcases g3 with g | g
    · omega
    · exact k _ g
theorem drop_gt {x : Int} : ∀ {xs : List Int}, Rise (x :: xs) → ∀ r ∈ xs.dropWhile (· == x), x < r
  | [], _, r, hr => by simp at hr
  | y :: ys, h, r, hr => by
    by_cases e : y = x
    · subst e
      rw [List.dropWhile_cons_of_pos (by simp)] at hr
      exact drop_gt (List.Pairwise.of_cons h) r hr
    · rw [List.dropWhile_cons_of_neg (by simpa using e)] at hr
      have h1 : x ≤ y := List.rel_of_pairwise_cons h (.head _)
      rcases List.mem_cons.mp hr with rfl | hr
      · omega
      · have := List.rel_of_pairwise_cons (List.Pairwise.of_cons h) hr
        omega
theorem drop_mem {x r : Int} (hr : r ≠ x) : ∀ {xs : List Int}, r ∈ xs.dropWhile (· == x) ↔ r ∈ xs
  | [] => by simp
  | y :: ys => by
    by_cases e : y = x
    · subst e
      rw [List.dropWhile_cons_of_pos (by simp), drop_mem hr]
      simp [hr]
    · rw [List.dropWhile_cons_of_neg (by simpa using e)]
theorem drop_rise {x : Int} {xs : List Int} (h : Rise (x :: xs)) : Rise (xs.dropWhile (· == x)) :=
  (List.Pairwise.of_cons h).sublist (List.dropWhile_sublist _)
/-- what the other hasn't, told by groups -/
def lkF (other : List Int) : List Int → List Int
  | [] => []
  | x :: xs => if x ∈ other then lkF other (xs.dropWhile (· == x)) else if maxF other < x then x :: lkF other xs else x :: lkF other (xs.dropWhile (· == x))
termination_by l => l.length
decreasing_by
  all_goals (
    have h1 := dropWhile_le (· == x) xs
    simp only [List.length_cons]
    omega)
theorem lkF_in {other xs : List Int} {x : Int} (h : x ∈ other) : lkF other (x :: xs) = lkF other (xs.dropWhile (· == x)) := by rw [lkF, if_pos h]
theorem lkF_hi {other xs : List Int} {x : Int} (h : x ∉ other) (k : maxF other < x) : lkF other (x :: xs) = x :: lkF other xs := by rw [lkF, if_neg h, if_pos k]
theorem lkF_lo {other xs : List Int} {x : Int} (h : x ∉ other) (k : ¬ maxF other < x) : lkF other (x :: xs) = x :: lkF other (xs.dropWhile (· == x)) := by rw [lkF, if_neg h, if_neg k]
theorem fold_skip {other : List Int} {x : Int} {due : List Int} (h : lackF other due x = due) : ∀ xs : List Int, xs.foldl (lackF other) due = (xs.dropWhile (· == x)).foldl (lackF other) due
  | [] => rfl
  | y :: ys => by
    by_cases e : y = x
    · subst e
      rw [List.dropWhile_cons_of_pos (by simp), List.foldl_cons, h]
      exact fold_skip h ys
    · rw [List.dropWhile_cons_of_neg (by simpa using e)]
theorem fold_lk (other : List Int) : ∀ (n : Nat) (own due : List Int), own.length ≤ n → Rise own → (∀ r ∈ own, maxF other < r ∨ r ∉ due) → own.foldl (lackF other) due = due ++ lkF other own := by
  intro n
  induction n with
  | zero =>
    intro own due hn _ _
    have : own = [] := List.length_eq_zero_iff.mp (by omega)
    subst this
    simp [lkF]
  | succ n ih =>
    intro own due hn hs hi
    cases own with
    | nil => simp [lkF]
    | cons x xs =>
      have hl := dropWhile_le (· == x) xs
      simp only [List.length_cons] at hn
      by_cases h : x ∈ other
      · have e : lackF other due x = due := if_neg fun q => q.1 h
        rw [List.foldl_cons, e, fold_skip e, lkF_in h]
        exact ih _ due (by omega) (drop_rise hs) fun r hr => hi r (.tail _ ((List.dropWhile_sublist _).subset hr))
      · by_cases k : maxF other < x
        · have e : lackF other due x = due ++ [x] := if_pos ⟨h, .inr k⟩
          rw [List.foldl_cons, e, lkF_hi h k, ih xs _ (by omega) (List.Pairwise.of_cons hs) fun r hr => .inl (by have := List.rel_of_pairwise_cons hs hr; omega)]
          simp
        · have hd : x ∉ due := (hi x (.head _)).resolve_left k
          have e : lackF other due x = due ++ [x] := if_pos ⟨h, .inl hd⟩
          have e2 : lackF other (due ++ [x]) x = due ++ [x] := if_neg fun q => by
            rcases q.2 with q | q
            · exact q (by simp)
            · exact k q
          rw [List.foldl_cons, e, fold_skip e2, lkF_lo h k, ih _ _ (by omega) (drop_rise hs) fun r hr => ?_]
          · simp
          · have g := drop_gt hs r hr
            rcases hi r (.tail _ ((List.dropWhile_sublist _).subset hr)) with q | q
            · exact .inl q
            · exact .inr fun z => by
                rcases List.mem_append.mp z with z | z
                · exact q z
                · have := List.mem_singleton.mp z; omega
theorem lacks_lk {own other : List Int} (h : Rise own) : lacksF own other = lkF other own := by
  have := fold_lk other own.length own [] (Nat.le_refl _) h fun r _ => .inr (by simp)
  simpa [lacksF] using this
theorem lk_congr {o1 o2 : List Int} : ∀ (n : Nat) (own : List Int), own.length ≤ n → (∀ r ∈ own, (r ∈ o1 ↔ r ∈ o2) ∧ (maxF o1 < r ↔ maxF o2 < r)) → lkF o1 own = lkF o2 own := by
  intro n
  induction n with
  | zero =>
    intro own hn _
    have : own = [] := List.length_eq_zero_iff.mp (by omega)
    subst this
    simp [lkF]
  | succ n ih =>
    intro own hn hi
    cases own with
    | nil => simp [lkF]
    | cons x xs =>
      have hl := dropWhile_le (· == x) xs
      simp only [List.length_cons] at hn
      have hx := hi x (.head _)
      have r1 := ih (xs.dropWhile (· == x)) (by omega) fun r hr => hi r (.tail _ ((List.dropWhile_sublist _).subset hr))
      have r2 := ih xs (by omega) fun r hr => hi r (.tail _ hr)
      by_cases h : x ∈ o1
      · rw [lkF_in h, lkF_in (hx.1.mp h), r1]
      · by_cases k : maxF o1 < x
        · rw [lkF_hi h k, lkF_hi (fun q => h (hx.1.mpr q)) (hx.2.mp k), r2]
        · rw [lkF_lo h k, lkF_lo (fun q => h (hx.1.mpr q)) (fun q => k (hx.2.mpr q)), r1]
theorem lk_nil : ∀ {l : List Int}, (∀ r ∈ l, 0 ≤ r) → lkF [] l = l
  | [], _ => by simp [lkF]
  | x :: xs, h => by
    have h0 := h x (.head _)
    rw [lkF_hi (by simp) (max_lt.mpr ⟨by omega, by simp⟩), lk_nil fun r hr => h r (.tail _ hr)]
theorem lk_less {x : Int} {xs own : List Int} (hs : Rise (x :: xs)) (h : ∀ r ∈ own, x < r) : lkF (x :: xs) own = lkF (xs.dropWhile (· == x)) own := by
  refine lk_congr own.length own (Nat.le_refl _) fun r hr => ?_
  have hx := h r hr
  refine ⟨?_, ?_⟩
  · rw [drop_mem (by omega), List.mem_cons]
    exact ⟨fun q => q.resolve_left (by omega), .inr⟩
  · rw [max_lt, max_lt]
    refine ⟨fun q => ⟨q.1, fun e he => q.2 e (.tail _ ((List.dropWhile_sublist _).subset he))⟩, fun q => ⟨q.1, fun e he => ?_⟩⟩
    rcases List.mem_cons.mp he with rfl | he
    · exact hx
    · by_cases z : e = x
      · omega
      · exact q.2 e ((drop_mem z).mpr he)
theorem sld_lk : ∀ (n : Nat) (a b : List Int), a.length + b.length ≤ n → Rise a → Rise b → (∀ r ∈ a, 0 ≤ r) → (∀ r ∈ b, 0 ≤ r) → sldF a b = (lkF b a, lkF a b) := by
  intro n
  induction n with
  | zero =>
    intro a b hn _ _ _ _
    have h1 : a = [] := List.length_eq_zero_iff.mp (by omega)
    have h2 : b = [] := List.length_eq_zero_iff.mp (by omega)
    subst h1 h2
    rw [sldF_nil]; simp [lkF]
  | succ n ih =>
    intro a b hn ha hb pa pb
    cases a with
    | nil => rw [sldF_nil, lk_nil pb]; simp [lkF]
    | cons x xs =>
      cases b with
      | nil => rw [sldF_nil', lk_nil pa]; simp [lkF]
      | cons y ys =>
        have hl := dropWhile_le (· == x) xs
        have hl' := dropWhile_le (· == y) ys
        simp only [List.length_cons] at hn
        have pa' : ∀ r ∈ xs.dropWhile (· == x), 0 ≤ r := fun r hr => pa r (.tail _ ((List.dropWhile_sublist _).subset hr))
        have pb' : ∀ r ∈ ys.dropWhile (· == y), 0 ≤ r := fun r hr => pb r (.tail _ ((List.dropWhile_sublist _).subset hr))
        have gb : ∀ r ∈ y :: ys, y ≤ r := fun r hr => by
          rcases List.mem_cons.mp hr with rfl | hr
          · omega
          · exact List.rel_of_pairwise_cons hb hr
        have ga : ∀ r ∈ x :: xs, x ≤ r := fun r hr => by
          rcases List.mem_cons.mp hr with rfl | hr
          · omega
          · exact List.rel_of_pairwise_cons ha hr
        rcases Int.lt_trichotomy x y with h | h | h
        · have nx : x ∉ y :: ys := fun q => by have := gb x q; omega
          have nm : ¬ maxF (y :: ys) < x := fun q => by have := (max_lt.mp q).2 y (.head _); omega
          rw [sldF_lt h, ih _ _ (by simp only [List.length_cons]; omega) (drop_rise ha) hb pa' pb, lkF_lo nx nm, lk_less ha fun r hr => by have := gb r hr; omega]
        · subst h
          rw [sldF_eq rfl, ih _ _ (by omega) (drop_rise ha) (drop_rise hb) pa' pb', lkF_in (List.mem_cons_self ..), lkF_in (List.mem_cons_self ..), lk_less hb (drop_gt ha), lk_less ha (drop_gt hb)]
        · have ny : y ∉ x :: xs := fun q => by have := ga y q; omega
          have nm : ¬ maxF (x :: xs) < y := fun q => by have := (max_lt.mp q).2 x (.head _); omega
          rw [sldF_gt h, ih _ _ (by simp only [List.length_cons]; omega) ha (drop_rise hb) pa pb', lkF_lo ny nm, lk_less hb fun r hr => by have := ga r hr; omega]
theorem sld_lacks {a b : List Int} (ha : Rise a) (hb : Rise b) (pa : ∀ r ∈ a, 0 ≤ r) (pb : ∀ r ∈ b, 0 ≤ r) : sldF a b = (lacksF a b, lacksF b a) := by
  rw [lacks_lk ha, lacks_lk hb]
  exact sld_lk _ a b (Nat.le_refl _) ha hb pa pb
end Mine
end

section
open PySem PySem.W PyProof.Rows PySem.Calls
namespace Mine
set_option maxRecDepth 100000
set_option maxHeartbeats 8000000
def OkAll (ns : List Str) : Prop := ∀ s ∈ ns, PyData.strOk s = true
theorem tri_ok : ∀ f : Fin 16, (triL "-Ssx" (f.val : Int)).all (· < 0x110000) = true ∧ (triL "-Ttx" (f.val : Int)).all (· < 0x110000) = true := by decide +kernel
theorem kind_ok : ∀ q : Fin 8, decide (cpA "-?bcdlps" (q.val : Int) < 0x110000) = true := by decide +kernel
theorem row_ok {r : Int} (h0 : 0 ≤ r) (h1 : r < 32768) : PyData.strOk (rowF r) = true := by
  obtain ⟨q, a, b, c, eq, ea, eb, ec, _⟩ := digits h0 h1
  rw [row_cps]
  unfold PyData.strOk
  have e : (rowL r).all (fun x => decide (x < 0x110000)) = true := by
    unfold rowL
    rw [eq, ea, eb, ec, List.all_cons, List.all_append, List.all_append, (tri_ok a).1, (tri_ok b).1, (tri_ok c).2, kind_ok q]
    rfl
  simpa using e
theorem rows_ok {ks : List Int} (h : ∀ k ∈ ks, 0 ≤ k ∧ k < 32768) : OkAll (ks.map rowF) := by
  intro s hs
  obtain ⟨k, hk, rfl⟩ := List.mem_map.mp hs
  exact row_ok (h k hk).1 (h k hk).2
theorem sq_canLayAll0 : ∀ ns : List Str, OkAll ns → PyData.canLayAll0 (ns.map PyData.str) = true
  | [], _ => rfl
  | a :: r, h => by
    simp only [List.map_cons, PyData.canLayAll0, PyData.canLay0, Bool.and_eq_true]
    exact ⟨h a (.head _), sq_canLayAll0 r fun s hs => h s (.tail _ hs)⟩
theorem sq_depthAll : ∀ ns : List Str, PyData.depthAll (ns.map PyData.str) = 0
  | [] => rfl
  | _ :: r => by simp [PyData.depthAll, PyData.depth, sq_depthAll r]
theorem sq_shaped {ns : List Str} (h : OkAll ns) : SeqAt.shaped (.list (ns.map PyData.str)) = true := by
  simp [SeqAt.shaped, PyData.canLay0, PyData.depth, sq_canLayAll0 _ h, sq_depthAll]
theorem sq_shaped2 {ns ms : List Str} (h1 : OkAll ns) (h2 : OkAll ms) : SeqAt.shaped (.tuple [.list (ns.map PyData.str), .list (ms.map PyData.str)]) = true := by
  simp [SeqAt.shaped, PyData.canLay0, PyData.canLayAll0, PyData.depth, PyData.depthAll, sq_canLayAll0 _ h1, sq_canLayAll0 _ h2, sq_depthAll]
theorem sq_sameAll : ∀ ns ms : List Str, PySem.Spec.sameAll (ns.map PyData.str) (ms.map PyData.str) = decide (ns = ms)
  | [], [] => by simp [PySem.Spec.sameAll]
  | [], _ :: _ => by simp [PySem.Spec.sameAll]
  | _ :: _, [] => by simp [PySem.Spec.sameAll]
  | a :: r, b :: t => by
    simp only [List.map_cons, PySem.Spec.sameAll, PySem.Spec.same, sq_sameAll r t]
    by_cases h : a = b <;> by_cases h' : r = t <;> simp [h, h']
theorem sq_same (ns ms : List Str) : PySem.Spec.same (.list (ns.map PyData.str)) (.list (ms.map PyData.str)) = decide (ns = ms) := by
  simp only [PySem.Spec.same]; exact sq_sameAll ns ms
theorem sq_same2 (ns ms ns' ms' : List Str) : PySem.Spec.same (.tuple [.list (ns.map PyData.str), .list (ms.map PyData.str)]) (.tuple [.list (ns'.map PyData.str), .list (ms'.map PyData.str)]) = (decide (ns = ns') && decide (ms = ms')) := by
  simp only [PySem.Spec.same, PySem.Spec.sameAll, sq_sameAll, Bool.and_true]
theorem sq_carried : ∀ {vs : List Value} {ns : List Str}, StrsAre vs ns → CarriedAll vs (ns.map PyData.str)
  | _, _, .nil => .nil
  | _, _, .cons _ t r => .cons (.str _ t) (sq_carried r)
theorem strs_map {α : Type} {f : α → Str} : ∀ {vs : List Value} {as : List α}, CarriedAll vs (as.map fun a => PyData.str (f a)) → StrsAre vs (as.map f)
  | _, [], .nil => .nil
  | _, _ :: _, .cons (.str _ t) r => .cons _ t (strs_map r)
theorem sq_noMix (ns ms : List Str) : SeqAt.noMix (.list (ns.map PyData.str)) (.list (ms.map PyData.str)) = true :=
  SeqAt.noMix_of_shape (.list .str) rfl _ _ (list_map_has fun _ => rfl) (list_map_has fun _ => rfl)
theorem sq_noMix2 (ns ms ns' ms' : List Str) : SeqAt.noMix (.tuple [.list (ns.map PyData.str), .list (ms.map PyData.str)]) (.tuple [.list (ns'.map PyData.str), .list (ms'.map PyData.str)]) = true := by
  have h1 := sq_noMix ns ns'
  have h2 := sq_noMix ms ms'
  simp only [SeqAt.noMix, SeqAt.noMixAll, Bool.and_eq_true, Bool.and_true] at h1 h2 ⊢
  exact ⟨h1, h2⟩
/-- a tuple of two lists of texts -/
structure Two (h : Heap) (T : Addr) (ss ts : List Str) : Prop where
  out : ∃ M U nM nU, ∃ ms us : List Value, h.get? T = some { cls := .type "tuple", data := .seq #[.ref M, .ref U] } ∧ h.get? M = some (listOf ms.toArray nM) ∧ h.get? U = some (listOf us.toArray nU) ∧ StrsAre ms ss ∧ StrsAre us ts ∧ OkAll ss ∧ OkAll ts
theorem Two.ok {h : Heap} {T : Addr} {ss ts : List Str} (t : Two h T ss ts) : OkAll ss ∧ OkAll ts := by
  obtain ⟨M, U, nM, nU, ms, us, hT, hM, hU, hm, hu, a, b⟩ := t.out
  exact ⟨a, b⟩
theorem Two.reads {h : Heap} {T : Addr} {ss ts : List Str} (t : Two h T ss ts) : ∃ as, Reads h (.ref T) (.tuple [.list (ss.map PyData.str), .list (ts.map PyData.str)]) as := by
  obtain ⟨M, U, nM, nU, ms, us, hT, hM, hU, hm, hu, _, _⟩ := t.out
  exact ⟨_, .tuple hT rfl rfl (.cons (reads_newData ⟨_, hM, rfl, nM, rfl⟩ (sq_carried hm)) (.cons (reads_newData ⟨_, hU, rfl, nU, rfl⟩ (sq_carried hu)) .nil))⟩
section
variable {prog : Program} {w : World} {A : Around} {E : Value → Shared → Prop} {s : Shared} {a b : Addr} {xs ys : List Value} {ns ms ns' ms' : List Str} {Q : Value → Shared → Prop}
theorem sq_eq (ha : s.heap.IsList a xs.toArray) (hb : s.heap.IsList b ys.toArray) (hi : StrsAre xs ns) (hj : StrsAre ys ms) (oi : OkAll ns) (oj : OkAll ms) (hu : A.units + 64 < cLine) (h : Q (.bool (decide (ns = ms))) s) :
    wpAny (model prog w) A (compareOp .Eq (.ref a) (.ref b)) Q E s :=
  eq_dataH_same (reads_newData ha (sq_carried hi)) (reads_newData hb (sq_carried hj)) (sq_shaped oi) (sq_shaped oj) hu (sq_noMix _ _) (by rw [sq_same]; exact h)
theorem sq_ne (ha : s.heap.IsList a xs.toArray) (hb : s.heap.IsList b ys.toArray) (hi : StrsAre xs ns) (hj : StrsAre ys ms) (oi : OkAll ns) (oj : OkAll ms) (hu : A.units + 64 < cLine) (h : Q (.bool (!decide (ns = ms))) s) :
    wpAny (model prog w) A (compareOp .NotEq (.ref a) (.ref b)) Q E s :=
  ne_dataH_same (reads_newData ha (sq_carried hi)) (reads_newData hb (sq_carried hj)) (sq_shaped oi) (sq_shaped oj) hu (sq_noMix _ _) (by rw [sq_same]; exact h)
theorem sq_ne2 (ha : Two s.heap a ns ms) (hb : Two s.heap b ns' ms') (hu : A.units + 64 < cLine) (h : Q (.bool (!(decide (ns = ns') && decide (ms = ms')))) s) :
    wpAny (model prog w) A (compareOp .NotEq (.ref a) (.ref b)) Q E s := by
  obtain ⟨as, ra⟩ := ha.reads
  obtain ⟨bs, rb⟩ := hb.reads
  exact ne_dataH_same ra rb (sq_shaped2 ha.ok.1 ha.ok.2) (sq_shaped2 hb.ok.1 hb.ok.2) hu (sq_noMix2 _ _ _ _) (by rw [sq_same2]; exact h)
theorem sq_eq2 (ha : Two s.heap a ns ms) (hb : Two s.heap b ns' ms') (hu : A.units + 64 < cLine) (h : Q (.bool (decide (ns = ns') && decide (ms = ms'))) s) :
    wpAny (model prog w) A (compareOp .Eq (.ref a) (.ref b)) Q E s := by
  obtain ⟨as, ra⟩ := ha.reads
  obtain ⟨bs, rb⟩ := hb.reads
  exact eq_dataH_same ra rb (sq_shaped2 ha.ok.1 ha.ok.2) (sq_shaped2 hb.ok.1 hb.ok.2) hu (sq_noMix2 _ _ _ _) (by rw [sq_same2]; exact h)
end
end Mine
end

section
open PySem PySem.W PyProof.Rows PySem.Calls
namespace Mine
set_option maxRecDepth 100000
set_option maxHeartbeats 400000
abbrev IntEl (v : Value) (k : Int) : Prop := ∃ t, v = .int k t
abbrev RowEl (v : Value) (k : Int) : Prop := (∃ t, v = .str (rowF k) t) ∧ 0 ≤ k ∧ k < 32768
theorem cmp_int {prog : Program} {w : World} : Cmp prog w IntEl where
  eq := by
    rintro _ _ k k' ⟨t, rfl⟩ ⟨u, rfl⟩ A s Q E h
    exact PyProof.Rows.eq_int (by rw [show (k == k') = decide (k = k') from rfl]; exact h)
  lt := by
    rintro _ _ k k' ⟨t, rfl⟩ ⟨u, rfl⟩ A s Q E h
    exact PyProof.Rows.lt_int h
  gt := by
    rintro _ _ k k' ⟨t, rfl⟩ ⟨u, rfl⟩ A s Q E h
    exact PyProof.Rows.gt_int h
theorem beq_row {k k' : Int} (a : 0 ≤ k) (b : k < 32768) (c : 0 ≤ k') (d : k' < 32768) : ((rowF k).cps.toList == (rowF k').cps.toList) = decide (k = k') := by
  rw [cps_row, cps_row]
  by_cases h : k = k'
  · subst h; simp
  · rw [decide_eq_false h, beq_eq_false_iff_ne]
    exact fun q => h ((rowL_inj a b c d).mp q)
theorem beqS_row {k k' : Int} (a : 0 ≤ k) (b : k < 32768) (c : 0 ≤ k') (d : k' < 32768) : (rowF k == rowF k') = decide (k = k') := by
  by_cases h : k = k'
  · subst h; simp
  · rw [decide_eq_false h, beq_eq_false_iff_ne]
    exact fun q => h ((rowF_inj a b c d).mp q)
theorem lt_row {k k' : Int} (a : 0 ≤ k) (b : k < 32768) (c : 0 ≤ k') (d : k' < 32768) : decide ((rowF k).cps.toList < (rowF k').cps.toList) = decide (k < k') := by
  rw [cps_row, cps_row]
  exact decide_eq_decide.mpr (rowL_lt a b c d)
theorem cmp_row {prog : Program} {w : World} : Cmp prog w RowEl where
  eq := by
    rintro _ _ k k' ⟨⟨t, rfl⟩, a, b⟩ ⟨⟨u, rfl⟩, c, d⟩ A s Q E h
    exact eq_str (by rw [beqS_row a b c d]; exact h)
  lt := by
    rintro _ _ k k' ⟨⟨t, rfl⟩, a, b⟩ ⟨⟨u, rfl⟩, c, d⟩ A s Q E h
    exact lt_str (by rw [lt_row a b c d]; exact h)
  gt := by
    rintro _ _ k k' ⟨⟨t, rfl⟩, a, b⟩ ⟨⟨u, rfl⟩, c, d⟩ A s Q E h
    exact PySem.P.gt_str (by rw [lt_row c d a b]; exact h)
theorem els_ints : ∀ {vs : List Value} {ns : List Int}, IntsAre vs ns → Els IntEl vs ns
  | _, _, .nil => .nil
  | _, _, .cons _ t r => .cons ⟨t, rfl⟩ (els_ints r)
theorem ints_els : ∀ {vs : List Value} {ns : List Int}, Els IntEl vs ns → IntsAre vs ns
  | _, _, .nil => .nil
  | _, _, .cons ⟨t, e⟩ r => e ▸ .cons _ t (ints_els r)
theorem els_rows : ∀ {vs : List Value} {ns : List Int}, (∀ k ∈ ns, 0 ≤ k ∧ k < 32768) → StrsAre vs (ns.map rowF) → Els RowEl vs ns
  | _, [], _, .nil => .nil
  | _, k :: _, h, .cons _ t r => .cons ⟨⟨t, rfl⟩, h k (.head _)⟩ (els_rows (fun j hj => h j (.tail _ hj)) r)
theorem rows_els : ∀ {vs : List Value} {ns : List Int}, Els RowEl vs ns → StrsAre vs (ns.map rowF)
  | _, _, .nil => .nil
  | _, _, .cons ⟨⟨t, e⟩, _⟩ r => e ▸ .cons _ t (rows_els r)
theorem sld_sub : ∀ (n : Nat) (a b : List Int), a.length + b.length ≤ n → (∀ r ∈ (sldF a b).1, r ∈ a) ∧ (∀ r ∈ (sldF a b).2, r ∈ b) := by
  intro n
  induction n with
  | zero =>
    intro a b hn
    have h1 : a = [] := List.length_eq_zero_iff.mp (by omega)
    have h2 : b = [] := List.length_eq_zero_iff.mp (by omega)
    subst h1 h2
    rw [sldF_nil]; simp
  | succ n ih =>
    intro a b hn
    cases a with
    | nil => rw [sldF_nil]; simp
    | cons x xs =>
      cases b with
      | nil => rw [sldF_nil']; simp
      | cons y ys =>
        have hl := dropWhile_le (· == x) xs
        have hl' := dropWhile_le (· == y) ys
        simp only [List.length_cons] at hn
        have sx : ∀ r ∈ xs.dropWhile (· == x), r ∈ x :: xs := fun r hr => .tail _ ((List.dropWhile_sublist _).subset hr)
        have sy : ∀ r ∈ ys.dropWhile (· == y), r ∈ y :: ys := fun r hr => .tail _ ((List.dropWhile_sublist _).subset hr)
        rcases Int.lt_trichotomy x y with h | h | h
        · obtain ⟨i1, i2⟩ := ih (xs.dropWhile (· == x)) (y :: ys) (by simp only [List.length_cons]; omega)
          rw [sldF_lt h]
          refine ⟨fun r hr => ?_, i2⟩
          rcases List.mem_cons.mp hr with rfl | hr
          · exact .head _
          · exact sx r (i1 r hr)
        · obtain ⟨i1, i2⟩ := ih (xs.dropWhile (· == x)) (ys.dropWhile (· == y)) (by omega)
          rw [sldF_eq h]
          exact ⟨fun r hr => sx r (i1 r hr), fun r hr => sy r (i2 r hr)⟩
        · obtain ⟨i1, i2⟩ := ih (x :: xs) (ys.dropWhile (· == y)) (by simp only [List.length_cons]; omega)
          rw [sldF_gt h]
          refine ⟨i1, fun r hr => ?_⟩
          rcases List.mem_cons.mp hr with rfl | hr
          · exact .head _
          · exact sy r (i2 r hr)
theorem sld_in {P : Int → Prop} {a b : List Int} (ha : ∀ r ∈ a, P r) (hb : ∀ r ∈ b, P r) : (∀ r ∈ (sldF a b).1, P r) ∧ (∀ r ∈ (sldF a b).2, P r) :=
  ⟨fun r hr => ha r ((sld_sub _ a b (Nat.le_refl _)).1 r hr), fun r hr => hb r ((sld_sub _ a b (Nat.le_refl _)).2 r hr)⟩
end Mine
end

section
open PySem PySem.W PyProof.Rows PySem.Calls
namespace Mine
set_option maxRecDepth 100000
set_option maxHeartbeats 1000000
section
variable {prog : Program} {w : World} {A : Around} {E : Value → Shared → Prop} {s : Shared} {env : Env} {h₀ : Heap} {body : List Stmt} {Q : Flow → Shared → Prop}
/-- a for over range(0, n), its range made: by what holds between the turns -/
theorem range_loop {x : Str} {xp : Pos} {r : Addr} {n : Nat} {t u v : Tok} {m₀ : Str → Option Value} {news : List (Addr × Obj)} (hh : A.handled = none)
    (hr : IsRange s.heap r 0 (n : Int) 1 t u v) (hn : n < 2 ^ 20)
    (F : Fr h₀ env.locals s.heap m₀) (N : News h₀ env.locals s.heap news)
    (J : Nat → (Str → Option Value) → List (Addr × Obj) → Prop) (h0 : J 0 m₀ news)
    (step : ∀ i m₁ news₁ h tk I it tv, i < n → J i m₁ news₁ → (∀ p ∈ news₁, p.1 ≠ I) → Fr h₀ env.locals h m₁ → News h₀ env.locals h ((I, it) :: news₁) →
      wpAny (model prog w) A (assign (.Name x xp) env (.int (i : Int) tv)) (fun _ s₂ => wpAny (model prog w) A (execs body env) (fun f s₃ => match f with
        | .ret u => Q (.ret u) s₃
        | .brk => Q .next s₃
        | _ => ElseEnd h₀ env.locals s I it (J (i + 1)) s₃) E s₂) E { s with heap := h, toks := tk })
    (fin : ∀ h tk m' news', J n m' news' → Fr h₀ env.locals h m' → News h₀ env.locals h news' → Q .next { s with heap := h, toks := tk })
    (hE : PassesOwn (model prog w) A env E) :
    wpAny (model prog w) A (pyIter (.ref r)) (fun it s₂ =>
      codeAny (model prog w) A (.forLoop (.Name x xp) it body [] env) (fun r s' => match r with | .ok f => Q f s' | .error e => cameBackBy (model prog w) A env E e s') s₂) E s := by
  have hLs : env.locals < s.heap.objs.size := F.ns.lt
  refine wpAny_pyIter_range hr (small_one (by omega) (by omega) (by omega) (by omega)) ?_
  have hIn : h₀.get? s.heap.objs.size = none := ktu_new F (Nat.le_refl _)
  have hsz : Builtin.Range.rangeSize 0 (n : Int) 1 = (n : Int) := by rw [rangeSize_nat]; omega
  rw [hsz]
  have hit0 : IsRangeIter (s.heap.push { cls := .type "range_iterator", data := .fields #[rawInt 0, rawInt (n : Int), rawInt 1] }) s.heap.objs.size ((0 : Nat) : Int) ((n : Int) - ((0 : Nat) : Int)) 1 := by
    have e : (n : Int) - ((0 : Nat) : Int) = (n : Int) := by omega
    rw [e]
    exact Heap.get?_push_size _ rfl
  refine codeAny_forLoop_any (fun k s' => ∃ h' tk m' news', ∃ i : Nat, s' = { s with heap := h', toks := tk } ∧ IsRangeIter h' s.heap.objs.size (i : Int) ((n : Int) - (i : Int)) 1 ∧ Fr h₀ env.locals h' m' ∧ News h₀ env.locals h' news' ∧ (∀ p ∈ news', p.1 ≠ s.heap.objs.size) ∧
    J i m' news' ∧ i ≤ n ∧ k = n + 1 - i) ?_ (n + 1)
    ⟨_, s.toks, m₀, news, 0, rfl, hit0, F.push _, fun p hp => ⟨Heap.get?_push_of_some _ (N p hp).1, (N p hp).2⟩, fun p hp => Nat.ne_of_lt (Heap.lt_size (N p hp).1), h0, Nat.zero_le _, rfl⟩
  rintro k s' ⟨h', tk, m', news', i, rfl, hit, F', N', hoff, hR, hi, rfl⟩
  have nextF : ∀ h₁ : Heap, (∀ b o, b ≠ s.heap.objs.size → h'.get? b = some o → h₁.get? b = some o) → Fr h₀ env.locals h₁ m' ∧ News h₀ env.locals h₁ news' := fun h₁ hk₁ =>
    ⟨⟨F'.ns.at' fun o e => hk₁ _ o (Nat.ne_of_lt hLs) e, fun b o e => hk₁ b o (fun q => by rw [q, hIn] at e; cases e) (F'.keep b o e), F'.above⟩, fun p hp => ⟨hk₁ _ _ (hoff p hp) (N' p hp).1, (N' p hp).2⟩⟩
  by_cases hlt' : i < n
  · refine wpAny_pyNext_range_item (s := { s with heap := h', toks := tk }) hit (by omega) fun h₁ hit₁ hs₁ => ?_
    obtain ⟨F₁, N₁⟩ := nextF h₁ fun b o hb e => (hs₁.2 b hb).trans e
    refine wpAny_pure ?_
    have hit₁' : IsRangeIter h₁ s.heap.objs.size ((i + 1 : Nat) : Int) ((n : Int) - ((i + 1 : Nat) : Int)) 1 := by
      have e1 : ((i + 1 : Nat) : Int) = (i : Int) + 1 := by omega
      have e2 : (n : Int) - ((i + 1 : Nat) : Int) = (n : Int) - (i : Int) - 1 := by omega
      rw [e2, e1]; exact hit₁
    refine wpAny_mono (step i m' news' h₁ (tk + 1) s.heap.objs.size { cls := .type "range_iterator", dict := none, data := .fields #[rawInt ((i + 1 : Nat) : Int), rawInt ((n : Int) - ((i + 1 : Nat) : Int)), rawInt 1], slots := #[] } tk hlt' hR hoff F₁ fun p hp => ?_) (fun _ s₂ h₂ => wpAny_mono h₂ (fun f s₃ h₃ => ?_) fun e s' he => hE e s' he) fun e s' he => hE e s' he
    · rcases List.mem_cons.mp hp with rfl | hp
      · exact ⟨hit₁', Nat.ne_of_gt hLs, hIn⟩
      · exact N₁ p hp
    have go : ElseEnd h₀ env.locals s s.heap.objs.size { cls := .type "range_iterator", dict := none, data := .fields #[rawInt ((i + 1 : Nat) : Int), rawInt ((n : Int) - ((i + 1 : Nat) : Int)), rawInt 1], slots := #[] } (J (i + 1)) s₃ →
        ∃ j, j < n + 1 - i ∧ ∃ h' tk m' news', ∃ i' : Nat, s₃ = { s with heap := h', toks := tk } ∧ IsRangeIter h' s.heap.objs.size (i' : Int) ((n : Int) - (i' : Int)) 1 ∧ Fr h₀ env.locals h' m' ∧ News h₀ env.locals h' news' ∧ (∀ p ∈ news', p.1 ≠ s.heap.objs.size) ∧
          J i' m' news' ∧ i' ≤ n ∧ j = n + 1 - i' := by
      rintro ⟨h₄, tk₄, m₄, news₄, rfl, F₄, N₄, off₄, R₄⟩
      exact ⟨n + 1 - (i + 1), by omega, h₄, tk₄, m₄, news₄, i + 1, rfl, (N₄ _ (.head _)).1, F₄, fun p hp => N₄ p (.tail _ hp), off₄, R₄, hlt', rfl⟩
    cases f with
    | ret v => exact h₃
    | brk => exact h₃
    | cont => exact go h₃
    | next => exact go h₃
  · have hin : i = n := by omega
    subst hin
    refine wpAny_pyNext_range_end (s := { s with heap := h', toks := tk }) hh hit (by omega) fun h₁ hs₁ => ?_
    obtain ⟨F₁, N₁⟩ := nextF h₁ fun b o hb e => hs₁ b o hb e
    exact wpAny_execs_nil (fin h₁ tk m' news' hR F₁ N₁)
end
end Mine
end

section
open PySem PySem.W PyProof.Rows PySem.Calls
namespace Mine
set_option maxRecDepth 100000
set_option maxHeartbeats 1000000
theorem strs_at : ∀ {vs : List Value} {ns : List Str}, StrsAre vs ns → ∀ {i : Nat} {k : Str}, ns[i]? = some k → ∃ t, vs[i]? = some (.str k t)
  | _, _, .nil, i, k, h => by simp at h
  | _, _, .cons n u r, 0, k, h => by simp at h; subst h; exact ⟨u, rfl⟩
  | _, _, .cons n u r, i + 1, k, h => by simp at h; exact strs_at r h
theorem ints_at' : ∀ {vs : List Value} {ns : List Int}, IntsAre vs ns → ∀ {i : Nat} {k : Int}, ns[i]? = some k → ∃ t, vs[i]? = some (.int k t)
  | _, _, .nil, i, k, h => by simp at h
  | _, _, .cons n u r, 0, k, h => by simp at h; subst h; exact ⟨u, rfl⟩
  | _, _, .cons n u r, i + 1, k, h => by simp at h; exact ints_at' r h
section
variable {prog : Program} {w : World} {A : Around} {E : Value → Shared → Prop} {s : Shared} {Q : Value → Shared → Prop} {D : Addr} {ys : List Value} {a : Expr} {bn : Str} {bp : Pos} {t : Tok} {i : Nat}
theorem tail_str {l : List Int} {f : Int → Str} {k : Int} (hl : s.heap.IsList D ys.toArray) (hc : CarriedAll ys (l.map fun k => PyData.str (f k))) (hk : l[i]? = some k) (hsz : l.length < 2 ^ 62) (h : ∀ t, Q (.str (f k) t) s) :
    wpAny (model prog w) A (subscriptTail a (.Name bn bp) (.ref D) (.int (i : Int) t)) Q E s := by
  obtain ⟨t', hv⟩ := strs_at (strs_map hc) (i := i) (k := f k) (by simp [hk])
  have hlt : i < l.length := (List.getElem?_eq_some_iff.mp hk).1
  exact tail_any hl.typeIs slot_list_getitem.lookup (wpAny_getItem_list hl (by omega) (by omega) (by simpa using hv) (h t')) (by with_unfolding_all rfl)
theorem tail_int {l : List Int} {k : Int} (hl : s.heap.IsList D ys.toArray) (hc : IntsAre ys l) (hk : l[i]? = some k) (hsz : l.length < 2 ^ 62) (h : ∀ t, Q (.int k t) s) :
    wpAny (model prog w) A (subscriptTail a (.Name bn bp) (.ref D) (.int (i : Int) t)) Q E s := by
  obtain ⟨t', hv⟩ := ints_at' hc hk
  have hlt : i < l.length := (List.getElem?_eq_some_iff.mp hk).1
  exact tail_any hl.typeIs slot_list_getitem.lookup (wpAny_getItem_list hl (by omega) (by omega) (by simpa using hv) (h t')) (by with_unfolding_all rfl)
end
end Mine
end

section
open PySem PySem.W PyProof.Rows PySem.Calls
namespace Mine
set_option maxRecDepth 100000
set_option maxHeartbeats 1000000
theorem getD_at {α : Type} {l : List α} {d : α} {i : Nat} (h1 : i < l.length) : l[i]? = some (l.getD i d) := by
  simp [h1]
section
variable {prog : Program} {w : World} {A : Around} {E : Value → Shared → Prop} {s : Shared} {Q : Value → Shared → Prop} {D : Addr} {ys : List Value} {a : Expr} {bn : Str} {bp : Pos} {t : Tok} {k : Int} {l : List Int}
theorem tail_num (hl : s.heap.IsList D ys.toArray) (hc : IntsAre ys l) (h0 : 0 ≤ k) (h1 : k < l.length) (hsz : l.length ≤ 15) (h : ∀ t, Q (.int (l.getD k.toNat 0) t) s) :
    wpAny (model prog w) A (subscriptTail a (.Name bn bp) (.ref D) (.int k t)) Q E s := by
  obtain ⟨i, rfl⟩ := Int.eq_ofNat_of_zero_le h0
  exact tail_int hl hc (getD_at (by omega)) (by omega) h
theorem tail_map {f : Int → Int} (hl : s.heap.IsList D ys.toArray) (hc : IntsAre ys (l.map f)) (h0 : 0 ≤ k) (h1 : k < l.length) (hsz : l.length ≤ 15) (h : ∀ t, Q (.int (f (l.getD k.toNat 0)) t) s) :
    wpAny (model prog w) A (subscriptTail a (.Name bn bp) (.ref D) (.int k t)) Q E s := by
  obtain ⟨i, rfl⟩ := Int.eq_ofNat_of_zero_le h0
  exact tail_int hl hc (by rw [List.getElem?_map, getD_at (d := 0) (by omega)]; rfl) (by simp; omega) h
theorem tail_txt {f : Int → Str} (hl : s.heap.IsList D ys.toArray) (hc : StrsAre ys (l.map f)) (h0 : 0 ≤ k) (h1 : k < l.length) (hsz : l.length ≤ 15) (h : ∀ t, Q (.str (f (l.getD k.toNat 0)) t) s) :
    wpAny (model prog w) A (subscriptTail a (.Name bn bp) (.ref D) (.int k t)) Q E s := by
  obtain ⟨i, rfl⟩ := Int.eq_ofNat_of_zero_le h0
  obtain ⟨t', hv⟩ := strs_at hc (i := i) (k := f (l.getD i 0)) (by rw [List.getElem?_map, getD_at (d := 0) (by omega)]; rfl)
  exact tail_any hl.typeIs slot_list_getitem.lookup (wpAny_getItem_list hl (by omega) (by omega) (by simpa using hv) (h t')) (by with_unfolding_all rfl)
end
/-- the places of the numbers whose third part leaves another rest -/
def pickF (ns : List Int) (c : Int) (l : List Int) (k : Int) : List Int := if (ns.getD k.toNat 0).fmod 3 = c then l else l ++ [k]
def placesF (ns : List Int) (c : Int) : List Int := (rangeKs 0 ns.length).foldl (pickF ns c) []
theorem pick_grows {ns : List Int} {c : Int} : KPfGrows (pickF ns c) := by
  intro l k
  unfold pickF
  split <;> simp
theorem pick_eq {ns : List Int} {c : Int} {l : List Int} {k : Int} (h : (ns.getD k.toNat 0).fmod 3 = c) : pickF ns c l k = l := if_pos h
theorem pick_ne {ns : List Int} {c : Int} {l : List Int} {k : Int} (h : ¬ (ns.getD k.toNat 0).fmod 3 = c) : pickF ns c l k = l ++ [k] := if_neg h
theorem pick_mem {ns : List Int} {c : Int} : ∀ (r l : List Int), ∀ k ∈ r.foldl (pickF ns c) l, k ∈ l ∨ k ∈ r
  | [], l, k, h => .inl h
  | x :: r, l, k, h => by
    rcases pick_mem r (pickF ns c l x) k h with h | h
    · unfold pickF at h
      split at h
      · exact .inl h
      · rcases List.mem_append.mp h with h | h
        · exact .inl h
        · rw [List.mem_singleton.mp h]; exact .inr (.head _)
    · exact .inr (.tail _ h)
theorem places_in {ns : List Int} {c k : Int} (h : k ∈ placesF ns c) : 0 ≤ k ∧ k < (ns.length : Int) := by
  rcases pick_mem _ _ k h with h | h
  · cases h
  · have := mem_rangeKs h
    omega
theorem pick_len (ns : List Int) (c : Int) : ∀ (r l : List Int), (r.foldl (pickF ns c) l).length ≤ l.length + r.length
  | [], l => Nat.le_refl _
  | x :: r, l => by
    have h1 := pick_len ns c r (pickF ns c l x)
    have h2 : (pickF ns c l x).length ≤ l.length + 1 := pick_grows l x
    simp only [List.foldl_cons, List.length_cons]
    omega
theorem places_len (ns : List Int) (c : Int) : (placesF ns c).length ≤ ns.length := by
  have h := pick_len ns c (rangeKs 0 ns.length) []
  rw [rangeKs_length] at h
  unfold placesF
  simpa using h
end Mine
end

section
open PySem PySem.W PyProof.Rows PySem.Calls
namespace Mine
set_option maxRecDepth 100000
set_option maxHeartbeats 1000000
abbrev tup2 (a b : Addr) : Obj := { cls := .type "tuple", data := .seq #[.ref a, .ref b] }
theorem news_add {h₀ h h' : Heap} {L : Addr} {m : Str → Option Value} {a : Addr} {o : Obj} (F : Fr h₀ L h m) (hn : h.get? a = none) (ha : h'.get? a = some o) : h'.get? a = some o ∧ a ≠ L ∧ h₀.get? a = none := by
  refine ⟨ha, fun e => ?_, ?_⟩
  · obtain ⟨oL, es, ep, hL, r⟩ := F.ns
    rw [e, hL] at hn
    cases hn
  · cases q : h₀.get? a with
    | none => rfl
    | some o => have := F.keep a o q; rw [hn] at this; cases this
theorem News.cons' {h₀ h : Heap} {L : Addr} {news : List (Addr × Obj)} {a : Addr} {o : Obj} (x : h.get? a = some o ∧ a ≠ L ∧ h₀.get? a = none) (N : News h₀ L h news) : News h₀ L h ((a, o) :: news) := by
  intro p hp
  rcases List.mem_cons.mp hp with rfl | hp
  · exact x
  · exact N p hp
section
variable {prog p : Program} {w : World} {loose : List Str} {mean : ExcName → Option Value} {mg mb : Str → Option Value} {A : Around} {s : Shared} {Q E : Value → Shared → Prop} {h₀ : Heap} {L : Addr} {m : Str → Option Value} {env0 : Env} {news : List (Addr × Obj)}
theorem sld_call {El : Value → Int → Prop} {lx ly : Addr} {xs ys : List Value} {kx ky : List Int} (C : Cmp prog w El) (hx : Els El xs kx) (hy : Els El ys ky) (szx : kx.length < 2 ^ 20) (szy : ky.length < 2 ^ 20)
    (F : Fr h₀ L s.heap m) (N : News h₀ L s.heap news) (X : (hd.heap_39 w.params).In h₀) (T : Top p loose mean mg mb h₀) (hlx : s.heap.IsList lx xs.toArray) (hly : s.heap.IsList ly ys.toArray)
    (hh : A.handled = none) (hA : A.frames = some [env0]) (hf : env0.frame = some L) (hk : env0.scope.kind = .function) (hd : A.depth + 2 < recursionLimit) (hu : A.units + 40 < cLine)
    (k : ∀ T M U nM nU ms us h' tk', Fr h₀ L h' m → News h₀ L h' ((T, tup2 M U) :: (M, PySem.W.listOf ms.toArray nM) :: (U, PySem.W.listOf us.toArray nU) :: news) → Els El ms (sldF kx ky).1 → Els El us (sldF kx ky).2 → Q (.ref T) { s with heap := h', toks := tk' }) :
    wpAny (model prog w) A (call (.ref 21) [.ref lx, .ref ly]) Q E s := by
  refine cl_sld C hx hy szx szy A s Q E h₀ L m env0 F X T hh hA hf hk hd hu ⟨hlx, hly⟩ ?_
  rintro r h' tk' F' kk ⟨T, M, U, nM, nU, ms, us, rfl, hT, hM, hU, gT, gM, gU, _, _, eM, eU⟩
  have N' : News h₀ L h' news := fun p hp => ⟨kk _ _ (N p hp).2.1 (N p hp).1, (N p hp).2⟩
  exact k T M U nM nU ms us h' tk' F' (News.cons' (news_add F gT hT) (News.cons' (news_add F gM hM) (News.cons' (news_add F gU hU) N'))) eM eU
theorem rows_call {A₀ : Around} {base : Heap} {outer : List Env} {T la lb : Addr} {vs ws : List Value} {ns os : List Int} (hi : IntsAre vs ns) (hj : IntsAre ws os) (szn : ns.length < 2 ^ 20) (szo : os.length < 2 ^ 20) (bn : ∀ n ∈ ns, 0 ≤ n ∧ n < 32768) (bo : ∀ n ∈ os, 0 ≤ n ∧ n < 32768)
    (B : Below A₀ base outer h₀) (F : Fr h₀ L s.heap m) (N : News h₀ L s.heap news) (X : (hd.heap_39 w.params).In h₀) (Tp : Top p loose mean mg mb h₀)
    (hT : IsTup s.heap T #[.ref la, .ref lb]) (hla : s.heap.IsList la vs.toArray) (hlb : s.heap.IsList lb ws.toArray)
    (hh : A.handled = none) (hA : A.frames = some (env0 :: outer)) (hf : env0.frame = some L) (hk : env0.scope.kind = .function) (hd : A.depth + 2 < recursionLimit) (hu : A.units + 60 < cLine)
    (k : ∀ T M U nM nU ms us h' tk', Fr h₀ L h' m → News h₀ L h' ((T, tup2 M U) :: (M, PySem.W.listOf ms.toArray nM) :: (U, PySem.W.listOf us.toArray nU) :: news) → StrsAre ms (ns.map rowF) → StrsAre us (os.map rowF) → Q (.ref T) { s with heap := h', toks := tk' }) :
    wpAny (model prog w) A (call (.ref 101) [.ref T]) Q E s := by
  refine Cl.use (cl_rows hi hj szn szo bn bo) B F N X Tp hh hA hf hk hd hu ⟨hT, hla, hlb⟩ ?_
  rintro r h' tk' F' N' kk ⟨T, M, U, nM, nU, ms, us, rfl, hT, hM, hU, gT, gM, gU, eM, eU⟩
  exact k T M U nM nU ms us h' tk' F' (News.cons' (news_add F gT hT) (News.cons' (news_add F gM hM) (News.cons' (news_add F gU hU) N'))) eM eU
theorem lacks_call {A₀ : Around} {base : Heap} {outer : List Env} {la lb : Addr} {vs ws : List Value} {ns os : List Int} (hi : IntsAre vs ns) (hj : IntsAre ws os) (szn : ns.length < 2 ^ 20) (szo : os.length < 2 ^ 20)
    (B : Below A₀ base outer h₀) (F : Fr h₀ L s.heap m) (N : News h₀ L s.heap news) (X : (hd.heap_39 w.params).In h₀) (Tp : Top p loose mean mg mb h₀)
    (hla : s.heap.IsList la vs.toArray) (hlb : s.heap.IsList lb ws.toArray)
    (hh : A.handled = none) (hA : A.frames = some (env0 :: outer)) (hf : env0.frame = some L) (hk : env0.scope.kind = .function) (hd : A.depth + 1 < recursionLimit) (hu : A.units + 40 < cLine)
    (k : ∀ D n ds h' tk', Fr h₀ L h' m → News h₀ L h' ((D, PySem.W.listOf ds.toArray n) :: news) → IntsAre ds (lacksF ns os) → Q (.ref D) { s with heap := h', toks := tk' }) :
    wpAny (model prog w) A (call (.ref 108) [.ref la, .ref lb]) Q E s := by
  refine Cl.use (cl_lacks hi hj szn szo) B F N X Tp hh hA hf hk hd hu ⟨hla, hlb⟩ ?_
  rintro r h' tk' F' N' kk ⟨D, n, ds, rfl, hD, gD, e⟩
  exact k D n ds h' tk' F' (News.cons' (news_add F gD hD) N') e
/-- sorted ints -/
theorem sort_ints {l : Addr} {vs : List Value} {ns : List Int} (hi : IntsAre vs ns) (h64 : ns.length < 64) (F : Fr h₀ L s.heap m) (N : News h₀ L s.heap news) (hl : s.heap.IsList l vs.toArray)
    (k : ∀ D n ds ks h', Fr h₀ L h' m → News h₀ L h' ((D, PySem.W.listOf ds.toArray n) :: news) → IntsAre ds ks → ks.Perm ns → Rise ks → Q (.ref D) { s with heap := h' }) :
    wpAny (model prog w) A (call (.builtin "sorted") [.ref l]) Q E s := by
  have e1 := IntsAre.length hi
  exact sorted_N F N hl hi (by omega) fun h' vs' ns' e F' N' a1 a2 a3 => k _ e vs' ns' h' F' N' a1 a2 a3
theorem rises_str : ∀ (p : Str) (l : List Str), risingS p l = true → (p :: l).Pairwise (fun a b => Spec.ltCps b.cps.toList a.cps.toList = false)
  | p, [], _ => by simp
  | p, x :: r, h => by
    simp only [risingS, Bool.and_eq_true, Bool.not_eq_true'] at h
    have ih := rises_str x r h.2
    refine List.pairwise_cons.mpr ⟨fun y hy => ?_, ih⟩
    rcases List.mem_cons.mp hy with rfl | hy
    · exact h.1
    · have h2 := List.rel_of_pairwise_cons ih hy
      rw [ltCps_eq, decide_eq_false_iff_not] at *
      intro q
      have h1 := h.1
      exact h1 (List.lt_of_le_of_lt (List.not_lt.mp h2) q)
theorem sortedS_pw : ∀ (l : List Str), sortedS l = true → l.Pairwise (fun a b => Spec.ltCps b.cps.toList a.cps.toList = false)
  | [], _ => .nil
  | x :: r, h => rises_str x r h
theorem sorted_rows {ss : List Str} {ns ks : List Int} (b : ∀ k ∈ ns, 0 ≤ k ∧ k < 32768) (hp : ss.Perm (ns.map rowF)) (hs : sortedS ss = true) (hk : ks.Perm ns) (hr : Rise ks) : ss = ks.map rowF := by
  have bk : ∀ k ∈ ks, 0 ≤ k ∧ k < 32768 := fun k h => b k (hk.mem_iff.mp h)
  have p2 : ss.Perm (ks.map rowF) := hp.trans (hk.map rowF).symm
  refine p2.eq_of_pairwise (le := fun a b : Str => Spec.ltCps b.cps.toList a.cps.toList = false) (fun x y hx hy h1 h2 => ?_) (sortedS_pw _ hs) ?_
  · obtain ⟨j, hj, rfl⟩ := List.mem_map.mp (p2.mem_iff.mp hx)
    obtain ⟨k, hk', rfl⟩ := List.mem_map.mp hy
    rw [ltCps_eq, cps_row, cps_row, decide_eq_false_iff_not, rowL_lt (bk _ hk').1 (bk _ hk').2 (bk _ hj).1 (bk _ hj).2] at h1
    rw [ltCps_eq, cps_row, cps_row, decide_eq_false_iff_not, rowL_lt (bk _ hj).1 (bk _ hj).2 (bk _ hk').1 (bk _ hk').2] at h2
    rw [show j = k by omega]
  · refine List.pairwise_map.mpr (hr.imp_of_mem fun {j k} hj hk' h => ?_)
    rw [ltCps_eq, cps_row, cps_row, decide_eq_false_iff_not, rowL_lt (bk _ hk').1 (bk _ hk').2 (bk _ hj).1 (bk _ hj).2]
    omega
/-- sorted rows -/
theorem sort_rows {l : Addr} {vs : List Value} {ns ks : List Int} (hi : StrsAre vs (ns.map rowF)) (b : ∀ k ∈ ns, 0 ≤ k ∧ k < 32768) (hk : ks.Perm ns) (hr : Rise ks) (h64 : ns.length < 64) (F : Fr h₀ L s.heap m) (N : News h₀ L s.heap news) (hl : s.heap.IsList l vs.toArray)
    (k : ∀ D n ds h', Fr h₀ L h' m → News h₀ L h' ((D, PySem.W.listOf ds.toArray n) :: news) → StrsAre ds (ks.map rowF) → Q (.ref D) { s with heap := h' }) :
    wpAny (model prog w) A (call (.builtin "sorted") [.ref l]) Q E s := by
  have e1 := StrsAre.length hi
  rw [List.length_map] at e1
  exact sorted_N_str F N hl hi (by omega) fun h' vs' ss' e F' N' a1 a2 a3 => k _ e vs' h' F' N' (sorted_rows b a2 a3 hk hr ▸ a1)
theorem two_of {h : Heap} {T M U : Addr} {nM nU : Nat} {ms us : List Value} {a b : List Int} (N : News h₀ L h news) (hT : (T, tup2 M U) ∈ news) (hM : (M, PySem.W.listOf ms.toArray nM) ∈ news) (hU : (U, PySem.W.listOf us.toArray nU) ∈ news)
    (eM : StrsAre ms (a.map rowF)) (eU : StrsAre us (b.map rowF)) (ba : ∀ k ∈ a, 0 ≤ k ∧ k < 32768) (bb : ∀ k ∈ b, 0 ≤ k ∧ k < 32768) : Two h T (a.map rowF) (b.map rowF) :=
  ⟨M, U, nM, nU, ms, us, (N _ hT).1, (N _ hM).1, (N _ hU).1, eM, eU, rows_ok ba, rows_ok bb⟩
end
end Mine
end

section
open PySem PySem.W PyProof.Rows PySem.Calls
namespace Mine
def lawDef : Stmt := Challenge.rw_mq0207_01.prog.main.body.getLastD (.Pass ⟨0, 0, 0, 0⟩)
def lawBody : List Stmt := match lawDef with | .FunctionDef _ _ b _ _ _ _ _ _ _ => b | _ => []
def lawScope : Scope := match lawDef with | .FunctionDef _ _ _ _ _ _ c _ _ _ => c | _ => default
section
set_option maxRecDepth 100000
set_option maxHeartbeats 1000000
theorem ci_el {ns : List Int} {c : Int} {h₀ : Heap} {L I C D : Addr} {m : Str → Option Value} {s₁ : Shared} {oI oC oD : Obj} {S : List (Addr × Obj) → Prop} {l : List Int} {k : Int} {t : Tok} {h' : Heap} {tk : Nat} {news : List (Addr × Obj)}
    (F : Fr h₀ L h' m) (N : News h₀ L h' ((I, oI) :: (C, oC) :: (D, oD) :: news)) (off : LCg.Off3 I C D news) (hS : S news) (e : ¬ (ns.getD k.toNat 0).fmod 3 = c) :
    LCg.CompEnd h₀ L m s₁ I oI C oC D oD S (fun y news' => KCiEl news l (pickF ns c l k) y news') (.int k t) { s₁ with heap := h', toks := tk } := ⟨h', tk, news, rfl, F, N, off, hS, rfl, k, t, rfl, pick_ne e⟩
theorem ci_no {ns : List Int} {c : Int} {h₀ : Heap} {L I C D : Addr} {m : Str → Option Value} {s₁ : Shared} {oI oC oD : Obj} {S : List (Addr × Obj) → Prop} {l : List Int} {k : Int} {v : Value} {h' : Heap} {tk : Nat} {news : List (Addr × Obj)}
    (F : Fr h₀ L h' m) (N : News h₀ L h' ((I, oI) :: (C, oC) :: (D, oD) :: news)) (off : LCg.Off3 I C D news) (hS : S news) (e : (ns.getD k.toNat 0).fmod 3 = c) :
    LCg.CompEnd h₀ L m s₁ I oI C oC D oD S (fun _ news' => KCiNo news l (pickF ns c l k) news') v { s₁ with heap := h', toks := tk } := ⟨h', tk, news, rfl, F, N, off, hS, rfl, pick_eq e⟩
theorem cf_end {f : Int → Int} {h₀ : Heap} {L I C D : Addr} {m : Str → Option Value} {s₁ : Shared} {oI oC oD : Obj} {S : List (Addr × Obj) → Prop} {k : Int} {t : Tok} {h' : Heap} {tk : Nat} {news : List (Addr × Obj)}
    (F : Fr h₀ L h' m) (N : News h₀ L h' ((I, oI) :: (C, oC) :: (D, oD) :: news)) (off : LCg.Off3 I C D news) (hS : S news) :
    LCg.CompEnd h₀ L m s₁ I oI C oC D oD S (fun y news' => KCfEl news (f k) y news') (.int (f k) t) { s₁ with heap := h', toks := tk } := ⟨h', tk, news, rfl, F, N, off, hS, rfl, t, rfl⟩
theorem ct_end' {f : Int → Str} {h₀ : Heap} {L I C D : Addr} {m : Str → Option Value} {s₁ : Shared} {oI oC oD : Obj} {S : List (Addr × Obj) → Prop} {k : Int} {t : Tok} {h' : Heap} {tk : Nat} {news : List (Addr × Obj)}
    (F : Fr h₀ L h' m) (N : News h₀ L h' ((I, oI) :: (C, oC) :: (D, oD) :: news)) (off : LCg.Off3 I C D news) (hS : S news) :
    LCg.CompEnd h₀ L m s₁ I oI C oC D oD S (fun y news' => KCtEl news (f k) y news') (.str (f k) t) { s₁ with heap := h', toks := tk } := ⟨h', tk, news, rfl, F, N, off, hS, rfl, t, rfl⟩
end
end Mine
end

section
open PySem PySem.W PyProof.Rows PySem.Calls
namespace Mine
theorem freshT2 : True := by
  w_top off
  trivial
set_option maxRecDepth 100000
set_option maxHeartbeats 8000000
theorem depth2 (e : Env) : (callerA.deeper e).depth + 2 < recursionLimit := by dsimp only [Around.deeper, callerA]; decide
theorem depth1 (e : Env) : (callerA.deeper e).depth + 1 < recursionLimit := by dsimp only [Around.deeper, callerA]; decide
theorem units40 (e : Env) : (callerA.deeper e).units + 40 < cLine := by dsimp only [Around.deeper, callerA]; decide
theorem units60 (e : Env) : (callerA.deeper e).units + 60 < cLine := by dsimp only [Around.deeper, callerA]; decide
theorem units64 (e : Env) : (callerA.deeper e).units + 64 < cLine := by dsimp only [Around.deeper, callerA]; decide
theorem sld_len : ∀ (n : Nat) (a b : List Int), a.length + b.length ≤ n → (sldF a b).1.length ≤ a.length ∧ (sldF a b).2.length ≤ b.length := by
  intro n
  induction n with
  | zero =>
    intro a b hn
    have h1 : a = [] := List.length_eq_zero_iff.mp (by omega)
    have h2 : b = [] := List.length_eq_zero_iff.mp (by omega)
    subst h1 h2
    rw [sldF_nil]; simp
  | succ n ih =>
    intro a b hn
    cases a with
    | nil => rw [sldF_nil]; simp
    | cons x xs =>
      cases b with
      | nil => rw [sldF_nil']; simp
      | cons y ys =>
        have hl := dropWhile_le (· == x) xs
        have hl' := dropWhile_le (· == y) ys
        simp only [List.length_cons] at hn
        rcases Int.lt_trichotomy x y with h | h | h
        · obtain ⟨i1, i2⟩ := ih (xs.dropWhile (· == x)) (y :: ys) (by simp only [List.length_cons]; omega)
          rw [sldF_lt h]
          simp only [List.length_cons] at *
          omega
        · obtain ⟨i1, i2⟩ := ih (xs.dropWhile (· == x)) (ys.dropWhile (· == y)) (by omega)
          rw [sldF_eq h]
          simp only [List.length_cons] at *
          omega
        · obtain ⟨i1, i2⟩ := ih (x :: xs) (ys.dropWhile (· == y)) (by simp only [List.length_cons]; omega)
          rw [sldF_gt h]
          simp only [List.length_cons] at *
          omega
local macro_rules | `(tactic| walk_at "CompEnd") => `(tactic| k_dflt (first
  | exact ci_el (by with_reducible assumption) (by with_reducible assumption) (by with_reducible assumption) (by lcg_src) (by with_reducible assumption)
  | exact ci_no (by with_reducible assumption) (by with_reducible assumption) (by with_reducible assumption) (by lcg_src) (by with_reducible assumption)
  | exact cf_end (by with_reducible assumption) (by with_reducible assumption) (by with_reducible assumption) (by lcg_src)
  | exact ct_end' (by with_reducible assumption) (by with_reducible assumption) (by with_reducible assumption) (by lcg_src)))
local macro_rules | `(tactic| walk_at "my test") => `(tactic| (k_dflt (refine LCt.Assign_ListComp_T (F₀ := by k_asm) (by rfl) (by with_unfolding_all rfl) (by with_unfolding_all rfl) (by decide) (by rfl) (by decide) (by rfl) (by rfl) (by rfl) ?_)))
local macro_rules | `(tactic| walk_at "my range") => `(tactic| (k_dflt (refine LCt.CompSrcT.range (by rfl) (by k_asm) (by k_asm) (by assumption) (small_one (by omega) (by omega) (by omega) (by omega)) (by rw [rangeSize_nat, Int.sub_zero, Int.toNat_natCast]) (by rw [PySem.sizeLine_eq]; omega) ?_)))
local macro_rules | `(tactic| walk_at "subscriptTail") => `(tactic| ((with_reducible show wpAny _ _ (subscriptTail _ (Expr.Name _ _) (Value.ref _) (Value.int _ _)) _ _ _); k_dflt (first | (refine tail_map (by is_list) (by with_reducible assumption) (by assumption) (by omega) (by assumption) ?_) | (refine tail_num (by is_list) (by with_reducible assumption) (by assumption) (by omega) (by assumption) ?_) | (refine tail_txt (by is_list) (by with_reducible assumption) (by assumption) (by omega) (by assumption) ?_)); intro t'))
local macro_rules | `(tactic| walk_at "subscriptTail Name Name ref int") => `(tactic| ((with_reducible show wpAny _ _ (subscriptTail _ (Expr.Name _ _) (Value.ref _) (Value.int _ _)) _ _ _); k_dflt (first | (refine tail_map (by is_list) (by with_reducible assumption) (by assumption) (by omega) (by assumption) ?_) | (refine tail_num (by is_list) (by with_reducible assumption) (by assumption) (by omega) (by assumption) ?_) | (refine tail_txt (by is_list) (by with_reducible assumption) (by assumption) (by omega) (by assumption) ?_)); intro t'))
local macro_rules | `(tactic| walk_at "my comp") => `(tactic| (k_dflt (refine LCg.ListComp_U (F₀ := by k_asm) (by with_unfolding_all rfl) (by decide) (by rfl) (by decide) (by rfl) ?_)))
local macro_rules | `(tactic| walk_at "my src") => `(tactic| (k_dflt (refine LCg.CompSrc.ledger (by rfl) (by k_asm) (by k_asm) (by k_mem) (by rw [PySem.sizeLine_eq]; simp only [List.size_toArray]; omega) ?_)))
theorem strs_map2 {f : Int → Str} {g : Int → Int} {vs : List Value} {l : List Int} (h : CarriedAll vs (l.map fun k => PyData.str (f (g k)))) : StrsAre vs ((l.map g).map f) := by
  rw [List.map_map]
  exact strs_map (f := f ∘ g) h
theorem trim3 {h g : Heap} {L : Addr} {a1 a2 a3 : Addr × Obj} {r : List (Addr × Obj)} (N : News h L g (a1 :: a2 :: a3 :: r)) : News h L g r :=
  fun p hp => N p (.tail _ (.tail _ (.tail _ hp)))
theorem trim9 {h g : Heap} {L : Addr} {a1 a2 a3 a4 a5 a6 a7 a8 a9 : Addr × Obj} {r : List (Addr × Obj)} (N : News h L g (a1 :: a2 :: a3 :: a4 :: a5 :: a6 :: a7 :: a8 :: a9 :: r)) : News h L g r :=
  fun p hp => N p (.tail _ (.tail _ (.tail _ (.tail _ (.tail _ (.tail _ (.tail _ (.tail _ (.tail _ hp)))))))))
theorem tail2 {prog p : Program} {w : World} {loose : List Str} {mean : ExcName → Option Value} {mg mb : Str → Option Value} {h₀ : Heap} {L f : Addr} {s : Shared} {m : Str → Option Value} {cd : Value} {R K M D1 D2 D3 D4 D5 D6 TL TP : Addr} {ys ks ws y1 y2 y3 y4 y5 y6 : List Value} {ns a b : List Int} {oR oK oM : Obj} {Q : Flow → Shared → Prop} {E : Value → Shared → Prop}
    (B : Below callerA h₀ [] h₀) (X : (hd.heap_39 w.params).In h₀) (T : Top p loose mean mg mb h₀)
    (F : Fr h₀ L s.heap (fun z => if z = Str.ofString "placed" then some (.ref TP) else if z = Str.ofString "laid" then some (.ref TL) else if z = Str.ofString "second" then some (.ref D2) else if z = Str.ofString "first" then some (.ref D1) else m z))
    (N : News h₀ L s.heap [(TP, tup2 D5 D6), (D6, LCg.lst y6), (D5, LCg.lst y5), (TL, tup2 D3 D4), (D4, LCg.lst y4), (D3, LCg.lst y3), (D2, LCg.lst y2), (D1, LCg.lst y1), (R, LCg.lst ys), (K, LCg.lst ks), (M, PySem.W.listOf ws.toArray 0), (L + 1 + 1 + 1, oR), (L + 1 + 1, oK), (L + 1, oM)])
    (dR : oR.data = .cell (some (.ref R))) (dK : oK.data = .cell (some (.ref K))) (dM : oM.data = .cell (some (.ref M)))
    (hI : IntsAre ws ns) (hn : ns.length ≤ 15) (hK : IntsAre ks (ns.map rankF)) (hR : StrsAre ys (ns.map fun x => rowF (rankF x)))
    (hy1 : IntsAre y1 (placesF ns 1)) (hy2 : IntsAre y2 (placesF ns 0)) (hy3 : StrsAre y3 (a.map rowF)) (hy4 : StrsAre y4 (b.map rowF)) (hy5 : IntsAre y5 a) (hy6 : IntsAre y6 b)
    (ea : a = (placesF ns 1).map fun k => rankF (ns.getD k.toNat 0)) (eb : b = (placesF ns 0).map fun k => rankF (ns.getD k.toNat 0))
    (hret : ∀ h' tk' m' news', Fr h₀ L h' m' → News h₀ L h' news' → Q (.ret (.bool true)) { s with heap := h', toks := tk' }) :
    wpAny (model prog w) (callerA.deeper (envOfC (Str.ofString "law") lawScope L f cd)) (execs (lawBody.drop 9) (envOfC (Str.ofString "law") lawScope L f cd)) Q E s := by
  have ba : ∀ k ∈ a, 0 ≤ k ∧ k < 32768 := by
    intro k hk
    rw [ea] at hk
    obtain ⟨x, _, rfl⟩ := List.mem_map.mp hk
    exact ⟨rank_lo _, rank_hi _⟩
  have bb : ∀ k ∈ b, 0 ≤ k ∧ k < 32768 := by
    intro k hk
    rw [eb] at hk
    obtain ⟨x, _, rfl⟩ := List.mem_map.mp hk
    exact ⟨rank_lo _, rank_hi _⟩
  have la : a.length ≤ 15 := by rw [ea, List.length_map]; exact Nat.le_trans (places_len _ _) hn
  have lb : b.length ≤ 15 := by rw [eb, List.length_map]; exact Nat.le_trans (places_len _ _) hn
  conv in lawBody.drop 9 => whnf
  conv => 
    pattern (occs := *) lawScope
    all_goals whnf
  iterate 18 walk1
  refine sld_call cmp_row (els_rows ba hy3) (els_rows bb hy4) (by omega) (by omega) F N X T (by is_list) (by is_list) rfl rfl rfl rfl (depth2 _) (units40 _) (fun T1 M1 U1 nM1 nU1 ms1 us1 h1 tk1 F1 N1 em1 eu1 => ?_)
  clear F N
  dsimp only
  iterate 19 walk1
  refine sld_call cmp_int (els_ints hy5) (els_ints hy6) (by omega) (by omega) F1 N1 X T (by is_list) (by is_list) rfl rfl rfl rfl (depth2 _) (units40 _) (fun T2 M2 U2 nM2 nU2 ms2 us2 h2 tk2 F2 N2 em2 eu2 => ?_)
  clear F1 N1
  dsimp only
  iterate 2 walk1
  have ls := sld_len _ a b (Nat.le_refl _)
  have bs := sld_in ba bb
  refine rows_call (ints_els em2) (ints_els eu2) (by omega) (by omega) bs.1 bs.2 B F2 N2 X T (News.isTup N2 (by k_mem)) (by is_list) (by is_list) rfl rfl rfl rfl (depth2 _) (units60 _) (fun T3 M3 U3 nM3 nU3 ms3 us3 h3 tk3 F3 N3 em3 eu3 => ?_)
  clear F2 N2
  dsimp only
  refine sq_ne2 (two_of N3 (T := T1) (by k_mem) (by k_mem) (by k_mem) (rows_els em1) (rows_els eu1) bs.1 bs.2) (two_of N3 (T := T3) (by k_mem) (by k_mem) (by k_mem) em3 eu3 bs.1 bs.2) (units64 _) ?_
  simp only [decide_true, Bool.and_self, Bool.not_true]
  iterate 7 walk1
  have hp1 := places_len ns 1
  have hp2 := places_len ns 0
  have q1 := hy1.length
  have q2 := hy2.length
  have N3 := trim9 N3
  iterate 2 walk1
  walk_at "my comp"
  iterate 1 walk1
  walk_at "my src"
  intro g'
  refine' kct_list (fun k => rowF (rankF (ns.getD k.toNat 0))) hy1 (fun k' t' I' oI' C' oC' D' m' ys' h' tk' E' hk' hC' hx' F' N' off' ne' hMark' => ?_) ?_
  all_goals (try k_fold)
  · obtain ⟨b0, b1⟩ := places_in hk'
    k_steps
  unfold KPfDone
  intro y7 hy7 _
  unfold LCg.FinE
  intro D7 h7 tk7 F7 N7 o7
  have hy7' : StrsAre y7 (a.map rowF) := by
    rw [ea]
    exact strs_map2 (f := rowF) (g := fun k => rankF (ns.getD k.toNat 0)) hy7
  clear hy7
  clear o7
  k_sweep
  dsimp only
  iterate 1 walk1
  walk_at "my comp"
  iterate 1 walk1
  walk_at "my src"
  intro g'
  refine' kct_list (fun k => rowF (rankF (ns.getD k.toNat 0))) hy2 (fun k' t' I' oI' C' oC' D' m' ys' h' tk' E' hk' hC' hx' F' N' off' ne' hMark' => ?_) ?_
  all_goals (try k_fold)
  · obtain ⟨b0, b1⟩ := places_in hk'
    k_steps
  unfold KPfDone
  intro y8 hy8 _
  unfold LCg.FinE
  intro D8 h8 tk8 F8 N8 o8
  have hy8' : StrsAre y8 (b.map rowF) := by
    rw [eb]
    exact strs_map2 (f := rowF) (g := fun k => rankF (ns.getD k.toNat 0)) hy8
  clear hy8
  clear o8
  k_sweep
  dsimp only
  iterate 1 walk1
  refine newTuple_N F8 N8 (fun h9 F9 N9 => ?_)
  clear F8 N8
  dsimp only
  have w1 := two_of N9 (T := TL) (M := D3) (U := D4) (ms := y3) (us := y4) (nM := y3.length) (nU := y4.length) (by k_mem) (by k_mem) (by k_mem) hy3 hy4 ba bb
  have w2 := two_of N9 (T := h8.objs.size) (M := D7) (U := D8) (ms := y7) (us := y8) (nM := y7.length) (nU := y8.length) (by k_mem) (by k_mem) (by k_mem) hy7' hy8' ba bb
  refine sq_ne2 w1 w2 (units64 _) ?_
  simp only [decide_true, Bool.and_self, Bool.not_true]
  have N9 := trim3 N9
  iterate 14 walk1
  iterate 2 walk1
  refine sort_ints hy5 (by omega) F9 N9 (by is_list) (fun D10 n10 y10 ra h10 F10 N10 hy10 pa sa => ?_)
  clear F9 N9
  dsimp only
  iterate 10 walk1
  refine sort_ints hy6 (by omega) F10 N10 (by is_list) (fun D11 n11 y11 rb h11 F11 N11 hy11 pb sb => ?_)
  clear F10 N10
  dsimp only
  iterate 1 walk1
  refine newTuple_N F11 N11 (fun h12 F12 N12 => ?_)
  clear F11 N11
  dsimp only
  iterate 15 walk1
  refine sort_rows hy3 ba pa sa (by omega) (by assumption) (by assumption) (by is_list) (fun D13 n13 y13 h13 F13 N13 hy13 => ?_)
  dsimp only
  iterate 10 walk1
  refine sort_rows hy4 bb pb sb (by omega) F13 N13 (by is_list) (fun D14 n14 y14 h14 F14 N14 hy14 => ?_)
  clear F13 N13
  dsimp only
  iterate 1 walk1
  refine newTuple_N F14 N14 (fun h15 F15 N15 => ?_)
  clear F14 N14
  dsimp only
  have lra := pa.length_eq
  have lrb := pb.length_eq
  have bra : ∀ k ∈ ra, 0 ≤ k ∧ k < 32768 := fun k hk => ba k (pa.mem_iff.mp hk)
  have brb : ∀ k ∈ rb, 0 ≤ k ∧ k < 32768 := fun k hk => bb k (pb.mem_iff.mp hk)
  iterate 21 walk1
  rename Fr _ _ _ _ => F15
  rename News _ _ _ _ => N15
  refine lacks_call hy10 hy11 (by omega) (by omega) B F15 N15 X T (by is_list) (by is_list) rfl rfl rfl rfl (depth1 _) (units40 _) (fun D16 n16 y16 h16 tk16 F16 N16 hy16 => ?_)
  clear F15 N15
  dsimp only
  iterate 16 walk1
  refine lacks_call hy11 hy10 (by omega) (by omega) B F16 N16 X T (by is_list) (by is_list) rfl rfl rfl rfl (depth1 _) (units40 _) (fun D17 n17 y17 h17 tk17 F17 N17 hy17 => ?_)
  clear F16 N16
  dsimp only
  iterate 1 walk1
  refine newTuple_N F17 N17 (fun h18 F18 N18 => ?_)
  clear F17 N17
  dsimp only
  iterate 20 walk1
  rename Fr _ _ _ _ => F18
  rename News _ _ _ _ => N18
  have lk := sld_lacks sa sb (fun r hr => (bra r hr).1) (fun r hr => (brb r hr).1)
  have bl := sld_in bra brb
  have ll := sld_len _ ra rb (Nat.le_refl _)
  rw [lk] at bl ll
  refine sld_call cmp_row (els_rows bra hy13) (els_rows brb hy14) (by omega) (by omega) F18 N18 X T (by is_list) (by is_list) rfl rfl rfl rfl (depth2 _) (units40 _) (fun T19 M19 U19 nM19 nU19 ms19 us19 h19 tk19 F19 N19 em19 eu19 => ?_)
  clear F18 N18
  rw [lk] at em19 eu19
  dsimp only at em19 eu19 bl ll
  dsimp only
  iterate 7 walk1
  refine rows_call hy16 hy17 (by omega) (by omega) bl.1 bl.2 B F19 N19 X T (News.isTup N19 (by k_mem)) (by is_list) (by is_list) rfl rfl rfl rfl (depth2 _) (units60 _) (fun T20 M20 U20 nM20 nU20 ms20 us20 h20 tk20 F20 N20 em20 eu20 => ?_)
  clear F19 N19
  dsimp only
  have w3 := two_of N20 (T := T19) (M := M19) (U := U19) (ms := ms19) (us := us19) (nM := nM19) (nU := nU19) (by k_mem) (by k_mem) (by k_mem) (rows_els em19) (rows_els eu19) bl.1 bl.2
  have w4 := two_of N20 (T := T20) (M := M20) (U := U20) (ms := ms20) (us := us20) (nM := nM20) (nU := nU20) (by k_mem) (by k_mem) (by k_mem) em20 eu20 bl.1 bl.2
  refine sq_ne2 w3 w4 (units64 _) ?_
  simp only [decide_true, Bool.and_self, Bool.not_true]
  have N20 := trim3 (trim3 N20)
  iterate 14 walk1
  refine rows_call hy10 hy11 (by omega) (by omega) bra brb B F20 N20 X T (News.isTup N20 (by k_mem)) (News.isList N20 (by k_mem)) (News.isList N20 (by k_mem)) rfl rfl rfl rfl (depth2 _) (units60 _) (fun T21 M21 U21 nM21 nU21 ms21 us21 h21 tk21 F21 N21 em21 eu21 => ?_)
  clear F20 N20
  dsimp only
  have w5 := two_of N21 (T := h14.objs.size) (M := D13) (U := D14) (ms := y13) (us := y14) (nM := n13) (nU := n14) (by k_mem) (by k_mem) (by k_mem) hy13 hy14 bra brb
  have w6 := two_of N21 (T := T21) (M := M21) (U := U21) (ms := ms21) (us := us21) (nM := nM21) (nU := nU21) (by k_mem) (by k_mem) (by k_mem) em21 eu21 bra brb
  refine sq_eq2 w5 w6 (units64 _) ?_
  simp only [decide_true, Bool.and_self]
  exact hret _ _ _ _ F21 N21
theorem freshT1 : True := by
  w_top off
  trivial
set_option maxRecDepth 100000
set_option maxHeartbeats 8000000
theorem tail1 {prog p : Program} {w : World} {loose : List Str} {mean : ExcName → Option Value} {mg mb : Str → Option Value} {h₀ : Heap} {L f : Addr} {s : Shared} {m : Str → Option Value} {cd : Value} {R K M : Addr} {ys ks ws : List Value} {ns : List Int} {oR oK oM : Obj} {Q : Flow → Shared → Prop} {E : Value → Shared → Prop}
    (B : Below callerA h₀ [] h₀) (F : Fr h₀ L s.heap m) (X : (hd.heap_39 w.params).In h₀) (T : Top p loose mean mg mb h₀)
    (N : News h₀ L s.heap [(R, LCg.lst ys), (K, LCg.lst ks), (M, PySem.W.listOf ws.toArray 0), (L + 1 + 1 + 1, oR), (L + 1 + 1, oK), (L + 1, oM)])
    (dR : oR.data = .cell (some (.ref R))) (dK : oK.data = .cell (some (.ref K))) (dM : oM.data = .cell (some (.ref M)))
    (hI : IntsAre ws ns) (hn : ns.length ≤ 15) (hK : IntsAre ks (ns.map rankF)) (hR : StrsAre ys (ns.map fun x => rowF (rankF x)))
    (hret : ∀ h' tk' m' news', Fr h₀ L h' m' → News h₀ L h' news' → Q (.ret (.bool true)) { s with heap := h', toks := tk' }) :
    wpAny (model prog w) (callerA.deeper (envOfC (Str.ofString "law") lawScope L f cd)) (execs (lawBody.drop 5) (envOfC (Str.ofString "law") lawScope L f cd)) Q E s := by
  conv in lawBody.drop 5 => whnf
  conv => 
    pattern (occs := *) lawScope
    all_goals whnf
  iterate 1 walk1
  walk_at "my test"
  iterate 13 walk1
  walk_at "my range"
  intro g'
  refine' kci_range (n := ns.length) (pickF ns 1) (fun k' t' I' oI' C' oC' D' m' ys' l' h' tk' E' hlo' hhi' hI' hC' hx' F' N' off' ne' hMark' => ?_) ?_ pick_grows
  all_goals (try k_fold)
  · k_steps
  unfold KPfDone
  intro y1 (hy1 : IntsAre y1 (placesF ns 1)) hl1
  unfold LCg.FinA
  intro D1 h1 tk1 F1 N1 o1
  k_sweep
  dsimp only
  iterate 1 walk1
  walk_at "my test"
  iterate 13 walk1
  walk_at "my range"
  intro g'
  refine' kci_range (n := ns.length) (pickF ns 0) (fun k' t' I' oI' C' oC' D' m' ys' l' h' tk' E' hlo' hhi' hI' hC' hx' F' N' off' ne' hMark' => ?_) ?_ pick_grows
  all_goals (try k_fold)
  · k_steps
  unfold KPfDone
  intro y2 (hy2 : IntsAre y2 (placesF ns 0)) hl2
  unfold LCg.FinA
  intro D2 h2 tk2 F2 N2 o2
  have hp1 := places_len ns 1
  have hp2 := places_len ns 0
  k_sweep
  dsimp only
  iterate 4 walk1
  walk_at "my comp"
  iterate 1 walk1
  walk_at "my src"
  intro g'
  refine' kct_list (fun k => rowF (rankF (ns.getD k.toNat 0))) hy1 (fun k' t' I' oI' C' oC' D' m' ys' h' tk' E' hk' hC' hx' F' N' off' ne' hMark' => ?_) ?_
  all_goals (try k_fold)
  · obtain ⟨b0, b1⟩ := places_in hk'
    k_steps
  unfold KPfDone
  intro y3 hy3 _
  unfold LCg.FinE
  intro D3 h3 tk3 F3 N3 o3
  have hy3' : StrsAre y3 (((placesF ns 1).map fun k => rankF (ns.getD k.toNat 0)).map rowF) := strs_map2 (f := rowF) (g := fun k => rankF (ns.getD k.toNat 0)) hy3
  clear hy3 o3
  k_sweep
  dsimp only
  iterate 1 walk1
  walk_at "my comp"
  iterate 1 walk1
  walk_at "my src"
  intro g'
  refine' kct_list (fun k => rowF (rankF (ns.getD k.toNat 0))) hy2 (fun k' t' I' oI' C' oC' D' m' ys' h' tk' E' hk' hC' hx' F' N' off' ne' hMark' => ?_) ?_
  all_goals (try k_fold)
  · obtain ⟨b0, b1⟩ := places_in hk'
    k_steps
  unfold KPfDone
  intro y4 hy4 _
  unfold LCg.FinE
  intro D4 h4 tk4 F4 N4 o4
  have hy4' : StrsAre y4 (((placesF ns 0).map fun k => rankF (ns.getD k.toNat 0)).map rowF) := strs_map2 (f := rowF) (g := fun k => rankF (ns.getD k.toNat 0)) hy4
  clear hy4 o4
  k_sweep
  dsimp only
  iterate 1 walk1
  refine newTuple_N F4 N4 (fun h4' F4' N4' => ?_)
  clear F4 N4
  dsimp only
  iterate 6 walk1
  walk_at "my comp"
  iterate 1 walk1
  walk_at "my src"
  intro g'
  refine' kcf_list (fun k => rankF (ns.getD k.toNat 0)) hy1 (fun k' t' I' oI' C' oC' D' m' ys' h' tk' E' hk' hC' hx' F' N' off' ne' hMark' => ?_) ?_
  all_goals (try k_fold)
  · obtain ⟨b0, b1⟩ := places_in hk'
    k_steps
  unfold KPfDone
  intro y5 hy5
  unfold LCg.FinE
  intro D5 h5 tk5 F5 N5 o5
  clear o5
  k_sweep
  dsimp only
  iterate 1 walk1
  walk_at "my comp"
  iterate 1 walk1
  walk_at "my src"
  intro g'
  refine' kcf_list (fun k => rankF (ns.getD k.toNat 0)) hy2 (fun k' t' I' oI' C' oC' D' m' ys' h' tk' E' hk' hC' hx' F' N' off' ne' hMark' => ?_) ?_
  all_goals (try k_fold)
  · obtain ⟨b0, b1⟩ := places_in hk'
    k_steps
  unfold KPfDone
  intro y6 hy6
  unfold LCg.FinE
  intro D6 h6 tk6 F6 N6 o6
  clear o6
  k_sweep
  dsimp only
  iterate 1 walk1
  refine newTuple_N F6 N6 (fun h6' F6' N6' => ?_)
  clear F6 N6
  dsimp only
  iterate 1 walk1
  rename Fr _ _ _ _ => F8
  rename News _ _ _ _ => N8
  exact tail2 B X T F8 N8 dR dK dM hI hn hK hR hy1 hy2 hy3' hy4' hy5 hy6 rfl rfl (fun h' tk' m' news' F' N' => hret h' tk' m' news' F' N')
end Mine
end

section
open PySem PySem.W PyProof.Rows PySem.Calls
namespace Mine
theorem freshP1 : True := by
  w_top off
  trivial
set_option maxRecDepth 100000
set_option maxHeartbeats 8000000
def rowOf (x : Int) : Str := rowF (rankF x)
theorem cl_file {prog p : Program} {w : World} {loose : List Str} {mean : ExcName → Option Value} {mg mb : Str → Option Value} (x : Int) (t : Tok) :
    Cl prog w p loose mean mg mb 75 2 40 (fun _ => True) [.int (modeF x) t] (fun _ _ r => ∃ t, r = .str (rowOf x) t) := by
  unfold rowOf
  rw [← sign_row]
  exact cl_filemode _ _
theorem ranks_in {k : Int} {l : List Int} (h : k ∈ l.map fun x => rankF x) : 0 ≤ k ∧ k < 32768 := by
  obtain ⟨x, _, rfl⟩ := List.mem_map.mp h
  exact ⟨rank_lo x, rank_hi x⟩
theorem rows_eq (l : List Int) : (l.map fun k => rowOf k) = (l.map fun k' => rankF k').map fun k => rowF k := by
  rw [List.map_map]; rfl
theorem rows_ok1 (l : List Int) : OkAll (l.map fun k => rowOf k) := by
  intro s hs
  obtain ⟨k, _, rfl⟩ := List.mem_map.mp hs
  exact row_ok (rank_lo k) (rank_hi k)
theorem rows_ok2 (l : List Int) : OkAll ((l.map fun k' => rankF k').map fun k => rowF k) := by rw [← rows_eq]; exact rows_ok1 l
theorem trim10 {h g : Heap} {L : Addr} {a0 a1 a2 a3 a4 a5 a6 c1 c2 c3 : Addr × Obj} (N : News h L g [a0, a1, a2, a3, a4, a5, a6, c1, c2, c3]) : News h L g [a1, a2, a3, c1, c2, c3] :=
  fun p hp => N p (by simp only [List.mem_cons, List.not_mem_nil, or_false] at hp ⊢; rcases hp with h | h | h | h | h | h <;> simp [h])
theorem forget1 {m : Str → Option Value} {a : Str} {va : Value} (ha : m a = some va) : m = fun y => if y = a then some va else m y := by
  funext y
  by_cases h1 : y = a
  · rw [if_pos h1, h1, ha]
  · rw [if_neg h1]
theorem get_some {l : List Int} {i : Nat} (h : i < l.length) : ∃ x, l[i]? = some x := ⟨l[i], List.getElem?_eq_getElem h⟩
theorem rank_at {l : List Int} {i : Nat} {x : Int} (h : l[i]? = some x) : (List.map (fun k' => rankF k') l)[i]? = some (rankF x) := by simp [h]
theorem len_15 {m : List Int} {i : Nat} {x : Int} (_ : ([0, 9, 25] ++ List.take 12 m)[i]? = some x) : ([0, 9, 25] ++ List.take 12 m).length < 2 ^ 62 ∧ (List.map (fun k' => rankF k') ([0, 9, 25] ++ List.take 12 m)).length < 2 ^ 62 := by
  simp only [List.length_map, List.length_append, List.length_cons, List.length_nil, List.length_take]
  omega
theorem ct_end {h₀ : Heap} {L I C D : Addr} {m : Str → Option Value} {s₁ : Shared} {oI oC oD : Obj} {S : List (Addr × Obj) → Prop} {r : Str} {t : Tok} {h' : Heap} {tk : Nat} {news : List (Addr × Obj)}
    (F : Fr h₀ L h' m) (N : News h₀ L h' ((I, oI) :: (C, oC) :: (D, oD) :: news)) (off : LCg.Off3 I C D news) (hS : S news) :
    LCg.CompEnd h₀ L m s₁ I oI C oC D oD S (fun y news' => KCtEl news r y news') (.str r t) { s₁ with heap := h', toks := tk } := ⟨h', tk, news, rfl, F, N, off, hS, rfl, t, rfl⟩
/-- what three_way_cmp tells of two rows -/
def told (x y : Int) : Int := b2i (decide ((rowOf y).cps.toList < (rowOf x).cps.toList)) - b2i (decide ((rowOf x).cps.toList < (rowOf y).cps.toList))
theorem told_eq {x y : Int} (h : rankF x = rankF y) : told x y = 0 := by
  unfold told rowOf
  rw [h]; omega
theorem told_gt {x y : Int} (h : rankF y < rankF x) : told x y = 1 := by
  unfold told rowOf
  rw [lt_row (rank_lo _) (rank_hi _) (rank_lo _) (rank_hi _), lt_row (rank_lo _) (rank_hi _) (rank_lo _) (rank_hi _), decide_eq_true h, decide_eq_false (by omega)]
  rfl
theorem told_lt {x y : Int} (h : rankF x < rankF y) : told x y = -1 := by
  unfold told rowOf
  rw [lt_row (rank_lo _) (rank_hi _) (rank_lo _) (rank_hi _), lt_row (rank_lo _) (rank_hi _) (rank_lo _) (rank_hi _), decide_eq_true h, decide_eq_false (by omega)]
  rfl
def AtInt (d : Int) (s : Shared) (v : Value) (s' : Shared) : Prop := ∃ t tk, v = .int d t ∧ s' = { s with toks := tk }
theorem at_int {d e : Int} {s : Shared} {t : Tok} {tk : Nat} (h : d = e) : AtInt d s (.int e t) { s with toks := tk } := ⟨t, tk, by rw [h], rfl⟩
/-- ways that meet at one int -/
theorem int_join {M : Model} {A : Around} {tree : Sem Value} {Q E : Value → Shared → Prop} {s : Shared} (d : Int) (h : wpAny M A tree (AtInt d s) E s)
    (k : ∀ t tk, Q (.int d t) { s with toks := tk }) : wpAny M A tree Q E s :=
  wpAny_mono h (fun v s' ⟨t, tk, hv, hs⟩ => by subst hv hs; exact k t tk) fun _ _ e => e
theorem cl_three' {prog p : Program} {w : World} {loose : List Str} {mean : ExcName → Option Value} {mg mb : Str → Option Value} (x y : Int) (t u : Tok) :
    Cl prog w p loose mean mg mb 28 1 20 (fun _ => True) [.str (rowOf x) t, .str (rowOf y) u] (fun _ _ r => ∃ t, r = .int (told x y) t) := cl_three _ _ _ _
local macro_rules | `(tactic| walk_at "CompEnd") => `(tactic| (refine ct_end (by with_reducible assumption) (by with_reducible assumption) (by with_reducible assumption) ?cS; (case cS => k_dflt lcg_src)))
theorem Cl.useL {prog p : Program} {w : World} {loose : List Str} {mean : ExcName → Option Value} {mg mb : Str → Option Value} {f : Addr} {n u : Nat} {vs : List Value} {Out : Heap → Heap → Value → Prop} {base h₀ : Heap} {L : Addr} {m : Str → Option Value} {env : Env} {news : List (Addr × Obj)} {s : Shared} {Q E : Value → Shared → Prop}
    (C : Cl prog w p loose mean mg mb f n u (fun _ => True) vs Out) (B : Below callerA base [] h₀) (F : Fr h₀ L s.heap m) (N : News h₀ L s.heap news) (X : (hd.heap_39 w.params).In h₀) (T : Top p loose mean mg mb h₀)
    (hf : env.frame = some L) (hk : env.scope.kind = .function) (hn : n ≤ 2) (hu : u ≤ 64)
    (k : ∀ r h' tk', Fr h₀ L h' m → News h₀ L h' news → Keeps s.heap h' → Out s.heap h' r → Q r { s with heap := h', toks := tk' }) : wpAny (model prog w) (callerA.deeper env) (call (.ref f) vs) Q E s :=
  Cl.use C B F N X T rfl rfl hf hk (Nat.lt_of_le_of_lt (Nat.add_le_add_left hn _) (depth2 env)) (Nat.lt_of_le_of_lt (Nat.add_le_add_left hu _) (units64 env)) trivial k
local macro_rules | `(tactic| walk_at "call ref") => `(tactic| ((with_reducible show wpAny _ _ (call (Value.ref _) _) _ _ _); (first | refine Cl.useL (cl_rank _ _) (by assumption) (by assumption) (by assumption) (by assumption) (by assumption) rfl rfl (by decide) (by decide) ?_ | refine Cl.useL (cl_mode _ _) (by assumption) (by assumption) (by assumption) (by assumption) (by assumption) rfl rfl (by decide) (by decide) ?_ | refine Cl.useL (cl_file _ _) (by assumption) (by assumption) (by assumption) (by assumption) (by assumption) rfl rfl (by decide) (by decide) ?_ | refine Cl.useL (cl_row _ _ (by assumption) (by assumption)) (by assumption) (by assumption) (by assumption) (by assumption) (by assumption) rfl rfl (by decide) (by decide) ?_ | refine Cl.useL (cl_three' _ _ _ _) (by assumption) (by assumption) (by assumption) (by assumption) (by assumption) rfl rfl (by decide) (by decide) ?_ ); (intro r' h' tk' F' N' K' o'; (refine Exists.elim o' ?_); intro t' e'; subst e'; clear o' K';(try dsimp only))))
local macro_rules | `(tactic| walk_at "subscriptTail") => `(tactic| ((with_reducible show wpAny _ _ (subscriptTail _ (Expr.Name _ _) (Value.ref _) (Value.int (Nat.cast _) _)) _ _ _); k_dflt (first | (refine tail_str (by is_list) (by with_reducible assumption) (by with_reducible assumption) (And.left (by with_reducible assumption)) ?_) | (refine tail_int (by is_list) (by with_reducible assumption) (by with_reducible assumption) (And.right (by with_reducible assumption)) ?_)); intro t'))
theorem len_le (l : List Int) : ([0, 9, 25] ++ List.take 12 l : List Int).length ≤ 15 := by
  simp only [List.length_append, List.length_cons, List.length_nil, List.length_take]
  omega
theorem law : PySem.Challenge.rw_mq0207_01.Holds := by
  refine hd ?_
  k_go0
  all_goals try k_fold
  iterate 49 walk1
  k_dflt (refine LCg.ListComp_U (F₀ := by k_asm) (by with_unfolding_all rfl) (by decide) (by rfl) (by decide) (by rfl) ?_)
  iterate 1 walk1
  k_dflt (refine LCg.CompSrc.ledger (by rfl) (by k_asm) (by k_asm) (by k_mem) (by kcf_size) ?_)
  intro g'
  (refine' kct_list (fun k => rowOf k) (by first | assumption | l_ints) (fun k' t' I' oI' C' oC' D' m' ys' h' tk' E' hk' hC' hx' F' N' off' ne' hMark' => ?_) ?_)
  kcf_last
  · k_steps
  iterate 8 walk1
  k_dflt (refine LCg.ListComp_U (F₀ := by k_asm) (by with_unfolding_all rfl) (by decide) (by rfl) (by decide) (by rfl) ?_)
  iterate 1 walk1
  k_dflt (refine LCg.CompSrc.ledger (by rfl) (by k_asm) (by k_asm) (by k_mem) (by kcf_size) ?_)
  intro g'
  (refine' kct_list (fun k => rowF k) (by first | assumption | l_ints) (fun k' t' I' oI' C' oC' D' m' ys' h' tk' E' hk' hC' hx' F' N' off' ne' hMark' => ?_) ?_)
  kcf_last
  · skip
    obtain ⟨b0, b1⟩ := ranks_in hk'
    k_steps
  iterate 2 walk1
  k_dflt (refine sq_ne (by is_list) (by is_list) (strs_map (by assumption)) (strs_map (by assumption)) (rows_ok1 _) (rows_ok2 _) (by ke_room) ?_)
  rw [decide_eq_true (rows_eq _)]
  simp only [Bool.not_true]
  iterate 3 walk1
  dsimp only
  refine wpAny_execs_cons (wpAny_For ?_ (by intro _; rfl))
  iterate 13 walk1
  rename News _ _ _ _ => Nz
  rename Fr _ _ _ _ => Fz
  refine range_loop (news := _) rfl (by assumption) ?hn Fz (trim10 Nz) (fun _ _ nw => nw = _) rfl ?step ?fin ?pass
  case hn => (simp only [List.length_cons, List.length_take]; omega)
  case pass => walk1
  case step =>
    rintro i m1 news1 h1 tk1 I1 it1 tv hi rfl off1 F1 N1
    iterate 4 walk1
    refine wpAny_For ?_ (by intro _; rfl)
    iterate 13 walk1
    rename News _ _ _ _ => N2
    rename Fr _ _ _ _ => F2
    refine range_loop (news := _) rfl (by assumption) ?hn2 F2 N2 (fun _ m nw => m (Str.ofString "i") = some (.int (i : Int) tv) ∧ nw = _) ⟨rfl, rfl⟩ ?step2 ?fin2 ?pass2
    case hn2 => (simp only [List.length_cons, List.length_take]; omega)
    case pass2 => walk1
    case fin2 =>
      rintro h3 tk3 m3 news3 ⟨_, rfl⟩ F3 N3
      k_steps
      all_goals (try dsimp only)
      exact else_end F3 N3 (by assumption) rfl
    rintro j m3 news3 h3 tk3 I3 it3 tv3 hj ⟨hm3, rfl⟩ off3 F3 N3
    rw [forget1 hm3] at F3
    obtain ⟨x, hx⟩ := get_some (l := [0, 9, 25] ++ _) hi
    obtain ⟨y, hy⟩ := get_some (l := [0, 9, 25] ++ _) hj
    have hx' := rank_at hx
    have hy' := rank_at hy
    have hz := len_15 hx
    iterate 25 walk1
    refine int_join (told x y) ?due ?rest
    case due =>
      k_fold
      k_steps
      all_goals first
        | exact at_int (told_eq (by assumption))
        | exact at_int (told_gt (by assumption))
        | exact at_int (told_lt (x := x) (y := y) (by omega))
    intro td tkd
    k_fold
    k_steps
    all_goals (try dsimp only)
    all_goals (first
      | exact else_end (by assumption) (by assumption) (by assumption) ⟨rfl, rfl⟩
      | exact absurd rfl (by assumption)
      )
  case fin =>
    rintro h1 tk1 m1 news1 rfl F1 N1
    dsimp only
    refine tail1 (by assumption) F1 (by assumption) (by assumption) N1 (by assumption) (by assumption) (by assumption) (by assumption) (by exact len_le _) (by assumption) (strs_map (f := rowOf) (by assumption)) ?_
    intro h' tk' m' news' F' N'
    k_steps
end Mine
end

open PySem PySem.W PyProof.Rows
set_option maxRecDepth 100000 in
set_option maxHeartbeats 8000000 in
theorem PySem.Challenge.cw_mq0207_01_holds : PySem.Challenge.rw_mq0207_01.Holds := by
  exact Mine.law

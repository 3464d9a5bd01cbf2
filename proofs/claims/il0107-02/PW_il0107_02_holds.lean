import PyProof.Rows.All
import Wide.All
import OpenK.AllK
import Wide.FinOn
import PyProof.MeetsSeq
import PyProof.P3Eq
import PyProof.Rows.Catch
import KE.FramesApart
import KE.KAnyBase
import KE.KEqDeep
import KE.KSliceW
import KE.KRevSl
import PySem.Challenge.RW_il0107_02

section -- part Base1
open PySem PySem.W PySem.Calls PyProof.Rows
set_option Elab.async false
set_option maxRecDepth 100000
set_option maxHeartbeats 4000000
namespace Mine

/-- the surroundings of a call -/
abbrev Ar (dp un : Nat) (gd : Option (List Code)) (fr : List Env) : Around := { handled := none, depth := dp, frames := some fr, guards := gd, units := un }

/-- what a pure call leaves behind: the heap has only grown -/
theorem keeps_refl (s : Shared) : Keeps s s := ⟨s.heap, s.toks, rfl, fun _ _ e => e⟩
theorem keeps_trans {s s₁ s₂ : Shared} (a : Keeps s s₁) (b : Keeps s₁ s₂) : Keeps s s₂ := by
  obtain ⟨h1, t1, rfl, k1⟩ := a
  obtain ⟨h2, t2, rfl, k2⟩ := b
  exact ⟨h2, t2, rfl, fun b o e => k2 b o (k1 b o e)⟩
theorem keeps_heap {s s₁ : Shared} (a : Keeps s s₁) : ∀ b o, s.heap.get? b = some o → s₁.heap.get? b = some o := by
  obtain ⟨h1, t1, rfl, k1⟩ := a
  exact k1

section
variable {prog : Program} {w : World} {A : Around} {E : Value → Shared → Prop} {s : Shared} {K : Frag} {Q : Value → Shared → Prop}

theorem enter {name qual : Str} {params : Arguments} {body : List Stmt} {scope : Scope} {dV kV doc pm cdv ct oc : Value} {an od : Option Addr} {osl : Array (Option Value)} {f : Addr} {vals : List Value} {kw : List (Str × Value)} {binds : List (Str × Value)}
    (X : K.In s.heap) (hlim : s.heap.NoLimit)
    (ho : K.lookup f = some ⟨oc, od, .func (fnOf name qual params body scope dV kV doc pm an cdv ct), osl⟩) (hcd : codeIn K cdv qual = true) (hroom : A.depth < recursionLimit)
    (hbind : BindsTo s (fnOf name qual params body scope dV kV doc pm an cdv ct) ⟨vals, kw⟩ binds) (hloc : ∀ y ∈ binds, scope.names.lookup y.1 = some .local)
    (h : ∀ L h₁, Fr s.heap L h₁ (fun y => binds.reverse.lookup y) →
      wpAny (model prog w) (A.deeper (envOf qual scope L f cdv)) (execs body (envOf qual scope L f cdv))
        (fun fl s' => Q (match fl with | .ret v => v | _ => .none) s')
        (fun e s' => wpAny (model prog w) (A.deeper (envOf qual scope L f cdv)) (leaving (envOf qual scope L f cdv) e) (fun _ s'' => E e s'') (fun e' s'' => E e' s'') s')
        { s with heap := h₁, toks := s.toks + binds.length })
    (hco : scope.isCoroutine = false) (hgen : scope.isGenerator = false) (hk : scope.kind = .function)
    (hcell : ∀ x ∈ scope.names, x.2 ≠ .cell) : wpAny (model prog w) A (call (.ref f) vals kw) Q E s := by
  refine wpAny_call ?_
  refine codeAny_call_def (fd := fnOf name qual params body scope dV kV doc pm an cdv ct) (body := body) (binds := binds) hroom (X _ _ ho) rfl hlim (codeRec_of X hcd) rfl hbind hcell hloc (fun h₁ hns hk₁ => ?_) hco hgen hk
  exact h _ h₁ ⟨hns, hk₁, Nat.le_refl _⟩
end

section
variable {prog : Program} {w : World} {A : Around} {E : Value → Shared → Prop} {s : Shared} {env : Env} {h₀ : Heap} {x : Str} {body : List Stmt} {Q : Flow → Shared → Prop}

/-- the end of a turn of a loop over a range: the iterator (I, oI) stands aside -/
def RPost (h₀ : Heap) (L : Addr) (J : (Str → Option Value) → List (Addr × Obj) → Prop) (I : Addr) (oI : Obj) (s₁ : Shared) (Q : Flow → Shared → Prop) (f : Flow) (s₂ : Shared) : Prop :=
  match f with
  | .ret v => Q (.ret v) s₂
  | .brk => Q .next s₂
  | _ => ∃ h' tk m' news', s₂ = { s₁ with heap := h', toks := tk } ∧ Fr h₀ L h' m' ∧ News h₀ L h' ((I, oI) :: news') ∧ (∀ p ∈ news', p.1 ≠ I) ∧ J m' news'

theorem loop_range {r : Addr} {a₀ b₀ c₀ : Int} {t₀ u₀ v₀ : Tok} {n : Nat} {m₀ : Str → Option Value} {news : List (Addr × Obj)} (J : Nat → (Str → Option Value) → List (Addr × Obj) → Prop)
    (hh : A.handled = none) (hr : IsRange s.heap r a₀ b₀ c₀ t₀ u₀ v₀) (hsmall : Builtin.Range.small a₀ b₀ c₀ = true) (hsz : Builtin.Range.rangeSize a₀ b₀ c₀ = (n : Int))
    (F : Fr h₀ env.locals s.heap m₀) (N : News h₀ env.locals s.heap news) (hj : J 0 m₀ news)
    (turn : ∀ i t m₁ news₁ h tk I oI, i < n → J i m₁ news₁ → (∀ p ∈ news₁, p.1 ≠ I) → Fr h₀ env.locals h (fun y => if y = x then some (.int (a₀ + (i : Int) * c₀) t) else m₁ y) → News h₀ env.locals h ((I, oI) :: news₁) →
      wpAny (model prog w) A (execs body env) (RPost h₀ env.locals (J (i + 1)) I oI { s with heap := h, toks := tk } Q) E { s with heap := h, toks := tk })
    (done : ∀ m₁ news₁ h tk, J n m₁ news₁ → Fr h₀ env.locals h m₁ → News h₀ env.locals h news₁ → Q .next { s with heap := h, toks := tk }) :
    wpAny (model prog w) A (pyIter (.ref r)) (fun it s₂ => LoopAtV prog w A h₀ env x body Q E it s₂) E s := by
  refine wpAny_pyIter_range hr hsmall ?_
  have W := Walks.range (prog := prog) (w := w) hh s.heap.objs.size a₀ c₀ n
  refine ⟨_, _, _, n, _, _, m₀, news, J, rfl, W, ?_, ?_, ?_, ?_, F.push _, (fun p hp => ⟨Heap.get?_push_of_some _ (N p hp).1, (N p hp).2⟩), hj, ?_, ?_⟩
  · intro hm
    exact absurd F.ns.lt ((List.mem_singleton.mp hm) ▸ Nat.lt_irrefl _)
  · intro b hb
    rw [List.mem_singleton.mp hb]
    exact next_is_new F
  · intro p hp hI
    exact absurd (Heap.lt_size (N p hp).1) ((List.mem_singleton.mp hI) ▸ Nat.lt_irrefl _)
  · show IsRangeIter _ _ _ _ _
    rw [hsz]
    simpa using Heap.get?_push_size _ rfl
  · rintro i v m₁ news₁ s₁ own ⟨hh', tk', rfl⟩ hin ⟨t, rfl⟩ hJ hoff hown hget hall hst F₁ N₁
    have hI0 : h₀.get? s.heap.objs.size = none := next_is_new F
    obtain ⟨oI, hst'⟩ : ∃ o, hh'.get? s.heap.objs.size = some o := ⟨_, (show IsRangeIter hh' s.heap.objs.size _ _ _ from hst)⟩
    have hIown : (s.heap.objs.size, oI) ∈ own := hall _ (List.mem_singleton.mpr rfl) hI0 _ hst'
    have hne : ∀ p ∈ news₁, p.1 ≠ s.heap.objs.size := fun p hp e => hoff p hp (List.mem_singleton.mpr e)
    refine wpAny_mono (turn i t m₁ news₁ hh' tk' s.heap.objs.size oI hin hJ hne F₁ (fun p hp => ?_)) (fun f s₂ p => ?_) fun _ _ e => e
    · rcases List.mem_cons.mp hp with rfl | hp
      · exact N₁ _ (List.mem_append.mpr (.inl hIown))
      · exact N₁ p (List.mem_append.mpr (.inr hp))
    · have fin : (∃ h' tk m' news', s₂ = { ({ s with heap := hh', toks := tk' } : Shared) with heap := h', toks := tk } ∧ Fr h₀ env.locals h' m' ∧ News h₀ env.locals h' ((s.heap.objs.size, oI) :: news') ∧ (∀ p ∈ news', p.1 ≠ s.heap.objs.size) ∧ J (i + 1) m' news') →
          LoopStepU h₀ env.locals [s.heap.objs.size] own (J (i + 1)) { s with heap := hh', toks := tk' } .next s₂ := by
        rintro ⟨h', tk, m', news', e, F', N', hn, hm⟩
        refine ⟨rfl, h', tk, m', news', e, F', fun p hp => ?_, fun p hp hq => hn p hp (List.mem_singleton.mp hq), hm⟩
        rcases List.mem_append.mp hp with hp | hp
        · have h1 := List.mem_singleton.mp (hown p hp)
          have h2 := hget p hp
          have h2' : hh'.get? s.heap.objs.size = some p.2 := by rw [← h1]; exact h2
          rw [hst'] at h2'
          obtain ⟨pa, po⟩ := p
          cases h2'
          have h3 : pa = s.heap.objs.size := h1
          subst h3
          exact N' _ (List.mem_cons_self)
        · exact N' p (List.mem_cons_of_mem _ hp)
      cases f with
      | ret v => exact .ret p
      | brk => exact .brk p
      | next => exact .next (fin p)
      | cont => exact .cont (fin p)
  · rintro h' tk m' news' F' N' _ hJ
    exact done m' news' h' tk hJ F' N'

/-- the same where the turns store no name but the loop's own -/
def SPost (h₀ : Heap) (L : Addr) (x : Str) (m₀ : Str → Option Value) (J : List (Addr × Obj) → Prop) (I : Addr) (oI : Obj) (s₁ : Shared) (Q : Flow → Shared → Prop) (f : Flow) (s₂ : Shared) : Prop :=
  match f with
  | .ret v => Q (.ret v) s₂
  | .brk => Q .next s₂
  | _ => ∃ h' tk m' news', s₂ = { s₁ with heap := h', toks := tk } ∧ Fr h₀ L h' m' ∧ News h₀ L h' ((I, oI) :: news') ∧ (∀ p ∈ news', p.1 ≠ I) ∧ (∀ z, z ≠ x → m' z = m₀ z) ∧ J news'
theorem SPost.end {L : Addr} {m₀ : Str → Option Value} {J : List (Addr × Obj) → Prop} {I : Addr} {oI : Obj} {s₁ : Shared} {h' : Heap} {tk : Nat} {m' : Str → Option Value} (news' : List (Addr × Obj))
    (F : Fr h₀ L h' m') (N : News h₀ L h' ((I, oI) :: news')) (hn : ∀ p ∈ news', p.1 ≠ I) (hm : ∀ z, z ≠ x → m' z = m₀ z) (hj : J news') : SPost h₀ L x m₀ J I oI s₁ Q .next { s₁ with heap := h', toks := tk } :=
  ⟨h', tk, m', news', rfl, F, N, hn, hm, hj⟩

theorem loop_rangeC {r : Addr} {a₀ b₀ c₀ : Int} {t₀ u₀ v₀ : Tok} (n : Nat) {m₀ : Str → Option Value} {news : List (Addr × Obj)} (J : Nat → List (Addr × Obj) → Prop)
    (hh : A.handled = none) (hr : IsRange s.heap r a₀ b₀ c₀ t₀ u₀ v₀) (hsmall : Builtin.Range.small a₀ b₀ c₀ = true) (hsz : Builtin.Range.rangeSize a₀ b₀ c₀ = (n : Int))
    (F : Fr h₀ env.locals s.heap m₀) (N : News h₀ env.locals s.heap news) (hj : J 0 news)
    (turn : ∀ i t news₁ h tk I oI, i < n → J i news₁ → (∀ p ∈ news₁, p.1 ≠ I) → Fr h₀ env.locals h (fun y => if y = x then some (.int (a₀ + (i : Int) * c₀) t) else m₀ y) → News h₀ env.locals h ((I, oI) :: news₁) →
      wpAny (model prog w) A (execs body env) (SPost h₀ env.locals x m₀ (J (i + 1)) I oI { s with heap := h, toks := tk } Q) E { s with heap := h, toks := tk })
    (done : ∀ (u : Option Value) news₁ h tk, J n news₁ → Fr h₀ env.locals h (fun y => if y = x then u else m₀ y) → News h₀ env.locals h news₁ → Q .next { s with heap := h, toks := tk }) :
    wpAny (model prog w) A (pyIter (.ref r)) (fun it s₂ => LoopAtV prog w A h₀ env x body Q E it s₂) E s := by
  refine loop_range (fun i m nx => (∀ z, z ≠ x → m z = m₀ z) ∧ J i nx) hh hr hsmall hsz F N ⟨fun _ _ => rfl, hj⟩ ?_ ?_
  · rintro i t m₁ news₁ h tk I oI hi ⟨hm, hJ⟩ hn F₁ N₁
    have e : (fun y => if y = x then some (Value.int (a₀ + (i : Int) * c₀) t) else m₁ y) = fun y => if y = x then some (Value.int (a₀ + (i : Int) * c₀) t) else m₀ y := by
      funext y
      by_cases h1 : y = x
      · simp [h1]
      · simp only [if_neg h1]; exact hm y h1
    rw [e] at F₁
    refine wpAny_mono (turn i t news₁ h tk I oI hi hJ hn F₁ N₁) (fun f s₂ p => ?_) fun _ _ e => e
    cases f with
    | ret v => exact p
    | brk => exact p
    | next => obtain ⟨h', tk', m', news', e, F', N', hn', hm', hj'⟩ := p; exact ⟨h', tk', m', news', e, F', N', hn', hm', hj'⟩
    | cont => obtain ⟨h', tk', m', news', e, F', N', hn', hm', hj'⟩ := p; exact ⟨h', tk', m', news', e, F', N', hn', hm', hj'⟩
  · rintro m₁ news₁ h tk ⟨hm, hJ⟩ F₁ N₁
    refine done (m₁ x) news₁ h tk hJ ?_ N₁
    have e : (fun y => if y = x then m₁ x else m₀ y) = m₁ := by
      funext y
      by_cases h1 : y = x
      · simp [h1]
      · simp only [if_neg h1]; exact (hm y h1).symm
    rw [e]; exact F₁

/-- one object of the ledger turns, the rest stands -/
def TPost (h₀ : Heap) (L : Addr) (x : Str) (m₀ : Str → Option Value) (l : Addr) (P : Obj → Prop) (rest : List (Addr × Obj)) (I : Addr) (oI : Obj) (s₁ : Shared) (Q : Flow → Shared → Prop) (f : Flow) (s₂ : Shared) : Prop :=
  match f with
  | .ret v => Q (.ret v) s₂
  | .brk => Q .next s₂
  | _ => ∃ h' tk m' o', s₂ = { s₁ with heap := h', toks := tk } ∧ Fr h₀ L h' m' ∧ News h₀ L h' ((I, oI) :: (l, o') :: rest) ∧ (∀ z, z ≠ x → m' z = m₀ z) ∧ P o'
theorem TPost.end {L : Addr} {m₀ : Str → Option Value} {l : Addr} {P : Obj → Prop} {rest : List (Addr × Obj)} {I : Addr} {oI o' : Obj} {s₁ : Shared} {h' : Heap} {tk : Nat} {m' : Str → Option Value}
    (F : Fr h₀ L h' m') (N : News h₀ L h' ((I, oI) :: (l, o') :: rest)) (hm : ∀ z, z ≠ x → m' z = m₀ z) (hj : P o') : TPost h₀ L x m₀ l P rest I oI s₁ Q .next { s₁ with heap := h', toks := tk } :=
  ⟨h', tk, m', o', rfl, F, N, hm, hj⟩

theorem loop_range1 {r : Addr} {a₀ b₀ c₀ : Int} {t₀ u₀ v₀ : Tok} (n : Nat) {m₀ : Str → Option Value} {l : Addr} {o₀ : Obj} {rest : List (Addr × Obj)} (P : Nat → Obj → Prop)
    (hh : A.handled = none) (hr : IsRange s.heap r a₀ b₀ c₀ t₀ u₀ v₀) (hsmall : Builtin.Range.small a₀ b₀ c₀ = true) (hsz : Builtin.Range.rangeSize a₀ b₀ c₀ = (n : Int))
    (F : Fr h₀ env.locals s.heap m₀) (N : News h₀ env.locals s.heap ((l, o₀) :: rest)) (hj : P 0 o₀)
    (turn : ∀ i t o h tk I oI, i < n → P i o → I ≠ l → (∀ p ∈ rest, p.1 ≠ I) → Fr h₀ env.locals h (fun y => if y = x then some (.int (a₀ + (i : Int) * c₀) t) else m₀ y) → News h₀ env.locals h ((I, oI) :: (l, o) :: rest) →
      wpAny (model prog w) A (execs body env) (TPost h₀ env.locals x m₀ l (P (i + 1)) rest I oI { s with heap := h, toks := tk } Q) E { s with heap := h, toks := tk })
    (done : ∀ (u : Option Value) o h tk, P n o → Fr h₀ env.locals h (fun y => if y = x then u else m₀ y) → News h₀ env.locals h ((l, o) :: rest) → Q .next { s with heap := h, toks := tk }) :
    wpAny (model prog w) A (pyIter (.ref r)) (fun it s₂ => LoopAtV prog w A h₀ env x body Q E it s₂) E s := by
  refine loop_rangeC n (fun i nx => ∃ o, nx = (l, o) :: rest ∧ P i o) hh hr hsmall hsz F N ⟨_, rfl, hj⟩ ?_ ?_
  · rintro i t news₁ h tk I oI hi ⟨o, rfl, hP⟩ hn F₁ N₁
    refine wpAny_mono (turn i t o h tk I oI hi hP (fun e => hn _ (List.mem_cons_self) e.symm) (fun p hp => hn p (List.mem_cons_of_mem _ hp)) F₁ N₁) (fun f s₂ p => ?_) fun _ _ e => e
    have hn' : ∀ o' : Obj, ∀ p ∈ (l, o') :: rest, p.1 ≠ I := fun o' p hp => by
      rcases List.mem_cons.mp hp with rfl | hp
      · exact hn (l, o) List.mem_cons_self
      · exact hn p (List.mem_cons_of_mem _ hp)
    cases f with
    | ret v => exact p
    | brk => exact p
    | next => obtain ⟨h', tk', m', o', e, F', N', hm', hj'⟩ := p; exact ⟨h', tk', m', _, e, F', N', hn' o', hm', o', rfl, hj'⟩
    | cont => obtain ⟨h', tk', m', o', e, F', N', hm', hj'⟩ := p; exact ⟨h', tk', m', _, e, F', N', hn' o', hm', o', rfl, hj'⟩
  · rintro u news₁ h tk ⟨o, rfl, hP⟩ F₁ N₁
    exact done u o h tk hP F₁ N₁
end

/-- a new list of texts comes back, all else stands -/
def GivesStrs (s : Shared) (ss : List Str) (v : Value) (s' : Shared) : Prop :=
  Keeps s s' ∧ ∃ r vs c, v = .ref r ∧ s.heap.get? r = none ∧ s'.heap.get? r = some (listOf vs.toArray c) ∧ StrsAre vs ss
theorem GivesStrs.intro {s : Shared} {ss : List Str} {h' : Heap} {tk : Nat} {L r : Addr} {m : Str → Option Value} {vs : List Value} {c : Nat} {news : List (Addr × Obj)} (F : Fr s.heap L h' m) (N : News s.heap L h' news) (hm : (r, listOf vs.toArray c) ∈ news)
    (hS : StrsAre vs ss) : GivesStrs s ss (.ref r) { s with heap := h', toks := tk } :=
  ⟨⟨h', tk, rfl, F.keep⟩, r, vs, c, rfl, (N _ hm).2.2, (N _ hm).1, hS⟩
theorem strsAre_snoc {vs : List Value} {ss : List Str} (h : StrsAre vs ss) (x : Str) (t : Tok) : StrsAre (vs ++ [.str x t]) (ss ++ [x]) := StrsAre.append' h (.cons x t .nil)
end Mine
end

section -- part Clr1
open PySem PySem.W PySem.Calls PyProof.Rows
set_option Elab.async false
set_option maxRecDepth 100000
set_option maxHeartbeats 4000000
namespace Mine
open Sem (wp)

/-- the built-in frames that may hold a bytearray's octets -/
def heldIds : List String := ["bytearray.__contains__", "bytearray.__mod__", "bytearray.__rmod__", "_struct.pack_into.held", "bytearray.find.held"] ++ Builtin.Bytes.decodersThatHold
def holdsOne : Code → Bool
  | .builtin id _ => heldIds.contains id
  | _ => false
/-- no frame below the running one holds a bytearray -/
abbrev Under (Γ : Ctx) : Prop := Γ.below.any (fun x => holdsOne x.1) = false
/-- no frame at all -/
abbrev Clear (Γ : Ctx) : Prop := holdsOne Γ.code = false ∧ Under Γ

def wpC {α : Type} (M : Model) (A : Around) (t : Sem α) (Q : α → Shared → Prop) (E : Value → Shared → Prop) (s : Shared) : Prop :=
  ∀ Γ p, Γ.In A → Clear Γ → wp M Γ t (fun a _ s' => Q a s') (fun e _ s' => E e s') p s
def codeC (M : Model) (A : Around) (c : Code) (R : Result → Shared → Prop) (s : Shared) : Prop :=
  ∀ Γ p, Γ.code = c → Γ.Below A → Under Γ → wpCode M Γ R p s

theorem held_ne {id : String} (h : heldIds.contains id = false) {l : String} (hl : heldIds.contains l = true) : id ≠ l := fun e => by rw [e, hl] at h; cases h
theorem decoder_not {id : String} (h : heldIds.contains id = false) : Builtin.Bytes.decodersThatHold.contains id = false := by
  cases hq : Builtin.Bytes.decodersThatHold.contains id with
  | false => rfl
  | true =>
    have z : heldIds.contains id = true := List.contains_iff_mem.mpr (List.mem_append_right _ (List.contains_iff_mem.mp hq))
    rw [h] at z
    cases z
theorem exported_clear {M : Model} {A : Around} {self : Value} {Q : Bool → Shared → Prop} {E : Value → Shared → Prop} {s : Shared} (h : Q false s) : wpC M A (Builtin.Bytes.exported self) Q E s := by
  intro Γ p _ hc
  have key : ∀ f : Code × Pos → Bool, (∀ x : Code × Pos, holdsOne x.1 = false → f x = false) → Q (((Γ.code, p) :: Γ.below).any f) s := by
    intro f hf
    rw [show (((Γ.code, p) :: Γ.below).any f) = false from ?_]
    · exact h
    · refine List.any_eq_false.mpr fun x hx => ?_
      rw [hf x ?_]
      · decide
      · rcases List.mem_cons.mp hx with rfl | hx
        · exact hc.1
        · simpa using List.any_eq_false.mp hc.2 x hx
  unfold Builtin.Bytes.exported
  rw [Sem.wp_bind']
  refine key _ fun ⟨c, q⟩ h1 => ?_
  cases c with
  | builtin id args =>
    obtain ⟨pos, kw⟩ := args
    have h1' : heldIds.contains id = false := h1
    delta Builtin.Bytes.exported.match_1
    delta Builtin.Bytes.exported._sparseCasesOn_1
    dsimp only
    refine (dif_neg (held_ne (l := "bytearray.__contains__") h1' (by decide +kernel))).trans ?_
    refine (dif_neg (held_ne (l := "bytearray.__mod__") h1' (by decide +kernel))).trans ?_
    refine (dif_neg (held_ne (l := "bytearray.__rmod__") h1' (by decide +kernel))).trans ?_
    refine (dif_neg (held_ne (l := "_struct.pack_into.held") h1' (by decide +kernel))).trans ?_
    refine (dif_neg (held_ne (l := "bytearray.find.held") h1' (by decide +kernel))).trans ?_
    cases pos with
    | nil => rfl
    | cons v r => exact Bool.and_eq_false_iff.mpr (.inr (decoder_not h1'))
  | _ => rfl

section
variable {α β : Type} {M : Model} {A : Around} {E : Value → Shared → Prop} {s : Shared}

theorem wpC_of_any {t : Sem α} {Q : α → Shared → Prop} (h : wpAny M A t Q E s) : wpC M A t Q E s := fun Γ p hΓ _ => h Γ p hΓ
theorem codeC_of_any {c : Code} {R : Result → Shared → Prop} (h : codeAny M A c R s) : codeC M A c R s := fun Γ p hc hΓ _ => h Γ p hc hΓ
theorem wpC_pure {a : α} {Q : α → Shared → Prop} (h : Q a s) : wpC M A (pure a) Q E s := fun _ _ _ _ => h
theorem wpC_mono {t : Sem α} {Q Q' : α → Shared → Prop} {E' : Value → Shared → Prop} (h : wpC M A t Q E s)
    (hQ : ∀ a s, Q a s → Q' a s) (hE : ∀ e s, E e s → E' e s) : wpC M A t Q' E' s :=
  fun Γ p hΓ hc => Sem.wp_mono M Γ t (fun a _ s => hQ a s) (fun e _ s => hE e s) p s (h Γ p hΓ hc)
theorem wpC_bind {m : Sem α} {f : α → Sem β} {Q : β → Shared → Prop} (h : wpC M A m (fun a s' => wpC M A (f a) Q E s') E s) : wpC M A (m >>= f) Q E s := fun Γ p hΓ hc => by
  rw [Sem.wp_bind']
  exact Sem.wp_mono M Γ m (fun a p' s' h' => h' Γ p' hΓ hc) (fun _ _ _ h' => h') p s (h Γ p hΓ hc)
/-- first something of which a rule of the library speaks, then the rest -/
theorem wpC_then {m : Sem α} {f : α → Sem β} {Q : β → Shared → Prop} (h : wpAny M A m (fun a s' => wpC M A (f a) Q E s') E s) : wpC M A (m >>= f) Q E s := wpC_bind (wpC_of_any h)
theorem wpC_onRaise {m : Sem α} {k : Value → Sem Unit} {Q : α → Shared → Prop} (h : wpC M A m Q (fun e s' => wpAny M A (k e) (fun _ s'' => E e s'') E s') s) : wpC M A (m.onRaise k) Q E s := fun Γ p hΓ hc => by
  rw [Sem.wp_onRaise]
  exact Sem.wp_mono M Γ m (fun _ _ _ h' => h') (fun e p' s' h' => h' Γ p' hΓ) p s (h Γ p hΓ hc)
theorem wpC_holding {vs : List Value} {m : Sem α} {Q : α → Shared → Prop} (h : wpC M A m Q E s) : wpC M A (holding vs m) Q E s :=
  fun Γ p hΓ hc => by rw [Sem.wp_holding]; exact h Γ p hΓ hc
theorem wpC_standAt {pos : Pos} {Q : Unit → Shared → Prop} (h : Q () s) : wpC M A (standAt pos) Q E s := fun _ _ _ _ => h
theorem wpC_runValue {c : Code} {Q : Value → Shared → Prop}
    (hc : codeC M A c (fun r s' => match r with | .ok (.ret v) => Q v s' | .ok _ => False | .error e => E e s') s) :
    wpC M A (runValue c) Q E s := fun Γ p hΓ hk => by
  rw [Sem.wp_runValue]
  refine hc _ p rfl (hΓ.enter c none p (by intro x; cases x)) ?_
  show ((Γ.code, p) :: Γ.below).any _ = false
  simp [hk.1, hk.2]
theorem wpC_call {f : Value} {pos : List Value} {kw : List (Str × Value)} {Q : Value → Shared → Prop}
    (hc : codeC M A (.call f ⟨pos, kw⟩) (fun r s' => match r with | .ok (.ret v) => Q v s' | .ok _ => False | .error e => E e s') s) :
    wpC M A (call f pos kw) Q E s := wpC_runValue hc
theorem codeC_of_tree {c : Code} {R : Result → Shared → Prop} (hcl : holdsOne c = false)
    (h : wpC M (A.under c) (M.den c) (fun fin s' => match fin with | .done f => R (.ok f) s' | .again c' => c'.quiet = true ∧ codeC M A c' R s')
      (fun e s' => R (.error e) s') s) : codeC M A c R s := fun Γ p hc hΓ hu => by
  rw [wpCode_iff_wp, hc]
  refine Sem.wp_mono M Γ _ (fun fin p' s' h' => ?_) (fun _ _ _ h' => h') p s (h Γ p (hc ▸ hΓ.in) ⟨by rw [hc]; exact hcl, hu⟩)
  cases fin with
  | done f => exact h'
  | again c' => exact ⟨h'.1, h'.2 (Γ.goto c') p' rfl (hΓ.goto c') hu⟩
end

section
variable {M : Model} {A : Around} {E : Value → Shared → Prop} {s : Shared} {env : Env}

theorem wpC_execs_cons {st : Stmt} {rest : List Stmt} {Q : Flow → Shared → Prop}
    (h : wpC M A (exec st env) (fun f s' => match f with | .next => wpC M A (execs rest env) Q E s' | f => Q f s') E s) :
    wpC M A (execs (st :: rest) env) Q E s := by
  rw [execs_cons]
  refine wpC_bind (wpC_mono h (fun f s' h' => ?_) fun _ _ x => x)
  cases f <;> first | exact h' | exact wpC_pure h'
theorem wpC_Assign_Name {x : Str} {pos' pos : Pos} {value : Expr} {Q : Flow → Shared → Prop}
    (h : wpC M A (eval value env) (fun v s₁ => wpAny M A (storeName env x v) (fun _ => Q .next) E s₁) E s)
    (hs : swapsWith value (some (.Name x pos')) pos.line env = pure false := by rfl) :
    wpC M A (exec (.Assign [.Name x pos'] value pos) env) Q E s := fun Γ p hΓ hc => by
  simp only [exec_Assign_Name env x pos' value pos hs, Sem.wp_bind', Sem.wp_cmd_standAt, Sem.wp_bindName, Sem.wp_pure']
  exact Sem.wp_mono M Γ _ (fun v _ s₁ h₁ => h₁ Γ _ hΓ) (fun _ _ _ h' => h') _ _ (h Γ _ hΓ hc)
theorem wpC_Return_some {e : Expr} {pos : Pos} {Q : Flow → Shared → Prop} (h : wpC M A (eval e env) (fun v => Q (.ret v)) E s) :
    wpC M A (exec (.Return (some e) pos) env) Q E s := fun Γ p hΓ hc => by
  simp only [exec_Return_some, Sem.wp_bind', Sem.wp_cmd_standAt, Sem.wp_pure']; exact h Γ _ hΓ hc
theorem wpC_Compare1 {l r : Expr} {op : CmpOp} {pos : Pos} {Q : Value → Shared → Prop}
    (h : wpC M A (eval l env) (fun a s₁ => wpAny M A (eval r env) (fun b s₂ => wpAny M A (compareOp op a b) Q E s₂) E s₁) E s)
    (hm : behindInMarks op r = false := by with_unfolding_all rfl) :
    wpC M A (eval (.Compare l [op] [r] pos) env) Q E s := fun Γ p hΓ hc => by
  simp only [eval_Compare1, markedBehindIn_of_false hm, Sem.wp_bind', Sem.wp_holding, Sem.wp_cmd_standAt, Sem.wp_operate]
  exact Sem.wp_mono M Γ _ (fun a p₁ s₁ h₁ => Sem.wp_mono M Γ _ (fun b _ s₂ h₂ => h₂ Γ _ hΓ) (fun _ _ _ h' => h') _ _ (h₁ Γ p₁ hΓ))
    (fun _ _ _ h' => h') _ _ (h Γ p hΓ hc)
theorem wpC_And {x y : Expr} {zs : List Expr} {pos : Pos} {Q : Value → Shared → Prop}
    (h : wpC M A (eval x env) (fun v s₁ => wpAny M A (truthy v) (fun t s₂ => if t then wpAny M A (eval (.BoolOp .And (y :: zs) pos) env) Q E s₂ else Q v s₂) E s₁) E s) :
    wpC M A (eval (.BoolOp .And (x :: y :: zs) pos) env) Q E s := by
  show wpC M A (do
    let v ← eval x env
    standAt pos
    let t ← holding [v] (truthy v)
    match BoolOp.And, t with
    | .And, false | .Or, true => pure v
    | _, _ => boolOp pos .And (evalEach (y :: zs) env)) Q E s
  refine wpC_bind (wpC_mono h (fun v s₁ h₁ => wpC_of_any (wpAny_bind (wpAny_standAt (wpAny_bind (wpAny_holding (wpAny_mono h₁ (fun t s₂ h₂ => ?_) fun _ _ x => x)))))) fun _ _ x => x)
  cases t with
  | false => exact wpAny_pure h₂
  | true => exact h₂
end
end Mine
end

section -- part Clr2
open PySem PySem.W PySem.Calls PyProof.Rows
set_option Elab.async false
set_option maxRecDepth 100000
set_option maxHeartbeats 4000000
namespace Mine
open Sem (wp)

section
variable {M : Model} {A : Around} {E : Value → Shared → Prop} {s : Shared} {env : Env}

theorem wpC_keep {α : Type} {vs : List Value} {m : Sem α} {Q : α → Shared → Prop} (h : wpC M A m Q E s) : wpC M A (m.keep vs) Q E s :=
  fun Γ p hΓ hc => by rw [Sem.wp_keep]; exact h Γ p hΓ hc
theorem wpC_operate {vs : List Value} {m : Sem Value} {Q : Value → Shared → Prop} (h : wpC M A m Q E s) : wpC M A (operate vs m) Q E s :=
  fun Γ p hΓ hc => by rw [Sem.wp_operate]; exact h Γ p hΓ hc

/-- a row of plain arguments: the first in clear contexts, the others anywhere -/
theorem wpC_spliced {x : Sem Value} {rest : List (Bool × Sem Value)} {Q : List Value → Shared → Prop}
    (h : wpC M A x (fun v s₁ => wpAny M A (spliced rest) (fun vs s₂ => Q (v :: vs) s₂) E s₁) E s) : wpC M A (spliced ((false, x) :: rest)) Q E s := by
  rw [spliced]
  refine wpC_bind (wpC_mono h (fun v s₁ h₁ => wpC_of_any ?_) fun _ _ x => x)
  simp only [Bool.false_eq_true, if_false]
  exact wpAny_bind (wpAny_pure (wpAny_bind (wpAny_holding (wpAny_mono h₁ (fun vs s₂ h₂ => wpAny_pure h₂) fun _ _ x => x))))
theorem wpC_evalArgs {f : Value} {x : Sem Value} {rest : List (Bool × Sem Value)} {Q : Args → Shared → Prop}
    (h : wpC M A (spliced ((false, x) :: rest)) (fun vs s' => Q ⟨vs, []⟩ s') E s) : wpC M A (evalArgs f true ((false, x) :: rest) []) Q E s := by
  unfold evalArgs
  show wpC M A (spliced ((false, x) :: rest) >>= _) Q E s
  refine wpC_bind (wpC_mono h (fun vs s' h' => wpC_of_any ?_) fun _ _ x => x)
  refine wpAny_holding ?_
  exact wpAny_bind (wpAny_pure (wpAny_bind (wpAny_pure (wpAny_pure h'))))

theorem wpC_callWith_type {pos : Pos} {T : String} {args : List (Bool × Sem Value)} {Q : Value → Shared → Prop} (hplain : args.any (·.1) = false)
    (h : wpC M A (evalArgs (.type T) true args []) (fun a s₁ => wpC M A (call (.type T) ([] ++ a.pos) a.kw) Q E s₁) E s) :
    wpC M A (callWith pos (.type T) [] args []) Q E s := by
  unfold callWith
  refine wpC_bind (wpC_holding (wpC_mono h (fun a s₁ h₁ => wpC_bind (wpC_standAt ?_)) fun _ _ x => x))
  simp only [hplain, List.any_nil, Bool.or_false]
  refine wpC_bind (wpC_pure ?_)
  exact wpC_bind (wpC_mono h₁ (fun r s₂ hr => wpC_of_any (wpAny_bind (wpAny_holding (wpAny_point (wpAny_pure hr))))) fun _ _ x => x)

theorem wpC_callWith_function {pos : Pos} {a : Addr} {o : Obj} {fd : FuncData} {args : List (Bool × Sem Value)} {Q : Value → Shared → Prop}
    (h : wpC M A (evalArgs (.ref a) true args []) (fun x s₁ => (s₁.heap.get? a = some o ∧ o.data = .func fd) ∧ wpC M A (call (.ref a) ([] ++ x.pos) x.kw) Q E s₁) E s) :
    wpC M A (callWith pos (.ref a) [] args []) Q E s := by
  unfold callWith
  refine wpC_bind (wpC_holding (wpC_mono h (fun x s₁ h₁ => wpC_bind (wpC_standAt ?_)) fun _ _ x => x))
  have tail : ∀ {t : Sem Value}, wpC M A t Q E s₁ → wpC M A (t >>= fun r => holding [r] point >>= fun _ => pure r) Q E s₁ :=
    fun ht => wpC_bind (wpC_mono ht (fun r s₂ hr => wpC_of_any (wpAny_bind (wpAny_holding (wpAny_point (wpAny_pure hr))))) fun _ _ x => x)
  cases hs : args.any (·.1) <;> simp only [List.any_nil, Bool.or_false] <;>
    refine wpC_then (m := keeperOf (.ref a)) ?_ <;> unfold keeperOf <;>
    refine wpAny_bind (wpAny_load h₁.1.1 ?_) <;> rw [h₁.1.2] <;> refine wpAny_pure ?_
  · dsimp only
    split
    · exact tail h₁.2
    · exact tail (by unfold callMarked; exact wpC_keep h₁.2)
  · exact tail (by unfold callMarked; exact wpC_keep h₁.2)

theorem wpC_callType1 {T : String} {pos : Pos} {e : Expr} {Q : Value → Shared → Prop} (h : wpAny M A (eval e env) (fun v s₁ => wpC M A (call (.type T) [v]) Q E s₁) E s)
    (he : backTo pos (starEach [e] env) = [(false, eval e env)] := by rfl) (hk : backToKw pos (keywordEach [] env) = [] := by rfl) :
    wpC M A (callWith pos (.type T) [] (backTo pos (starEach [e] env)) (backToKw pos (keywordEach [] env))) Q E s := by
  rw [he, hk]
  exact wpC_callWith_type rfl (wpC_of_any (evalArgs_plain (spliced_cons (wpAny_mono h (fun v s₁ h₁ => spliced_nil h₁) fun _ _ x => x))))
/-- T(e), e in clear contexts -/
theorem wpC_callTypeC {T : String} {pos : Pos} {e : Expr} {Q : Value → Shared → Prop} (h : wpC M A (eval e env) (fun v s₁ => wpAny M A (call (.type T) [v]) Q E s₁) E s)
    (he : backTo pos (starEach [e] env) = [(false, eval e env)] := by rfl) (hk : backToKw pos (keywordEach [] env) = [] := by rfl) :
    wpC M A (callWith pos (.type T) [] (backTo pos (starEach [e] env)) (backToKw pos (keywordEach [] env))) Q E s := by
  rw [he, hk]
  exact wpC_callWith_type rfl (wpC_evalArgs (wpC_spliced (wpC_mono h (fun v s₁ h₁ => spliced_nil (wpC_of_any h₁)) fun _ _ x => x)))
/-- f(e, e'), f a def -/
theorem wpC_callFn2 {a : Addr} {o : Obj} {fd : FuncData} {pos : Pos} {e e' : Expr} {Q : Value → Shared → Prop} (hd : o.data = .func fd)
    (h : wpAny M A (eval e env) (fun v s₁ => wpAny M A (eval e' env) (fun v' s₂ => s₂.heap.get? a = some o ∧ wpC M A (call (.ref a) [v, v']) Q E s₂) E s₁) E s)
    (he : backTo pos (starEach [e, e'] env) = [(false, eval e env), (false, eval e' env)] := by rfl) (hk : backToKw pos (keywordEach [] env) = [] := by rfl) :
    wpC M A (callWith pos (.ref a) [] (backTo pos (starEach [e, e'] env)) (backToKw pos (keywordEach [] env))) Q E s := by
  rw [he, hk]
  exact wpC_callWith_function (wpC_of_any (evalArgs_plain (spliced_cons (wpAny_mono h (fun v s₁ h₁ => spliced_cons (wpAny_mono h₁ (fun v' s₂ h₂ => spliced_nil ⟨⟨h₂.1, hd⟩, h₂.2⟩) fun _ _ x => x)) fun _ _ x => x))))
/-- f(e, e'), e in clear contexts -/
theorem wpC_callFn2C {a : Addr} {o : Obj} {fd : FuncData} {pos : Pos} {e e' : Expr} {Q : Value → Shared → Prop} (hd : o.data = .func fd)
    (h : wpC M A (eval e env) (fun v s₁ => wpAny M A (eval e' env) (fun v' s₂ => s₂.heap.get? a = some o ∧ wpAny M A (call (.ref a) [v, v']) Q E s₂) E s₁) E s)
    (he : backTo pos (starEach [e, e'] env) = [(false, eval e env), (false, eval e' env)] := by rfl) (hk : backToKw pos (keywordEach [] env) = [] := by rfl) :
    wpC M A (callWith pos (.ref a) [] (backTo pos (starEach [e, e'] env)) (backToKw pos (keywordEach [] env))) Q E s := by
  rw [he, hk]
  exact wpC_callWith_function (wpC_evalArgs (wpC_spliced (wpC_mono h (fun v s₁ h₁ => spliced_cons (wpAny_mono h₁ (fun v' s₂ h₂ => spliced_nil ⟨⟨h₂.1, hd⟩, wpC_of_any h₂.2⟩) fun _ _ x => x)) fun _ _ x => x)))

/-- «f(args)», f a name of the globals -/
theorem wpC_Call_Name {id : Str} {p pos : Pos} {args : List Expr} {keywords : List Keyword} {Q : Value → Shared → Prop}
    (h : wpAny M A (eval (.Name id p) env) (fun f s₁ => wpC M A (callWith pos f [] (backTo pos (starEach args env)) (backToKw pos (keywordEach keywords env))) Q E s₁) E s) :
    wpC M A (eval (.Call (.Name id p) args keywords pos) env) Q E s := by
  rw [arm_eval_Call_Name']
  exact wpC_then h
end

section
variable {prog : Program} {w : World} {A : Around} {E : Value → Shared → Prop} {s : Shared} {K : Frag} {Q : Value → Shared → Prop}

theorem codeC_func {R : Result → Shared → Prop} {body : List Stmt} {env : Env}
    (h : wpC (model prog w) (A.deeper env) (execs body env) (fun f s' => R (.ok (.ret (match f with | .ret v => v | _ => .none))) s')
      (fun e s' => wpAny (model prog w) (A.deeper env) (leaving env e) (fun _ s'' => R (.error e) s'') (fun e' s'' => R (.error e') s'') s') s) :
    codeC (model prog w) A (.func body env) R s := by
  refine codeC_of_tree rfl ?_
  show wpC _ (A.deeper env) (do point; match ← (execs body env).onRaise (leaving env) with | .ret v => ret v | _ => ret .none) _ _ s
  refine wpC_then (wpAny_point (wpC_bind ?_))
  intro Γ p hΓ hc
  rw [Sem.wp_onRaise]
  refine Sem.wp_mono _ Γ _ (fun f p' s' h' => ?_) (fun e p' s' h' => h' Γ p' hΓ) p s (h Γ p hΓ hc)
  cases f <;> exact fun _ _ _ _ => h'

theorem codeC_call_function {R : Result → Shared → Prop} {a : Addr} {args : Args} {o : Obj} {fd : FuncData} {body : List Stmt} (hroom : A.depth < recursionLimit)
    (ho : s.heap.get? a = some o) (hd' : o.data = .func fd) (hco : fd.scope.isCoroutine = false) (hgen : fd.scope.isGenerator = false) (hbody : fd.body = .stmts body) (hcd : s.heap.CodeRec fd.code fd.qualname)
    (h : wpAny (model prog w) A.in1 (bindArgs fd args) (fun binds s₁ =>
      wpAny (model prog w) A.in1 (newFunctionEnv fd.scope fd.globals fd.closure binds (fd.qualname ++ ".<locals>.") (some a) fd.code none fd.builtins)
        (fun env s₂ => s₂.heap.NoLimit ∧ codeC (model prog w) A (.func body env) R s₂) (fun e s' => R (.error e) s') s₁) (fun e s' => R (.error e) s') s) :
    codeC (model prog w) A (.call (.ref a) args) R s := by
  refine codeC_of_tree rfl ?_
  show wpC _ A.in1 (callAny (.ref a) args) _ _ s
  refine wpC_of_any ?_
  simp only [callAny]
  refine wpAny_bind (wpAny_load ho ?_)
  obtain ⟨c, oc, vs, tq, hc, hoc, hdc, hq⟩ := hcd
  simp only [hd', callFunction, hco, hgen, hbody, hc]
  rw [hc] at h
  refine wpAny_bind (m := field (.ref c) 1) (wpAny_field hoc hdc hq (wpAny_bind (wpAny_pure ?_)))
  exact wpAny_bind (wpAny_mono h (fun binds s₁ h₁ => wpAny_bind (wpAny_mono h₁ (fun env s₂ h₂ => wpAny_bind (wpAny_enterFrame h₂.1 hroom
    (wpAny_pure (And.intro rfl h₂.2)))) fun _ _ h' => h')) fun _ _ h' => h')

/-- a def is entered in clear contexts -/
theorem enterC {name qual : Str} {params : Arguments} {body : List Stmt} {scope : Scope} {dV kV doc pm cdv ct oc : Value} {an od : Option Addr} {osl : Array (Option Value)} {f : Addr} {vals : List Value} {kw : List (Str × Value)} {binds : List (Str × Value)}
    (X : K.In s.heap) (hlim : s.heap.NoLimit)
    (ho : K.lookup f = some ⟨oc, od, .func (fnOf name qual params body scope dV kV doc pm an cdv ct), osl⟩) (hcd : codeIn K cdv qual = true) (hroom : A.depth < recursionLimit)
    (hbind : BindsTo s (fnOf name qual params body scope dV kV doc pm an cdv ct) ⟨vals, kw⟩ binds) (hloc : ∀ y ∈ binds, scope.names.lookup y.1 = some .local)
    (h : ∀ L h₁, Fr s.heap L h₁ (fun y => binds.reverse.lookup y) →
      wpC (model prog w) (A.deeper (envOf qual scope L f cdv)) (execs body (envOf qual scope L f cdv))
        (fun fl s' => Q (match fl with | .ret v => v | _ => .none) s')
        (fun e s' => wpAny (model prog w) (A.deeper (envOf qual scope L f cdv)) (leaving (envOf qual scope L f cdv) e) (fun _ s'' => E e s'') (fun e' s'' => E e' s'') s')
        { s with heap := h₁, toks := s.toks + binds.length })
    (hco : scope.isCoroutine = false) (hgen : scope.isGenerator = false) (hk : scope.kind = .function)
    (hcell : ∀ x ∈ scope.names, x.2 ≠ .cell) : wpC (model prog w) A (call (.ref f) vals kw) Q E s := by
  refine wpC_call ?_
  refine codeC_call_function (fd := fnOf name qual params body scope dV kV doc pm an cdv ct) (body := body) hroom (X _ _ ho) rfl hco hgen rfl (codeRec_of X hcd) (hbind _ _ _ _ ?_)
  refine wpAny_newFunctionEnv hcell hloc (fun h₀ hns₀ hsb₀ => ⟨hlim.fresh _ hsb₀, codeC_func ?_⟩) hk
  refine h _ h₀ ⟨hns₀, fun b o e => ?_, Nat.le_refl _⟩
  exact hsb₀.extBut b o (Nat.ne_of_lt (Heap.lt_size e)) (Heap.get?_push_of_some _ e)
end
end Mine
end

section -- part HeadC
open PySem PySem.W PySem.Calls PyProof.Rows
set_option Elab.async false
set_option maxRecDepth 100000
set_option maxHeartbeats 4000000
namespace Mine
open Sem (wp)

/-- the caller's own context has no frame that holds a bytearray -/
theorem clear_caller : Clear (⟨.builtin "claim.caller" {}, none, none, [], none⟩ : Ctx) := ⟨by decide, rfl⟩

theorem thread_endsC {prog : Program} {w : World} {t : Sem Fin} {s : Shared} {R : Result → Shared → Prop} (hreg : s.asleep)
    (h : wpC (model prog w) callerA t (fun fin s' => ∃ f, fin = .done f ∧ (R (.ok f) s' ∧ leftWithCleanup s'.gens = false)) (fun e s' => R (.error e) s' ∧ leftWithCleanup s'.gens = false) s) :
    ∃ n r s' s'', runN (denote table) prog w n s ⟨t, .builtin "claim.caller" {}, default, []⟩ = .halted (outcomeOf r) s' ∧
      schedN (denote table) prog w n (.single s ⟨t, .builtin "claim.caller" {}, default, []⟩) = .halted (outcomeOf r) s' ∧ s'.forget = s''.forget ∧ R r s'' := by
  have h' : wp (model prog w) ⟨.builtin "claim.caller" {}, none, none, [], none⟩ t (Sem.finPost (model prog w) ⟨.builtin "claim.caller" {}, none, none, [], none⟩ fun r s' => R r s' ∧ leftWithCleanup s'.gens = false)
      (fun e _ s' => R (.error e) s' ∧ leftWithCleanup s'.gens = false) default s := by
    refine Sem.wp_mono _ _ t (fun fin p' s' h' => ?_) (fun _ _ _ h' => h') default s (h _ default caller_in clear_caller)
    obtain ⟨f, rfl, hf⟩ := h'
    exact hf
  obtain ⟨n, r, s₁, s₂, hs, hn, hfo, hR⟩ := wp_halts_full (M := model prog w) (R := R) hreg h'
  exact ⟨n, r, s₂, s₁, hn, hs, hfo, hR⟩

theorem callFrom_C {c : ClaimW} {tree : List Value → Sem Fin} {w : World} {s : Shared} {free : Addr → Prop} {gens : Prop} {kept : Heap → Prop} (hz : s.asleep) (hgens : s.gens = #[])
    (hspec : ∀ args, c.pre args = true → WData.layableAll args = true →
      ∀ ord : List DictEntry → List DictEntry, (∀ l, (ord l).Perm l) →
      ∃ vs s₁, layAllW c.records (classAt s.heap) w.params ord args s = some (vs, s₁) ∧
        wpC (model c.prog w) callerA (tree vs) (fun fin s' => ∃ f, fin = .done f ∧ (c.Ends s args vs s₁ (.ok f) s' ∧ s'.os = s.os ∧ AllBare s'.gens ∧ kept s'.heap))
          (fun e s' => c.Ends s args vs s₁ (.error e) s' ∧ s'.os = s.os ∧ AllBare s'.gens ∧ kept s'.heap) s₁) :
    c.CallFrom (fun vs => ⟨tree vs, .builtin "claim.caller" {}, default, []⟩) w free gens kept s := by
  intro args hpre hlay ord hord
  obtain ⟨vs, s₁, hlaid, hcode⟩ := hspec args hpre hlay ord hord
  have hal := layAllW_rest _ _ _ hlaid
  obtain ⟨k, r, s', s'', hrun, hsched, hfo, hcase, hos, hkp⟩ := thread_endsC (prog := c.prog) (w := w) (t := tree vs) (s := s₁)
    (R := fun r s' => c.Ends s args vs s₁ r s' ∧ s'.os = s.os ∧ kept s'.heap)
    (Shared.asleep_of_life hal.2.2.2 hz)
    (wpC_mono hcode (by
      rintro fin s' ⟨f, e, h1, h2, h3, h4⟩
      exact ⟨f, e, ⟨h1, h2, h4⟩, leftWithCleanup_false_of_bare h3⟩) (by
      rintro e s' ⟨h1, h2, h3, h4⟩
      exact ⟨⟨h1, h2, h4⟩, leftWithCleanup_false_of_bare h3⟩))
  obtain ⟨eh, _, _, eo, _⟩ := Shared.forget_eq hfo
  have hcase := hcase.congr eh
  have hkp : kept s'.heap := by first | exact eh ▸ hkp | (rw [eh] at hkp; exact hkp) | (rw [← eh] at hkp; exact hkp)
  rw [← eo] at hos
  have hlife : s'.heap.life = s.heap.life := (runN_life _ _ _ hrun).trans hal.2.2.2
  refine ⟨vs, s₁, hlaid, k, _, s', hsched, ?_, (fun _ i x hx => by rw [hgens] at hx; simp at hx), hkp, by rw [hlife], Shared.rest_eq hos⟩
  rcases hcase with ⟨v, rfl, d1, d2, d3, d4, d5⟩ | ⟨e, ob, cls, rfl, d1, d2, d3, d4, d5⟩
  · exact .inl ⟨v, rfl, d1, d2, d3, fun b o y _ => d4 b o y, d5⟩
  · exact .inr ⟨e, ob, cls, rfl, d1, d2, d3, d4, fun b o y _ => d5 b o y⟩

/-- what is left of a law behind its head: its call, in clear contexts -/
abbrev WalkC (q : Program) (loose : List Str) (XP : (Str → Option Value) → Heap → Prop) (YP : World → Heap → Prop) (r : RowW) (d : DefRec) (kwd : List (Str × Expr)) : Prop :=
  ∀ (w : World) (s₀ s₁ : Shared) (mg mb : Str → Option Value), Ground q loose r.records XP w s₀ mg mb s₁.heap → YP w s₁.heap → ∀ (a : Addr) (o : Obj) (pm cd doc dV kV : Value), s₁.heap.get? a = some o →
    o.data = .func { docDef d.name d.params d.body d.scope pm cd doc with defaults := dV, kwdefaults := kV } → s₁.heap.CodeRec cd d.name → Dflts mg s₁.heap d.params kwd dV kV → mg d.name = some (.ref a) → s₁.gens = #[] →
    ∀ (args : List WData) (vals : List Value) (as : List Addr), r.claim.pre args = true → WData.layableAll args = true → ReadsAllW r.records (classAt s₀.heap) s₁.heap vals args as → WellAll w.params s₁.heap vals args → (∀ a ∈ as, (a == sysModules) = false) →
      wpC (model r.prog w) callerA (PySem.call (.ref a) vals) (fun v s' => GoodWG r.claim (classAt s₀.heap) (ExcName.means s₀.heap) args s₁ (.ok (.ret v)) s')
        (fun e s' => GoodWG r.claim (classAt s₀.heap) (ExcName.means s₀.heap) args s₁ (.error e) s') s₁

end Mine

theorem Mine.PySem.W.holds_open {r : OpenRow} {q : Program} {loose : List Str} {Xt : Shared → Bool} {XP : (Str → Option Value) → Heap → Prop} {α : Type} {Yf : Shared → α} {Ya : World → α} {YP : World → Heap → Prop} {d : DefRec} {kwd : List (Str × Expr)} {N : Nat}
    (left : LeftO r.prog q loose Xt Yf Ya N) (hY : ∀ w s, Yf s = Ya w → YP w s.heap) (hYk : ∀ w h h', YP w h → (∀ b o, h.get? b = some o → h'.get? b = some o) → YP w h')
    (hX : ∀ s, Xt s = true → XP (s.heap.nsMap mainGlobals) s.heap) (hXk : ∀ mg h h', XP mg h → (∀ b o, h.get? b = some o → h'.get? b = some o) → XP mg h')
    (hdef : defOf q r.name = some (d, kwd)) (hp : r.prog.theDef r.name = some (d.params, d.body, d.scope)) (hk : kwWritten? d.params.kwonlyargs d.params.kw_defaults = some kwd) (hRf : ∀ s, Xt s = true → RecFacts r.records s.heap) (hwr : (!r.writes || r.records.isEmpty) = true)
    (k1 : r.wellSaid = true) (ok : (chainsOk q && opensWell r.prog && (frees r.toRowW && r.within.isEmpty)) = true) (hb : r.prog.bare) (hw : r.toRowW.promised)
    (call : WalkC q loose XP YP r.toRowW d kwd) : r.Holds := by
  refine ⟨k1, hw, ?_⟩
  obtain ⟨ok, k5⟩ := Bool.and_eq_true_iff.mp ok
  obtain ⟨hch, o1⟩ := Bool.and_eq_true_iff.mp ok
  obtain ⟨k5, k6⟩ := Bool.and_eq_true_iff.mp k5
  obtain ⟨hsame, hu, ha, hap, hm⟩ := frees_parts k5
  refine ⟨⟨hb, o1, by show r.toRowW.makers.map _ = []; rw [hm]; rfl⟩, hw.witness, fun w => ⟨(left.behind hX hch w).1, fun s' hs' => ?_⟩⟩
  obtain ⟨s₀, hf, hg0, s, hT, hz, hgens, hg, G00, y⟩ := (left.behind (XP := fun mg h => XP mg h ∧ RecFacts r.records h) (fun s hs => ⟨hX s hs, hRf s hs⟩) hch w).2 s' hs'
  have G0 : Ground q loose [] XP w s (s.heap.nsMap mainGlobals) (s.heap.nsMap builtinsNs) s.heap := ⟨G00.T, G00.B, G00.D, G00.TE, G00.TD, G00.W, G00.X.1, G00.cls, G00.has, G00.apart, G00.once, G00.K⟩
  have RF := G00.X.2
  have hT' := hT
  refine ⟨s₀, hf, hg0, s, hT, ?_, RF.1, RF.2.1, ?_⟩
  · intro n hn
    obtain rfl : n = r.name := by split at hn <;> simp_all
    exact pinned_of_view hg G0 hdef hp hk
  have hgens : s.gens = #[] := Array.eq_empty_of_size_eq_zero (beq_iff_eq.mp hgens)
  have G : Ground q loose r.records XP w s _ _ s.heap := RF.ground G0
  refine callFrom_C (c := r.toRowW.claim) hz hgens fun args hpre hlay ord hord => ?_
  obtain ⟨⟨vs, s₁⟩, hlaid⟩ := Option.isSome_iff_exists.mp (layAllW_isSome (P := w.params) (ord := ord) G.has args r.toRowW.args s (pre_splitW hpre).1)
  have keeps := layAllW_keeps _ _ _ hlaid
  have hal := layAllW_rest _ _ _ hlaid
  obtain ⟨as, hrd, hin, hold⟩ := reads_layAllW hord _ _ _ hlaid hlay s₁.heap (fun _ _ e => e)
  have L : Laid r.toRowW.records w s s₁ args vs as := ⟨⟨ord, hord, hlaid⟩, hrd, hin, hold, keeps, hal.1.trans hgens, hal.2.2.1⟩
  have G₁ := G.keeps hXk keeps
  obtain ⟨a, o, pm, cd, doc, dV, kV, h1, h2, h3, h4, h5⟩ := G₁.fn hdef
  have h := call w s s₁ _ _ G₁ (hYk _ _ _ (hY w s y) keeps) a o pm cd doc dV kV h2 h3 h4 h5 (defOf_name hdef ▸ h1) L.gens args vs as hpre hlay L.reads L.well (L.low G.low)
  have hi := ident_freeW hu ha hap
  have hwi : r.toRowW.claim.within = [] := List.isEmpty_iff.mp k6
  refine ⟨vs, s₁, hlaid, ?_⟩
  refine wpC_then (wpAny_nsGet G₁.T.g ?_)
  rw [h1]
  refine wpC_bind (wpC_mono h (fun v s' g => wpC_pure ⟨_, rfl, have z := g.laid (c := r.toRowW.claim) hsame hwi hi L; ⟨z.1, z.2.1, z.2.2, fun q => ⟨namesKept_of hT' hg _ keeps g.2.1.old, noTable hwr q⟩⟩⟩) fun e s' g =>
    have z := g.laid (c := r.toRowW.claim) hsame hwi hi L; ⟨z.1, z.2.1, z.2.2, fun q => ⟨namesKept_of hT' hg _ keeps g.2.1.old, noTable hwr q⟩⟩)
end

section -- part HeadK2
open PySem PySem.W PySem.Calls PyProof.Rows
set_option Elab.async false
set_option maxRecDepth 100000
set_option maxHeartbeats 8000000
namespace Mine
/-- the program's statements that count for the names -/
def hd.view_39 : Program := { PySem.Challenge.rw_il0107_02.row.prog with main := { PySem.Challenge.rw_il0107_02.row.prog.main with body := [0, 1, 3, 4, 6, 8, 10, 12, 13, 14, 15].filterMap fun i => PySem.Challenge.rw_il0107_02.row.prog.main.body[i]? } }
/-- the function that the program's i-th statement leaves -/
def fobj (i : Nat) (pm cd : Value) : Obj := match PySem.Challenge.rw_il0107_02.row.prog.main.body[i]? with
  | some (.FunctionDef name params body _ _ _ scope _ _ _) => ⟨.type "function", none, .func (fnOf name name params body scope .none .none .none pm none cd .none), #[]⟩
  | _ => ⟨.none, none, .plain, #[]⟩
/-- objects that stand when the law is called: the names, the map of escape, the functions and their codes -/
def hd.heap_39 : Params → Frag := fun P => [
  (nat_lit 3, Obj.mk (Value.type "dict") none (Data.dict #[DictEntry.mk (PyData.keyHash P (Str.ofString "__name__")) (Value.str (Str.ofString "__name__") 165) (Value.str (Str.ofString "law_il0107_02") 521), DictEntry.mk (PyData.keyHash P (Str.ofString "__doc__")) (Value.str (Str.ofString "__doc__") 166) Value.none, DictEntry.mk (PyData.keyHash P (Str.ofString "__package__")) (Value.str (Str.ofString "__package__") 167) Value.none, DictEntry.mk (PyData.keyHash P (Str.ofString "__loader__")) (Value.str (Str.ofString "__loader__") 168) (Value.builtin "__main__.__loader__#opaque"), DictEntry.mk (PyData.keyHash P (Str.ofString "__spec__")) (Value.str (Str.ofString "__spec__") 169) Value.none, DictEntry.mk (PyData.keyHash P (Str.ofString "__annotations__")) (Value.str (Str.ofString "__annotations__") 170) (Value.ref 6), DictEntry.mk (PyData.keyHash P (Str.ofString "__builtins__")) (Value.str (Str.ofString "__builtins__") 171) (Value.ref 4), DictEntry.mk (PyData.keyHash P (Str.ofString "__file__")) (Value.str (Str.ofString "__file__") 173) (Value.str (Str.ofString "/claim/cut.py") 172), DictEntry.mk (PyData.keyHash P (Str.ofString "__cached__")) (Value.str (Str.ofString "__cached__") 174) Value.none, DictEntry.mk (PyData.keyHash P (Str.ofString "_sre")) (Value.str (Str.ofString "_sre") 275) (Value.ref 12), DictEntry.mk (PyData.keyHash P (Str.ofString "_twin_re_1")) (Value.str (Str.ofString "_twin_re_1") 319) (Value.ref 36), DictEntry.mk (PyData.keyHash P (Str.ofString "_special_chars_map")) (Value.str (Str.ofString "_special_chars_map") 467) (Value.ref 38), DictEntry.mk (PyData.keyHash P (Str.ofString "escape")) (Value.str (Str.ofString "escape") 474) (Value.ref 48), DictEntry.mk (PyData.keyHash P (Str.ofString "_translate")) (Value.str (Str.ofString "_translate") 495) (Value.ref 55), DictEntry.mk (PyData.keyHash P (Str.ofString "unorderable_list_difference")) (Value.str (Str.ofString "unorderable_list_difference") 507) (Value.ref 62), DictEntry.mk (PyData.keyHash P (Str.ofString "_byteswap")) (Value.str (Str.ofString "_byteswap") 520) (Value.ref 69), DictEntry.mk (PyData.keyHash P (Str.ofString "_law_octets")) (Value.str (Str.ofString "_law_octets") 528) (Value.ref 74), DictEntry.mk (PyData.keyHash P (Str.ofString "_law_samples")) (Value.str (Str.ofString "_law_samples") 534) (Value.ref 79), DictEntry.mk (PyData.keyHash P (Str.ofString "_law_parts")) (Value.str (Str.ofString "_law_parts") 543) (Value.ref 86), DictEntry.mk (PyData.keyHash P (Str.ofString "law")) (Value.str (Str.ofString "law") 549) (Value.ref 91)] 20) #[]),
  (nat_lit 38, Obj.mk (Value.type "dict") none (Data.dict #[DictEntry.mk 40 (Value.int 40 323) (Value.str (Str.ofString "\\(") 327), DictEntry.mk 41 (Value.int 41 329) (Value.str (Str.ofString "\\)") 333), DictEntry.mk 91 (Value.int 91 335) (Value.str (Str.ofString "\\[") 339), DictEntry.mk 93 (Value.int 93 341) (Value.str (Str.ofString "\\]") 345), DictEntry.mk 123 (Value.int 123 347) (Value.str (Str.ofString "\\{") 351), DictEntry.mk 125 (Value.int 125 353) (Value.str (Str.ofString "\\}") 357), DictEntry.mk 63 (Value.int 63 359) (Value.str (Str.ofString "\\?") 363), DictEntry.mk 42 (Value.int 42 365) (Value.str (Str.ofString "\\*") 369), DictEntry.mk 43 (Value.int 43 371) (Value.str (Str.ofString "\\+") 375), DictEntry.mk 45 (Value.int 45 377) (Value.str (Str.ofString "\\-") 381), DictEntry.mk 124 (Value.int 124 383) (Value.str (Str.ofString "\\|") 387), DictEntry.mk 94 (Value.int 94 389) (Value.str (Str.ofString "\\^") 393), DictEntry.mk 36 (Value.int 36 395) (Value.str (Str.ofString "\\$") 399), DictEntry.mk 92 (Value.int 92 401) (Value.str (Str.ofString "\\\\") 405), DictEntry.mk 46 (Value.int 46 407) (Value.str (Str.ofString "\\.") 411), DictEntry.mk 38 (Value.int 38 413) (Value.str (Str.ofString "\\&") 417), DictEntry.mk 126 (Value.int 126 419) (Value.str (Str.ofString "\\~") 423), DictEntry.mk 35 (Value.int 35 425) (Value.str (Str.ofString "\\#") 429), DictEntry.mk 32 (Value.int 32 431) (Value.str (Str.ofString "\\ ") 435), DictEntry.mk 9 (Value.int 9 437) (Value.str (Str.ofString "\\\t") 441), DictEntry.mk 10 (Value.int 10 443) (Value.str (Str.ofString "\\\n") 447), DictEntry.mk 13 (Value.int 13 449) (Value.str (Str.ofString "\\\x0d") 453), DictEntry.mk 11 (Value.int 11 455) (Value.str (Str.ofString "\\\x0b") 459), DictEntry.mk 12 (Value.int 12 461) (Value.str (Str.ofString "\\\x0c") 465)] 24) #[]),
  (nat_lit 47, Obj.mk (Value.type "code") none (Data.fields #[Value.str (Str.ofString "escape") 468, Value.str (Str.ofString "escape") 469, Value.str (Str.ofString "/claim/cut.py") 470, Value.int 5 0, Value.int 1 0, Value.int 0 0, Value.int 0 0, Value.int 3 0, Value.ref 42, Value.bool true, Value.int 276 0, Value.ref 43, Value.none, Value.ref 44, Value.ref 45, Value.ref 46, Value.int 472 0, Value.int 5 0, Value.str (Str.ofString "/claim/cut.py") 473]) #[]),
  (nat_lit 48, fobj 4 (Value.str (Str.ofString "re") 320) (Value.ref 47)),
  (nat_lit 54, Obj.mk (Value.type "code") none (Data.fields #[Value.str (Str.ofString "_translate") 477, Value.str (Str.ofString "_translate") 478, Value.str (Str.ofString "/claim/cut.py") 479, Value.int 12 0, Value.int 3 0, Value.int 0 0, Value.int 0 0, Value.int 3 0, Value.ref 49, Value.bool true, Value.int 276 0, Value.ref 50, Value.none, Value.ref 51, Value.ref 52, Value.ref 53, Value.int 493 0, Value.int 12 0, Value.str (Str.ofString "/claim/cut.py") 494]) #[]),
  (nat_lit 55, fobj 6 (Value.str (Str.ofString "cpy313.fnmatch") 475) (Value.ref 54)),
  (nat_lit 61, Obj.mk (Value.type "code") none (Data.fields #[Value.str (Str.ofString "unorderable_list_difference") 498, Value.str (Str.ofString "unorderable_list_difference") 499, Value.str (Str.ofString "/claim/cut.py") 500, Value.int 75 0, Value.int 2 0, Value.int 0 0, Value.int 0 0, Value.int 3 0, Value.ref 56, Value.bool true, Value.int 276 0, Value.ref 57, Value.none, Value.ref 58, Value.ref 59, Value.ref 60, Value.int 505 0, Value.int 75 0, Value.str (Str.ofString "/claim/cut.py") 506]) #[]),
  (nat_lit 62, fobj 8 (Value.str (Str.ofString "cpy313.unittest.util") 496) (Value.ref 61)),
  (nat_lit 68, Obj.mk (Value.type "code") none (Data.fields #[Value.str (Str.ofString "_byteswap") 510, Value.str (Str.ofString "_byteswap") 511, Value.str (Str.ofString "/claim/cut.py") 512, Value.int 85 0, Value.int 2 0, Value.int 0 0, Value.int 0 0, Value.int 3 0, Value.ref 63, Value.bool true, Value.int 276 0, Value.ref 64, Value.none, Value.ref 65, Value.ref 66, Value.ref 67, Value.int 518 0, Value.int 85 0, Value.str (Str.ofString "/claim/cut.py") 519]) #[]),
  (nat_lit 69, fobj 10 (Value.str (Str.ofString "cpy313.wave") 508) (Value.ref 68)),
  (nat_lit 73, Obj.mk (Value.type "code") none (Data.fields #[Value.str (Str.ofString "_law_octets") 523, Value.str (Str.ofString "_law_octets") 524, Value.str (Str.ofString "/claim/cut.py") 525, Value.int 92 0, Value.int 1 0, Value.int 0 0, Value.int 0 0, Value.int 3 0, Value.ref 70, Value.bool true, Value.int 276 0, Value.ref 71, Value.none, Value.none, Value.none, Value.ref 72, Value.int 526 0, Value.int 92 0, Value.str (Str.ofString "/claim/cut.py") 527]) #[]),
  (nat_lit 74, fobj 12 (Value.str (Str.ofString "law_il0107_02") 521) (Value.ref 73)),
  (nat_lit 78, Obj.mk (Value.type "code") none (Data.fields #[Value.str (Str.ofString "_law_samples") 529, Value.str (Str.ofString "_law_samples") 530, Value.str (Str.ofString "/claim/cut.py") 531, Value.int 94 0, Value.int 2 0, Value.int 0 0, Value.int 0 0, Value.int 3 0, Value.ref 75, Value.bool true, Value.int 276 0, Value.ref 76, Value.none, Value.none, Value.none, Value.ref 77, Value.int 532 0, Value.int 94 0, Value.str (Str.ofString "/claim/cut.py") 533]) #[]),
  (nat_lit 79, fobj 13 (Value.str (Str.ofString "law_il0107_02") 521) (Value.ref 78)),
  (nat_lit 85, Obj.mk (Value.type "code") none (Data.fields #[Value.str (Str.ofString "_law_parts") 535, Value.str (Str.ofString "_law_parts") 536, Value.str (Str.ofString "/claim/cut.py") 537, Value.int 96 0, Value.int 1 0, Value.int 0 0, Value.int 0 0, Value.int 3 0, Value.ref 80, Value.bool true, Value.int 276 0, Value.ref 81, Value.none, Value.ref 82, Value.ref 83, Value.ref 84, Value.int 541 0, Value.int 96 0, Value.str (Str.ofString "/claim/cut.py") 542]) #[]),
  (nat_lit 86, fobj 14 (Value.str (Str.ofString "law_il0107_02") 521) (Value.ref 85)),
  (nat_lit 90, Obj.mk (Value.type "code") none (Data.fields #[Value.str (Str.ofString "law") 544, Value.str (Str.ofString "law") 545, Value.str (Str.ofString "/claim/cut.py") 546, Value.int 102 0, Value.int 1 0, Value.int 0 0, Value.int 0 0, Value.int 3 0, Value.ref 87, Value.bool true, Value.int 276 0, Value.ref 88, Value.none, Value.none, Value.none, Value.ref 89, Value.int 547 0, Value.int 102 0, Value.str (Str.ofString "/claim/cut.py") 548]) #[]),
  (nat_lit 91, fobj 15 (Value.str (Str.ofString "law_il0107_02") 521) (Value.ref 90))]

def hook : Hook := kHook hd.heap_39 [3, 38, 47, 48, 54, 55, 61, 62, 68, 69, 73, 74, 78, 79, 85, 86, 90, 91] (fun _ => rfl)
abbrev PL (w : World) : Prop := (openEnds treeTable PySem.Challenge.rw_il0107_02.row.prog w 3370).map (fun s => (openSeen hd.view_39 [Str.ofString "_twin_re_1", Str.ofString "_special_chars_map"] (importedModules PySem.Challenge.rw_il0107_02.row.prog.main.body) (fun s => xlAt hd.view_39 [] s && recOk (RowW.records PySem.Challenge.rw_il0107_02.row.toRowW) s) true s, Hook.obs hook s)) = some (openGood hd.view_39 [Str.ofString "_twin_re_1", Str.ofString "_special_chars_map"], Hook.val hook w)
theorem leaf_ff (w : World) : PL ((w.withFollow "special-get-raises" false).withFollow "comprehension-iter-twice" false) := by
  delta PL
  kernel_rfl
theorem leaf_ft (w : World) : PL ((w.withFollow "special-get-raises" true).withFollow "comprehension-iter-twice" false) := by
  delta PL
  kernel_rfl
theorem leaf_tf (w : World) : PL ((w.withFollow "special-get-raises" false).withFollow "comprehension-iter-twice" true) := by
  delta PL
  kernel_rfl
theorem leaf_tt (w : World) : PL ((w.withFollow "special-get-raises" true).withFollow "comprehension-iter-twice" true) := by
  delta PL
  kernel_rfl
theorem left02 : LeftO PySem.Challenge.rw_il0107_02.row.prog hd.view_39 [Str.ofString "_twin_re_1", Str.ofString "_special_chars_map"] (fun s => xlAt hd.view_39 [] s && recOk (RowW.records PySem.Challenge.rw_il0107_02.row.toRowW) s) (Hook.obs hook) (Hook.val hook) 3370 :=
  byRow2 "comprehension-iter-twice" (P := PL) (byRow2 "special-get-raises" (P := fun w => PL (w.withFollow "comprehension-iter-twice" false)) leaf_ff leaf_ft)
    (byRow2 "special-get-raises" (P := fun w => PL (w.withFollow "comprehension-iter-twice" true)) leaf_tf leaf_tt)
end Mine
end

section -- part Pure1
open PySem PyProof PyProof.Rows
set_option Elab.async false
namespace Mine

/-- a sign, a backslash ahead of the dot, the hyphen and the blank -/
def escC (c : Nat) : Str := if c = 46 ∨ c = 45 ∨ c = 32 then ⟨#[92, c]⟩ else ⟨#[c]⟩
/-- is this sign told, that one standing ahead of it? -/
def told (p : Option Nat) (c : Nat) : Bool := c != 42 || p != some 42
/-- the parts of a text: one star for each run -/
def partsL : Option Nat → List Nat → List Str
  | _, [] => []
  | p, c :: r => (if told p c then [escC c] else []) ++ partsL (some c) r

theorem partsL_snoc (c : Nat) : ∀ (l : List Nat) (p : Option Nat), partsL p (l ++ [c]) = partsL p l ++ (if told (l.getLast?.or p) c then [escC c] else [])
  | [], p => by simp [partsL]; rfl
  | d :: r, p => by
    rw [List.cons_append, partsL, partsL, partsL_snoc c r (some d), List.append_assoc]
    cases r with
    | nil => simp; rfl
    | cons e r =>
      rw [List.getLast?_cons_cons]
      cases h : (e :: r).getLast? with
      | none => simp at h
      | some v => simp; rfl

theorem partsL_len : ∀ (l : List Nat) (p : Option Nat), (partsL p l).length ≤ l.length
  | [], _ => Nat.le_refl _
  | c :: r, p => by
    rw [partsL, List.length_append, List.length_cons]
    have := partsL_len r (some c)
    split <;> simp <;> omega

theorem partsL_prev (r : List Nat) (p q : Option Nat) (h : r.head? ≠ some 42 ∨ (p = some 42 ↔ q = some 42)) : partsL p r = partsL q r := by
  cases r with
  | nil => rfl
  | cons c r =>
    rw [partsL, partsL]
    have e : told p c = told q c := by
      unfold told
      rcases h with h | h
      · have hc : c ≠ 42 := by simpa using h
        rw [bne_iff_ne.mpr hc, Bool.true_or, Bool.true_or]
      · by_cases hp : p = some 42
        · rw [hp, h.mp hp]
        · have hq : q ≠ some 42 := fun e => hp (h.mpr e)
          rw [bne_iff_ne.mpr hp, bne_iff_ne.mpr hq]
    rw [e]

theorem partsL_some (c : Nat) (r : List Nat) : partsL (some c) r = (if c = 42 ∧ r.head? = some 42 then (partsL none r).drop 1 else partsL none r) := by
  split
  · rename_i h
    obtain ⟨rfl, h⟩ := h
    cases r with
    | nil => cases h
    | cons d r =>
      have hd : d = 42 := by simpa using h
      subst hd
      simp [partsL, told]
  · rename_i h
    refine partsL_prev r _ _ ?_
    by_cases hc : c = 42
    · exact .inl fun q => h ⟨hc, q⟩
    · exact .inr (by simp [hc])

/-- the parts of the text read from behind are the parts, read from behind -/
theorem partsL_reverse : ∀ l : List Nat, partsL none l.reverse = (partsL none l).reverse
  | [] => rfl
  | c :: r => by
    rw [List.reverse_cons, partsL_snoc, partsL_reverse r, partsL, List.reverse_append, partsL_some]
    simp only [List.getLast?_reverse, Option.or_none]
    by_cases hc : c = 42
    · subst hc
      by_cases hr : r.head? = some 42
      · cases r with
        | nil => cases hr
        | cons d r =>
          have hd : d = 42 := by simpa using hr
          subst hd
          simp [partsL, told]
      · simp [hr, told]
    · simp [hc, told]

theorem sign_at {x : Str} {i : Nat} (hi : i < x.length) : ∃ d, x.cps[i]? = some d := by
  have hi' : i < x.cps.size := hi
  exact ⟨x.cps[i], Array.getElem?_eq_getElem hi'⟩
theorem item_at {x : Str} {i : Nat} {c : Nat} (h : x.cps[i]? = some c) : Txt.item x (0 + (i : Int) * 1) = ⟨#[c]⟩ := by
  refine item_meets (by omega) ?_
  rw [show (0 + (i : Int) * 1).toNat = i by omega]
  exact h
theorem ne_star (c : Nat) : ((⟨#[c]⟩ : Str) != Str.ofString "*") = decide (c ≠ 42) := by
  rw [show Str.ofString "*" = ⟨#[42]⟩ from by decide +kernel]
  by_cases h : c = 42
  · subst h; decide +kernel
  · have : (⟨#[c]⟩ : Str) ≠ ⟨#[42]⟩ := fun e => h (by simpa using congrArg (fun s : Str => s.cps) e)
    simp [h, bne_iff_ne, this]
theorem nil_ne_star : ((⟨#[]⟩ : Str) != Str.ofString "*") = true := by decide +kernel
theorem in_esc (c : Nat) : (Builtin.Str.occurrences (Str.ofString ".- ") ⟨#[c]⟩ 0 (Str.ofString ".- ").length 1).isEmpty = !decide (c = 46 ∨ c = 45 ∨ c = 32) := by
  have h := StrLaws.found_one (Str.ofString ".- ") c
  rw [show (Str.ofString ".- ").cps.toList = [46, 45, 32] from by decide +kernel] at h
  have h2 : decide (c ∈ [46, 45, 32]) = decide (c = 46 ∨ c = 45 ∨ c = 32) := by simp
  rw [h2] at h
  cases hq : (Builtin.Str.occurrences (Str.ofString ".- ") ⟨#[c]⟩ 0 (Str.ofString ".- ").length 1).isEmpty <;> simp_all
theorem bs_cat (c : Nat) : Str.ofString "\\" ++ (⟨#[c]⟩ : Str) = ⟨#[92, c]⟩ := by
  rw [show Str.ofString "\\" = ⟨#[92]⟩ from by decide +kernel]
  rfl

theorem sliceRange_up {a b : Nat} (h : a ≤ b) : sliceRange (a : Int) (b : Int) 1 = (List.range (b - a)).map (fun k => a + k) := by
  have ec : (if (1 : Int) > 0 then (if (a : Int) < b then ((b : Int) - a + 1 - 1) / 1 else 0) else (if (a : Int) > b then ((a : Int) - b - 1 - 1) / (-1) else 0)).toNat = b - a := by
    rw [if_pos (by decide)]
    split
    · rw [Int.ediv_one]; omega
    · rw [show (0 : Int).toNat = 0 from rfl]; omega
  show (List.range _).map _ = _
  rw [ec]
  exact List.map_congr_left fun k _ => by omega
theorem pick_range (l : List Nat) (a : Nat) : ∀ n, a + n ≤ l.length → ((List.range n).map (fun k => a + k)).filterMap (fun k => l[k]?) = (l.drop a).take n
  | 0, _ => by simp
  | n + 1, h => by
    have hlt : a + n < l.length := by omega
    rw [List.range_succ, List.map_append, List.filterMap_append, pick_range l a n (by omega), List.take_add_one]
    simp [List.getElem?_drop, hlt]
theorem slice_mid {x : Str} {a b : Nat} (h : a ≤ b) (hb : b ≤ x.length) : Txt.slice x (some (a : Int)) (some (b : Int)) = ⟨((x.cps.toList.drop a).take (b - a)).toArray⟩ := by
  have hl : x.cps.toList.length = x.length := rfl
  have e : Builtin.Str.strSliceIndices (some (a : Int)) (some (b : Int)) 1 x.length = (List.range (b - a)).map (fun k => a + k) := by
    rw [← sliceRange_up h]
    show sliceRange (max 0 (min (if (a : Int) < 0 then (a : Int) + x.length else a) x.length)) (max 0 (min (if (b : Int) < 0 then (b : Int) + x.length else b) x.length)) 1 = _
    rw [if_neg (by omega), if_neg (by omega), show max 0 (min (a : Int) x.length) = a by omega, show max 0 (min (b : Int) x.length) = b by omega]
  have e2 : (List.filterMap (fun k => x.cps[k]?) ((List.range (b - a)).map (fun k => a + k))) = (x.cps.toList.drop a).take (b - a) := by
    rw [← pick_range x.cps.toList a (b - a) (by omega)]
    simp
  unfold Txt.slice
  rw [e, e2]
  split
  · rename_i q
    have hlen : b - a = x.length := by simpa using q
    have ha : a = 0 := by omega
    subst ha
    rw [List.drop_zero, List.take_of_length_le (by omega)]
  · rfl
theorem slice_prev {x : Str} {i c : Nat} (hi : i + 1 < x.length) (h : x.cps[i]? = some c) : Txt.slice x (some (0 + ((i + 1 : Nat) : Int) * 1 - 1)) (some (0 + ((i + 1 : Nat) : Int) * 1)) = ⟨#[c]⟩ := by
  rw [show (0 + ((i + 1 : Nat) : Int) * 1 - 1) = ((i : Nat) : Int) by omega, show (0 + ((i + 1 : Nat) : Int) * 1) = ((i + 1 : Nat) : Int) by omega, slice_mid (by omega) (by omega)]
  have hl : x.cps.toList[i]? = some c := by simpa using h
  rw [show i + 1 - i = 1 by omega, List.take_one, List.head?_drop, hl]
  rfl
theorem slice_first {x : Str} (h : 0 < x.length) : Txt.slice x (some (0 + ((0 : Nat) : Int) * 1 - 1)) (some (0 + ((0 : Nat) : Int) * 1)) = ⟨#[]⟩ := by
  have e : Builtin.Str.strSliceIndices (some (0 + ((0 : Nat) : Int) * 1 - 1)) (some (0 + ((0 : Nat) : Int) * 1)) 1 x.length = [] := by
    show sliceRange (max 0 (min (-1 + (x.length : Int)) x.length)) (max 0 (min 0 x.length)) 1 = _
    rw [show max 0 (min (-1 + (x.length : Int)) x.length) = ((x.length - 1 : Nat) : Int) by omega, show max 0 (min 0 (x.length : Int)) = 0 by omega]
    unfold sliceRange
    rw [if_pos (by decide), if_neg (by omega)]
    rfl
  unfold Txt.slice
  rw [e]
  rw [if_neg (by simp; omega)]
  rfl

theorem slice_star {x : Str} {i : Nat} (hi : i < x.length) : (Txt.slice x (some (0 + (i : Int) * 1 - 1)) (some (0 + (i : Int) * 1)) != Str.ofString "*") = ((x.cps.toList.take i).getLast? != some 42) := by
  cases i with
  | zero => rw [slice_first hi, nil_ne_star]; rfl
  | succ j =>
    have hj : j < x.cps.size := Nat.lt_of_succ_lt hi
    have h1 : x.cps[j]? = some x.cps[j] := by simp [hj]
    rw [slice_prev hi h1, ne_star]
    have h2 : (x.cps.toList.take (j + 1)).getLast? = some x.cps[j] := by
      rw [List.take_add_one, List.getLast?_append]
      simp [hj]
    rw [h2]
    by_cases e : x.cps[j] = 42 <;> simp [e]
section
variable {x : Str} {i d : Nat} {vs : List Value}
theorem parts_step (hd : x.cps[i]? = some d) : partsL none (x.cps.toList.take (i + 1)) = partsL none (x.cps.toList.take i) ++ (if told (x.cps.toList.take i).getLast? d then [escC d] else []) := by
  have : x.cps.toList.take (i + 1) = x.cps.toList.take i ++ [d] := by
    rw [List.take_add_one]
    simp [hd]
  rw [this, partsL_snoc, Option.or_none]
theorem told_a {p : Option Nat} (hd : x.cps[i]? = some d) (h : (Txt.item x (0 + (i : Int) * 1) != Str.ofString "*") = true) : told p d = true := by
  rw [item_at hd, ne_star] at h
  have h' : d ≠ 42 := of_decide_eq_true h
  rw [told, bne_iff_ne.mpr h', Bool.true_or]
theorem told_b (hi : i < x.length) (h : (Txt.slice x (some (0 + (i : Int) * 1 - 1)) (some (0 + (i : Int) * 1)) != Str.ofString "*") = true) : told (x.cps.toList.take i).getLast? d = true := by
  rw [slice_star hi] at h
  rw [told, h, Bool.or_true]
theorem esc_a (hd : x.cps[i]? = some d) (h : (Builtin.Str.occurrences (Str.ofString ".- ") (Txt.item x (0 + (i : Int) * 1)) 0 (Str.ofString ".- ").length 1).isEmpty = true) : escC d = Txt.item x (0 + (i : Int) * 1) := by
  rw [item_at hd, in_esc] at h
  have h' : ¬ (d = 46 ∨ d = 45 ∨ d = 32) := by simpa using h
  rw [item_at hd, escC, if_neg h']
theorem esc_b (hd : x.cps[i]? = some d) (h : (Builtin.Str.occurrences (Str.ofString ".- ") (Txt.item x (0 + (i : Int) * 1)) 0 (Str.ofString ".- ").length 1).isEmpty = false) : escC d = Str.ofString "\\" ++ Txt.item x (0 + (i : Int) * 1) := by
  rw [item_at hd, in_esc] at h
  have h' : (d = 46 ∨ d = 45 ∨ d = 32) := of_decide_eq_true (by simpa only [Bool.not_eq_false'] using h)
  rw [item_at hd, escC, if_pos h', bs_cat]
theorem parts_push (hS : StrsAre vs (partsL none (x.cps.toList.take i))) (hd : x.cps[i]? = some d) (ht : told (x.cps.toList.take i).getLast? d = true) {y : Str} (hy : escC d = y) (t : Tok) :
    StrsAre (vs ++ [.str y t]) (partsL none (x.cps.toList.take (i + 1))) := by
  rw [parts_step hd, if_pos ht, hy]
  exact StrsAre.append' hS (.cons y t .nil)
theorem parts_stay (hS : StrsAre vs (partsL none (x.cps.toList.take i))) (hd : x.cps[i]? = some d) (hi : i < x.length) (h1 : (Txt.item x (0 + (i : Int) * 1) != Str.ofString "*") = false)
    (h2 : (Txt.slice x (some (0 + (i : Int) * 1 - 1)) (some (0 + (i : Int) * 1)) != Str.ofString "*") = false) : StrsAre vs (partsL none (x.cps.toList.take (i + 1))) := by
  rw [item_at hd, ne_star] at h1
  have h1' : d = 42 := by simpa using h1
  rw [slice_star hi] at h2
  rw [parts_step hd, told, h2, h1']
  simpa using hS
end

theorem escC_star (c : Nat) : escC c = ⟨#[42]⟩ ↔ c = 42 := by
  unfold escC
  constructor
  · intro h
    split at h
    · have := congrArg (fun s : Str => s.cps.size) h
      simp at this
    · have := congrArg (fun s : Str => s.cps) h
      simpa using this
  · rintro rfl
    rfl
theorem partsL_last (l : List Nat) (c : Nat) : ∃ ws, partsL none (l ++ [c]) = ws ++ [escC c] := by
  have main : ∀ n, ∀ l : List Nat, l.length ≤ n → ∀ c, ∃ ws, partsL none (l ++ [c]) = ws ++ [escC c] := by
    intro n
    induction n with
    | zero =>
      intro l hl c
      have : l = [] := List.length_eq_zero_iff.mp (Nat.le_zero.mp hl)
      subst this
      exact ⟨[], by simp [partsL, told]⟩
    | succ n ih =>
      intro l hl c
      rw [partsL_snoc, Option.or_none]
      cases ht : told l.getLast? c with
      | true => exact ⟨partsL none l, by simp⟩
      | false =>
        unfold told at ht
        have hc : c = 42 := by
          cases hq : (c != 42) with
          | true => rw [hq] at ht; simp at ht
          | false => simpa using hq
        have hl' : l.getLast? = some 42 := by
          cases hq : (l.getLast? != some 42) with
          | true => rw [hq] at ht; simp at ht
          | false => simpa using hq
        obtain ⟨ws, rfl⟩ : ∃ ws, l = ws ++ [42] := by
          rw [List.getLast?_eq_some_iff] at hl'
          exact hl'
        obtain ⟨us, hu⟩ := ih ws (by rw [List.length_append, List.length_singleton] at hl; omega) 42
        refine ⟨us, ?_⟩
        rw [hu, hc]
        simp
  exact main l.length l (Nat.le_refl _) c
/-- the parts so far, one sign more -/
theorem parts_more {x y : Str} {i d : Nat} {vs : List Value} (hS : StrsAre vs (partsL none (x.cps.toList.take i))) (hd : x.cps[i]? = some d) (hne : d ≠ 42) (hy : escC d = y) (t : Tok) :
    StrsAre (vs ++ [.str y t]) (partsL none (x.cps.toList.take (i + 1))) := by
  subst hy
  rw [parts_step hd, if_pos (by rw [told, bne_iff_ne.mpr hne, Bool.true_or])]
  exact StrsAre.append' hS (.cons (escC d) t .nil)
theorem strsAre_last {ws : List Value} {y : Str} {t : Tok} : ∀ {ss : List Str}, StrsAre (ws ++ [.str y t]) ss → ∃ us, ss = us ++ [y] ∧ StrsAre ws us := by
  induction ws with
  | nil => intro ss h; cases h with | cons _ _ r => cases r; exact ⟨[], rfl, .nil⟩
  | cons v ws ih =>
    intro ss h
    cases h with
    | cons n u r =>
      obtain ⟨us, rfl, hr⟩ := ih r
      exact ⟨n :: us, rfl, .cons _ _ hr⟩
theorem strsAre_split {vs : List Value} {ss : List Str} (h : StrsAre vs ss) : vs = [] ∨ ∃ ws y t, vs = ws ++ [.str y t] := by
  rcases List.eq_nil_or_concat vs with e | ⟨ws, v, e⟩
  · exact .inl e
  · rw [List.concat_eq_append] at e
    subst e
    right
    have : ∀ (ws : List Value) (v : Value) (ss : List Str), StrsAre (ws ++ [v]) ss → ∃ y t, v = .str y t := by
      intro ws
      induction ws with
      | nil => intro v ss h; cases h with | cons y t r => exact ⟨y, t, rfl⟩
      | cons w ws ih => intro v ss h; cases h with | cons y t r => exact ih v _ r
    obtain ⟨y, t, rfl⟩ := this ws v ss h
    exact ⟨ws, y, t, rfl⟩
/-- a star: told where nothing stands yet, or the last part is no star -/
theorem parts_star {x : Str} {i : Nat} {vs : List Value} (hS : StrsAre vs (partsL none (x.cps.toList.take i))) (hd : x.cps[i]? = some 42) (t : Tok)
    (h : vs = [] ∨ ∃ ws y u, vs = ws ++ [.str y u] ∧ y ≠ ⟨#[42]⟩) : StrsAre (vs ++ [.str ⟨#[42]⟩ t]) (partsL none (x.cps.toList.take (i + 1))) := by
  have ht : told (x.cps.toList.take i).getLast? 42 = true := by
    unfold told
    rw [Bool.or_eq_true]
    right
    rw [bne_iff_ne]
    intro e
    obtain ⟨l, hl⟩ := List.getLast?_eq_some_iff.mp e
    rw [hl] at hS
    obtain ⟨us, hu⟩ := partsL_last l 42
    rw [hu] at hS
    rcases h with rfl | ⟨ws, y, u, rfl, hy⟩
    · have := StrsAre.length hS
      simp at this
    · obtain ⟨us', e', _⟩ := strsAre_last hS
      have := (List.append_inj' e' rfl).2
      simp at this
      exact hy this.symm
  rw [parts_step hd, if_pos ht]
  exact StrsAre.append' hS (.cons _ t .nil)
theorem parts_star_stay {x : Str} {i : Nat} {ws : List Value} {u : Tok} (hS : StrsAre (ws ++ [.str ⟨#[42]⟩ u]) (partsL none (x.cps.toList.take i))) (hd : x.cps[i]? = some 42) : StrsAre (ws ++ [.str ⟨#[42]⟩ u]) (partsL none (x.cps.toList.take (i + 1))) := by
  have ht : told (x.cps.toList.take i).getLast? 42 = false := by
    rcases List.eq_nil_or_concat (x.cps.toList.take i) with e | ⟨l, c, e⟩
    · rw [e] at hS
      have := StrsAre.length hS
      simp [partsL] at this
    · rw [List.concat_eq_append] at e
      rw [e] at hS ⊢
      obtain ⟨us, hu⟩ := partsL_last l c
      rw [hu] at hS
      obtain ⟨us', e', _⟩ := strsAre_last hS
      have h2 := (List.append_inj' e' rfl).2
      simp at h2
      have hc := (escC_star c).mp h2
      subst hc
      simp [told]
  rw [parts_step hd, ht]
  simpa using hS

theorem star_eq : Str.ofString "*" = ⟨#[42]⟩ := by decide +kernel
theorem parts_star0 {x : Str} {i : Nat} (hS : StrsAre [] (partsL none (x.cps.toList.take i))) (hd : x.cps[i]? = some 42) (t : Tok) : StrsAre [.str (Str.ofString "*") t] (partsL none (x.cps.toList.take (i + 1))) := by
  rw [star_eq]
  exact parts_star hS hd t (.inl rfl)
theorem parts_star1 {x y : Str} {i : Nat} {ws : List Value} {u : Tok} (hS : StrsAre (ws ++ [.str y u]) (partsL none (x.cps.toList.take i))) (hd : x.cps[i]? = some 42) (hy : (y != Str.ofString "*") = true) (t : Tok) :
    StrsAre ((ws ++ [.str y u]) ++ [.str (Str.ofString "*") t]) (partsL none (x.cps.toList.take (i + 1))) := by
  rw [star_eq] at hy ⊢
  exact parts_star hS hd t (.inr ⟨ws, y, u, rfl, bne_iff_ne.mp hy⟩)
theorem parts_star2 {x y : Str} {i : Nat} {ws : List Value} {u : Tok} (hS : StrsAre (ws ++ [.str y u]) (partsL none (x.cps.toList.take i))) (hd : x.cps[i]? = some 42) (hy : (y != Str.ofString "*") = false) :
    StrsAre (ws ++ [.str y u]) (partsL none (x.cps.toList.take (i + 1))) := by
  rw [star_eq] at hy
  have hy' : y = ⟨#[42]⟩ := by simpa using hy
  subst hy'
  exact parts_star_stay hS hd
end Mine
end

section -- part Base2
open PySem PySem.W PySem.Calls PyProof.Rows
set_option Elab.async false
set_option maxRecDepth 100000
set_option maxHeartbeats 4000000
namespace Mine

/-- «xs.append» as a value -/
def appM (l : Addr) : Obj := { cls := .type "builtin_function_or_method", data := .fields #[.builtin "list.append", .ref l] }

theorem slot_mget : Slot "method_descriptor" "__get__" "method_descriptor.__get__" :=
  .of (owner := "method_descriptor") (n := "__get__") (by rw [typeLookup_type, builtinLookup_eq_fast]; kernel_rfl) (by decide +kernel) (by decide +kernel) (by decide +kernel)
    (by first | exact .inl (by decide +kernel) | exact .inr (by decide +kernel)) (by rw [isSubtype_type]; kernel_rfl)
theorem entry_mget : entryFor table "method_descriptor.__get__" = some Builtin.«method_descriptor.__get__» := entryFor_of_tree (by kernel_rfl)
theorem args_mget (a b c : Value) : argsOk "method_descriptor.__get__" ⟨[a, b, c], []⟩ := by unfold argsOk; kernel_rfl
theorem type_app : typeOf (.builtin "list.append") = pure (.type "method_descriptor") := by show builtinType _ = _; rw [builtinType_eq_fast]; kernel_rfl
theorem look_app : typeLookup (.type "list") "append" = pure (some (.builtin "list.append")) := by rw [typeLookup_type, builtinLookup_eq_fast]; kernel_rfl
theorem look_get : typeLookup (.type "method_descriptor") "__get__" = pure (some (.builtin "method_descriptor.__get__")) := by rw [typeLookup_type, builtinLookup_eq_fast]; kernel_rfl
theorem look_set : typeLookup (.type "method_descriptor") "__set__" = pure none := by rw [typeLookup_type, builtinLookup_eq_fast]; kernel_rfl
theorem look_del : typeLookup (.type "method_descriptor") "__delete__" = pure none := by rw [typeLookup_type, builtinLookup_eq_fast]; kernel_rfl

section
variable {prog : Program} {w : World} {M : Model} {A : Around} {E : Value → Shared → Prop} {s : Shared}

theorem run_mget {l : Addr} {o : Obj} {P : Fin → Shared → Prop} (ho : s.heap.get? l = some o) (hc : o.cls = .type "list") (h : P (.done (.ret (.ref s.heap.objs.size))) { s with heap := s.heap.push (appM l) }) :
    wpAny M A (Builtin.«method_descriptor.__get__» ⟨[.builtin "list.append", .ref l, .type "list"], []⟩) P E s := by
  have hT : s.TypeIs (.ref l) "list" := ⟨o, ho, hc⟩
  unfold Builtin.«method_descriptor.__get__»
  refine wpAny_bind (wpAny_of_eq (a := (.builtin "list.append", some (.ref l), some (.type "list"))) (by first | rfl | kernel_rfl) ?_)
  dsimp only
  rw [if_neg (by decide +kernel)]
  have hsub : isSubtype (.type "list") (.type "list") = pure true := by rw [isSubtype_type]; kernel_rfl
  have hcut : (".".intercalate ("list.append".cutAt '.').dropLast) = "list" := by decide +kernel
  repeat (any_goals (first | assumption | wp_step))
  rw [hcut]
  refine wpAny_of_eq hsub ?_
  rw [if_neg (by decide)]
  refine wpAny_pure (wpAny_bind ?_)
  exact wpAny_newObj_type (wpAny_pure h)

theorem meets_getattribute_app (l : Addr) (its : Array Value) (k : Nat) (u : Tok) :
    Meets (Builtin.«object.__getattribute__» ⟨[.ref l, .str (Str.ofString "append") u], []⟩) (fun _ R s => s.heap.get? l = some (listOf its k) ∧ ∀ tk, R (.ok (.ret (.ref s.heap.objs.size))) { s with heap := s.heap.push (appM l), toks := tk }) :=
  Meets.of_wp fun prog w A R s hs => by
    obtain ⟨hp, g, d, tk, os⟩ := s
    obtain ⟨hx, hs⟩ := hs
    have hT : (⟨hp, g, d, tk, os⟩ : Shared).TypeIs (.ref l) "list" := ⟨_, hx, rfl⟩
    have h1 := look_app
    have h2 := type_app
    have h3 := look_get
    have h4 := look_set
    have h5 := look_del
    unfold Builtin.«object.__getattribute__»
    repeat (any_goals (first | assumption | ((with_reducible show wpAny _ _ (call (Value.builtin "method_descriptor.__get__") _ _) _ _ _); refine wpAny_call_entry slot_mget type_app entry_mget (run_mget hx rfl ⟨_, rfl, wpAny_pure ⟨_, rfl, hs tk⟩⟩) (args_mget _ _ _)) | wp_step))

theorem entry_lga : entryFor table "list.__getattribute__" = some Builtin.«object.__getattribute__» :=
  entryFor_alias (id' := "object.__getattribute__") (by kernel_rfl) (by decide +kernel) (by decide +kernel) (by kernel_rfl)

/-- «xs.append», the value -/
theorem getAttr_app {l : Addr} {its : Array Value} {k : Nat} {Q : Value → Shared → Prop} (hx : s.heap.get? l = some (listOf its k))
    (h : ∀ tk, Q (.ref s.heap.objs.size) { s with heap := s.heap.push (appM l), toks := tk }) :
    wpAny (model prog w) A (getAttr (.ref l) (Str.ofString "append") true) Q E s := by
  obtain ⟨hp, g, d, tk, os⟩ := s
  have hT : ∀ tk', (⟨hp, g, d, tk', os⟩ : Shared).TypeIs (.ref l) "list" := fun _ => ⟨_, hx, rfl⟩
  have f3 := F.slot_list_getattribute.lookup
  have f4 := F.slot_list_getattribute.bind (.ref l)
  unfold getAttr getAttrBy
  repeat (any_goals (first | assumption | exact hT _ | ((with_reducible show wpAny _ _ (call (Value.builtin "list.__getattribute__") _ _) _ _ _); refine call_meets F.slot_list_getattribute (hT _) entry_lga (F.args_list_getattribute_2 _ _) (meets_getattribute_app l its k _) ⟨hx, fun tk' => ?_⟩) | wp_step))
  show wpAny _ _ (handedOut (.ref _)) _ _ _
  exact wpAny_pure (h _)

theorem quiet_app {as : Args} : (Code.builtin "list.append" as).quiet = true := Code.quiet_builtin _ (by decide +kernel)
theorem sig_app : ∃ sig, Manifest.signature? "list.append" = some sig ∧ ∀ (a : Addr) (x : Value), Bind.checkArgs "list.append" { sig with full := s!"{Bind.lastOf "list"}.{Bind.lastOf "list.append"}" } ⟨[.ref a, x], []⟩ = pure () := by
  refine ⟨(Manifest.signature? "list.append").get (by decide +kernel), by simp, fun a x => ?_⟩
  kernel_rfl
theorem kind_app : builtinKind "list.append" = some .method := by decide +kernel
theorem vara_app : Manifest.varargsMethods.contains "list.append" = false := by decide +kernel
theorem check_app {l : Addr} {o : Obj} {x : Value} {Q : Unit → Shared → Prop} (ho : s.heap.get? l = some o) (hc : o.cls = .type "list") (hdat : ∃ xs n, o.data = .seq xs n) (h : Q () s) :
    wpAny M A (checkBoundCall "list.append" ⟨[.ref l, x], []⟩) Q E s := by
  obtain ⟨sig, hs, hchk⟩ := sig_app
  obtain ⟨xs, n, hd⟩ := hdat
  have hT : s.TypeIs (.ref l) "list" := ⟨o, ho, hc⟩
  have hsub : isSubtype (.type "list") (.type "module") = pure false := by rw [isSubtype_type]; kernel_rfl
  unfold checkBoundCall
  rw [hs, kind_app]
  dsimp only
  rw [if_neg (by decide)]
  refine wpAny_bind (wpAny_isInstance hT hsub ?_)
  rw [vara_app, if_neg (by decide)]
  refine wpAny_bind (wpAny_bind ?_)
  unfold loadHead
  refine wpAny_loadPart ho ?_
  refine wpAny_pure ?_
  rw [hd]
  dsimp only
  rw [if_neg (by decide)]
  refine wpAny_bind (wpAny_typeOf hT ?_)
  dsimp only
  rw [hchk]
  exact wpAny_pure h

theorem call_app {q l : Addr} {its : Array Value} {n : Nat} {x : Value} {Q : Value → Shared → Prop} (hq : s.heap.get? q = some (appM l)) (ho : s.heap.get? l = some (listOf its n))
    (h : ∀ h', Heap.SameBut l s.heap h' → h'.get? l = some (listOf (its.push x) (n + 1)) → Q .none { s with heap := h' }) (hsz : its.size ≤ sizeLine) :
    wpAny (model prog w) A (call (.ref q) [x]) Q E s := by
  refine wpAny_call (codeAny_of_tree ?_)
  show wpAny _ A.in1 (callAny (.ref q) ⟨[x], []⟩) _ _ s
  simp only [callAny]
  refine wpAny_bind (wpAny_load hq ?_)
  simp only [appM, show (Value.type "builtin_function_or_method" == Value.type "method" || Value.type "builtin_function_or_method" == Value.type "builtin_function_or_method" || Value.type "builtin_function_or_method" == Value.type "method-wrapper") = true by decide, if_true]
  refine KFB.if_so (by decide) ?_
  refine wpAny_bind (check_app ho rfl ⟨_, _, rfl⟩ ?_)
  refine wpAny_pure ⟨quiet_app, codeAny_builtin entry_list_append ?_⟩
  show wpAny _ _ (updateSeq l (·.push x) >>= fun _ => ret .none) _ _ s
  refine wpAny_bind ?_
  refine wpAny_updateSeq ho rfl (wpAny_pure (h _ (Heap.SameBut.update ..) ?_))
  rw [Heap.get?_update_self _ ho (by rw [mapSeq_push]; rfl), mapSeq_push]
end

section
variable {prog : Program} {w : World} {M : Model} {A : Around} {E : Value → Shared → Prop} {s : Shared} {h₀ : Heap} {L : Addr} {m : Str → Option Value} {news news' : List (Addr × Obj)}
theorem getAttr_appN {l : Addr} {its : Array Value} {k : Nat} {Q : Value → Shared → Prop} (F : Fr h₀ L s.heap m) (N : News h₀ L s.heap news) (hm : (l, listOf its k) ∈ news)
    (h : ∀ q h' tk, s.toks ≤ tk → Fr h₀ L h' m → News h₀ L h' ((q, appM l) :: news) → (∀ p ∈ news, p.1 < q) → Q (.ref q) { s with heap := h', toks := tk }) :
    wpAny (model prog w) A (getAttr (.ref l) (Str.ofString "append") true) Q E s :=
  wpAny_with_toks (n := s.toks) (Nat.le_refl _) (wpAny_mono (Q := fun v s' => s.toks ≤ s'.toks → Q v s') (E := fun e s' => s.toks ≤ s'.toks → E e s') (getAttr_app (N _ hm).1 fun tk htk => h _ _ _ htk (F.push _) (News.push F N _) fun p hp => Heap.lt_size (N p hp).1) (fun _ _ x => x) fun _ _ x => x)
def AtApp (q l : Addr) (h : Heap) : Prop := h.get? q = some (appM l)
theorem AtApp.of {q l : Addr} {h : Heap} (N : News h₀ L h news) (hm : (q, appM l) ∈ news) : AtApp q l h := (N _ hm).1
theorem callWith_fieldsA {pos : Pos} {q l : Addr} {first : List Value} {args : List (Bool × Sem Value)} {Q : Value → Shared → Prop} (hplain : args.any (·.1) = false)
    (h : wpAny M A (evalArgs (.ref q) true args []) (fun x s₁ => AtApp q l s₁.heap ∧ wpAny M A (call (.ref q) (first ++ x.pos) x.kw) Q E s₁) E s) : wpAny M A (callWith pos (.ref q) first args []) Q E s := by
  unfold callWith
  refine wpAny_bind (wpAny_holding (wpAny_mono h (fun x s₁ h₁ => wpAny_bind (wpAny_standAt ?_)) fun _ _ x => x))
  obtain ⟨ho, hcall⟩ := h₁
  simp only [hplain, List.any_nil, Bool.or_false]
  refine wpAny_bind (m := keeperOf (.ref q)) ?_
  unfold keeperOf
  refine wpAny_bind (wpAny_load ho ?_)
  simp only [appM, show (Value.type "builtin_function_or_method" != Value.type "method") = true by decide, show (Value.type "builtin_function_or_method" == Value.type "builtin_function_or_method" || Value.type "builtin_function_or_method" == Value.type "method-wrapper") = true by decide, if_true]
  refine wpAny_pure ?_
  exact wpAny_bind (wpAny_mono hcall (fun r s₂ hr => wpAny_bind (wpAny_holding (wpAny_point (wpAny_pure hr)))) fun _ _ x => x)
theorem callWith_app {pos : Pos} {q l : Addr} {first : List Value} {env : Env} {e : Expr} {rest : List Expr} {Q : Value → Shared → Prop} (_N : News h₀ L s.heap news) (_hm : (q, appM l) ∈ news)
    (h : wpAny M A (spliced (backTo pos (starEach (e :: rest) env))) (fun vs s₁ => AtApp q l s₁.heap ∧ wpAny M A (call (.ref q) (first ++ vs)) Q E s₁) E s)
    (he : starEach (e :: rest) env = (false, eval e env) :: starEach rest env := by rfl) (hplain : (backTo pos (starEach rest env)).any (·.1) = false := by rfl) :
    wpAny M A (callWith pos (.ref q) first (backTo pos (starEach (e :: rest) env)) []) Q E s := by
  rw [he] at h ⊢
  refine callWith_fieldsA (l := l) (by show (false || (backTo pos (starEach rest env)).any (·.1)) = false; rw [hplain]; rfl) ?_
  exact evalArgs_plain h
theorem call_appN {q l : Addr} {its : Array Value} {n : Nat} {x : Value} {Q : Value → Shared → Prop} (F : Fr h₀ L s.heap m) (N : News h₀ L s.heap news) (hq : (q, appM l) ∈ news)
    (U : Upd l (listOf its n) (listOf (its.push x) (n + 1)) news news')
    (h : ∀ h', Fr h₀ L h' m → News h₀ L h' news' → Q .none { s with heap := h' }) (hsz : its.size ≤ sizeLine) : wpAny (model prog w) A (call (.ref q) [x]) Q E s := by
  obtain ⟨pre, post, rfl, rfl, a, b⟩ := U.split
  have z := N (l, listOf its n) (List.mem_append.mpr (.inr (.head _)))
  exact call_app (N _ hq).1 z.1 (fun h' hs ho' => h h' (F.change hs z.2.1 z.2.2) (news_set N a b hs ho')) hsz
end
end Mine
end

section -- part Base3
open PySem PySem.W PySem.Calls PyProof.Rows
set_option Elab.async false
set_option maxRecDepth 100000
set_option maxHeartbeats 4000000
namespace Mine
section
variable {prog : Program} {w : World} {A : Around} {E : Value → Shared → Prop} {s : Shared}

theorem mapsTo {h : Heap} {K : Frag} {a : Addr} {es : Array DictEntry} {n : Nat} (X : K.In h) (hl : K.lookup a = some ⟨.type "dict", none, .dict es n, #[]⟩)
    (hk : (es.toList.all fun e => match e.key with | .int k _ => e.hash == hashInt k | _ => false) = true) : h.MapOf (intKind prog w) a (fun k => findBy Value.isInt es k) := by
  refine ⟨_, es, n, X _ _ hl, ⟨rfl, rfl, rfl⟩, rfl, fun e he => ?_, fun _ => rfl⟩
  have := List.all_eq_true.mp hk e (Array.mem_toList_iff.mpr he)
  split at this
  · rename_i k t hkey
    exact ⟨k, by rw [hkey]; exact beq_self_eq_true _, beq_iff_eq.mp this⟩
  · cases this

theorem mapsTo_use {P : Prop} {h : Heap} {K : Frag} {a : Addr} {es : Array DictEntry} {n : Nat} (X : K.In h) (hl : K.lookup a = some ⟨.type "dict", none, .dict es n, #[]⟩)
    (hk : (es.toList.all fun e => match e.key with | .int k _ => e.hash == hashInt k | _ => false) = true) (k : h.MapOf (intKind prog w) a (fun k => findBy Value.isInt es k) → P) : P := k (mapsTo X hl hk)
/-- what the table says of one sign -/
theorem look_hit {a : Addr} {f : Int → Option Value} {c : Nat} {y : Str} {ty : Tok} {Q : Builtin.Str.Mapped → Shared → Prop} (hm : s.heap.MapOf (intKind prog w) a f) (hv : f (c : Int) = some (.str y ty))
    (h : ∀ tk, s.toks ≤ tk → Q (.text y) { s with toks := tk }) : wpAny (model prog w) A (Builtin.Str.tableLookup (.ref a) c) Q E s := by
  unfold Builtin.Str.tableLookup
  refine wpAny_bind (wpAny_attempt (wpAny_bind (wpAny_mkInt ?_)))
  refine wpAny_getItem_of (knd := intKind prog w) (k := (c : Int)) (by exact beq_self_eq_true _) (by exact hm) hv ?_
  dsimp only
  refine wpAny_bind (wpAny_of_eq (a := none) (by first | rfl | kernel_rfl) ?_)
  dsimp only
  refine wpAny_bind (wpAny_of_eq (a := some y) (by first | rfl | kernel_rfl) ?_)
  exact wpAny_pure (h _ (Nat.le_of_lt (by first | omega | (dsimp only; omega) | (exact Nat.lt_succ_of_lt (Nat.lt_succ_self _)) | exact Nat.lt_succ_self _)))
theorem look_miss {a : Addr} {f : Int → Option Value} {c : Nat} {Q : Builtin.Str.Mapped → Shared → Prop} (hd : (a == sysModules) = false) (hh : A.handled = none) (hm : s.heap.MapOf (intKind prog w) a f) (hv : f (c : Int) = none)
    (h : ∀ h' tk, (∀ b o, s.heap.get? b = some o → h'.get? b = some o) → s.toks ≤ tk → Q .keep { s with heap := h', toks := tk }) : wpAny (model prog w) A (Builtin.Str.tableLookup (.ref a) c) Q E s := by
  unfold Builtin.Str.tableLookup
  refine wpAny_bind (wpAny_attempt (wpAny_bind (wpAny_mkInt ?_)))
  refine wpAny_getItem_missing_of (knd := intKind prog w) (k := (c : Int)) (by exact beq_self_eq_true _) hd hh (by exact hm) hv fun h' e hx => ?_
  dsimp only
  obtain ⟨ob, t, he, hc, _⟩ := hx.there
  have hsub : isSubtype (.type "KeyError") (.type "LookupError") = pure true := by rw [isSubtype_type]; kernel_rfl
  refine wpAny_bind (wpAny_isInstance (T := "KeyError") ⟨ob, he, hc⟩ hsub ?_)
  rw [if_pos rfl]
  exact wpAny_bind (wpAny_rule (wpAny_pure (h _ _ hx.keeps (Nat.le_of_lt (by first | omega | (dsimp only; omega) | (exact Nat.lt_succ_of_lt (Nat.lt_succ_self _)) | exact Nat.lt_succ_self _)))))

theorem call_translate_hit {a : Addr} {f : Int → Option Value} {c : Nat} {y : Str} {t ty : Tok} {Q : Value → Shared → Prop} (hm : s.heap.MapOf (intKind prog w) a f) (hv : f (c : Int) = some (.str y ty)) (hy : 2 ≤ y.length) (hy2 : y.length ≤ 100) (hc : c < 128)
    (h : ∀ tk, s.toks ≤ tk → Q (.str y tk) { s with toks := tk + 1 }) : wpAny (model prog w) A (call (.builtin "str.translate") [.str ⟨#[c]⟩ t, .ref a]) Q E s := by
  refine wpAny_call_entry F.slot_str_translate (typeIs_str _ _ _) F.entry_str_translate ?_ (F.args_str_translate_2 _ _)
  unfold Builtin.«str.translate»
  refine wpAny_bind (wpAny_of_eq (a := (.str ⟨#[c]⟩ t, ⟨#[c]⟩, .ref a)) (by first | rfl | kernel_rfl) ?_)
  dsimp only
  rw [if_neg (show ¬ (({ cps := #[c] } : Str).length == 0) = true from Bool.false_ne_true)]
  have hfast : (#[c].all fun x => decide (x < 128)) = true := by simp [hc]
  have hlen : (y.length == 1) = false := beq_eq_false_iff_ne.mpr (by omega)
  rw [hfast]
  simp only [List.forIn_toArray, List.forIn_cons, List.forIn_nil, List.lookup_nil]
  have ht0 : Builtin.Str.tooLong 0 = false := by decide +kernel
  have ht1 : Builtin.Str.tooLong (0 + y.length) = false := by
    unfold Builtin.Str.tooLong
    rw [sizeLine_eq]
    exact decide_eq_false (by omega)
  refine wpAny_bind (wpAny_bind ?_)
  rw [if_neg (by rw [ht0]; decide)]
  rw [if_pos trivial]
  refine wpAny_bind (look_hit hm hv fun tk1 htk1 => ?_)
  dsimp only
  simp only [hlen, Bool.false_and, Bool.false_eq_true, if_false]
  refine wpAny_bind (wpAny_pure ?_)
  dsimp only
  refine wpAny_bind (wpAny_rule ?_)
  try rw [if_neg Bool.false_ne_true]
  refine wpAny_bind (look_hit (by exact hm) hv fun tk2 htk2 => ?_)
  dsimp only
  refine wpAny_pure ?_
  dsimp only
  refine wpAny_pure ?_
  rw [ht1]
  try rw [if_neg Bool.false_ne_true]
  have e : ({ cps := List.foldl (fun (acc : Array Nat) (p : Str) => acc ++ p.cps) #[] ([y], 0 + y.length, false, ([] : List (Nat × Option Nat)), false).fst.reverse } : Str) = y := by
    show (⟨#[] ++ y.cps⟩ : Str) = y
    rw [Array.empty_append]
  rw [e]
  unfold retStr
  exact wpAny_bind (wpAny_mkStr (wpAny_pure ⟨_, rfl, h _ (Nat.le_trans htk1 htk2)⟩) (by rw [sizeLine_eq]; omega))

theorem call_translate_miss {a : Addr} {f : Int → Option Value} {c : Nat} {t : Tok} {Q : Value → Shared → Prop} (hd : (a == sysModules) = false) (hh : A.handled = none) (hm : s.heap.MapOf (intKind prog w) a f) (hv : f (c : Int) = none) (hc : c < 128)
    (h : ∀ h' tk, (∀ b o, s.heap.get? b = some o → h'.get? b = some o) → s.toks ≤ tk → Q (.str ⟨#[c]⟩ tk) { s with heap := h', toks := tk + 1 }) : wpAny (model prog w) A (call (.builtin "str.translate") [.str ⟨#[c]⟩ t, .ref a]) Q E s := by
  refine wpAny_call_entry F.slot_str_translate (typeIs_str _ _ _) F.entry_str_translate ?_ (F.args_str_translate_2 _ _)
  unfold Builtin.«str.translate»
  refine wpAny_bind (wpAny_of_eq (a := (.str ⟨#[c]⟩ t, ⟨#[c]⟩, .ref a)) (by first | rfl | kernel_rfl) ?_)
  dsimp only
  rw [if_neg (show ¬ (({ cps := #[c] } : Str).length == 0) = true from Bool.false_ne_true)]
  have hfast : (#[c].all fun x => decide (x < 128)) = true := by simp [hc]
  rw [hfast]
  simp only [List.forIn_toArray, List.forIn_cons, List.forIn_nil, List.lookup_nil]
  have ht0 : Builtin.Str.tooLong 0 = false := by decide +kernel
  have ht1 : Builtin.Str.tooLong (0 + 1) = false := by decide +kernel
  refine wpAny_bind (wpAny_bind ?_)
  rw [if_neg (by rw [ht0]; decide)]
  rw [if_pos trivial]
  refine wpAny_bind (look_miss hd (by exact hh) hm hv fun h1 tk1 hk1 htk1 => ?_)
  dsimp only
  refine wpAny_bind (wpAny_pure ?_)
  dsimp only
  refine wpAny_pure ?_
  dsimp only
  refine wpAny_pure ?_
  dsimp only
  rw [ht1]
  rw [if_neg Bool.false_ne_true]
  have e : ({ cps := List.foldl (fun (acc : Array Nat) (p : Str) => acc ++ p.cps) #[] [(⟨#[c]⟩ : Str)].reverse } : Str) = ⟨#[c]⟩ := by
    show (⟨#[] ++ #[c]⟩ : Str) = _
    rw [Array.empty_append]
  rw [e]
  unfold retStr
  exact wpAny_bind (wpAny_mkStr (wpAny_pure ⟨_, rfl, h _ _ hk1 htk1⟩) (by rw [sizeLine_eq]; show 1 ≤ _; omega))

def saysText (y : Str) : Option Value → Bool
  | some (.str z _) => z == y
  | _ => false
theorem call_translate_hit' {a : Addr} {f : Int → Option Value} {c : Nat} (y : Str) {t : Tok} {Q : Value → Shared → Prop} (hm : s.heap.MapOf (intKind prog w) a f) (hv : saysText y (f (c : Int)) = true) (hy : 2 ≤ y.length) (hy2 : y.length ≤ 100) (hc : c < 128)
    (h : ∀ tk, s.toks ≤ tk → Q (.str y tk) { s with toks := tk + 1 }) : wpAny (model prog w) A (call (.builtin "str.translate") [.str ⟨#[c]⟩ t, .ref a]) Q E s := by
  cases e : f (c : Int) with
  | none => rw [e] at hv; cases hv
  | some v =>
    rw [e] at hv
    cases v with
    | str z tz =>
      have hz : z = y := beq_iff_eq.mp hv
      subst hz
      exact call_translate_hit hm e hy hy2 hc h
    | _ => cases hv

theorem isnot_str {y z : Str} {u v : Tok} {Q : Value → Shared → Prop} (hu : u ≠ 0) (hv : v ≠ 0) (hiff : y = z ↔ u = v) (h : Q (.bool (y != z)) s) : wpAny (model prog w) A (compareOp .IsNot (.str y u) (.str z v)) Q E s := by
  have e : isSame (.str y u) (.str z v) = pure (y == z) := by
    show (if (u == 0 || v == 0) = true then _ else if (u == v) = true then pure true else if (!(y == z)) = true then pure false else _ : Sem Bool) = _
    have h0 : (u == 0 || v == 0) = false := by simp [hu, hv]
    rw [h0, if_neg Bool.false_ne_true]
    by_cases q : y = z
    · have q' := hiff.mp q
      rw [if_pos (beq_iff_eq.mpr q'), beq_iff_eq.mpr q]
    · have q' : ¬ u = v := fun x => q (hiff.mpr x)
      have hb : (y == z) = false := beq_eq_false_iff_ne.mpr q
      rw [if_neg (fun e => q' (beq_iff_eq.mp e)), hb, if_pos (by rfl)]
  unfold compareOp
  dsimp only
  rw [e]
  exact wpAny_bind (wpAny_pure (wpAny_pure h))

theorem truthy_led {h₀ : Heap} {L l : Addr} {vs : List Value} {n : Nat} {news : List (Addr × Obj)} {Q : Bool → Shared → Prop} (N : News h₀ L s.heap news) (hm : (l, listOf vs.toArray n) ∈ news) (hsz : vs.length ≤ 1000000)
    (h : Q (!vs.isEmpty) { s with toks := s.toks + 1 + 1 }) : wpAny (model prog w) A (truthy (.ref l)) Q E s := by
  refine wpAny_truthy_list (items := vs.toArray) ⟨_, (N _ hm).1, rfl, n, rfl⟩ (by rw [List.size_toArray]; omega) ?_
  rw [List.isEmpty_toArray]
  exact h
theorem last_led {h₀ : Heap} {L l : Addr} {value slice : Expr} {vi : List Value} {v : Value} {u : Tok} {n : Nat} {news : List (Addr × Obj)} {Q : Value → Shared → Prop} (N : News h₀ L s.heap news) (hm : (l, listOf (vi ++ [v]).toArray n) ∈ news) (h : Q v s)
    (hs : subscripted slice false (.ref l) (.int (-1) u) = operate [.ref l, .int (-1) u] (getItem (.ref l) (.int (-1) u)) := by with_unfolding_all rfl) (hg : ∀ r, letTemporaryGo value (.ref l) r = pure () := by intro _; with_unfolding_all rfl) :
    wpAny (model prog w) A (subscriptTail value slice (.ref l) (.int (-1) u)) Q E s :=
  item_last ⟨_, (N _ hm).1, rfl, n, rfl⟩ h hs hg
end

section
variable {prog : Program} {w : World} {A : Around} {E : Value → Shared → Prop} {Q : Flow → Shared → Prop} {s : Shared} {env : Env} {h₀ : Heap} {L : Addr}

/-- the end of a turn of a while over a state σ -/
def WPost {σ : Type} (h₀ : Heap) (L : Addr) (s : Shared) (Led : σ → List (Addr × Obj)) (ps : σ → List (Str × Value)) (stored : List Str) (m₀ : Str → Option Value) (P : σ → Prop) (μ : σ → Nat) (Q : Flow → Shared → Prop) (c : σ) (f : Flow) (s₂ : Shared) : Prop :=
  match f with
  | .ret v => Q (.ret v) s₂
  | .brk => Q .next s₂
  | _ => KswEnd h₀ L s Led ps (fun _ => True) stored m₀ P μ c s₂

theorem WPost.end {σ : Type} {Led : σ → List (Addr × Obj)} {ps : σ → List (Str × Value)} {stored : List Str} {m₀ : Str → Option Value} {P : σ → Prop} {μ : σ → Nat} {c : σ} {h' : Heap} {tk : Nat} {m' : Str → Option Value} {news' : List (Addr × Obj)} (c' : σ)
    (F : Fr h₀ L h' m') (N : News h₀ L h' news') (hn : ∀ p ∈ Led c', p ∈ news') (hk : ∀ p ∈ ps c', m' p.1 = some p.2) (hr : ∀ z, (∀ p ∈ ps c', z ≠ p.1) → stored.contains z = false → m' z = m₀ z) (hp : P c') (hm : μ c' < μ c) :
    WPost h₀ L s Led ps stored m₀ P μ Q c .next { s with heap := h', toks := tk } := ⟨c', h', tk, m', news', rfl, F, N, hn, trivial, hk, hr, hp, hm⟩
/-- a while by a state, with what the tokens are above -/
theorem while_st {σ : Type} {test : Expr} {body : List Stmt} {pos : Pos} {m₀ : Str → Option Value} (n₀ : Nat) (Led : σ → List (Addr × Obj)) (ps : σ → List (Str × Value)) (stored : List Str) (P : σ → Prop) (μ : σ → Nat) (c₀ : σ)
    (htk : n₀ ≤ s.toks) (F : Fr h₀ L s.heap m₀) (N : News h₀ L s.heap (Led c₀)) (hk : ∀ p ∈ ps c₀, m₀ p.1 = some p.2) (hp : P c₀)
    (turn : ∀ (c : σ) (u : Str → Option Value) h tk, n₀ ≤ tk → P c → Fr h₀ L h (kstB (fun z => if stored.contains z then u z else m₀ z) (ps c)) → News h₀ L h (Led c) →
      wpAny (model prog w) A (isTrue test env (eval test env)) (fun b s₂ =>
        if b = true then wpAny (model prog w) A (execs body env) (WPost h₀ L s Led ps stored m₀ P μ Q c) E s₂ else Q .next s₂) E { s with heap := h, toks := tk })
    (hE : PassesOwn (model prog w) A env E := by passes_own) :
    wpAny (model prog w) A (exec (.While test body [] pos) env) Q E s := by
  refine wpAny_While (codeAny_whileLoop (fun k s' => ∃ h₁ tk₁ m₁ c, s' = { s with heap := h₁, toks := tk₁ } ∧ n₀ ≤ tk₁ ∧ Fr h₀ L h₁ m₁ ∧ News h₀ L h₁ (Led c) ∧ μ c = k ∧ (∀ p ∈ ps c, m₁ p.1 = some p.2) ∧ (∀ z, (∀ p ∈ ps c, z ≠ p.1) → stored.contains z = false → m₁ z = m₀ z) ∧ P c) ?_ (μ c₀)
    ⟨s.heap, s.toks, m₀, c₀, rfl, htk, F, N, rfl, hk, fun _ _ _ => rfl, hp⟩)
  rintro k s' ⟨h₁, tk₁, m₁, c, rfl, htk₁, F₁, N₁, rfl, h1, h2, hp'⟩
  refine wpAny_with_toks (n := n₀) htk₁ (wpAny_mono (turn c m₁ h₁ tk₁ htk₁ hp' (ksw_fr h1 h2 F₁) N₁) (fun b s₂ h₂ htk₂ => ?_) (fun e s' x _ => hE e s' x))
  cases b with
  | false =>
    simp only [Bool.false_eq_true, if_false] at h₂ ⊢
    exact wpAny_execs_nil h₂
  | true =>
    simp only [if_true] at h₂ ⊢
    refine wpAny_with_toks (n := n₀) htk₂ (wpAny_mono h₂ (fun f s₃ h₃ htk₃ => ?_) (fun e s' x _ => hE e s' x))
    cases f with
    | next =>
      obtain ⟨c', h', tk', m', news', rfl, F', N', hn, _, hk9, hr9, hp9, hm9⟩ := h₃
      exact ⟨μ c', hm9, h', tk', m', c', rfl, htk₃, F', fun p hp => N' p (hn p hp), rfl, hk9, hr9, hp9⟩
    | cont =>
      obtain ⟨c', h', tk', m', news', rfl, F', N', hn, _, hk9, hr9, hp9, hm9⟩ := h₃
      exact ⟨μ c', hm9, h', tk', m', c', rfl, htk₃, F', fun p hp => N' p (hn p hp), rfl, hk9, hr9, hp9⟩
    | brk => exact h₃
    | ret v => exact h₃
end

/-- a pure call, met in a frame with its ledger -/
theorem use_call {M : Model} {A : Around} {E : Value → Shared → Prop} {s : Shared} {h₀ : Heap} {L : Addr} {m : Str → Option Value} {news : List (Addr × Obj)} {t : Sem Value} {Q : Value → Shared → Prop} {R : Value → Prop}
    (F : Fr h₀ L s.heap m) (N : News h₀ L s.heap news) (C : wpAny M A t (fun v s' => Keeps s s' ∧ R v) E s)
    (h : ∀ v h' tk', Fr h₀ L h' m → News h₀ L h' news → R v → Q v { s with heap := h', toks := tk' }) : wpAny M A t Q E s := by
  refine wpAny_mono C (fun v s' ⟨k, r⟩ => ?_) fun _ _ x => x
  obtain ⟨h', tk', rfl, k⟩ := k
  exact h v h' tk' (F.keeps k) (N.grown k) r

theorem type_translate : typeOf (.builtin "str.translate") = pure (.type "method_descriptor") := by show builtinType _ = _; rw [builtinType_eq_fast]; kernel_rfl
theorem method_translate {M : Model} {A : Around} {E : Value → Shared → Prop} {s : Shared} {x : Str} {t : Tok} {pl : Sem Bool} {Q : Value × List Value → Shared → Prop} (h : Q (.builtin "str.translate", [.str x t]) s) :
    wpAny M A (getMethod (.str x t) (Str.ofString "translate") pl) Q E s := GM.of (.str x t) (typeIs_str _ _ _) F.slot_str_translate type_translate GM.noRef h

theorem item_sign {A : Around} {E : Value → Shared → Prop} {prog : Program} {w : World} {s : Shared} {x : Str} {t u : Tok} {i d : Nat} {value slice : Expr} {Q : Value → Shared → Prop} (hd : x.cps[i]? = some d) (hsz : x.length ≤ 64)
    (h : Q (.str ⟨#[d]⟩ s.toks) { s with toks := s.toks + 1 })
    (hs : subscripted slice false (.str x t) (.int (i : Int) u) = operate [.str x t, .int (i : Int) u] (getItem (.str x t) (.int (i : Int) u)) := by with_unfolding_all rfl)
    (ht : ∀ r, letTemporaryGo value (.str x t) r = pure () := by intro _; with_unfolding_all rfl) :
    wpAny (model prog w) A (subscriptTail value slice (.str x t) (.int (i : Int) u)) Q E s := by
  have hi : i < x.length := (Array.getElem?_eq_some_iff.mp hd).1
  have e : Txt.item x (i : Int) = ⟨#[d]⟩ := item_meets (by omega) (by rw [Int.toNat_natCast]; exact hd)
  refine item_str (fitsSsize_of (N := 9223372036854775808) (by omega) (by omega) (Int.le_refl _)) (by omega) (by omega) (fun _ => by rw [e]; exact h) hs ht
/-- which token the last star bears -/
def LastTok (ts : Tok) (vs : List Value) : Prop := ∀ ws y t, vs = ws ++ [.str y t] → t ≠ 0 ∧ (y = Str.ofString "*" ↔ t = ts)
theorem LastTok.nil {ts : Tok} : LastTok ts [] := fun ws y t e => by cases ws <;> cases e
theorem LastTok.snoc {ts : Tok} {vs : List Value} {y : Str} {t : Tok} (h0 : t ≠ 0) (h : y = Str.ofString "*" ↔ t = ts) : LastTok ts (vs ++ [.str y t]) := fun ws y' t' e => by
  have := (List.append_inj' e rfl).2
  simp at this
  obtain ⟨rfl, rfl⟩ := this
  exact ⟨h0, h⟩
theorem LastTok.other {ts : Nat} {vs : List Value} {y : Str} {t : Nat} (hlt : ts < t) (hy : (y == Str.ofString "*") = false) : LastTok ts (vs ++ [.str y t]) :=
  LastTok.snoc (fun e => by have : t = 0 := e; omega) ⟨fun e => absurd (beq_iff_eq.mpr e) (by rw [hy]; decide), fun e => by have : t = ts := e; omega⟩
theorem LastTok.star {ts : Tok} {vs : List Value} (h0 : ts ≠ 0) : LastTok ts (vs ++ [.str (Str.ofString "*") ts]) := LastTok.snoc h0 ⟨fun _ => rfl, fun _ => rfl⟩
structure TrSt where
  i : Nat
  ti : Tok
  vs : List Value
  ep : Nat
end Mine
end

section -- part Ba1
open PySem PySem.W PySem.Calls PyProof.Rows
set_option Elab.async false
set_option maxRecDepth 100000
set_option maxHeartbeats 4000000
namespace Mine
open Sem (wp)

namespace BA
theorem mro_ba : mroOf (.type "bytearray") = pure [.type "bytearray", .type "object"] := by rw [mroOf_type]; kernel_rfl
theorem lookup_new : typeLookup (.type "bytearray") "__new__" = pure (some (.builtin "bytearray.__new__")) := by rw [typeLookup_type, builtinLookup_eq_fast]; kernel_rfl
theorem slot_init : Slot "bytearray" "__init__" "bytearray.__init__" :=
  .of (owner := "bytearray") (n := "__init__") (by rw [typeLookup_type, builtinLookup_eq_fast]; kernel_rfl) (by decide +kernel) (by decide +kernel) (by decide +kernel)
    (by first | exact .inl (by decide +kernel) | exact .inr (by decide +kernel)) (by rw [isSubtype_type]; kernel_rfl)
theorem made : Bind.madeBy (.type "bytearray") = pure (some "bytearray.__new__") := madeBy_type mro_ba lookup_new (by decide +kernel)
theorem sub_self : isSubtype (.type "bytearray") (.type "bytearray") = pure true := by rw [isSubtype_type]; kernel_rfl
theorem called : TypeCalled "bytearray" "bytearray.__new__" "bytearray.__init__" :=
  ⟨by decide +kernel, by decide +kernel, ⟨_, _, mro_ba⟩, made, by decide +kernel, sub_self, slot_init⟩
theorem typeCall (a : Value) : checkTypeCall "bytearray" ⟨[a], []⟩ = pure () := by kernel_rfl
theorem newCall (a : Value) : checkBuiltinCall "bytearray.__new__" ⟨[.type "bytearray", a], []⟩ = pure () := by kernel_rfl
theorem entry_new : entryFor table "bytearray.__new__" = some Builtin.«list.__new__» :=
  entryFor_alias (id' := "list.__new__") (by kernel_rfl) (by first | rfl | decide +kernel) (by decide +kernel) (by kernel_rfl)
theorem entry_init : entryFor table "bytearray.__init__" = some Builtin.«bytearray.__init__» := entryFor_of_tree (by kernel_rfl)
theorem plain_new : plainId "bytearray.__new__" = true := by decide +kernel
theorem args_init (a b : Value) : argsOk "bytearray.__init__" ⟨[a, b], []⟩ := by unfold argsOk; kernel_rfl
theorem owner_new : ("bytearray.__new__".splitOn ".__new__").headD "" = "bytearray" := by simp +decide [String.splitOn, String.splitOnAux]
end BA

/-- a bytearray on the heap -/
def baObj (b : Array UInt8) : Obj := { cls := .type "bytearray", data := .bytearray b }
def IsBA (h : Heap) (a : Addr) (b : Array UInt8) : Prop := h.get? a = some (baObj b)

section
variable {prog : Program} {w : World} {A : Around} {E : Value → Shared → Prop} {s : Shared}

theorem code_new (a : Value) {Q₁ : Value → Shared → Prop} (h : Q₁ (.ref s.heap.objs.size) { s with heap := s.heap.push (baObj #[]) }) :
    codeAny (model prog w) A (.call (.builtin "bytearray.__new__") ⟨[.type "bytearray", a], []⟩) (wants Q₁ E) s := by
  refine codeAny_of_tree ?_
  show wpAny _ A.in1 (do checkBuiltinCall "bytearray.__new__" ⟨[.type "bytearray", a], []⟩; again (.builtin "bytearray.__new__" ⟨[.type "bytearray", a], []⟩)) _ _ s
  refine wpAny_bind (wpAny_of_eq (BA.newCall a) (wpAny_pure ⟨plainId_quiet BA.plain_new _, codeAny_builtin_stack BA.entry_new rfl fun p st => ?_⟩))
  rw [Around.under_plainId BA.plain_new _]
  have hsub := BA.sub_self
  have hown := BA.owner_new
  obtain ⟨hp, g, d, tk, os⟩ := s
  simp only [hown]
  wp_walk
  exact h

theorem wpC_of_eq {α β : Type} {M : Model} {m : Sem α} {a : α} {f : α → Sem β} {Q : β → Shared → Prop} (e : m = pure a) (h : wpC M A (f a) Q E s) : wpC M A (m >>= f) Q E s := by
  rw [e]
  exact wpC_bind (wpC_pure h)

end
theorem BA.typeIs {s : Shared} {a : Addr} {b : Array UInt8} (h : IsBA s.heap a b) : s.TypeIs (.ref a) "bytearray" := ⟨_, h, rfl⟩
theorem BA.lk_release : typeLookup (.type "bytearray") "__release_buffer__" = pure (some (.builtin "bytearray.__release_buffer__")) := by rw [typeLookup_type, builtinLookup_eq_fast]; kernel_rfl
theorem BA.lk_index : typeLookup (.type "int") "__index__" = pure (some (.builtin "int.__index__")) := by rw [typeLookup_type, builtinLookup_eq_fast]; kernel_rfl
theorem BA.bindOpt (v : Value) : Builtin.Bytes.bindOptional "bytearray.__init__" "bytearray" ["source", "encoding", "errors"] [v] [] = pure [some v, none, none] := by first | rfl | kernel_rfl
theorem BA.endsRel : ("bytearray.__release_buffer__" : String).endsWith ("." ++ "__release_buffer__") = true := by decide +kernel
theorem BA.dropRel : ("bytearray.__release_buffer__" : String).dropRight ("__release_buffer__".length + 1) = "bytearray" := by decide +kernel
theorem wpC_if_not {α : Type} {M : Model} {A : Around} {E : Value → Shared → Prop} {s : Shared} {c : Bool} {a b : Sem α} {Q : α → Shared → Prop} (hc : c = false) (h : wpC M A b Q E s) : wpC M A (if c = true then a else b) Q E s := by
  subst hc
  exact h
theorem wpC_if_so {α : Type} {M : Model} {A : Around} {E : Value → Shared → Prop} {s : Shared} {c : Bool} {a b : Sem α} {Q : α → Shared → Prop} (hc : c = true) (h : wpC M A a Q E s) : wpC M A (if c = true then a else b) Q E s := by
  subst hc
  exact h
theorem BA.if_not {α : Type} {M : Model} {A : Around} {E : Value → Shared → Prop} {s : Shared} {c : Bool} {a b : Sem α} {Q : α → Shared → Prop} (hc : c = false) (h : wpAny M A b Q E s) : wpAny M A (if c = true then a else b) Q E s := by
  subst hc
  exact h
theorem BA.if_so {α : Type} {M : Model} {A : Around} {E : Value → Shared → Prop} {s : Shared} {c : Bool} {a b : Sem α} {Q : α → Shared → Prop} (hc : c = true) (h : wpAny M A a Q E s) : wpAny M A (if c = true then a else b) Q E s := by
  subst hc
  exact h
theorem wpAny_of_eq0 {α : Type} {M : Model} {A : Around} {E : Value → Shared → Prop} {s : Shared} {m : Sem α} {a : α} {Q : α → Shared → Prop} (e : m = pure a) (h : Q a s) : wpAny M A m Q E s := by
  rw [e]; exact wpAny_pure h
theorem BA.asStr_int (i : Int) (t : Tok) : asStr? (.int i t) = pure none := rfl
theorem BA.asInt_int (i : Int) (t : Tok) : asInt? (.int i t) = pure (some i) := rfl
theorem BA.attempt_int (i : Int) (t : Tok) : (asIndex (.int i t)).attempt = pure (.ok i) := rfl
theorem BA.map_eq {s : Heap} {a : Addr} {b : Array UInt8} {f : Array UInt8 → Array UInt8} (ha : IsBA s a b) : (s.update a (Obj.mapBytearray f)).get? a = some (baObj (f b)) := Heap.get?_update_self _ ha rfl
theorem BA.upd {M : Model} {A : Around} {E : Value → Shared → Prop} {s : Shared} {a : Addr} {b : Array UInt8} {f : Array UInt8 → Array UInt8} {Q : Unit → Shared → Prop} (ha : IsBA s.heap a b) (hz : (f b).size ≤ sizeLine)
    (h : ∀ h', IsBA h' a (f b) → (∀ c o, c ≠ a → s.heap.get? c = some o → h'.get? c = some o) → Q () { s with heap := h' }) : wpAny M A (Builtin.Bytes.write (.ref a) f) Q E s := by
  show wpAny M A (updateBytearray a f) Q E s
  unfold updateBytearray
  refine wpAny_bind (wpAny_load ha ?_)
  dsimp only [baObj]
  refine wpAny_bind (wpAny_update ha ?_)
  have e := BA.map_eq (f := f) ha
  refine wpAny_lookBehind (o := baObj (f b)) e ?_ (h _ e fun c o hc ho => (Heap.get?_update_other _ _ (Ne.symm hc)).trans ho)
  show (if (f b).size > sizeLine then some "bytearray:memory" else none) = none
  rw [if_neg (Nat.not_lt.mpr hz)]
theorem BA.own {M : Model} {A : Around} {E : Value → Shared → Prop} {s : Shared} {a : Addr} {b : Array UInt8} {Q : Bool → Shared → Prop} (h : IsBA s.heap a b) (hq : Q false s) : wpAny M A (Builtin.Bytes.ownRelease (.ref a)) Q E s := by
  unfold Builtin.Bytes.ownRelease Builtin.Bytes.slotIsOwn
  refine wpAny_bind (wpAny_bind (wpAny_specialOf (BA.typeIs h) BA.lk_release ?_))
  dsimp only
  rw [BA.endsRel, BA.dropRel]
  exact wpAny_isInstance (BA.typeIs h) BA.sub_self (wpAny_pure hq)

theorem init_run {prog : Program} {w : World} {A : Around} {E : Value → Shared → Prop} {s : Shared} {a : Addr} {n : Nat} {t : Tok} {Q : Fin → Shared → Prop} (ha : IsBA s.heap a #[]) (hn : n ≤ 4096)
    (h : ∀ h', IsBA h' a (Array.replicate n 0) → (∀ b o, b ≠ a → s.heap.get? b = some o → h'.get? b = some o) → Q (.done (.ret .none)) { s with heap := h' }) :
    wpC (model prog w) A (Builtin.«bytearray.__init__» ⟨[.ref a, .int n t], []⟩) Q E s := by
  unfold Builtin.«bytearray.__init__»
  refine wpC_then (BA.own ha ?_)
  refine wpC_if_not rfl ?_
  refine wpC_of_eq (BA.bindOpt _) ?_
  refine wpC_of_eq rfl ?_
  refine wpC_of_eq rfl ?_
  refine wpC_bind (wpC_bind (exported_clear ?_))
  refine wpC_of_any ?_
  show wpAny _ _ (Builtin.Bytes.exportsOf (.ref a) >>= fun l => pure (decide (l > 0))) _ _ _
  unfold Builtin.Bytes.exportsOf
  refine wpAny_bind (wpAny_bind (wpAny_load ha ?_))
  refine wpAny_pure (wpAny_pure ?_)
  refine wpC_of_any ?_
  refine BA.if_not rfl ?_
  have e0 : (fun _ : Array UInt8 => (#[] : Array UInt8)) #[] = #[] := rfl
  refine wpAny_bind (BA.upd ha (f := fun _ => #[]) (Nat.zero_le _) fun h₁ ha₁ k₁ => ?_)
  show wpAny _ _ (asStr? (.int n t) >>= _) _ _ _
  rw [BA.asStr_int, pure_bind]
  simp only [Option.isSome_none, Bool.false_eq_true, if_false, pure_bind]
  have hT : Shared.TypeIs { s with heap := h₁ } (.int n t) "int" := typeIs_int _ _ _
  have key : ∀ (F : Option Value → Sem PySem.Fin), wpAny (model prog w) A (F (some (.builtin "int.__index__"))) Q E { s with heap := h₁ } → wpAny (model prog w) A (specialOf (.int n t) (Str.ofString "__index__") >>= F) Q E { s with heap := h₁ } :=
    fun F hF => wpAny_bind (wpAny_specialOf hT BA.lk_index hF)
  refine key _ ?_
  have hi : Builtin.Bytes.fitsIndex (n : Int) = true := by
    unfold Builtin.Bytes.fitsIndex
    simp only [Bool.and_eq_true, decide_eq_true_eq]
    omega
  have h2 : ¬ ((n : Int) < 0) := by omega
  have h3 : ((n : Int) == 2 ^ 63 - 1) = false := beq_eq_false_iff_ne.mpr (by omega)
  have h4 : Builtin.Bytes.tooLong (n : Int).toNat = false := by unfold Builtin.Bytes.tooLong; exact decide_eq_false (by rw [sizeLine_eq]; omega)
  simp only [Option.isSome_some, if_true, BA.attempt_int, pure_bind, hi, Bool.not_true, Bool.false_eq_true, if_false, h2, h3, h4]
  refine wpAny_bind (wpAny_rule ?_)
  by_cases hz : n = 0
  · subst hz
    rw [if_neg (by omega)]
    exact wpAny_pure (h h₁ ha₁ k₁)
  · rw [if_pos (by omega)]
    refine wpAny_bind (BA.upd ha₁ (f := fun _ => Array.replicate (n : Int).toNat 0) (by simp [sizeLine_eq]; omega) fun h₂ ha₂ k₂ => wpAny_pure (h h₂ (by simpa using ha₂) fun b o hb e => k₂ b o hb (k₁ b o hb e)))

theorem codeC_builtin {prog : Program} {w : World} {A : Around} {s : Shared} {R : Result → Shared → Prop} {id : String} {args : Args} {b : Builtin} (hcl : holdsOne (.builtin id args) = false) (hb : entryFor table id = some b)
    (h : wpC (model prog w) (A.under (.builtin id args)) (b args) (fun fin s' => match fin with | .done f => R (.ok f) s' | .again c' => c'.quiet = true ∧ codeC (model prog w) A c' R s') (fun e s' => R (.error e) s') s) :
    codeC (model prog w) A (.builtin id args) R s := by
  refine codeC_of_tree hcl ?_
  show wpC _ _ (match entryFor table id with | some b => b args | none => unsupported ((withoutEnding? id "#data").getD id)) _ _ s
  rw [hb]; exact h

theorem wpC_callSpecial {M : Model} {A : Around} {E : Value → Shared → Prop} {s : Shared} {self : Value} {T : String} {name : Str} {id : String} {args : List Value} {kw : List (Str × Value)}
    {Q : Option Value → Shared → Prop} (hT : s.TypeIs self T) (h : Slot T name id)
    (hc : wpC M A (call (.builtin id) (self :: args) kw) (fun v => Q (some v)) E s) : wpC M A (callSpecial? self name args kw) Q E s := by
  simp only [callSpecial?]
  refine wpC_then (wpAny_specialOf hT h.lookup ?_)
  simp only [h.bind]
  exact wpC_holding (wpC_bind (wpC_pure (wpC_bind (wpC_mono hc (fun v s' h' => wpC_pure h') fun _ _ h' => h'))))

theorem codeC_call_builtin {prog : Program} {w : World} {A : Around} {s : Shared} {R : Result → Shared → Prop} {id : String} {args : Args} {b : Builtin} (hcl : holdsOne (.builtin id args) = false) (hp : plainId id = true) (hb : entryFor table id = some b)
    (h : wpAny (model prog w) A.in1 (checkBuiltinCall id args) (fun _ s₁ => wpC (model prog w) A.in1 (b args)
      (fun fin s' => match fin with | .done f => R (.ok f) s' | .again c' => c'.quiet = true ∧ codeC (model prog w) A c' R s') (fun e s' => R (.error e) s') s₁)
      (fun e s' => R (.error e) s') s) : codeC (model prog w) A (.call (.builtin id) args) R s := by
  refine codeC_of_tree rfl ?_
  show wpC _ A.in1 (do checkBuiltinCall id args; again (.builtin id args)) _ _ s
  refine wpC_then (wpAny_mono h (fun _ s₁ h₁ => wpC_pure (And.intro (plainId_quiet hp _) (codeC_builtin hcl hb ?_))) fun _ _ h' => h')
  rw [Around.under_plainId hp _]
  exact h₁

theorem wpC_bytearray {prog : Program} {w : World} {A : Around} {E : Value → Shared → Prop} {s : Shared} {n : Nat} {t : Tok} {Q : Value → Shared → Prop} (hn : n ≤ 4096)
    (h : ∀ a h', s.heap.get? a = none → IsBA h' a (Array.replicate n 0) → (∀ b o, s.heap.get? b = some o → h'.get? b = some o) → Q (.ref a) { s with heap := h' }) :
    wpC (model prog w) A (call (.type "bytearray") [.int n t]) Q E s := by
  refine wpC_call (codeC_of_tree rfl ?_)
  show wpC _ _ (callAny (.type "bytearray") _) _ _ _
  refine wpC_pure ⟨Code.quiet_builtin _ (by decide +kernel), codeC_builtin rfl F.entry_type_call ?_⟩
  rw [Around.under_plain (weight_type_call_type "bytearray" [.int n t] []) rfl]
  unfold Builtin.«type.__call__»
  have h1 := BA.called.notType
  have h2 := BA.called.canCreate
  simp only [h1, h2, BA.typeCall, BA.mro_ba, BA.made, pure_bind, Bool.false_eq_true, if_false, List.isEmpty_cons]
  refine wpC_then (wpAny_holding (wpAny_call (codeAny_mono (code_new (E := fun e s' => False) (.int n t) (Q₁ := fun v s' => v = .ref s.heap.objs.size ∧ s' = { s with heap := s.heap.push (baObj #[]) }) ⟨rfl, rfl⟩) fun r s' hr => ?_)))
  cases r with
  | error e => exact hr.elim
  | ok fl =>
    cases fl with
    | ret obj =>
      obtain ⟨rfl, rfl⟩ := hr
      have ha : IsBA (s.heap.push (baObj #[])) s.heap.objs.size #[] := by simpa [IsBA] using Heap.get?_push_size _ rfl
      have hT : Shared.TypeIs { s with heap := s.heap.push (baObj #[]) } (.ref s.heap.objs.size) "bytearray" := BA.typeIs ha
      refine wpC_then (wpAny_isInstance hT BA.sub_self ?_)
      simp only [Bool.not_true, Bool.false_eq_true, if_false]
      refine wpC_bind (wpC_holding (wpC_callSpecial hT BA.slot_init (wpC_call (codeC_call_builtin rfl BA.slot_init.plain BA.entry_init (BA.slot_init.check _ _ _ _ _ _ _ _ hT (BA.args_init _ _) ?_)))))
      refine init_run ha hn fun h' hb hk => ?_
      refine wpC_pure (h _ h' (Heap.get?_none_of_le (Nat.le_refl _)) hb fun b o e => hk b o (Nat.ne_of_lt (Heap.lt_size e)) (Heap.get?_push_of_some _ e))
    | _ => exact hr.elim
end Mine
end

section -- part Ba2
open PySem PySem.W PySem.Calls PyProof.Rows
set_option Elab.async false
set_option maxRecDepth 100000
set_option maxHeartbeats 4000000
namespace Mine
open Sem (wp)
namespace BA
theorem slot_set : Slot "bytearray" "__setitem__" "bytearray.__setitem__" :=
  .of (owner := "bytearray") (n := "__setitem__") (by rw [typeLookup_type, builtinLookup_eq_fast]; kernel_rfl) (by decide +kernel) (by decide +kernel) (by decide +kernel)
    (by first | exact .inl (by decide +kernel) | exact .inr (by decide +kernel)) (by rw [isSubtype_type]; kernel_rfl)
theorem entry_set : entryFor table "bytearray.__setitem__" = some Builtin.«bytearray.__setitem__» := entryFor_of_tree (by kernel_rfl)
theorem args_set (a b c : Value) : argsOk "bytearray.__setitem__" ⟨[a, b, c], []⟩ := by unfold argsOk; kernel_rfl
theorem noBytes : typeLookup (.type "bytearray") "__bytes__" = pure none := by rw [typeLookup_type, builtinLookup_eq_fast]; kernel_rfl
theorem noIndex : typeLookup (.type "bytearray") "__index__" = pure none := by rw [typeLookup_type, builtinLookup_eq_fast]; kernel_rfl
theorem lk_buffer : typeLookup (.type "bytearray") "__buffer__" = pure (some (.builtin "bytearray.__buffer__")) := by rw [typeLookup_type, builtinLookup_eq_fast]; kernel_rfl
theorem endsBuf : ("bytearray.__buffer__" : String).endsWith ("." ++ "__buffer__") = true := by decide +kernel
theorem dropBuf : ("bytearray.__buffer__" : String).dropRight ("__buffer__".length + 1) = "bytearray" := by decide +kernel
theorem asIndex_int (i : Int) (t : Tok) : asIndex (.int i t) = pure i := rfl
end BA

section
variable {prog : Program} {w : World} {A : Around} {E : Value → Shared → Prop} {s : Shared}

theorem ba_payload {M : Model} {a : Addr} {b : Array UInt8} {Q : Array UInt8 → Shared → Prop} (ha : IsBA s.heap a b) (h : Q b s) : wpAny M A (Builtin.Bytes.payload (.ref a)) Q E s := by
  unfold Builtin.Bytes.payload Builtin.Bytes.payload?
  refine wpAny_bind (wpAny_bind (wpAny_load ha ?_))
  exact wpAny_pure (wpAny_pure h)

theorem ba_set {a : Addr} {b : Array UInt8} {k : Nat} {t u : Tok} {x : UInt8} {Q : Unit → Shared → Prop} (ha : IsBA s.heap a b) (hk : k < b.size) (hz : b.size ≤ 4096)
    (h : ∀ h', IsBA h' a (b.setIfInBounds k x) → (∀ c o, c ≠ a → s.heap.get? c = some o → h'.get? c = some o) → Q () { s with heap := h' }) :
    wpAny (model prog w) A (setItem (.ref a) (.int (k : Int) t) (.int (x.toNat : Int) u)) Q E s := by
  have hT := BA.typeIs ha
  unfold setItem
  refine wpAny_holding ?_
  refine wpAny_bind (wpAny_sequenceKey hT (by decide) ?_)
  refine wpAny_bind (wpAny_callSpecial?_slot (name := Str.ofString "__setitem__") hT BA.slot_set (wpAny_call_entry BA.slot_set hT BA.entry_set ?_ (BA.args_set _ _ _)))
  unfold Builtin.«bytearray.__setitem__»
  refine BA.if_not ?_ ?_
  · exact rfl
  have hsub : Builtin.Bytes.subscript? (.int (k : Int) t) = (do if (← specialOf (.int (k : Int) t) "__index__").isNone then return none else pure (some (k : Int))) := by
    unfold Builtin.Bytes.subscript?
    have : Builtin.Bytes.fitsIndex (k : Int) = true := by
      unfold Builtin.Bytes.fitsIndex
      simp only [Bool.and_eq_true, decide_eq_true_eq]
      omega
    simp only [BA.asIndex_int, pure_bind, this, Bool.not_true, Bool.false_eq_true, if_false]
  show wpAny _ _ (Builtin.Bytes.subscript? (.int (k : Int) t) >>= _) _ _ _
  rw [hsub]
  refine wpAny_bind (wpAny_bind (wpAny_specialOf (typeIs_int _ _ _) BA.lk_index ?_))
  refine BA.if_not ?_ ?_
  · exact rfl
  refine wpAny_pure ?_
  have hx : x.toNat < 256 := x.toNat_lt
  have hbv : Builtin.Bytes.byteValue (.int (x.toNat : Int) u) = pure x := by
    unfold Builtin.Bytes.byteValue
    have e : ((x.toNat : Int) < 0 || (x.toNat : Int) ≥ 256) = false := by simp; omega
    simp only [BA.asIndex_int, pure_bind]
    rw [show (decide ((x.toNat : Int) < 0) || decide ((x.toNat : Int) ≥ 256)) = false by simp; omega]
    simp
  show wpAny _ _ (Builtin.Bytes.byteValue (.int (x.toNat : Int) u) >>= _) _ _ _
  rw [hbv, pure_bind]
  refine wpAny_bind (ba_payload ha ?_)
  have hsi : seqIndex? (k : Int) b.size = some k := by
    unfold seqIndex?
    have h0 : ¬ ((k : Int) < 0) := by omega
    simp [h0, hk]
  rw [hsi]
  dsimp only
  refine wpAny_bind (BA.upd ha (f := fun b => b.setIfInBounds k x) (by simp [sizeLine_eq]; omega) fun h' hb hk => ?_)
  first
    | exact wpAny_bind (wpAny_pure (wpAny_pure ⟨.none, rfl, wpAny_pure (h h' hb hk)⟩))
    | exact wpAny_pure ⟨.none, rfl, wpAny_pure (h h' hb hk)⟩

theorem bytes_new {a : Addr} {b : Array UInt8} {Q : Value → Shared → Prop} (ha : IsBA s.heap a b) (hz : b.size ≤ 4096) (hQ : ∀ t k, Q (.bytes b t) { s with toks := k }) :
    codeAny (model prog w) A (.call (.builtin "bytes.__new__") ⟨[.type "bytes", .ref a], []⟩) (wants Q E) s := by
  refine codeAny_of_tree ?_
  show wpAny _ A.in1 (do checkBuiltinCall "bytes.__new__" ⟨[.type "bytes", .ref a], []⟩; again (.builtin "bytes.__new__" ⟨[.type "bytes", .ref a], []⟩)) _ _ s
  refine wpAny_bind (wpAny_of_eq (F.bm_newCall _) (wpAny_pure ⟨plainId_quiet F.bm_plain _, codeAny_builtin F.bm_entry ?_⟩))
  rw [Around.under_plainId F.bm_plain _]
  have hT := BA.typeIs ha
  unfold Builtin.«bytes.__new__»
  refine wpAny_bind (wpAny_of_eq (a := true) rfl ?_)
  refine bm_if_false ?_ ?_
  · exact rfl
  refine wpAny_bind (wpAny_of_eq F.bm_sub ?_)
  refine bm_if_false ?_ ?_
  · exact rfl
  refine wpAny_bind (wpAny_of_eq (F.bm_bind _) ?_)
  refine wpAny_bind (wpAny_of_eq (a := ()) rfl ?_)
  refine wpAny_bind (wpAny_of_eq (a := ()) rfl ?_)
  refine bm_if_false ?_ ?_
  · exact rfl
  refine wpAny_bind (wpAny_specialOf hT BA.noBytes ?_)
  refine wpAny_bind (wpAny_bind ?_)
  show wpAny _ _ (load a >>= _) _ _ _
  refine wpAny_bind (wpAny_load ha ?_)
  refine wpAny_pure (wpAny_pure ?_)
  refine bm_if_false ?_ ?_
  · exact rfl
  refine wpAny_bind (wpAny_specialOf hT BA.noIndex ?_)
  refine bm_if_true ?_ ?_
  · exact rfl
  first
    | show wpAny _ _ (Builtin.Bytes.buffer? "bytes.__new__" (.ref a) true >>= _) _ _ _
    | (refine wpAny_bind ?_; show wpAny _ _ (Builtin.Bytes.buffer? "bytes.__new__" (.ref a) true >>= _) _ _ _)
  refine wpAny_bind ?_
  unfold Builtin.Bytes.buffer?
  refine wpAny_bind (wpAny_specialOf hT BA.lk_buffer ?_)
  dsimp only
  unfold Builtin.Bytes.slotIsOwn
  refine wpAny_bind (wpAny_bind (wpAny_specialOf hT BA.lk_buffer ?_))
  dsimp only
  rw [BA.endsBuf, BA.dropBuf]
  refine bm_if_false ?_ ?_
  · exact rfl
  refine wpAny_isInstance hT BA.sub_self ?_
  refine bm_if_false ?_ ?_
  · exact rfl
  refine wpAny_bind (wpAny_specialOf hT BA.lk_buffer ?_)
  refine wpAny_bind (BA.own ha ?_)
  refine bm_if_false ?_ ?_
  · exact rfl
  refine wpAny_bind (ba_payload ha (wpAny_pure ?_))
  refine wpAny_bind (wpAny_rule ?_)
  refine wpAny_bind (wpAny_mkBytes ?_ (by rw [sizeLine_eq]; omega))
  show wpAny _ _ (if (Value.type "bytes" == Value.type "bytes") = true then _ else _) _ _ _
  refine bm_if_true (by decide) ?_
  first
    | exact wpAny_pure (hQ _ _)
    | exact wpAny_bind (wpAny_pure (wpAny_pure (hQ _ _)))

/-- bytes(x), x a bytearray -/
theorem call_bytes_ba {a : Addr} {b : Array UInt8} {Q : Value → Shared → Prop} (ha : IsBA s.heap a b) (hz : b.size ≤ 4096)
    (hQ : ∀ t k, Q (.bytes b t) { s with toks := k }) : wpAny (model prog w) A (call (.type "bytes") [.ref a]) Q E s := by
  refine callType_codes (Q₁ := fun obj s₁ => s₁.TypeIs obj "bytes" ∧ Q obj s₁) F.bm_called (F.bm_typeCall _) F.entry_object_init
    (bytes_new ha hz fun t k => ⟨PySem.W.typeIs_bytes _ _ _, hQ t k⟩) fun obj s₁ h₁ => ?_
  exact ⟨h₁.1, F.args_object_init_2 obj _, object_init_meets F.bm_called.init.lookup F.bm_called.made (by decide) prog w A.in1 _ s₁ ⟨h₁.1, rfl, h₁.2⟩⟩
end
end Mine
end

section -- part Base4
open PySem PySem.W PySem.Calls PyProof.Rows
set_option Elab.async false
set_option maxRecDepth 100000
set_option maxHeartbeats 4000000
namespace Mine

/-- a heap that has grown by one object -/
theorem take_new {h₀ h h₁ : Heap} {L a : Addr} {m : Str → Option Value} {news : List (Addr × Obj)} {o : Obj} (F : Fr h₀ L h m) (N : News h₀ L h news)
    (hn : h.get? a = none) (ho : h₁.get? a = some o) (hk : ∀ b o, h.get? b = some o → h₁.get? b = some o) : Fr h₀ L h₁ m ∧ News h₀ L h₁ ((a, o) :: news) := by
  refine ⟨⟨F.ns.keeps hk, fun b o e => hk b o (F.keep b o e), F.above⟩, fun p hp => ?_⟩
  rcases List.mem_cons.mp hp with rfl | hp
  · refine ⟨ho, ?_, ?_⟩
    · rintro rfl
      obtain ⟨o', _, _, e, _⟩ := F.ns
      rw [hn] at e; cases e
    · cases e : h₀.get? a with
      | none => rfl
      | some o' => rw [F.keep _ _ e] at hn; cases hn
  · exact ⟨hk _ _ (N p hp).1, (N p hp).2⟩
/-- one new object is written -/
theorem turn_new {h₀ h h₁ : Heap} {L a : Addr} {m : Str → Option Value} {rest : List (Addr × Obj)} {o o' : Obj} (F : Fr h₀ L h m) (N : News h₀ L h ((a, o) :: rest))
    (ho : h₁.get? a = some o') (hk : ∀ b o, b ≠ a → h.get? b = some o → h₁.get? b = some o) (hr : ∀ p ∈ rest, p.1 ≠ a) : Fr h₀ L h₁ m ∧ News h₀ L h₁ ((a, o') :: rest) := by
  have ha := N (a, o) List.mem_cons_self
  refine ⟨⟨?_, fun b o e => hk b o (fun hb => by subst hb; rw [ha.2.2] at e; cases e) (F.keep b o e), F.above⟩, fun p hp => ?_⟩
  · obtain ⟨o1, es, ep, e, hd, h3, h4⟩ := F.ns
    exact ⟨o1, es, ep, hk _ _ (fun hb => ha.2.1 hb.symm) e, hd, h3, h4⟩
  · rcases List.mem_cons.mp hp with rfl | hp
    · exact ⟨ho, ha.2⟩
    · exact ⟨hk _ _ (hr p hp) (N p (List.mem_cons_of_mem _ hp)).1, (N p (List.mem_cons_of_mem _ hp)).2⟩

section
variable {prog : Program} {w : World} {A : Around} {E : Value → Shared → Prop} {s : Shared} {env : Env} {h₀ : Heap} {x x₂ : Str} {body : List Stmt} {Q : Flow → Shared → Prop}

/-- the end of a turn that stores one more name, x₂ -/
def UPost (h₀ : Heap) (L : Addr) (x x₂ : Str) (m₀ : Str → Option Value) (l : Addr) (P : Obj → Prop) (rest : List (Addr × Obj)) (I : Addr) (oI : Obj) (s₁ : Shared) (Q : Flow → Shared → Prop) (f : Flow) (s₂ : Shared) : Prop :=
  match f with
  | .ret v => Q (.ret v) s₂
  | .brk => Q .next s₂
  | _ => ∃ h' tk m' o', s₂ = { s₁ with heap := h', toks := tk } ∧ Fr h₀ L h' m' ∧ News h₀ L h' ((I, oI) :: (l, o') :: rest) ∧ (∀ z, z ≠ x → z ≠ x₂ → m' z = m₀ z) ∧ P o'
theorem UPost.end {L : Addr} {m₀ : Str → Option Value} {l : Addr} {P : Obj → Prop} {rest : List (Addr × Obj)} {I : Addr} {oI o' : Obj} {s₁ : Shared} {h' : Heap} {tk : Nat} {m' : Str → Option Value}
    (F : Fr h₀ L h' m') (N : News h₀ L h' ((I, oI) :: (l, o') :: rest)) (hm : ∀ z, z ≠ x → z ≠ x₂ → m' z = m₀ z) (hj : P o') : UPost h₀ L x x₂ m₀ l P rest I oI s₁ Q .next { s₁ with heap := h', toks := tk } :=
  ⟨h', tk, m', o', rfl, F, N, hm, hj⟩

theorem loop_range2 {r : Addr} {a₀ b₀ c₀ : Int} {t₀ u₀ v₀ : Tok} (x₂ : Str) (n : Nat) {m₀ : Str → Option Value} {l : Addr} {o₀ : Obj} {rest : List (Addr × Obj)} (P : Nat → Obj → Prop)
    (hh : A.handled = none) (hr : IsRange s.heap r a₀ b₀ c₀ t₀ u₀ v₀) (hsmall : Builtin.Range.small a₀ b₀ c₀ = true) (hsz : Builtin.Range.rangeSize a₀ b₀ c₀ = (n : Int))
    (F : Fr h₀ env.locals s.heap m₀) (N : News h₀ env.locals s.heap ((l, o₀) :: rest)) (hj : P 0 o₀)
    (turn : ∀ i t o h tk I oI (u : Option Value), i < n → P i o → I ≠ l → (∀ p ∈ rest, p.1 ≠ I) → Fr h₀ env.locals h (fun y => if y = x then some (.int (a₀ + (i : Int) * c₀) t) else if y = x₂ then u else m₀ y) → News h₀ env.locals h ((I, oI) :: (l, o) :: rest) →
      wpAny (model prog w) A (execs body env) (UPost h₀ env.locals x x₂ m₀ l (P (i + 1)) rest I oI { s with heap := h, toks := tk } Q) E { s with heap := h, toks := tk })
    (done : ∀ (u u' : Option Value) o h tk, P n o → Fr h₀ env.locals h (fun y => if y = x then u else if y = x₂ then u' else m₀ y) → News h₀ env.locals h ((l, o) :: rest) → Q .next { s with heap := h, toks := tk }) :
    wpAny (model prog w) A (pyIter (.ref r)) (fun it s₂ => LoopAtV prog w A h₀ env x body Q E it s₂) E s := by
  refine loop_range (fun i m nx => (∀ z, z ≠ x → z ≠ x₂ → m z = m₀ z) ∧ ∃ o, nx = (l, o) :: rest ∧ P i o) hh hr hsmall hsz F N ⟨fun _ _ _ => rfl, _, rfl, hj⟩ ?_ ?_
  · rintro i t m₁ news₁ h tk I oI hi ⟨hm, o, rfl, hP⟩ hn F₁ N₁
    have e : (fun y => if y = x then some (Value.int (a₀ + (i : Int) * c₀) t) else m₁ y) = fun y => if y = x then some (Value.int (a₀ + (i : Int) * c₀) t) else if y = x₂ then m₁ x₂ else m₀ y := by
      funext y
      by_cases h1 : y = x
      · simp [h1]
      · simp only [if_neg h1]
        by_cases h2 : y = x₂
        · simp [h2]
        · simp only [if_neg h2]; exact hm y h1 h2
    rw [e] at F₁
    have hn' : ∀ o' : Obj, ∀ p ∈ (l, o') :: rest, p.1 ≠ I := fun o' p hp => by
      rcases List.mem_cons.mp hp with rfl | hp
      · exact hn (l, o) List.mem_cons_self
      · exact hn p (List.mem_cons_of_mem _ hp)
    refine wpAny_mono (turn i t o h tk I oI (m₁ x₂) hi hP (fun e => hn _ (List.mem_cons_self) e.symm) (fun p hp => hn p (List.mem_cons_of_mem _ hp)) F₁ N₁) (fun f s₂ p => ?_) fun _ _ e => e
    cases f with
    | ret v => exact p
    | brk => exact p
    | next => obtain ⟨h', tk', m', o', e, F', N', hm', hj'⟩ := p; exact ⟨h', tk', m', _, e, F', N', hn' o', hm', o', rfl, hj'⟩
    | cont => obtain ⟨h', tk', m', o', e, F', N', hm', hj'⟩ := p; exact ⟨h', tk', m', _, e, F', N', hn' o', hm', o', rfl, hj'⟩
  · rintro m₁ news₁ h tk ⟨hm, o, rfl, hP⟩ F₁ N₁
    refine done (m₁ x) (m₁ x₂) o h tk hP ?_ N₁
    have e : (fun y => if y = x then m₁ x else if y = x₂ then m₁ x₂ else m₀ y) = m₁ := by
      funext y
      by_cases h1 : y = x
      · simp [h1]
      · simp only [if_neg h1]
        by_cases h2 : y = x₂
        · simp [h2]
        · simp only [if_neg h2]; exact (hm y h1 h2).symm
    rw [e]; exact F₁
end

/-- the octets of samples of n, each sample turned round -/
def swapAt (n : Nat) (ks : List Int) (p : Nat) : Int := ks.getD (p / n * n + (n - 1 - p % n)) 0
def swapL (n : Nat) (ks : List Int) : List Int := (List.range ks.length).map (swapAt n ks)
/-- a bytearray at which the places of S have their octet -/
def Swapped (n : Nat) (ks : List Int) (S : Nat → Prop) (o : Obj) : Prop := ∃ b : Array UInt8, o = baObj b ∧ b.size = ks.length ∧ ∀ p, p < ks.length → S p → b[p]? = some (swapAt n ks p).toNat.toUInt8

theorem Swapped.start (n : Nat) (ks : List Int) : Swapped n ks (fun p => p < 0 * n) (baObj (Array.replicate ks.length 0)) :=
  ⟨_, rfl, by simp, fun p _ h => by omega⟩
theorem swapAt_eq {n : Nat} {ks : List Int} {i j : Nat} (hj : j < n) : swapAt n ks (i * n + n - 1 - j) = ks.getD (i * n + j) 0 := by
  unfold swapAt
  have e : i * n + n - 1 - j = (n - 1 - j) + n * i := by rw [Nat.mul_comm n i]; omega
  have hd : (i * n + n - 1 - j) / n = i := by
    rw [e, Nat.add_mul_div_left _ _ (by omega), Nat.div_eq_of_lt (by omega)]; omega
  have hm : (i * n + n - 1 - j) % n = n - 1 - j := by
    rw [e, Nat.add_mul_mod_self_left, Nat.mod_eq_of_lt (by omega)]
  rw [hd, hm]
  congr 1
  omega
theorem Swapped.set {n : Nat} {ks : List Int} {i j : Nat} {b : Array UInt8} (hj : j < n) (hb : Swapped n ks (fun p => p < i * n ∨ (i * n + n - j ≤ p ∧ p < i * n + n)) (baObj b)) :
    Swapped n ks (fun p => p < i * n ∨ (i * n + n - (j + 1) ≤ p ∧ p < i * n + n)) (baObj (b.setIfInBounds (i * n + n - 1 - j) (ks.getD (i * n + j) 0).toNat.toUInt8)) := by
  obtain ⟨b', e, hz, hb⟩ := hb
  have : b' = b := by
    have := congrArg Obj.data e
    simp [baObj] at this
    exact this.symm
  subst this
  refine ⟨_, rfl, by simpa using hz, fun p hp hS => ?_⟩
  rw [Array.getElem?_setIfInBounds]
  by_cases h : i * n + n - 1 - j = p
  · subst h
    rw [if_pos rfl, if_pos (by omega), swapAt_eq hj]
  · rw [if_neg h]
    exact hb p hp (by rcases hS with hS | hS; · exact .inl hS
                      · exact .inr ⟨by omega, hS.2⟩)
theorem Swapped.open {n : Nat} {ks : List Int} {i : Nat} {o : Obj} (h : Swapped n ks (fun p => p < i * n) o) : Swapped n ks (fun p => p < i * n ∨ (i * n + n - 0 ≤ p ∧ p < i * n + n)) o := by
  obtain ⟨b, e, hz, hb⟩ := h
  exact ⟨b, e, hz, fun p hp hS => hb p hp (by rcases hS with hS | hS <;> omega)⟩
theorem Swapped.close {n : Nat} {ks : List Int} {i : Nat} {o : Obj} (h : Swapped n ks (fun p => p < i * n ∨ (i * n + n - n ≤ p ∧ p < i * n + n)) o) : Swapped n ks (fun p => p < (i + 1) * n) o := by
  obtain ⟨b, e, hz, hb⟩ := h
  refine ⟨b, e, hz, fun p hp hS => hb p hp ?_⟩
  rw [Nat.add_mul, Nat.one_mul] at hS
  by_cases h1 : p < i * n
  · exact .inl h1
  · exact .inr ⟨by omega, hS⟩
theorem Swapped.whole {n m : Nat} {ks : List Int} {o : Obj} (hk : ks.length = m * n) (hn : 0 < n) (hin : ∀ k ∈ ks, 0 ≤ k ∧ k < 256) (h : Swapped n ks (fun p => p < m * n) o) : ∃ b, o = baObj b ∧ b.size = ks.length ∧ KBw.bInts b = swapL n ks := by
  obtain ⟨b, e, hz, hb⟩ := h
  refine ⟨b, e, hz, ?_⟩
  apply List.ext_getElem?
  intro p
  by_cases hp : p < ks.length
  · have h1 := hb p hp (by omega)
    have hp' : p < b.size := by omega
    have h2 : b[p] = (swapAt n ks p).toNat.toUInt8 := by
      rw [Array.getElem?_eq_getElem hp'] at h1
      exact Option.some.inj h1
    have hv : 0 ≤ swapAt n ks p ∧ swapAt n ks p < 256 := by
      unfold swapAt
      rw [List.getD_eq_getElem?_getD]
      cases hq : ks[p / n * n + (n - 1 - p % n)]? with
      | none => simp
      | some k => exact hin k (List.mem_of_getElem? hq)
    rw [KBw.bInts, List.getElem?_map, Array.getElem?_toList, Array.getElem?_eq_getElem hp', swapL, List.getElem?_map, List.getElem?_range hp]
    simp only [Option.map_some, h2]
    congr 1
    rw [show ((swapAt n ks p).toNat.toUInt8).toNat = (swapAt n ks p).toNat by simp; omega]
    omega
  · rw [List.getElem?_eq_none (by rw [KBw.ints_length]; omega), List.getElem?_eq_none (by simp [swapL]; omega)]

section
variable {prog : Program} {w : World} {A : Around} {E : Value → Shared → Prop} {s : Shared}
theorem ba_setI {a : Addr} {b : Array UInt8} {k v : Int} {t u : Tok} {Q : Unit → Shared → Prop} (ha : IsBA s.heap a b) (h0 : 0 ≤ k) (hk : k < b.size) (hz : b.size ≤ 4096) (hv : 0 ≤ v) (hv' : v < 256)
    (h : ∀ h', IsBA h' a (b.setIfInBounds k.toNat v.toNat.toUInt8) → (∀ c o, c ≠ a → s.heap.get? c = some o → h'.get? c = some o) → Q () { s with heap := h' }) :
    wpAny (model prog w) A (setItem (.ref a) (.int k t) (.int v u)) Q E s := by
  have e1 : k = ((k.toNat : Nat) : Int) := by omega
  have e2 : v = ((v.toNat.toUInt8.toNat : Nat) : Int) := by simp; omega
  rw [e1, e2]
  refine ba_set ha (by omega) hz fun h' hb hk' => ?_
  refine h h' ?_ hk'
  simpa using hb
end
/-- octets come back, all else stands -/
def GivesBytes (s : Shared) (ks : List Int) (v : Value) (s' : Shared) : Prop := Keeps s s' ∧ ∃ b t, v = .bytes b t ∧ KBw.bInts b = ks
/-- the text of a row of octets -/
def textOf (ks : List Int) : Str := ⟨(ks.map (·.toNat)).toArray⟩
end Mine
end

section -- part Enc
open PySem PySem.W PySem.Calls PyProof.Rows
set_option Elab.async false
set_option maxRecDepth 100000
set_option maxHeartbeats 4000000
namespace Mine
open Builtin._codecs

theorem range_twice {β : Type} {f : Nat → β → Sem (ForInStep β)} {n : Nat} {init fin : β} (hz : n = 0 → init = fin) (f1 : 0 < n → ∀ k, f k init = pure (.yield fin)) (f2 : ∀ k, f k fin = pure (.done fin)) :
    forIn [:n] init f = (pure fin : Sem β) := by
  rw [Std.Legacy.Range.forIn_eq_forIn_range']
  cases n with
  | zero =>
    show forIn [] init f = _
    rw [List.forIn_nil, hz rfl]
  | succ n =>
    have e : List.range' 0 (Std.Legacy.Range.size [:n+1]) 1 = 0 :: List.range' 1 n 1 := by simp [Std.Legacy.Range.size, List.range'_succ]
    show forIn (List.range' 0 (Std.Legacy.Range.size [:n+1]) 1) init f = _
    rw [e, List.forIn_cons, f1 (Nat.succ_pos _), pure_bind]
    dsimp only
    cases n with
    | zero => rfl
    | succ n => rw [List.range'_succ, List.forIn_cons, f2, pure_bind]

theorem utf8_ascii {c : Nat} (h : c < 128) : Str.utf8Of c = [c.toUInt8] := by
  unfold Str.utf8Of
  simp [h]
theorem fold_ascii {l : List Nat} (h : ∀ c ∈ l, c < 128) (a : Array UInt8) : l.foldl (fun acc y => acc ++ (Str.utf8Of y).toArray) a = a ++ (l.map (·.toUInt8)).toArray := by
  induction l generalizing a with
  | nil => simp
  | cons c l ih =>
    rw [List.foldl_cons, ih (fun c hc => h c (List.mem_cons_of_mem _ hc)), utf8_ascii (h c List.mem_cons_self)]
    simp

theorem narrow_run {self : Value} {x : Str} (hx : ∀ c ∈ x.cps.toList, c < 128) (hz : x.length ≤ 4096) : encodeNarrow "str.encode" utf8Codec none self x = pure (x.cps.toList.map (·.toUInt8)).toArray := by
  have hbad : ∀ c ∈ x.cps.toList, Str.isSurrogate c = false := fun c hc => by
    have := hx c hc
    unfold Str.isSurrogate
    simp; omega
  have hfind : Array.findIdx? Str.isSurrogate x.cps = none := by
    rw [Array.findIdx?_eq_none_iff]
    intro c hc
    exact hbad c (Array.mem_toList_iff.mpr hc)
  unfold encodeNarrow
  refine (congrArg (· >>= _) (range_twice (fin := (x.cps.size, (x.cps.toList.map (·.toUInt8)).toArray, {})) ?_ ?_ ?_)).trans ?_
  · intro h0
    have e : x.cps = #[] := Array.eq_empty_of_size_eq_zero h0
    simp [e]
  · intro h0 k
    have hs : 0 < x.cps.size := h0
    have h1 : x.cps[0]? = some x.cps[0] := Array.getElem?_eq_getElem hs
    have hb : Str.isSurrogate x.cps[0] = false := hbad _ (by simp)
    rw [if_neg (by simp [sizeLine_eq])]
    dsimp only
    rw [h1]
    dsimp only [utf8Codec]
    refine (if_pos (show (!Str.isSurrogate x.cps[0]) = true by rw [hb]; rfl)).trans ?_
    simp only [Array.extract_size, hfind, Option.getD_none, Nat.zero_add]
    rw [← Array.foldl_toList, fold_ascii hx]
    simp
  · intro k
    have h1 : x.cps[x.cps.size]? = none := by simp
    rw [if_neg (by simp [sizeLine_eq]; have : x.cps.size ≤ 4096 := hz; omega)]
    dsimp only
    rw [h1]
  · rfl

section
variable {prog : Program} {w : World} {A : Around} {E : Value → Shared → Prop} {s : Shared}
theorem call_encode {x : Str} {t : Tok} {Q : Value → Shared → Prop} (hx : ∀ c ∈ x.cps.toList, c < 128) (hz : x.length ≤ 4096)
    (h : ∀ t k, Q (.bytes (x.cps.toList.map (·.toUInt8)).toArray t) { s with toks := k }) : wpAny (model prog w) A (call (.builtin "str.encode") [.str x t]) Q E s := by
  refine wpAny_call_entry F.slot_str_encode (typeIs_str _ _ _) F.entry_str_encode ?_ (F.args_str_encode_1 _)
  rw [encode_tree, encodeRoad_utf8, narrow_run hx hz, pure_bind]
  refine wpAny_bind (wpAny_mkBytes ?_ (by simp [sizeLine_eq]; have : x.cps.size ≤ 4096 := hz; omega))
  exact wpAny_pure ⟨_, rfl, h _ _⟩
end
theorem method_encode {M : Model} {A : Around} {E : Value → Shared → Prop} {s : Shared} {x : Str} {t : Tok} {pl : Sem Bool} {Q : Value × List Value → Shared → Prop} (h : Q (.builtin "str.encode", [.str x t]) s) :
    wpAny M A (getMethod (.str x t) (Str.ofString "encode") pl) Q E s := GM.of (.str x t) (typeIs_str _ _ _) F.slot_str_encode F.type_str_encode GM.noRef h
end Mine
end

section -- part Comp2
open PySem PySem.W PySem.Calls PyProof.Rows
set_option Elab.async false
set_option maxRecDepth 100000
set_option maxHeartbeats 4000000
namespace Mine

theorem compTurn_two0 (elt t1 i1 t2 i2 : Expr) (scope : Scope) (pos : Pos) (it acc : Value) (env : Env) :
    compTurn (.ListComp elt [⟨t1, i1, [], 0⟩, ⟨t2, i2, [], 0⟩] scope pos) 0 it acc env = (standAt i1.pos >>= fun _ => pyNext it >>= fun r => match r with
      | none => pure (.done .next)
      | some v => letOwnedTupleGo t1 it v >>= fun _ => assign t1 env v >>= fun _ =>
        (eval i2 env >>= fun x => standAt i2.pos >>= fun _ => foldedSetIterable i2 env x >>= fun x => holding [x] (pyIter x) >>= fun i =>
          runOwn (.compStart (.ListComp elt [⟨t1, i1, [], 0⟩, ⟨t2, i2, [], 0⟩] scope pos) 1 i acc env) env >>= fun _ =>
          again (.compLoop (.ListComp elt [⟨t1, i1, [], 0⟩, ⟨t2, i2, [], 0⟩] scope pos) 0 it acc env))) := by rfl
theorem compTurn_two1 (elt t1 i1 t2 i2 : Expr) (scope : Scope) (pos : Pos) (it acc : Value) (env : Env) :
    compTurn (.ListComp elt [⟨t1, i1, [], 0⟩, ⟨t2, i2, [], 0⟩] scope pos) 1 it acc env = (standAt i2.pos >>= fun _ => pyNext it >>= fun r => match r with
      | none => pure (.done .next)
      | some v => letOwnedTupleGo t2 it v >>= fun _ => assign t2 env v >>= fun _ =>
        (eval elt env >>= fun x => call (.builtin "list.append") [acc, x] >>= fun _ => pure ()) >>= fun _ =>
          again (.compLoop (.ListComp elt [⟨t1, i1, [], 0⟩, ⟨t2, i2, [], 0⟩] scope pos) 1 it acc env)) := by rfl

section
variable {prog : Program} {w : World} {A : Around} {R : Result → Shared → Prop} {s : Shared}

theorem comp2_start1 {elt t1 i1 t2 i2 : Expr} {scope : Scope} {pos : Pos} {it acc : Value} {env : Env}
    (h0 : codeAny (model prog w) A (.compLoop (.ListComp elt [⟨t1, i1, [], 0⟩, ⟨t2, i2, [], 0⟩] scope pos) 1 it acc env) R s)
    (h : wpAny (model prog w) A (pyIter it) (fun it' s' => codeAny (model prog w) A (.compLoop (.ListComp elt [⟨t1, i1, [], 0⟩, ⟨t2, i2, [], 0⟩] scope pos) 1 it' acc env) R s')
      (notedBy (model prog w) A env fun x s' => R (.error x) s') s) :
    codeAny (model prog w) A (.compStart (.ListComp elt [⟨t1, i1, [], 0⟩, ⟨t2, i2, [], 0⟩] scope pos) 1 it acc env) R s := by
  refine codeAny_of_tree ?_
  show wpAny _ _ ((compStart (.ListComp elt [⟨t1, i1, [], 0⟩, ⟨t2, i2, [], 0⟩] scope pos) 1 it acc env).onRaise (fun x => do noteFrame x env; standAt theWindowsPlace)) _ _ s
  refine wpAny_notedAt ?_
  unfold compStart
  show wpAny _ _ (ask >>= _) _ _ s
  refine wpAny_bind (wpAny_askSetting (wpAny_ite ?_))
  split
  · first
      | exact wpAny_bind (wpAny_pure (wpAny_pure (And.intro rfl h0)))
      | exact wpAny_pure (And.intro rfl h0)
  · first
      | exact wpAny_bind (wpAny_rule (wpAny_bind (wpAny_standAt (wpAny_bind (wpAny_mono h (fun it' s' h' => wpAny_pure (And.intro rfl h')) fun _ _ x => x)))))
      | (refine wpAny_bind (wpAny_rule ?_); show wpAny _ _ (standAt i2.pos >>= _) _ _ s; exact wpAny_bind (wpAny_standAt (wpAny_bind (wpAny_mono h (fun it' s' h' => wpAny_pure (And.intro rfl h')) fun _ _ x => x))))

/-- the inner clause's turns -/
theorem comp2_inner {elt i1 i2 : Expr} {x1 x2 : Str} {px1 px2 : Pos} {scope : Scope} {pos : Pos} {I D : Addr} {n : Nat} {P : Nat → Value → Prop} {St : Nat → Heap → Prop} {cenv : Env} {m : Str → Option Value}
    (W : Walks prog w A I [I] [I] n P St) (J : Nat → List Value → Prop)
    (hx : cenv.kindOf x2 = some .local) (hp : (cenv.scope.kind == .class || (cenv.scope.kind == .module && cenv.locals != cenv.globals)) = false)
    (hDC : D ≠ cenv.locals) (hDI : D ≠ I) (hCI : cenv.locals ≠ I) (hst : St 0 s.heap) {ys₀ : Array Value} (hacc : s.heap.PlainList D ys₀) (hn : s.heap.Ns cenv.locals m) (hj : J 0 ys₀.toList) (hz : ys₀.size + n ≤ sizeLine)
    (helt : ∀ k u s₂ m₂, k < n → P k u → s₂.heap.Ns cenv.locals m₂ → m₂ x2 = some u → (∀ z, z ≠ x2 → m₂ z = m z) → (∀ b o, b ≠ cenv.locals → b ≠ I → b ≠ D → s.heap.get? b = some o → s₂.heap.get? b = some o) →
      wpAny (model prog w) A (eval elt cenv) (fun y s₃ => (∀ ys, J k ys → J (k + 1) (ys ++ [y])) ∧ Keeps s₂ s₃) (notedBy (model prog w) A cenv fun e s' => R (.error e) s') s₂)
    (hR : ∀ h' tk m' ys, h'.Ns cenv.locals m' → (∀ z, z ≠ x2 → m' z = m z) → h'.PlainList D ys → ys.size = ys₀.size + n → J n ys.toList → (∀ b o, b ≠ cenv.locals → b ≠ I → b ≠ D → s.heap.get? b = some o → h'.get? b = some o) →
      R (.ok .next) { s with heap := h', toks := tk }) :
    codeAny (model prog w) A (.compLoop (.ListComp elt [⟨.Name x1 px1, i1, [], 0⟩, ⟨.Name x2 px2, i2, [], 0⟩] scope pos) 1 (.ref I) (.ref D) cenv) R s := by
  refine codeAny_loop rfl
    (fun k s' => ∃ h' tk m' ys i, s' = { s with heap := h', toks := tk } ∧ St i h' ∧ h'.PlainList D ys ∧ ys.size = ys₀.size + i ∧ h'.Ns cenv.locals m' ∧ (∀ z, z ≠ x2 → m' z = m z) ∧ J i ys.toList ∧ i ≤ n ∧ k = n + 1 - i ∧
      (∀ b o, b ≠ cenv.locals → b ≠ I → b ≠ D → s.heap.get? b = some o → h'.get? b = some o)) ?_ (n + 1)
    ⟨s.heap, s.toks, m, ys₀, 0, rfl, hst, hacc, rfl, hn, fun _ _ => rfl, hj, Nat.zero_le _, rfl, fun _ _ _ _ _ e => e⟩
  rintro k s' ⟨H, tk, m', ys, i, rfl, hst', hacc', hsz, hn', hm', hj', hi, rfl, hk⟩
  show wpAny _ _ ((compTurn (.ListComp elt [⟨.Name x1 px1, i1, [], 0⟩, ⟨.Name x2 px2, i2, [], 0⟩] scope pos) 1 (.ref I) (.ref D) cenv).onRaise (fun x => do noteFrame x cenv; theTreesLotGoes x)) _ _ _
  refine wpAny_noted ?_
  rw [compTurn_two1]
  refine wpAny_bind (wpAny_standAt (wpAny_bind ?_))
  by_cases hlt : i < n
  · refine W.item i _ _ _ hlt hst' fun v h₁ tk₁ hPv hst₁ hk₁ => ?_
    have hk₁' : ∀ b o, b ≠ I → H.get? b = some o → h₁.get? b = some o := fun b o hb e => hk₁ b o (by simpa using hb) e
    refine wpAny_bind (wpAny_of_eq (a := ()) rfl ?_)
    refine wpAny_bind (wpAny_assign_Name (wpAny_storeName_local hx (hn'.at' fun o e => hk₁' _ o hCI e) (fun h₂ hn₂ hs₂ => ?_) hp))
    have up₂ : ∀ b o, b ≠ cenv.locals → b ≠ I → H.get? b = some o → h₂.get? b = some o := fun b o hbC hbI e => hs₂.extBut b o hbC (hk₁' b o hbI e)
    have hst₂ : St (i + 1) h₂ := W.frame _ _ _ hst₁ fun b hb o e => hs₂.extBut b o (fun h => hCI (h ▸ List.mem_singleton.mp hb)) e
    refine wpAny_bind (wpAny_bind (wpAny_mono (helt i v _ _ hlt hPv hn₂ (by simp) (fun z hz => by simp only [if_neg hz]; exact hm' z hz) (fun b o hbC hbI hbD e => up₂ b o hbC hbI (hk b o hbC hbI hbD e))) (fun y s₃ h₃ => ?_) fun _ _ e => e))
    obtain ⟨hJ, h₃, tk₃, rfl, hk₃⟩ := h₃
    refine wpAny_bind (wpAny_list_append_plain (hsz := by omega) ((hacc'.at fun o e => up₂ D o hDC hDI e).at fun o e => hk₃ _ o e) fun h₄ hl₄ hs₄ => ?_)
    refine wpAny_pure (wpAny_pure ⟨rfl, n + 1 - (i + 1), by omega, h₄, tk₃, _, ys.push y, i + 1, rfl, ?_, hl₄, by simp [hsz]; omega, (hn₂.keeps hk₃).sameBut hs₄ (Ne.symm hDC), (fun z hz => by simp only [if_neg hz]; exact hm' z hz), by simpa using hJ _ hj', hlt, rfl,
      fun b o hbC hbI hbD e => hs₄.extBut b o hbD (hk₃ b o (up₂ b o hbC hbI (hk b o hbC hbI hbD e)))⟩)
    exact W.frame _ _ _ hst₂ fun b hb o e => hs₄.extBut b o (fun h => hDI (h ▸ List.mem_singleton.mp hb)) (hk₃ b o e)
  · have hin : i = n := by omega
    subst hin
    refine W.done _ _ _ hst' fun h₁ tk₁ hk₁ => ?_
    have hk₁' : ∀ b o, b ≠ I → H.get? b = some o → h₁.get? b = some o := fun b o hb e => hk₁ b o (by simpa using hb) e
    exact wpAny_pure (hR h₁ tk₁ m' ys (hn'.at' fun o e => hk₁' _ o hCI e) hm' (hacc'.at fun o e => hk₁' _ o hDI e) hsz hj' fun b o hbC hbI hbD e => hk₁' b o hbI (hk b o hbC hbI hbD e))

/-- the outer clause's turns -/
theorem comp2_outer {elt i1 i2 : Expr} {x1 x2 : Str} {px1 px2 : Pos} {scope : Scope} {pos : Pos} {I D : Addr} {fp wr : List Addr} {n n2 : Nat} {P P2 : Nat → Value → Prop} {St : Nat → Heap → Prop} {cenv : Env} {m : Str → Option Value}
    (W : Walks prog w A I fp wr n P St) (J : Nat → Nat → List Value → Prop)
    (hx1 : cenv.kindOf x1 = some .local) (hx : cenv.kindOf x2 = some .local) (hp : (cenv.scope.kind == .class || (cenv.scope.kind == .module && cenv.locals != cenv.globals)) = false) (hx12 : x1 ≠ x2)
    (hDC : D ≠ cenv.locals) (hDf : D ∉ fp) (hCf : cenv.locals ∉ fp) (hst : St 0 s.heap) (hacc : s.heap.PlainList D #[]) (hn : s.heap.Ns cenv.locals m) (hj : J 0 0 []) (hz : n * n2 ≤ sizeLine)
    (hfold : ∀ x, foldedSetIterable i2 cenv x = pure x)
    (hiter : ∀ i v s₂ m₂ E', i < n → P i v → s₂.heap.Ns cenv.locals m₂ → m₂ x1 = some v → (∀ b o, b ≠ cenv.locals → b ∉ wr → b ≠ D → s.heap.get? b = some o → s₂.heap.get? b = some o) →
      wpAny (model prog w) A (eval i2 cenv) (fun xv s₃ => wpAny (model prog w) A (pyIter xv) (fun it s₄ => ∃ I2 St2, it = .ref I2 ∧ Walks prog w A I2 [I2] [I2] n2 P2 St2 ∧ St2 0 s₄.heap ∧ s₂.heap.get? I2 = none ∧ Keeps s₂ s₄) E' s₃) E' s₂)
    (helt : ∀ i k v u s₂ m₂ E', i < n → k < n2 → P i v → P2 k u → s₂.heap.Ns cenv.locals m₂ → m₂ x1 = some v → m₂ x2 = some u → (∀ b o, b ≠ cenv.locals → b ∉ wr → b ≠ D → s.heap.get? b = some o → s₂.heap.get? b = some o) →
      wpAny (model prog w) A (eval elt cenv) (fun y s₃ => (∀ ys, J i k ys → J i (k + 1) (ys ++ [y])) ∧ Keeps s₂ s₃) E' s₂)
    (hnext : ∀ i ys, i < n → J i n2 ys → J (i + 1) 0 ys)
    (hR : ∀ h' tk m' ys, h'.Ns cenv.locals m' → h'.PlainList D ys → J n 0 ys.toList → (∀ b o, b ≠ cenv.locals → b ∉ wr → b ≠ D → s.heap.get? b = some o → h'.get? b = some o) →
      R (.ok .next) { s with heap := h', toks := tk }) :
    codeAny (model prog w) A (.compLoop (.ListComp elt [⟨.Name x1 px1, i1, [], 0⟩, ⟨.Name x2 px2, i2, [], 0⟩] scope pos) 0 (.ref I) (.ref D) cenv) R s := by
  have hCw : cenv.locals ∉ wr := fun h => hCf (W.sub _ h)
  have hDw : D ∉ wr := fun h => hDf (W.sub _ h)
  refine codeAny_loop rfl
    (fun k s' => ∃ h' tk m' ys i, s' = { s with heap := h', toks := tk } ∧ St i h' ∧ h'.PlainList D ys ∧ ys.size = i * n2 ∧ h'.Ns cenv.locals m' ∧ J i 0 ys.toList ∧ i ≤ n ∧ k = n + 1 - i ∧
      (∀ b o, b ≠ cenv.locals → b ∉ wr → b ≠ D → s.heap.get? b = some o → h'.get? b = some o)) ?_ (n + 1)
    ⟨s.heap, s.toks, m, #[], 0, rfl, hst, hacc, by simp, hn, hj, Nat.zero_le _, rfl, fun _ _ _ _ _ e => e⟩
  rintro k s' ⟨H, tk, m', ys, i, rfl, hst', hacc', hsz, hn', hj', hi, rfl, hk⟩
  show wpAny _ _ ((compTurn (.ListComp elt [⟨.Name x1 px1, i1, [], 0⟩, ⟨.Name x2 px2, i2, [], 0⟩] scope pos) 0 (.ref I) (.ref D) cenv).onRaise (fun x => do noteFrame x cenv; theTreesLotGoes x)) _ _ _
  refine wpAny_noted ?_
  rw [compTurn_two0]
  refine wpAny_bind (wpAny_standAt (wpAny_bind ?_))
  by_cases hlt : i < n
  · refine W.item i _ _ _ hlt hst' fun v h₁ tk₁ hPv hst₁ hk₁ => ?_
    refine wpAny_bind (wpAny_of_eq (a := ()) rfl ?_)
    refine wpAny_bind (wpAny_assign_Name (wpAny_storeName_local hx1 (hn'.at' fun o e => hk₁ _ o hCw e) (fun h₂ hn₂ hs₂ => ?_) hp))
    have up₂ : ∀ b o, b ≠ cenv.locals → b ∉ wr → H.get? b = some o → h₂.get? b = some o := fun b o hbC hbw e => hs₂.extBut b o hbC (hk₁ b o hbw e)
    have hst₂ : St (i + 1) h₂ := W.frame _ _ _ hst₁ fun b hb o e => hs₂.extBut b o (fun h => hCf (h ▸ hb)) e
    have keep₂ : ∀ b o, b ≠ cenv.locals → b ∉ wr → b ≠ D → s.heap.get? b = some o → h₂.get? b = some o := fun b o hbC hbw hbD e => up₂ b o hbC hbw (hk b o hbC hbw hbD e)
    have hacc₂ : h₂.PlainList D ys := hacc'.at fun o e => up₂ D o hDC hDw e
    refine wpAny_bind (wpAny_mono (hiter i v _ _ _ hlt hPv hn₂ (by simp) keep₂) (fun xv s₃ h₃ => wpAny_bind (wpAny_standAt (wpAny_bind (wpAny_of_eq (hfold xv) (wpAny_bind (wpAny_holding (wpAny_mono h₃ (fun it s₄ h₄ => ?_) fun _ _ e => e))))))) fun _ _ e => e)
    obtain ⟨I2, St2, rfl, W2, hst2, hI2, h₄, tk₄, rfl, hk₄⟩ := h₄
    have hsome : ∀ b o, h₂.get? b = some o → b ≠ I2 := fun b o e hb => by subst hb; rw [hI2] at e; cases e
    have hDI : D ≠ I2 := by obtain ⟨_, e⟩ := hacc₂; exact hsome _ _ e
    have hCI : cenv.locals ≠ I2 := by obtain ⟨o, _, _, e, _⟩ := hn₂; exact hsome _ _ e
    have hacc₄ : h₄.PlainList D ys := hacc₂.at fun o e => hk₄ _ o e
    have hn₄ := hn₂.keeps hk₄
    have hle : i * n2 + n2 ≤ n * n2 := by
      have := Nat.mul_le_mul_right n2 hlt
      rw [Nat.succ_mul] at this
      exact this
    refine wpAny_bind (wpAny_runOwn ?_)
    have loop : ∀ R' : Result → Shared → Prop, (∀ h' tk m' zs, h'.Ns cenv.locals m' → (∀ z, z ≠ x2 → m' z = (fun y => if y = x1 then some v else _) z) → h'.PlainList D zs → zs.size = ys.size + n2 → J i n2 zs.toList → (∀ b o, b ≠ cenv.locals → b ≠ I2 → b ≠ D → h₄.get? b = some o → h'.get? b = some o) →
        R' (.ok .next) { s with heap := h', toks := tk }) → codeAny (model prog w) A (.compLoop (.ListComp elt [⟨.Name x1 px1, i1, [], 0⟩, ⟨.Name x2 px2, i2, [], 0⟩] scope pos) 1 (.ref I2) (.ref D) cenv) R' { s with heap := h₄, toks := tk₄ } := fun R' hR' =>
      comp2_inner (s := { s with heap := h₄, toks := tk₄ }) W2 (J i) hx hp hDC hDI hCI hst2 hacc₄ hn₄ hj' (by omega) (fun k u s₅ m₅ hkn hP2 hn₅ hm₅ hmm keep₅ =>
        helt i k v u s₅ m₅ _ hlt hkn hPv hP2 hn₅ (by rw [hmm x1 hx12]; simp) hm₅ fun b o hbC hbw hbD e => keep₅ b o hbC (hsome b o (keep₂ b o hbC hbw hbD e)) hbD (hk₄ b o (keep₂ b o hbC hbw hbD e))) hR'
    show codeAny (model prog w) A _ _ _
    refine comp2_start1 (loop _ ?_) (W2.self 0 _ _ _ hst2 (loop _ ?_)) <;>
      (intro h' tk' m'' zs hn'' _ hl'' hsz'' hJ'' hk''
       exact wpAny_pure ⟨rfl, n + 1 - (i + 1), by omega, h', tk', m'', zs, i + 1, rfl, W.frame _ _ _ hst₂ fun b hb o e => hk'' b o (fun h => hCf (h ▸ hb)) (hsome b o e) (fun h => hDf (h ▸ hb)) (hk₄ b o e), hl'',
        by rw [hsz'', hsz, Nat.succ_mul], hn'', hnext i _ hlt hJ'', hlt, rfl,
        fun b o hbC hbw hbD e => hk'' b o hbC (hsome b o (keep₂ b o hbC hbw hbD e)) hbD (hk₄ b o (keep₂ b o hbC hbw hbD e))⟩)
  · have hin : i = n := by omega
    subst hin
    refine W.done _ _ _ hst' fun h₁ tk₁ hk₁ => ?_
    exact wpAny_pure (hR h₁ tk₁ m' ys (hn'.at' fun o e => hk₁ _ o hCw e) (hacc'.at fun o e => hk₁ _ o hDw e) hj' fun b o hbC hbw hbD e => hk₁ b o hbw (hk b o hbC hbw hbD e))
end

section
variable {prog : Program} {w : World} {A : Around} {E : Value → Shared → Prop} {env : Env}

/-- what the turns of a comprehension of two clauses need: the inner iterable, the element, the step from one outer turn to the next -/
structure Turns2 (prog : Program) (w : World) (A : Around) (env : Env) (scope : Scope) (cl : List (Str × Addr)) (x1 x2 : Str) (elt i2 : Expr) (wr : List Addr) (n n2 : Nat) (P P2 : Nat → Value → Prop) (J : Nat → Nat → List Value → Prop) (s₂ : Shared) : Prop where
  iter : ∀ C i v s₃ m₃ E', s₂.heap.objs.size ≤ C → i < n → P i v → s₃.heap.Ns C m₃ → m₃ x1 = some v → (∀ b o, b ∉ wr → s₂.heap.get? b = some o → s₃.heap.get? b = some o) →
    wpAny (model prog w) A (eval i2 (compEnvC scope cl C env)) (fun xv s₄ => wpAny (model prog w) A (pyIter xv) (fun it s₅ => ∃ I2 St2, it = .ref I2 ∧ Walks prog w A I2 [I2] [I2] n2 P2 St2 ∧ St2 0 s₅.heap ∧ s₃.heap.get? I2 = none ∧ Keeps s₃ s₅) E' s₄) E' s₃
  elt : ∀ C i k v u s₃ m₃ E', s₂.heap.objs.size ≤ C → i < n → k < n2 → P i v → P2 k u → s₃.heap.Ns C m₃ → m₃ x1 = some v → m₃ x2 = some u → (∀ b o, b ∉ wr → s₂.heap.get? b = some o → s₃.heap.get? b = some o) →
    wpAny (model prog w) A (eval elt (compEnvC scope cl C env)) (fun y s₄ => (∀ ys, J i k ys → J i (k + 1) (ys ++ [y])) ∧ Keeps s₃ s₄) E' s₃
  next : ∀ i ys, i < n → J i n2 ys → J (i + 1) 0 ys

theorem comp2_block {elt i1 i2 : Expr} {x1 x2 : Str} {px1 px2 : Pos} {scope : Scope} {cl : List (Str × Addr)} {pos : Pos} {s₂ : Shared} {I : Addr} {fp wr : List Addr} {n n2 : Nat} {P P2 : Nat → Value → Prop}
    {St : Nat → Heap → Prop} (W : Walks prog w A I fp wr n P St) (J : Nat → Nat → List Value → Prop) {RR : Value → Addr → Result → Shared → Prop}
    (hcell : ∀ y ∈ scope.names, y.2 ≠ .cell) (hkind : scope.kind = .function) (hx1 : scope.names.lookup x1 = some .local) (hx2 : scope.names.lookup x2 = some .local) (hx12 : x1 ≠ x2)
    (hst : St 0 s₂.heap) (hfp : ∀ b ∈ fp, b < s₂.heap.objs.size) (hj : J 0 0 []) (hz : n * n2 ≤ sizeLine) (hfold : ∀ C x, foldedSetIterable i2 (compEnvC scope cl C env) x = pure x)
    (hq : Turns2 prog w A env scope cl x1 x2 elt i2 wr n n2 P P2 J s₂)
    (hRR : ∀ D C h' tk m' ys, s₂.heap.get? D = none → s₂.heap.get? C = none → D ≠ C → h'.Ns C m' → h'.PlainList D ys → J n 0 ys.toList →
      (∀ b o, b ∉ wr → s₂.heap.get? b = some o → h'.get? b = some o) → RR (.ref D) C (.ok .next) { s₂ with heap := h', toks := tk }) :
    wpAny (model prog w) A (newList []) (fun acc s₃ => wpAny (model prog w) A (newFunctionEnv scope env.globals cl [] env.qual none .none (some env)) (fun cenv s₄ =>
      codeAny (model prog w) A (.compStart (.ListComp elt [⟨.Name x1 px1, i1, [], 0⟩, ⟨.Name x2 px2, i2, [], 0⟩] scope pos) 0 (.ref I) acc { cenv with scope := relabel scope env }) (RR acc cenv.locals) s₄) E s₃) E s₂ := by
  refine wpAny_newObj_type (wpAny_newFunctionEnv hcell (by intro y hy; simp at hy) (fun h₁ hns₁ hsb₁ => ?_) hkind)
  dsimp only at hns₁ hsb₁ ⊢
  generalize hH2 : s₂.heap.push { cls := .type "list", dict := none, data := .seq ([] : List Value).toArray } = H2 at hns₁ hsb₁ ⊢
  have hC : H2.objs.size = s₂.heap.objs.size + 1 := by rw [← hH2, Heap.size_push]
  have hDC : s₂.heap.objs.size ≠ H2.objs.size := by rw [hC]; exact Nat.ne_of_lt (Nat.lt_succ_self _)
  have hCle : s₂.heap.objs.size ≤ H2.objs.size := by rw [hC]; exact Nat.le_succ _
  have below : ∀ b, b < s₂.heap.objs.size → b ≠ H2.objs.size ∧ b ≠ s₂.heap.objs.size := fun b hb => ⟨by rw [hC]; exact Nat.ne_of_lt (Nat.lt_succ_of_lt hb), Nat.ne_of_lt hb⟩
  have hDf : s₂.heap.objs.size ∉ fp := fun hm => Nat.lt_irrefl _ (hfp _ hm)
  have hCf : H2.objs.size ∉ fp := fun hm => by have := hfp _ hm; rw [hC] at this; exact Nat.lt_irrefl _ (Nat.lt_of_succ_lt this)
  have old : ∀ b o, s₂.heap.get? b = some o → h₁.get? b = some o := fun b o e => hsb₁.extBut b o (below b (Heap.lt_size e)).1 (Heap.get?_push_of_some _ (hH2 ▸ Heap.get?_push_of_some _ e))
  have hacc : h₁.PlainList s₂.heap.objs.size #[] := ⟨_, hsb₁.extBut _ _ hDC (Heap.get?_push_of_some _ (hH2 ▸ Heap.get?_push_size _ rfl))⟩
  have hst₁ : St 0 h₁ := W.frame _ _ _ hst fun b _ o e => old b o e
  have fresh : ∀ a, s₂.heap.objs.size ≤ a → s₂.heap.get? a = none := fun a ha => by
    cases e : s₂.heap.get? a with
    | none => rfl
    | some o' => exact absurd (Heap.lt_size e) (Nat.not_lt.mpr ha)
  have loop : ∀ s₃ : Shared, s₃ = { s₂ with heap := h₁, toks := s₂.toks + ([] : List (Str × Value)).length } →
      codeAny (model prog w) A (.compLoop (.ListComp elt [⟨.Name x1 px1, i1, [], 0⟩, ⟨.Name x2 px2, i2, [], 0⟩] scope pos) 0 (.ref I) (.ref s₂.heap.objs.size) (compEnvC scope cl H2.objs.size env))
        (RR (.ref s₂.heap.objs.size) H2.objs.size) s₃ := by
    rintro s₃ rfl
    refine comp2_outer (s := { s₂ with heap := h₁, toks := s₂.toks + ([] : List (Str × Value)).length }) (cenv := compEnvC scope cl H2.objs.size env) W J (lookup_relabel_local hx1) (lookup_relabel_local hx2) (by simp [compEnvC, relabel, hkind]) hx12 hDC hDf hCf hst₁ hacc hns₁ hj hz (hfold _)
      (fun i v s₃ m₃ E' hi hv hn hm hk => hq.iter _ i v s₃ m₃ E' hCle hi hv hn hm fun b o hbf e => hk b o (below b (Heap.lt_size e)).1 hbf (below b (Heap.lt_size e)).2 (old b o e))
      (fun i k v u s₃ m₃ E' hi hkn hv hu hn hm hm2 hk => hq.elt _ i k v u s₃ m₃ E' hCle hi hkn hv hu hn hm hm2 fun b o hbf e => hk b o (below b (Heap.lt_size e)).1 hbf (below b (Heap.lt_size e)).2 (old b o e))
      hq.next fun h' tk m' ys hn hl hJ hk => ?_
    exact hRR _ _ h' tk m' ys (fresh _ (Nat.le_refl _)) (fresh _ (by rw [hC]; exact Nat.le_succ _)) hDC hn hl hJ fun b o hbf e =>
      hk b o (below b (Heap.lt_size e)).1 hbf (below b (Heap.lt_size e)).2 (old b o e)
  exact codeAny_compStart_list (loop _ rfl) (W.self 0 _ _ _ hst₁ (loop _ rfl))

theorem wpAny_ListComp_two {s : Shared} {elt i1 i2 : Expr} {x1 x2 : Str} {px1 px2 : Pos} {scope : Scope} {cl : List (Str × Addr)} {pos : Pos} {Q : Value → Shared → Prop}
    (hclos : closureFor scope env = pure cl) (hcell : ∀ y ∈ scope.names, y.2 ≠ .cell) (hkind : scope.kind = .function)
    (hnames : ∀ y ∈ scope.names, y.2 = .local → scope.names.lookup y.1 = some .local) (hx1 : scope.names.lookup x1 = some .local) (hx2 : scope.names.lookup x2 = some .local) (hx12 : x1 ≠ x2)
    (h : wpAny (model prog w) A (eval i1 env) (fun xv s₁ => wpAny (model prog w) A (pyIter xv) (fun it s₂ => ∃ I fp wr n n2 P P2 St J, it = .ref I ∧ Walks prog w A I fp wr n P St ∧ n * n2 ≤ sizeLine ∧ St 0 s₂.heap ∧ (∀ b ∈ fp, b < s₂.heap.objs.size) ∧ J 0 0 [] ∧
      Turns2 prog w A env scope cl x1 x2 elt i2 wr n n2 P P2 J s₂ ∧
      (∀ D h' tk ys, s₂.heap.get? D = none → h'.PlainList D ys → J n 0 ys.toList → (∀ b o, b ∉ wr → s₂.heap.get? b = some o → h'.get? b = some o) → Q (.ref D) { s₂ with heap := h', toks := tk })) E s₁) E s)
    (hs : ∀ x, foldedSetIterable i1 env x = pure x := by intro _; rfl) (hfold : ∀ C x, foldedSetIterable i2 (compEnvC scope cl C env) x = pure x := by intros; rfl) :
    wpAny (model prog w) A (eval (.ListComp elt [⟨.Name x1 px1, i1, [], 0⟩, ⟨.Name x2 px2, i2, [], 0⟩] scope pos) env) Q E s := by
  rw [eval_ListComp]
  refine wpAny_comprehension_free (use := none) rfl hs hclos hkind hnames (wpAny_mono h (fun xv s₁ h₁ => wpAny_mono h₁ (fun it s₂ h₂ => ?_) fun _ _ e => e) fun _ _ e => e)
  obtain ⟨I, fp, wr, n, n2, P, P2, St, J, rfl, W, hsz, hst, hfp, hj, hq, hQ⟩ := h₂
  refine comp2_block (RR := fun acc C => compPost (model prog w) A E none Q acc C) W J hcell hkind hx1 hx2 hx12 hst hfp hj hsz hfold hq ?_
  intro D C h' tk m' ys hD hC hDC hn hpl hJ hk
  exact ⟨m', hn, fun h'' hs'' => hQ D h'' tk ys hD (hpl.extBut hs''.extBut hDC) hJ fun b o hbf e => hs''.extBut b o (by rintro rfl; rw [hC] at e; cases e) (hk b o hbf e)⟩
end
end Mine
end

section -- part Comp3
open PySem PySem.W PySem.Calls PyProof.Rows
set_option Elab.async false
set_option maxRecDepth 100000
set_option maxHeartbeats 4000000
namespace Mine

/-- all but the namespace C stands, which holds m -/
def KeepsBut (C : Addr) (m : Str → Option Value) (s s' : Shared) : Prop := ∃ h tk, s' = { s with heap := h, toks := tk } ∧ (∀ b o, b ≠ C → s.heap.get? b = some o → h.get? b = some o) ∧ h.Ns C m

/-- every new object beside C, as a ledger, and what is in it -/
theorem all_news2 (h₀ h : Heap) (C : Addr) : ∃ news, News h₀ C h news ∧ ∀ b o, b ≠ C → h₀.get? b = none → h.get? b = some o → (b, o) ∈ news := by
  refine ⟨(List.range h.objs.size).filterMap fun b => if b = C ∨ h₀.get? b ≠ none then none else (h.get? b).map fun o => (b, o), ?_, ?_⟩
  · intro p hp
    obtain ⟨b, _, e⟩ := List.mem_filterMap.mp hp
    by_cases hb : b = C ∨ h₀.get? b ≠ none
    · rw [if_pos hb] at e; cases e
    · rw [if_neg hb] at e
      obtain ⟨o, ho, rfl⟩ := Option.map_eq_some_iff.mp e
      exact ⟨ho, fun q => hb (.inl q), by
        by_cases q : h₀.get? b = none
        · exact q
        · exact absurd (.inr q) hb⟩
  · intro b o hbC hb e
    refine List.mem_filterMap.mpr ⟨b, List.mem_range.mpr (Heap.lt_size e), ?_⟩
    rw [if_neg (fun z => z.elim hbC fun z => z hb), e]
    rfl
theorem all_of {h₀ h h' : Heap} {C : Addr} {m m' : Str → Option Value} {nw : List (Addr × Obj)} (hmem : ∀ b o, b ≠ C → h₀.get? b = none → h.get? b = some o → (b, o) ∈ nw) (F : Fr h₀ C h m) (F' : Fr h₀ C h' m') (N : News h₀ C h' nw) : ∀ b o, b ≠ C → h.get? b = some o → h'.get? b = some o := by
  intro b o hb e
  cases q : h₀.get? b with
  | none => exact (N _ (hmem b o hb q e)).1
  | some o' =>
    have := F.keep b o' q
    rw [e] at this
    cases this
    exact F'.keep b o q
/-- every new object beside C, as a ledger -/
theorem all_news (h₀ h : Heap) (C : Addr) : ∃ news, News h₀ C h news ∧ ∀ h', (∀ b o, h₀.get? b = some o → h.get? b = some o) → (∀ b o, h₀.get? b = some o → h'.get? b = some o) → News h₀ C h' news → ∀ b o, b ≠ C → h.get? b = some o → h'.get? b = some o := by
  obtain ⟨nw, N, hm⟩ := all_news2 h₀ h C
  refine ⟨nw, N, fun h' k k' N' b o hb e => ?_⟩
  cases q : h₀.get? b with
  | none => exact (N' _ (hm b o hb q e)).1
  | some o' =>
    have := k b o' q
    rw [e] at this
    cases this
    exact k' b o q

section
variable {prog : Program} {w : World} {A : Around} {R : Result → Shared → Prop} {s : Shared}

theorem comp3_loop {elt i1 : Expr} {x : Str} {px : Pos} {scope : Scope} {pos : Pos} {I D : Addr} {fp wr : List Addr} {n : Nat} {P : Nat → Value → Prop} {St : Nat → Heap → Prop} {cenv : Env} {m : Str → Option Value}
    (W : Walks prog w A I fp wr n P St) (J : Nat → List Value → Heap → Prop)
    (hJf : ∀ k ys h h', J k ys h → (∀ b o, b ≠ cenv.locals → b ∉ wr → b ≠ D → h.get? b = some o → h'.get? b = some o) → J k ys h')
    (hx : cenv.kindOf x = some .local) (hp : (cenv.scope.kind == .class || (cenv.scope.kind == .module && cenv.locals != cenv.globals)) = false)
    (hDC : D ≠ cenv.locals) (hDf : D ∉ fp) (hCf : cenv.locals ∉ fp) (hst : St 0 s.heap) (hacc : s.heap.PlainList D #[]) (hn : s.heap.Ns cenv.locals m) (hj : J 0 [] s.heap) (hz : n ≤ sizeLine)
    (helt : ∀ k u s₂ m₂ E' ys, k < n → P k u → s₂.heap.Ns cenv.locals m₂ → m₂ x = some u → (∀ b o, b ≠ cenv.locals → b ∉ wr → b ≠ D → s.heap.get? b = some o → s₂.heap.get? b = some o) → s.toks ≤ s₂.toks →
      J k ys s₂.heap → St (k + 1) s₂.heap → (∃ o, s₂.heap.get? D = some o) →
      wpAny (model prog w) A (eval elt cenv) (fun y s₃ => J (k + 1) (ys ++ [y]) s₃.heap ∧ KeepsBut cenv.locals m₂ s₂ s₃) E' s₂)
    (hR : ∀ h' tk m' ys, h'.Ns cenv.locals m' → h'.PlainList D ys → J n ys.toList h' → (∀ b o, b ≠ cenv.locals → b ∉ wr → b ≠ D → s.heap.get? b = some o → h'.get? b = some o) → s.toks ≤ tk →
      R (.ok .next) { s with heap := h', toks := tk }) :
    codeAny (model prog w) A (.compLoop (.ListComp elt [⟨.Name x px, i1, [], 0⟩] scope pos) 0 (.ref I) (.ref D) cenv) R s := by
  have hCw : cenv.locals ∉ wr := fun h => hCf (W.sub _ h)
  have hDw : D ∉ wr := fun h => hDf (W.sub _ h)
  refine codeAny_loop rfl
    (fun k s' => ∃ h' tk m' ys i, s' = { s with heap := h', toks := tk } ∧ St i h' ∧ h'.PlainList D ys ∧ ys.size = i ∧ h'.Ns cenv.locals m' ∧ J i ys.toList h' ∧ i ≤ n ∧ k = n + 1 - i ∧
      (∀ b o, b ≠ cenv.locals → b ∉ wr → b ≠ D → s.heap.get? b = some o → h'.get? b = some o) ∧ s.toks ≤ tk) ?_ (n + 1)
    ⟨s.heap, s.toks, m, #[], 0, rfl, hst, hacc, rfl, hn, hj, Nat.zero_le _, rfl, fun _ _ _ _ _ e => e, Nat.le_refl _⟩
  rintro k s' ⟨H, tk, m', ys, i, rfl, hst', hacc', hsz, hn', hj', hi, rfl, hk, htk⟩
  show wpAny _ _ ((compTurn (.ListComp elt [⟨.Name x px, i1, [], 0⟩] scope pos) 0 (.ref I) (.ref D) cenv).onRaise (fun x => do noteFrame x cenv; theTreesLotGoes x)) _ _ _
  refine wpAny_noted ?_
  rw [compTurn_list1]
  refine wpAny_bind (wpAny_standAt (wpAny_bind ?_))
  by_cases hlt : i < n
  · refine wpAny_with_toks (n := s.toks) htk (W.item i _ _ _ hlt hst' fun v h₁ tk₁ hPv hst₁ hk₁ htk₁ => ?_)
    refine wpAny_bind (wpAny_of_eq (a := ()) rfl ?_)
    refine wpAny_bind (wpAny_assign_Name (wpAny_storeName_local hx (hn'.at' fun o e => hk₁ _ o hCw e) (fun h₂ hn₂ hs₂ => ?_) hp))
    have up₂ : ∀ b o, b ≠ cenv.locals → b ∉ wr → H.get? b = some o → h₂.get? b = some o := fun b o hbC hbw e => hs₂.extBut b o hbC (hk₁ b o hbw e)
    have hst₂ : St (i + 1) h₂ := W.frame _ _ _ hst₁ fun b hb o e => hs₂.extBut b o (fun h => hCf (h ▸ hb)) e
    have hJ₂ : J i ys.toList h₂ := hJf _ _ _ _ hj' fun b o hbC hbw _ e => up₂ b o hbC hbw e
    obtain ⟨cD, hcD⟩ := hacc'
    refine wpAny_bind (wpAny_bind (wpAny_mono (wpAny_toks_of (n := s.toks) (Nat.le_succ_of_le htk₁) (helt i v _ _ _ ys.toList hlt hPv hn₂ (by simp) (fun b o hbC hbw hbD e => up₂ b o hbC hbw (hk b o hbC hbw hbD e)) (Nat.le_succ_of_le htk₁) hJ₂ hst₂ ⟨_, up₂ D _ hDC hDw hcD⟩)) (fun y s₃ h₃ => ?_) fun _ _ e => e.2))
    obtain ⟨htk₃, hJ, h₃, tk₃, rfl, hk₃, hn₃⟩ := h₃
    have hacc' : H.PlainList D ys := ⟨cD, hcD⟩
    refine wpAny_bind (wpAny_list_append_plain (hsz := by omega) ((hacc'.at fun o e => up₂ D o hDC hDw e).at fun o e => hk₃ _ o hDC e) fun h₄ hl₄ hs₄ => ?_)
    refine wpAny_pure (wpAny_pure ⟨rfl, n + 1 - (i + 1), by omega, h₄, tk₃, _, ys.push y, i + 1, rfl, ?_, hl₄, by simp [hsz], hn₃.sameBut hs₄ (Ne.symm hDC), ?_, hlt, rfl,
      fun b o hbC hbw hbD e => hs₄.extBut b o hbD (hk₃ b o hbC (up₂ b o hbC hbw (hk b o hbC hbw hbD e))), htk₃⟩)
    · exact W.frame _ _ _ hst₂ fun b hb o e => hs₄.extBut b o (fun h => hDf (h ▸ hb)) (hk₃ b o (fun h => hCf (h ▸ hb)) e)
    · rw [Array.toList_push]
      exact hJf _ _ _ _ hJ fun b o _ _ hbD e => hs₄.extBut b o hbD e
  · have hin : i = n := by omega
    subst hin
    refine wpAny_with_toks (n := s.toks) htk (W.done _ _ _ hst' fun h₁ tk₁ hk₁ htk₁ => ?_)
    exact wpAny_pure (hR h₁ tk₁ m' ys (hn'.at' fun o e => hk₁ _ o hCw e) (hacc'.at fun o e => hk₁ _ o hDw e) (hJf _ _ _ _ hj' fun b o _ hbw _ e => hk₁ b o hbw e) (fun b o hbC hbw hbD e => hk₁ b o hbw (hk b o hbC hbw hbD e)) htk₁)
end

section
variable {prog : Program} {w : World} {A : Around} {E : Value → Shared → Prop} {env : Env}

theorem rows_block {s₂ : Shared} {elt i1 : Expr} {x : Str} {px : Pos} {scope : Scope} {cl : List (Str × Addr)} {pos : Pos} {RR : Value → Addr → Result → Shared → Prop} {I : Addr} {fp wr : List Addr} {n : Nat} {P : Nat → Value → Prop} {St : Nat → Heap → Prop}
    (W : Walks prog w A I fp wr n P St) (J : Nat → List Value → Heap → Prop) (hsz : n ≤ sizeLine) (hst : St 0 s₂.heap) (hfp : ∀ b ∈ fp, b < s₂.heap.objs.size) (hj : J 0 [] s₂.heap)
    (hcell : ∀ y ∈ scope.names, y.2 ≠ .cell) (hkind : scope.kind = .function) (hx : scope.names.lookup x = some .local)
    (hJf : ∀ k ys h h', J k ys h → (∀ b o, b ≠ s₂.heap.objs.size + 1 → b ∉ wr → b ≠ s₂.heap.objs.size → h.get? b = some o → h'.get? b = some o) → J k ys h')
    (helt : ∀ k u s₃ m₃ E' ys, k < n → P k u → s₃.heap.Ns (s₂.heap.objs.size + 1) m₃ → m₃ x = some u → (∀ b o, b ∉ wr → s₂.heap.get? b = some o → s₃.heap.get? b = some o) → s₂.toks ≤ s₃.toks →
        J k ys s₃.heap → St (k + 1) s₃.heap → (∃ o, s₃.heap.get? s₂.heap.objs.size = some o) →
        wpAny (model prog w) A (eval elt (compEnvC scope cl (s₂.heap.objs.size + 1) env)) (fun y s₄ => J (k + 1) (ys ++ [y]) s₄.heap ∧ KeepsBut (s₂.heap.objs.size + 1) m₃ s₃ s₄) E' s₃)
    (hRR : ∀ h' tk m' ys, h'.Ns (s₂.heap.objs.size + 1) m' → h'.PlainList s₂.heap.objs.size ys → J n ys.toList h' → (∀ b o, b ∉ wr → s₂.heap.get? b = some o → h'.get? b = some o) → s₂.toks ≤ tk → RR (.ref s₂.heap.objs.size) (s₂.heap.objs.size + 1) (.ok .next) { s₂ with heap := h', toks := tk }) :
    wpAny (model prog w) A (newList []) (fun acc s₃ => wpAny (model prog w) A (newFunctionEnv scope env.globals cl [] env.qual none .none (some env)) (fun cenv s₄ =>
        codeAny (model prog w) A (.compStart (.ListComp elt [⟨.Name x px, i1, [], 0⟩] scope pos) 0 (.ref I) acc { cenv with scope := relabel scope env }) (RR acc cenv.locals) s₄) E s₃) E s₂ := by
  refine wpAny_newObj_type (wpAny_newFunctionEnv hcell (by intro y hy; simp at hy) (fun h₁ hns₁ hsb₁ => ?_) hkind)
  dsimp only at hns₁ hsb₁ ⊢
  generalize hH2 : s₂.heap.push { cls := .type "list", dict := none, data := .seq ([] : List Value).toArray } = H2 at hns₁ hsb₁ ⊢
  have hC : H2.objs.size = s₂.heap.objs.size + 1 := by rw [← hH2, Heap.size_push]
  rw [hC] at hns₁ hsb₁ ⊢
  have hDC : s₂.heap.objs.size ≠ s₂.heap.objs.size + 1 := Nat.ne_of_lt (Nat.lt_succ_self _)
  have below : ∀ b, b < s₂.heap.objs.size → b ≠ s₂.heap.objs.size + 1 ∧ b ≠ s₂.heap.objs.size := fun b hb => ⟨Nat.ne_of_lt (Nat.lt_succ_of_lt hb), Nat.ne_of_lt hb⟩
  have hDf : s₂.heap.objs.size ∉ fp := fun hm => Nat.lt_irrefl _ (hfp _ hm)
  have hCf : s₂.heap.objs.size + 1 ∉ fp := fun hm => Nat.lt_irrefl _ (Nat.lt_of_succ_lt (hfp _ hm))
  have old : ∀ b o, s₂.heap.get? b = some o → h₁.get? b = some o := fun b o e => hsb₁.extBut b o (below b (Heap.lt_size e)).1 (Heap.get?_push_of_some _ (hH2 ▸ Heap.get?_push_of_some _ e))
  have hacc : h₁.PlainList s₂.heap.objs.size #[] := ⟨_, hsb₁.extBut _ _ hDC (Heap.get?_push_of_some _ (hH2 ▸ Heap.get?_push_size _ rfl))⟩
  have hst₁ : St 0 h₁ := W.frame _ _ _ hst fun b _ o e => old b o e
  have loop : ∀ s₃ : Shared, s₃ = { s₂ with heap := h₁, toks := s₂.toks + ([] : List (Str × Value)).length } →
      codeAny (model prog w) A (.compLoop (.ListComp elt [⟨.Name x px, i1, [], 0⟩] scope pos) 0 (.ref I) (.ref s₂.heap.objs.size) (compEnvC scope cl (s₂.heap.objs.size + 1) env))
        (RR (.ref s₂.heap.objs.size) (s₂.heap.objs.size + 1)) s₃ := by
    rintro s₃ rfl
    exact comp3_loop (s := { s₂ with heap := h₁, toks := s₂.toks + ([] : List (Str × Value)).length }) (cenv := compEnvC scope cl (s₂.heap.objs.size + 1) env) W J hJf (lookup_relabel_local hx) (by simp [compEnvC, relabel, hkind]) hDC hDf hCf hst₁ hacc hns₁ (hJf _ _ _ _ hj fun b o _ _ _ e => old b o e) hsz
      (fun k u s₃ m₃ E' ys hkn hv hn hm hk htk hJ hS hDo => helt k u s₃ m₃ E' ys hkn hv hn hm (fun b o hbf e => hk b o (below b (Heap.lt_size e)).1 hbf (below b (Heap.lt_size e)).2 (old b o e)) (Nat.le_trans (Nat.le_add_right _ _) htk) hJ hS hDo)
      fun h' tk m' ys hn hpl hJ hk htk => hRR h' tk m' ys hn hpl hJ (fun b o hbf e => hk b o (below b (Heap.lt_size e)).1 hbf (below b (Heap.lt_size e)).2 (old b o e)) (Nat.le_trans (Nat.le_add_right _ _) htk)
  exact codeAny_compStart_list (loop _ rfl) (W.self 0 _ _ _ hst₁ (loop _ rfl))

/-- a comprehension of one clause, no tests; its elements may be new objects, of which J speaks -/
theorem wpAny_ListComp_rows {s : Shared} {elt i1 : Expr} {x : Str} {px : Pos} {scope : Scope} {cl : List (Str × Addr)} {pos : Pos} {Q : Value → Shared → Prop}
    (hclos : closureFor scope env = pure cl) (hcell : ∀ y ∈ scope.names, y.2 ≠ .cell) (hkind : scope.kind = .function)
    (hnames : ∀ y ∈ scope.names, y.2 = .local → scope.names.lookup y.1 = some .local) (hx : scope.names.lookup x = some .local)
    (h : wpAny (model prog w) A (eval i1 env) (fun xv s₁ => wpAny (model prog w) A (pyIter xv) (fun it s₂ => ∃ (I : Addr) (fp wr : List Addr) (n : Nat) (P : Nat → Value → Prop) (St : Nat → Heap → Prop) (J : Nat → List Value → Heap → Prop), it = .ref I ∧ Walks prog w A I fp wr n P St ∧ n ≤ sizeLine ∧ St 0 s₂.heap ∧ (∀ b ∈ fp, b < s₂.heap.objs.size) ∧ J 0 [] s₂.heap ∧
      (∀ k ys h h', J k ys h → (∀ b o, b ≠ s₂.heap.objs.size + 1 → b ∉ wr → b ≠ s₂.heap.objs.size → h.get? b = some o → h'.get? b = some o) → J k ys h') ∧
      (∀ k u s₃ m₃ E' ys, k < n → P k u → s₃.heap.Ns (s₂.heap.objs.size + 1) m₃ → m₃ x = some u → (∀ b o, b ∉ wr → s₂.heap.get? b = some o → s₃.heap.get? b = some o) → s₂.toks ≤ s₃.toks →
        J k ys s₃.heap → St (k + 1) s₃.heap → (∃ o, s₃.heap.get? s₂.heap.objs.size = some o) →
        wpAny (model prog w) A (eval elt (compEnvC scope cl (s₂.heap.objs.size + 1) env)) (fun y s₄ => J (k + 1) (ys ++ [y]) s₄.heap ∧ KeepsBut (s₂.heap.objs.size + 1) m₃ s₃ s₄) E' s₃) ∧
      (∀ h' tk ys, h'.PlainList s₂.heap.objs.size ys → J n ys.toList h' → (∀ b o, b ∉ wr → s₂.heap.get? b = some o → h'.get? b = some o) → s₂.toks ≤ tk → Q (.ref s₂.heap.objs.size) { s₂ with heap := h', toks := tk })) E s₁) E s)
    (hs : ∀ x, foldedSetIterable i1 env x = pure x := by intro _; rfl) :
    wpAny (model prog w) A (eval (.ListComp elt [⟨.Name x px, i1, [], 0⟩] scope pos) env) Q E s := by
  rw [eval_ListComp]
  refine wpAny_comprehension_free (use := none) rfl hs hclos hkind hnames (wpAny_mono h (fun xv s₁ h₁ => wpAny_mono h₁ (fun it s₂ h₂ => ?_) fun _ _ e => e) fun _ _ e => e)
  obtain ⟨I, fp, wr, n, P, St, J, rfl, W, hsz, hst, hfp, hj, hJf, helt, hQ⟩ := h₂
  refine rows_block (RR := fun acc C => compPost (model prog w) A E none Q acc C) W J hsz hst hfp hj hcell hkind hx hJf helt ?_
  intro h' tk m' ys hn hpl hJ hk htk
  refine ⟨m', hn, fun h'' hs'' => hQ h'' tk ys (hpl.extBut hs''.extBut (Nat.ne_of_lt (Nat.lt_succ_self _))) (hJf _ _ _ _ hJ fun b o hbC _ _ e => hs''.extBut b o hbC e) (fun b o hbf e => hs''.extBut b o ?_ (hk b o hbf e)) htk⟩
  exact Nat.ne_of_lt (Nat.lt_succ_of_lt (Heap.lt_size e))

/-- a comprehension of one clause, no tests; its element may make new objects -/
theorem wpAny_ListComp_one {s : Shared} {elt i1 : Expr} {x : Str} {px : Pos} {scope : Scope} {cl : List (Str × Addr)} {pos : Pos} {Q : Value → Shared → Prop}
    (hclos : closureFor scope env = pure cl) (hcell : ∀ y ∈ scope.names, y.2 ≠ .cell) (hkind : scope.kind = .function)
    (hnames : ∀ y ∈ scope.names, y.2 = .local → scope.names.lookup y.1 = some .local) (hx : scope.names.lookup x = some .local)
    (h : wpAny (model prog w) A (eval i1 env) (fun xv s₁ => wpAny (model prog w) A (pyIter xv) (fun it s₂ => ∃ (I : Addr) (fp wr : List Addr) (n : Nat) (P : Nat → Value → Prop) (St : Nat → Heap → Prop) (J : Nat → List Value → Prop), it = .ref I ∧ Walks prog w A I fp wr n P St ∧ n ≤ sizeLine ∧ St 0 s₂.heap ∧ (∀ b ∈ fp, b < s₂.heap.objs.size) ∧ J 0 [] ∧
      (∀ C k u s₃ m₃ E', s₂.heap.objs.size ≤ C → k < n → P k u → s₃.heap.Ns C m₃ → m₃ x = some u → (∀ b o, b ∉ wr → s₂.heap.get? b = some o → s₃.heap.get? b = some o) → s₂.toks ≤ s₃.toks →
        wpAny (model prog w) A (eval elt (compEnvC scope cl C env)) (fun y s₄ => (∀ ys, J k ys → J (k + 1) (ys ++ [y])) ∧ KeepsBut C m₃ s₃ s₄) E' s₃) ∧
      (∀ D h' tk ys, s₂.heap.get? D = none → h'.PlainList D ys → J n ys.toList → (∀ b o, b ∉ wr → s₂.heap.get? b = some o → h'.get? b = some o) → Q (.ref D) { s₂ with heap := h', toks := tk })) E s₁) E s)
    (hs : ∀ x, foldedSetIterable i1 env x = pure x := by intro _; rfl) :
    wpAny (model prog w) A (eval (.ListComp elt [⟨.Name x px, i1, [], 0⟩] scope pos) env) Q E s := by
  refine wpAny_ListComp_rows hclos hcell hkind hnames hx (wpAny_mono h (fun xv s₁ h₁ => wpAny_mono h₁ (fun it s₂ h₂ => ?_) fun _ _ e => e) fun _ _ e => e) hs
  obtain ⟨I, fp, wr, n, P, St, J, hI, W, hsz, hst, hfp, hj, helt, hQ⟩ := h₂
  exact ⟨I, fp, wr, n, P, St, fun k ys _ => J k ys, hI, W, hsz, hst, hfp, hj, fun _ _ _ _ h _ => h, fun k u s₃ m₃ E' ys hk hu hn hm hkp htk hJ _ _ => wpAny_mono (helt _ k u s₃ m₃ E' (Nat.le_succ _) hk hu hn hm hkp htk) (fun y s₄ g => ⟨g.1 ys hJ, g.2⟩) fun _ _ e => e,
    fun h' tk ys hpl hJ hk _ => hQ _ h' tk ys (Heap.get?_none_of_le (Nat.le_refl _)) hpl hJ hk⟩

/-- «y = [elt for x in i1]» in a def -/
theorem wpAny_Assign_rows {s : Shared} {elt i1 : Expr} {x y : Str} {px py : Pos} {scope : Scope} {cl : List (Str × Addr)} {pos spos : Pos} {Q : Flow → Shared → Prop}
    (hsw : swapsWith (.ListComp elt [⟨.Name x px, i1, [], 0⟩] scope pos) (some (.Name y py)) spos.line env = pure true)
    (hclos : closureFor scope env = pure cl) (hcell : ∀ y ∈ scope.names, y.2 ≠ .cell) (hkind : scope.kind = .function)
    (hnames : ∀ y ∈ scope.names, y.2 = .local → scope.names.lookup y.1 = some .local) (hx : scope.names.lookup x = some .local)
    (hy : env.kindOf y = some .local) (hp : (env.scope.kind == .class || (env.scope.kind == .module && env.locals != env.globals)) = false)
    (h : wpAny (model prog w) A (eval i1 env) (fun xv s₁ => wpAny (model prog w) A (pyIter xv) (fun it s₂ => ∃ (I : Addr) (fp wr : List Addr) (n : Nat) (P : Nat → Value → Prop) (St : Nat → Heap → Prop) (J : Nat → List Value → Heap → Prop) (m : Str → Option Value), it = .ref I ∧ Walks prog w A I fp wr n P St ∧ n ≤ sizeLine ∧ St 0 s₂.heap ∧ (∀ b ∈ fp, b < s₂.heap.objs.size) ∧ J 0 [] s₂.heap ∧
      env.locals ∉ wr ∧ s₂.heap.Ns env.locals m ∧
      (∀ k ys h h', J k ys h → (∀ b o, b ≠ env.locals → b ≠ s₂.heap.objs.size + 1 → b ∉ wr → b ≠ s₂.heap.objs.size → h.get? b = some o → h'.get? b = some o) → J k ys h') ∧
      (∀ k u s₃ m₃ E' ys, k < n → P k u → s₃.heap.Ns (s₂.heap.objs.size + 1) m₃ → m₃ x = some u → (∀ b o, b ∉ wr → s₂.heap.get? b = some o → s₃.heap.get? b = some o) → s₂.toks ≤ s₃.toks →
        J k ys s₃.heap → St (k + 1) s₃.heap → (∃ o, s₃.heap.get? s₂.heap.objs.size = some o) →
        wpAny (model prog w) A (eval elt (compEnvC scope cl (s₂.heap.objs.size + 1) env)) (fun y s₄ => J (k + 1) (ys ++ [y]) s₄.heap ∧ KeepsBut (s₂.heap.objs.size + 1) m₃ s₃ s₄) E' s₃) ∧
      (∀ h' tk ys, h'.PlainList s₂.heap.objs.size ys → J n ys.toList h' → h'.Ns env.locals (fun z => if z = y then some (.ref s₂.heap.objs.size) else m z) → (∀ b o, b ≠ env.locals → b ∉ wr → s₂.heap.get? b = some o → h'.get? b = some o) → s₂.toks ≤ tk →
        Q .next { s₂ with heap := h', toks := tk })) E s₁) E s)
    (hs : ∀ x, foldedSetIterable i1 env x = pure x := by intro _; rfl) :
    wpAny (model prog w) A (exec (.Assign [.Name y py] (.ListComp elt [⟨.Name x px, i1, [], 0⟩] scope pos) spos) env) Q E s := by
  rw [exec_Assign_Name_used _ _ _ _ hsw]
  refine wpAny_bind (wpAny_standAt (wpAny_bind ?_))
  show wpAny _ A (do let _ ← comprehension (.ListComp elt [⟨.Name x px, i1, [], 0⟩] scope pos) scope env _ (newList []) false (eval i1 env) (some (assign (.Name y py) env))) _ _ s
  refine wpAny_bind (wpAny_mono (wpAny_comprehension_free (use := some (assign (.Name y py) env)) (Q := fun _ s' => Q .next s') rfl hs hclos hkind hnames
    (wpAny_mono h (fun xv s₁ h₁ => wpAny_mono h₁ (fun it s₂ h₂ => ?_) fun _ _ e => e) fun _ _ e => e)) (fun _ s' hq => wpAny_pure (wpAny_pure hq)) fun _ _ e => e)
  obtain ⟨I, fp, wr, n, P, St, J, m, rfl, W, hsz, hst, hfp, hj, hLw, hn, hJf, helt, hQ⟩ := h₂
  refine rows_block (RR := fun acc C => compPost (model prog w) A E (some (assign (.Name y py) env)) (fun _ s' => Q .next s') acc C) W J hsz hst hfp hj hcell hkind hx (fun k ys h h' hJ hk => hJf k ys h h' hJ fun b o _ => hk b o) helt ?_
  intro h' tk m' ys hnC hpl hJ hk htk
  obtain ⟨oL, es, ep, hoL, hoR⟩ := hn
  have hLlt := Heap.lt_size hoL
  have hLC : env.locals ≠ s₂.heap.objs.size + 1 := Nat.ne_of_lt (Nat.lt_succ_of_lt hLlt)
  have hLD : env.locals ≠ s₂.heap.objs.size := Nat.ne_of_lt hLlt
  have hDC : s₂.heap.objs.size ≠ s₂.heap.objs.size + 1 := Nat.ne_of_lt (Nat.lt_succ_self _)
  show wpAny _ A (assign (.Name y py) env (.ref s₂.heap.objs.size)) _ _ _
  refine wpAny_assign_Name (wpAny_storeName_local hy (show h'.Ns env.locals m from ⟨oL, es, ep, hk _ _ hLw hoL, hoR⟩) (fun h₂ hn₂ hs₂ => ?_) hp)
  refine ⟨m', hnC.sameBut hs₂ (Ne.symm hLC), fun h₃ hs₃ => ?_⟩
  exact hQ h₃ _ ys ((hpl.extBut hs₂.extBut (Ne.symm hLD)).extBut hs₃.extBut hDC) (hJf _ _ _ _ hJ fun b o hbL hbC _ _ e => hs₃.extBut b o hbC (hs₂.extBut b o hbL e)) (hn₂.sameBut hs₃ hLC)
    (fun b o hbL hbf e => hs₃.extBut b o (Nat.ne_of_lt (Nat.lt_succ_of_lt (Heap.lt_size e))) (hs₂.extBut b o hbL (hk b o hbf e))) (Nat.le_succ_of_le htk)
end
end Mine
end

section -- part Base5
open PySem PySem.W PySem.Calls PyProof.Rows
set_option Elab.async false
set_option maxRecDepth 100000
set_option maxHeartbeats 4000000
namespace Mine
section
variable {prog : Program} {w : World} {A : Around} {E : Value → Shared → Prop} {s : Shared} {K : Frag} {Q : Value → Shared → Prop}
/-- a def whose arguments stand in cells is entered -/
theorem enterCells {name qual : Str} {params : Arguments} {body : List Stmt} {scope : Scope} {dV kV doc pm cdv ct oc : Value} {an od : Option Addr} {osl : Array (Option Value)} {f : Addr} {vals : List Value} {kw : List (Str × Value)} {binds : List (Str × Value)}
    (X : K.In s.heap) (hlim : s.heap.NoLimit)
    (ho : K.lookup f = some ⟨oc, od, .func (fnOf name qual params body scope dV kV doc pm an cdv ct), osl⟩) (hcd : codeIn K cdv qual = true) (hroom : A.depth < recursionLimit)
    (hbind : BindsTo s (fnOf name qual params body scope dV kV doc pm an cdv ct) ⟨vals, kw⟩ binds)
    (hkind : ∀ n, ∀ x ∈ binds, scope.names.lookup x.1 = some .local ∨ (scope.names.lookup x.1 = some .cell ∧ ((cellsFrom n scope.names []).lookup x.1).isSome = true))
    (hnd : ((cellsFrom 0 scope.names []).map (·.1)).Nodup)
    (h : ∀ L h₁ tk cells, Fr s.heap L h₁ (bindL (envOfC qual scope L f cdv).kindOf binds fun _ => none) → News s.heap L h₁ cells → CellsAre (bindC (envOfC qual scope L f cdv).kindOf binds fun _ => none) (cellsFrom (L + 1) scope.names []) cells →
      wpAny (model prog w) (A.deeper (envOfC qual scope L f cdv)) (execs body (envOfC qual scope L f cdv))
        (fun fl s' => Q (match fl with | .ret v => v | _ => .none) s')
        (fun e s' => wpAny (model prog w) (A.deeper (envOfC qual scope L f cdv)) (leaving (envOfC qual scope L f cdv) e) (fun _ s'' => E e s'') (fun e' s'' => E e' s'') s')
        { s with heap := h₁, toks := tk })
    (hco : scope.isCoroutine = false) (hgen : scope.isGenerator = false) (hk : scope.kind = .function) : wpAny (model prog w) A (call (.ref f) vals kw) Q E s := by
  refine wpAny_call ?_
  refine codeAny_call_function (fd := fnOf name qual params body scope dV kV doc pm an cdv ct) (body := body) hroom (X _ _ ho) rfl hco hgen rfl (codeRec_of X hcd) (hbind _ _ _ _ ?_)
  refine wpAny_newFunctionEnv_cells hk (hkind _) fun env' he s' x => ?_
  subst he
  refine ⟨hlim.keeps x.toInCall.keep, codeAny_func ?_⟩
  obtain ⟨h₁, tk, rfl, _⟩ := x.done
  have hk₁ := x.toInCall.keep
  obtain ⟨cells, NC, Y⟩ := Cl.news (h₀ := s.heap) (Nat.le_refl _) fun n c hm => ⟨x.cell n c (lookup_of_mem_nodup (cellsFrom_names scope.names 0 (s.heap.objs.size + 1) [] [] rfl ▸ hnd) hm), x.above n c hm⟩
  exact h s.heap.objs.size h₁ tk cells ⟨x.toInCall.ns, hk₁, Nat.le_refl _⟩ NC Y
end
end Mine
end

section -- part Rem
open PySem PySem.W PySem.Calls PyProof.Rows
set_option Elab.async false
set_option maxRecDepth 100000
set_option maxHeartbeats 4000000
namespace Mine

/-- a list of texts on the heap -/
def IsStrs (h : Heap) (v : Value) (ss : List Str) : Prop := ∃ a vs c, v = .ref a ∧ h.get? a = some { cls := .type "list", data := .seq (vs : List Value).toArray c } ∧ StrsAre vs ss ∧ ∀ t ∈ ss, PyData.strOk t = true
def strsD (ss : List Str) : PyData := .list (ss.map .str)

theorem reads_strs {h : Heap} : ∀ {vs : List Value} {ss : List Str}, StrsAre vs ss → ReadsAll h vs (ss.map .str) []
  | _, _, .nil => .nil
  | _, _, .cons x t r => .cons (as := []) (.str x t) (reads_strs r)
theorem IsStrs.reads {h : Heap} {v : Value} {ss : List Str} (x : IsStrs h v ss) : ∃ as, Reads h v (strsD ss) as := by
  obtain ⟨a, vs, c, rfl, hg, hs, _⟩ := x
  exact ⟨_, .list hg rfl rfl (by simpa using reads_strs hs)⟩
theorem eqvAll_strs : ∀ xs ys : List Str, PyData.eqvAll (xs.map .str) (ys.map .str) = decide (xs = ys)
  | [], [] => by simp [PyData.eqvAll]
  | [], y :: ys => by simp [PyData.eqvAll]
  | x :: xs, [] => by simp [PyData.eqvAll]
  | x :: xs, y :: ys => by
    simp only [List.map_cons, PyData.eqvAll, eqvAll_strs xs ys, PyData.eqv]
    by_cases h1 : x = y <;> by_cases h2 : xs = ys <;> simp [h1, h2]
theorem eqv_strs (xs ys : List Str) : PyData.eqv (strsD xs) (strsD ys) = decide (xs = ys) := by
  show PyData.eqv (.list _) (.list _) = _
  simp only [PyData.eqv]
  exact eqvAll_strs xs ys
theorem canLay_strs {ss : List Str} (h : ∀ t ∈ ss, PyData.strOk t = true) : PyData.canLay0 (strsD ss) = true := by
  show PyData.canLay0 (.list _) = true
  simp only [PyData.canLay0]
  induction ss with
  | nil => simp [PyData.canLayAll0]
  | cons x ss ih => simp [PyData.canLayAll0, PyData.canLay0, ih fun t ht => h t (List.mem_cons_of_mem _ ht), h x List.mem_cons_self]
theorem depth_strs (ss : List Str) : (strsD ss).depth ≤ 2 := by
  have h : ∀ ss : List Str, PyData.depthAll (ss.map .str) ≤ 1 := by
    intro ss
    induction ss with
    | nil => simp [PyData.depthAll]
    | cons x ss ih => simp [PyData.depthAll, PyData.depth]; omega
  show PyData.depth (.list _) ≤ 2
  have := h ss
  simp only [PyData.depth]
  omega

section
variable {prog : Program} {w : World} {A : Around} {E : Value → Shared → Prop} {s : Shared}
theorem eq_strs {x y : Value} {a b : List Str} {Q : Bool → Shared → Prop} (hx : IsStrs s.heap x a) (hy : IsStrs s.heap y b) (hu : A.units + 2 < cLine) (h : Q (decide (a = b)) s) : wpAny (model prog w) A (eqBool x y) Q E s := by
  obtain ⟨as, ra⟩ := hx.reads
  obtain ⟨bs, rb⟩ := hy.reads
  refine SeqAt.eqBoolOverData prog w A E s x y _ _ as bs Q ra rb (canLay_strs (by obtain ⟨_, _, _, _, _, _, z⟩ := hx; exact z)) (canLay_strs (by obtain ⟨_, _, _, _, _, _, z⟩ := hy; exact z)) ?_ (by rw [eqv_strs]; exact h)
  have := depth_strs a
  omega

theorem remove_at {l : Addr} {items : Array Value} {c : Nat} {x : Value} {d : List Str} {css : List (List Str)} {Q : Result → Shared → Prop} (hu : A.units + 3 < cLine) (hx : IsStrs s.heap x d)
    (hl : s.heap.get? l = some { cls := .type "list", dict := none, data := .seq items c, slots := #[] }) (hI : ∀ (m : Nat) (y : Value), items[m]? = some y → ∃ cs : List Str, css[m]? = some cs ∧ IsStrs s.heap y cs) (hsz : items.size ≤ 4096)
    (j : Nat) (hj : j < items.size) (hit : css[j]? = some d) (hno : ∀ m : Nat, m < j → css[m]? ≠ some d)
    (h : Q (.ok (.ret .none)) { s with heap := s.heap.update l (Obj.mapSeq fun xs => xs.eraseIdxIfInBounds j) }) :
    ∀ k i : Nat, j - i = k → i ≤ j → codeAny (model prog w) A (.builtin "list.remove.loop" ⟨[.ref l, x, rawInt i], []⟩) Q s := by
  obtain ⟨hp, g, dr, tk, os⟩ := s
  intro k
  induction k with
  | zero =>
    intro i hk hij
    have hij' : i = j := by omega
    subst hij'
    refine codeAny_builtin MeetsSeq.entry_remove_loop ?_
    rw [Around.under_plainId MeetsSeq.plain_remove_loop _]
    have hi : items[((i : Nat) : Int).toNat]? = some items[i] := by simp [hj]
    have hz' : (items.eraseIdxIfInBounds i).size ≤ sizeLine + 1 := Nat.le_trans (MeetsSeq.size_erased items _) (by rw [sizeLine_eq]; omega)
    obtain ⟨cs, hcs, hS⟩ := hI i items[i] (by simp [hj])
    rw [hit] at hcs
    cases hcs
    wp_walk using wpAny_loadPart' hl
    rw [hi]
    refine wpAny_bind (eq_strs hS hx (by show A.units + 1 + 2 < cLine; omega) ?_)
    rw [decide_eq_true rfl]
    have hs1 : items.size ≤ sizeLine := by rw [sizeLine_eq]; omega
    wp_walk using (wpAny_updateSeq hl rfl (hz := hs1) (_hz' := hz')), wpAny_loadPart' hl
    simpa using h
  | succ k ih =>
    intro i hk hij
    refine codeAny_builtin MeetsSeq.entry_remove_loop ?_
    rw [Around.under_plainId MeetsSeq.plain_remove_loop _]
    have hlt : i < items.size := by omega
    have hi : items[((i : Nat) : Int).toNat]? = some items[i] := by simp [hlt]
    have hc : ((i : Int) + 1) = ((i + 1 : Nat) : Int) := by push_cast; rfl
    obtain ⟨cs, hcs, hS⟩ := hI i items[i] (by simp [hlt])
    have hne : cs ≠ d := fun e => hno i (by omega) (by rw [hcs, e])
    wp_walk using wpAny_loadPart' hl
    rw [hi]
    refine wpAny_bind (eq_strs hS hx (by show A.units + 1 + 2 < cLine; omega) ?_)
    rw [decide_eq_false hne]
    wp_walk
    rw [hc]
    exact ⟨plainId_quiet MeetsSeq.plain_remove_loop _, ih (i + 1) (by omega) (by omega)⟩

theorem call_remove {l : Addr} {items : Array Value} {c : Nat} {x : Value} {d : List Str} {css : List (List Str)} {Q : Value → Shared → Prop} (hu : A.units + 3 < cLine) (hx : IsStrs s.heap x d)
    (hl : s.heap.get? l = some { cls := .type "list", dict := none, data := .seq items c, slots := #[] }) (hI : ∀ (m : Nat) (y : Value), items[m]? = some y → ∃ cs : List Str, css[m]? = some cs ∧ IsStrs s.heap y cs) (hsz : items.size ≤ 4096)
    (j : Nat) (hj : j < items.size) (hit : css[j]? = some d) (hno : ∀ m : Nat, m < j → css[m]? ≠ some d)
    (h : ∀ h' c', h'.get? l = some { cls := .type "list", dict := none, data := .seq (items.eraseIdxIfInBounds j) c', slots := #[] } → (∀ b o, b ≠ l → s.heap.get? b = some o → h'.get? b = some o) → Q .none { s with heap := h' }) :
    wpAny (model prog w) A (call (.builtin "list.remove") [.ref l, x]) Q E s := by
  have hT : s.TypeIs (.ref l) "list" := ⟨_, hl, rfl⟩
  refine wpAny_call (codeAny_call_builtin F.slot_list_remove.plain F.entry_list_remove (F.slot_list_remove.check _ _ _ _ _ _ _ _ hT (F.args_list_remove_2 _ _) ?_))
  have main := remove_at (prog := prog) (w := w) (A := A) (Q := fun r s' => match r with | .ok (.ret v) => Q v s' | .ok _ => False | .error e => E e s') hu hx hl hI hsz j hj hit hno
    (h _ _ (Heap.get?_update_self (Obj.mapSeq fun xs => xs.eraseIdxIfInBounds j) hl rfl) fun b o hb e => (Heap.get?_update_other _ _ (Ne.symm hb)).trans e) _ 0 rfl (Nat.zero_le _)
  obtain ⟨hp, g, dr, tk, os⟩ := s
  wp_walk using wpAny_loadPart' hl
  exact ⟨plainId_quiet MeetsSeq.plain_remove_loop _, main⟩
end
end Mine
namespace Mine
/-- every object of h that is not in h₀ and not among xs, as a ledger -/
theorem all_but (h₀ h : Heap) (L : Addr) (xs : List Addr) (hL : h.get? L = none) : ∃ news, (∀ h' : Heap, (∀ b o, h.get? b = some o → h'.get? b = some o) → News h₀ L h' news) ∧ (∀ p ∈ news, p.1 ∉ xs ∧ p.1 < h.objs.size) ∧
    ∀ h' : Heap, (∀ b o, h₀.get? b = some o → h.get? b = some o) → (∀ b o, h₀.get? b = some o → h'.get? b = some o) → (∀ p ∈ news, h'.get? p.1 = some p.2) → ∀ b o, b ∉ xs → h.get? b = some o → h'.get? b = some o := by
  refine ⟨(List.range h.objs.size).filterMap fun b => if b ∈ xs ∨ h₀.get? b ≠ none then none else (h.get? b).map fun o => (b, o), ?_, ?_, ?_⟩
  · intro h' hk p hp
    obtain ⟨b, _, e⟩ := List.mem_filterMap.mp hp
    by_cases hb : b ∈ xs ∨ h₀.get? b ≠ none
    · rw [if_pos hb] at e; cases e
    · rw [if_neg hb] at e
      obtain ⟨o, ho, rfl⟩ := Option.map_eq_some_iff.mp e
      refine ⟨hk _ _ ho, (fun (z : b = L) => by subst z; rw [hL] at ho; cases ho), ?_⟩
      cases q : h₀.get? b with
      | none => rfl
      | some o' => exact absurd (.inr (by rw [q]; exact fun z => by cases z)) hb
  · intro p hp
    obtain ⟨b, hb', e⟩ := List.mem_filterMap.mp hp
    by_cases hb : b ∈ xs ∨ h₀.get? b ≠ none
    · rw [if_pos hb] at e; cases e
    · rw [if_neg hb] at e
      obtain ⟨o, ho, rfl⟩ := Option.map_eq_some_iff.mp e
      exact ⟨fun h => hb (.inl h), List.mem_range.mp hb'⟩
  · intro h' k0 k1 N b o hbx e
    by_cases hb : h₀.get? b = none
    · refine N (b, o) (List.mem_filterMap.mpr ⟨b, List.mem_range.mpr (Heap.lt_size e), ?_⟩)
      rw [if_neg (fun z => z.elim hbx fun z => z hb), e]
      rfl
    · obtain ⟨o', ho'⟩ := Option.ne_none_iff_exists'.mp hb
      have := k0 b o' ho'
      rw [e] at this
      cases this
      exact k1 b o ho'
end Mine
end

section -- part Bag
open PySem PySem.W PySem.Calls PyProof.Rows
set_option Elab.async false
set_option maxHeartbeats 4000000
namespace Mine
/-- values that stand for lists of texts -/
def Cont (h : Heap) (vs : List Value) (css : List (List Str)) : Prop := vs.length = css.length ∧ ∀ (m : Nat) (y : Value), vs[m]? = some y → ∃ cs : List Str, css[m]? = some cs ∧ IsStrs h y cs

theorem Cont.eraseIdx {h : Heap} {vs : List Value} {css : List (List Str)} (x : Cont h vs css) (j : Nat) : Cont h (vs.eraseIdx j) (css.eraseIdx j) := by
  refine ⟨?_, fun m y hy => ?_⟩
  · rw [List.length_eraseIdx, List.length_eraseIdx, x.1]
  · rw [List.getElem?_eraseIdx] at hy ⊢
    by_cases hm : m < j
    · rw [if_pos hm] at hy ⊢
      exact x.2 m y hy
    · rw [if_neg hm] at hy ⊢
      exact x.2 (m + 1) y hy
theorem perm_erase {d : List Str} : ∀ {ds : List (List Str)} {j : Nat}, ds[j]? = some d → (d :: ds.eraseIdx j).Perm ds
  | c :: ds, 0, h => by
    have e : c = d := by simpa using h
    subst e
    exact List.Perm.refl _
  | c :: ds, j + 1, h => by
    have h' : ds[j]? = some d := by simpa using h
    exact (List.Perm.swap c d _).trans ((perm_erase h').cons c)
theorem first_at {d : List Str} : ∀ {ds : List (List Str)}, d ∈ ds → ∃ j, j < ds.length ∧ ds[j]? = some d ∧ ∀ m, m < j → ds[m]? ≠ some d
  | c :: ds, hd => by
    by_cases hc : c = d
    · exact ⟨0, by simp, by simp [hc], fun m hm => absurd hm (Nat.not_lt_zero m)⟩
    · obtain ⟨j, h1, h2, h3⟩ := first_at (ds := ds) (by rcases List.mem_cons.mp hd with h | h; · exact absurd h.symm hc
                                                        · exact h)
      refine ⟨j + 1, by simpa using h1, by simpa using h2, fun m hm => ?_⟩
      cases m with
      | zero => simpa using hc
      | succ m => simpa using h3 m (by omega)
theorem bag_step {css ds : List (List Str)} {k : Nat} {d : List Str} (hk : 1 ≤ k) (hd : css[k]? = some d) (hp : ds.Perm (css.take (k + 1)).tail) :
    d ∈ ds ∧ ∀ j, ds[j]? = some d → (ds.eraseIdx j).Perm (css.take k).tail := by
  have hlt : k < css.length := (List.getElem?_eq_some_iff.mp hd).1
  have e : (css.take (k + 1)).tail = (css.take k).tail ++ [d] := by
    rw [List.take_add_one, hd]
    cases h : css.take k with
    | nil =>
      have := congrArg List.length h
      rw [List.length_take, List.length_nil] at this
      omega
    | cons c r => rfl
  rw [e] at hp
  refine ⟨hp.mem_iff.mpr (by simp), fun j hj => ?_⟩
  exact (((perm_erase hj).trans hp).trans List.perm_append_comm).cons_inv
end Mine
end

section -- part Rows3
open PySem PySem.W PySem.Calls PyProof.Rows
set_option Elab.async false
set_option maxRecDepth 100000
set_option maxHeartbeats 4000000
namespace Mine
theorem fr_on {h₀ h h' : Heap} {L : Addr} {m : Str → Option Value} (F : Fr h₀ L h m) (k : ∀ b o, h.get? b = some o → h'.get? b = some o) : Fr h₀ L h' m := ⟨F.ns.keeps k, fun b o e => k b o (F.keep b o e), F.above⟩
/-- what a walk within the law's frame leaves: the frame, and all that stood -/
def Led (h₀ : Heap) (L : Addr) (m : Str → Option Value) (s s' : Shared) : Prop := ∃ h tk, s' = { s with heap := h, toks := tk } ∧ Fr h₀ L h m ∧ ∀ b o, b ≠ L → s.heap.get? b = some o → h.get? b = some o
theorem Led.intro {h₀ h' : Heap} {L : Addr} {m : Str → Option Value} {s : Shared} {tk' : Nat} {nw news : List (Addr × Obj)} (hall : ∀ h' : Heap, (∀ b o, h₀.get? b = some o → h'.get? b = some o) → News h₀ L h' nw → ∀ b o, b ≠ L → s.heap.get? b = some o → h'.get? b = some o)
    (F : Fr h₀ L h' m) (N : News h₀ L h' news) (hs : ∀ p ∈ nw, p ∈ news) : Led h₀ L m s { s with heap := h', toks := tk' } :=
  ⟨h', tk', rfl, F, hall h' F.keep fun p hp => N p (hs p hp)⟩
theorem Led.of_keeps {h₀ : Heap} {L : Addr} {m : Str → Option Value} {s s' : Shared} (F : Fr h₀ L s.heap m) (k : Keeps s s') : Led h₀ L m s s' := by
  obtain ⟨h, tk, rfl, kk⟩ := k
  exact ⟨h, tk, rfl, fr_on F kk, fun b o _ e => kk b o e⟩
theorem wpC_toks {α : Type} {M : Model} {A : Around} {E : Value → Shared → Prop} {s : Shared} {t : Sem α} {Q : α → Shared → Prop} (h : wpC M A t Q E s) :
    wpC M A t (fun a s' => s.toks ≤ s'.toks ∧ Q a s') (fun e s' => s.toks ≤ s'.toks ∧ E e s') s := fun Γ p hΓ hc => Sem.wp_toks M Γ s.toks t _ _ p s (Nat.le_refl _) (h Γ p hΓ hc)
theorem use_give {M : Model} {A : Around} {E : Value → Shared → Prop} {s : Shared} {h₀ : Heap} {L : Addr} {m : Str → Option Value} {news : List (Addr × Obj)} {t : Sem Value} {Q R : Value → Shared → Prop}
    (F : Fr h₀ L s.heap m) (N : News h₀ L s.heap news) (C : wpAny M A t (fun v s' => Keeps s s' ∧ R v s') E s)
    (h : ∀ v h' tk', (∀ b o, s.heap.get? b = some o → h'.get? b = some o) → Fr h₀ L h' m → News h₀ L h' news → R v { s with heap := h', toks := tk' } → Q v { s with heap := h', toks := tk' }) : wpAny M A t Q E s := by
  refine wpAny_mono C (fun v s' ⟨k, r⟩ => ?_) fun _ _ x => x
  obtain ⟨h', tk', rfl, k⟩ := k
  exact h v h' tk' k (F.keeps k) (N.grown k) r
section
variable {M : Model} {A : Around} {E : Value → Shared → Prop} {s : Shared} {env : Env}
theorem asgC {x : Str} {px pos : Pos} {value : Expr} {rest : List Stmt} {Q : Flow → Shared → Prop} {h₀ : Heap} {L : Addr} {m : Str → Option Value} (F : Fr h₀ L s.heap m) (R : Value → Shared → Prop) (hL : env.locals = L)
    (hx : env.kindOf x = some .local) (hp : (env.scope.kind == .class || (env.scope.kind == .module && env.locals != env.globals)) = false) (hs : swapsWith value (some (.Name x px)) pos.line env = pure false)
    (h : wpC M A (eval value env) (fun v s₁ => Led h₀ L m s s₁ ∧ R v s₁) E s)
    (k : ∀ v s₁ h₂ tk₂, R v s₁ → Fr h₀ L h₂ (fun y => if y = x then some v else m y) → (∀ b o, b ≠ L → s.heap.get? b = some o → h₂.get? b = some o) → (∀ b o, b ≠ L → s₁.heap.get? b = some o → h₂.get? b = some o) → s.toks ≤ tk₂ →
      wpC M A (execs rest env) Q E { s with heap := h₂, toks := tk₂ }) : wpC M A (execs (.Assign [.Name x px] value pos :: rest) env) Q E s := by
  subst hL
  refine wpC_execs_cons (wpC_Assign_Name (wpC_mono (wpC_toks h) (fun v s₁ h₁ => ?_) fun _ _ e => e.2) hs)
  obtain ⟨ht, ⟨h1, t1, rfl, F, kk⟩, r⟩ := h₁
  exact wpAny_storeName_local hx F.ns (fun h' hn hsb => k v _ h' _ r (F.set hn hsb) (fun b o hb e => (hsb.2 b hb).trans (kk b o hb e)) (fun b o hb e => (hsb.2 b hb).trans e) (Nat.le_succ_of_le ht)) hp
end
/-- a list of texts that is not the frame -/
def Strs (L : Addr) (h : Heap) (r : Addr) (ss : List Str) : Prop := r ≠ L ∧ ∃ vs c, h.get? r = some (listOf vs.toArray c) ∧ StrsAre vs ss
theorem Strs.on {L r : Addr} {h h' : Heap} {ss : List Str} (x : Strs L h r ss) (k : ∀ b o, b ≠ L → h.get? b = some o → h'.get? b = some o) : Strs L h' r ss :=
  let ⟨a, vs, c, b, d⟩ := x; ⟨a, vs, c, k _ _ a b, d⟩
theorem Strs.of {h₀ h h' : Heap} {L r : Addr} {m : Str → Option Value} {vs : List Value} {c : Nat} {ss : List Str} (F : Fr h₀ L h m) (hn : h.get? r = none) (hg : h'.get? r = some (listOf vs.toArray c)) (hs : StrsAre vs ss) : Strs L h' r ss := by
  refine ⟨fun e => ?_, vs, c, hg, hs⟩
  obtain ⟨o, es, ep, ho, _⟩ := F.ns
  rw [e, ho] at hn
  cases hn
/-- a list of lists of texts, none of them the frame or the list itself -/
def RowsL (L : Addr) (h : Heap) (r : Addr) (css : List (List Str)) : Prop := r ≠ L ∧ ∃ vs c, h.get? r = some (listOf vs.toArray c) ∧ Cont h vs css ∧ ∀ y ∈ vs, y ≠ .ref L ∧ y ≠ .ref r
/-- the rows that a comprehension has made so far, at none of the addresses av -/
def JR (css : List (List Str)) (av : List Addr) (k : Nat) (ys : List Value) (h : Heap) : Prop := Cont h ys (css.take k) ∧ ∀ y ∈ ys, ∀ a, y = .ref a → a ∉ av
theorem JR.zero {css : List (List Str)} {av : List Addr} {h : Heap} : JR css av 0 [] h := ⟨⟨rfl, fun m y e => by simp at e⟩, fun y hy => by cases hy⟩
theorem JR.frame {css : List (List Str)} {av : List Addr} {k : Nat} {ys : List Value} {h h' : Heap} (x : JR css av k ys h) (kk : ∀ b o, b ∉ av → h.get? b = some o → h'.get? b = some o) : JR css av k ys h' := by
  refine ⟨⟨x.1.1, fun m y e => ?_⟩, x.2⟩
  obtain ⟨cs, e1, a, vs, c, rfl, hg, hs⟩ := x.1.2 m y e
  exact ⟨cs, e1, a, vs, c, rfl, kk a _ (x.2 _ (List.mem_of_getElem? e) a rfl) hg, hs⟩
theorem JR.push {css : List (List Str)} {av : List Addr} {k : Nat} {ys : List Value} {h : Heap} {a : Addr} {cs : List Str} (x : JR css av k ys h) (hc : css[k]? = some cs) (hi : IsStrs h (.ref a) cs) (ha : a ∉ av) : JR css av (k + 1) (ys ++ [.ref a]) h := by
  have hlt : k < css.length := (List.getElem?_eq_some_iff.mp hc).1
  have hl : ys.length = k := by rw [x.1.1, List.length_take]; omega
  refine ⟨⟨by rw [List.length_append, hl, List.length_take]; simp; omega, fun m y e => ?_⟩, fun y hy b e => ?_⟩
  · by_cases hm : m < ys.length
    · rw [List.getElem?_append_left hm] at e
      obtain ⟨cs', e1, e2⟩ := x.1.2 m y e
      refine ⟨cs', ?_, e2⟩
      rw [List.getElem?_take] at e1 ⊢
      rw [if_pos (by omega)] at e1
      rw [if_pos (by omega)]
      exact e1
    · rw [List.getElem?_append_right (by omega)] at e
      have hm0 : m - ys.length = 0 := by
        have := (List.getElem?_eq_some_iff.mp e).1
        simp at this
        omega
      rw [hm0] at e
      have ey : Value.ref a = y := by simpa using e
      subst ey
      have em : m = k := by omega
      subst em
      exact ⟨cs, by rw [List.getElem?_take, if_pos (by omega)]; exact hc, hi⟩
  · rcases List.mem_append.mp hy with hy | hy
    · exact x.2 y hy b e
    · have := List.mem_singleton.mp hy
      rw [this] at e
      cases e
      exact ha

section
variable {prog : Program} {w : World} {A : Around} {E : Value → Shared → Prop} {env : Env}

theorem rows_avoid {h₀ h h₃ : Heap} {L I C D a ax : Addr} {m m₃ : Str → Option Value} {i : Nat} (F : Fr h₀ L h m) (hk : ∀ b o, h.get? b = some o → h₃.get? b = some o) (hC : h₃.Ns C m₃) (hD : ∃ o, h₃.get? D = some o) (hI : h₃.IsListIter I ax i) (ha : h₃.get? a = none) : a ∉ [L, C, D, I] := by
  intro hm
  simp only [List.mem_cons, List.not_mem_nil, or_false] at hm
  rcases hm with rfl | rfl | rfl | rfl
  · obtain ⟨o, _, _, ho, _⟩ := F.ns
    rw [hk _ _ ho] at ha; cases ha
  · obtain ⟨o, _, _, ho, _⟩ := hC
    rw [ho] at ha; cases ha
  · obtain ⟨o, ho⟩ := hD
    rw [ho] at ha; cases ha
  · obtain ⟨o, ho, _⟩ := hI
    rw [ho] at ha; cases ha
theorem JR.rows {css : List (List Str)} {L C I D : Addr} {n c : Nat} {ys : List Value} {h : Heap} (x : JR css [L, C, D, I] n ys h) (hn : css.length ≤ n) (hg : h.get? D = some (listOf ys.toArray c)) (hDL : D ≠ L) : RowsL L h D css := by
  refine ⟨hDL, ys, c, hg, by have := x.1; rwa [List.take_of_length_le hn] at this, fun y hy => ⟨?_, ?_⟩⟩
  · rintro rfl
    exact x.2 _ hy _ rfl (by simp)
  · rintro rfl
    exact x.2 _ hy _ rfl (by simp)

/-- what an element of a comprehension of rows gives -/
def EltP (C : Addr) (m₃ : Str → Option Value) (s₃ : Shared) (cs : List Str) (y : Value) (s₄ : Shared) : Prop := KeepsBut C m₃ s₃ s₄ ∧ ∃ a, y = .ref a ∧ s₃.heap.get? a = none ∧ IsStrs s₄.heap y cs
theorem EltP.next {css : List (List Str)} {L C D I : Addr} {k : Nat} {ys : List Value} {m₃ : Str → Option Value} {s₃ s₄ : Shared} {cs : List Str} {y : Value} (x : EltP C m₃ s₃ cs y s₄) (hJ : JR css [L, C, D, I] k ys s₃.heap) (hc : css[k]? = some cs) (hav : ∀ a, s₃.heap.get? a = none → a ∉ [L, C, D, I]) :
    JR css [L, C, D, I] (k + 1) (ys ++ [y]) s₄.heap ∧ KeepsBut C m₃ s₃ s₄ := by
  obtain ⟨⟨h, tk, rfl, kk, hns⟩, a, rfl, ha, hi⟩ := x
  refine ⟨JR.push (hJ.frame fun b o hb e => kk b o (fun hbC => hb (by simp [hbC])) e) hc hi (hav a ha), h, tk, rfl, kk, hns⟩




theorem asg_rows {s : Shared} {h₀ : Heap} {L rB : Addr} {m : Str → Option Value} {elt i1 : Expr} {x y : Str} {px py : Pos} {scope : Scope} {cl : List (Str × Addr)} {pos spos : Pos} {rest : List Stmt} {Q : Flow → Shared → Prop} {css : List (List Str)} {vsB : List Value} {cB : Nat}
    (F : Fr h₀ L s.heap m) (hL : env.locals = L) (hh : A.handled = none)
    (hsw : swapsWith (.ListComp elt [⟨.Name x px, i1, [], 0⟩] scope pos) (some (.Name y py)) spos.line env = pure true)
    (hclos : closureFor scope env = pure cl) (hcell : ∀ y ∈ scope.names, y.2 ≠ .cell) (hkind : scope.kind = .function)
    (hnames : ∀ y ∈ scope.names, y.2 = .local → scope.names.lookup y.1 = some .local) (hx : scope.names.lookup x = some .local)
    (hy : env.kindOf y = some .local) (hp : (env.scope.kind == .class || (env.scope.kind == .module && env.locals != env.globals)) = false)
    (hB : s.heap.get? rB = some (listOf vsB.toArray cB)) (hlen : vsB.length = css.length) (hsz : css.length ≤ sizeLine)
    (hiter : ∀ Q' : Value → Shared → Prop, Q' (.ref rB) s → wpAny (model prog w) A (eval i1 env) Q' E s)
    (helt : ∀ (k : Nat) u cs s₃ C m₃ E', vsB[k]? = some u → css[k]? = some cs → Fr s.heap C s₃.heap m₃ → m₃ x = some u → s.toks ≤ s₃.toks →
      wpAny (model prog w) A (eval elt (compEnvC scope cl C env)) (EltP C m₃ s₃ cs) E' s₃)
    (k : ∀ h₂ tk₂ r, RowsL L h₂ r css → Fr h₀ L h₂ (fun z => if z = y then some (.ref r) else m z) → (∀ b o, b ≠ L → s.heap.get? b = some o → h₂.get? b = some o) → s.toks ≤ tk₂ → wpC (model prog w) A (execs rest env) Q E { s with heap := h₂, toks := tk₂ })
    (hs : ∀ x, foldedSetIterable i1 env x = pure x := by intro _; rfl) :
    wpC (model prog w) A (execs (.Assign [.Name y py] (.ListComp elt [⟨.Name x px, i1, [], 0⟩] scope pos) spos :: rest) env) Q E s := by
  subst hL
  refine wpC_execs_cons (wpC_of_any (wpAny_Assign_rows hsw hclos hcell hkind hnames hx hy hp (hiter _ ?_) hs))
  refine wpAny_pyIter_list ⟨_, hB, rfl, _, rfl⟩ ?_
  have hlt : rB < s.heap.objs.size := Heap.lt_size hB
  obtain ⟨oL, esL, epL, hoL, hoR⟩ := F.ns
  have hLlt := Heap.lt_size hoL
  have up : ∀ b o, s.heap.get? b = some o → (s.heap.push { cls := .type "list_iterator", data := .fields #[.ref rB, .int 0 0] }).get? b = some o := fun b o e => Heap.get?_push_of_some _ e
  generalize hH : s.heap.push { cls := .type "list_iterator", data := .fields #[.ref rB, .int 0 0] } = H at up
  have hHs : H.objs.size = s.heap.objs.size + 1 := by rw [← hH, Heap.size_push]
  have notI : ∀ b o, s.heap.get? b = some o → b ∉ [s.heap.objs.size] := fun b o e hm => by
    rw [List.mem_singleton.mp hm] at e
    exact Nat.lt_irrefl _ (Heap.lt_size e)
  refine ⟨_, _, _, _, _, _, JR css [env.locals, H.objs.size + 1, H.objs.size, s.heap.objs.size], m, rfl, Walks.list hh s.heap.objs.size rB (Nat.ne_of_lt hlt) vsB.toArray, (by rw [List.size_toArray, hlen]; exact hsz), ⟨⟨_, by rw [← hH]; exact Heap.get?_push_size _ rfl, rfl, rfl⟩, ⟨_, up _ _ hB, rfl, _, rfl⟩⟩, ?_, JR.zero, ?_, F.ns.keeps up, ?_, ?_, ?_⟩
  · intro b hb
    show b < H.objs.size
    simp only [List.mem_cons, List.not_mem_nil, or_false] at hb
    rw [hHs]
    rcases hb with rfl | rfl
    · exact Nat.lt_succ_self _
    · exact Nat.lt_succ_of_lt hlt
  · exact fun hm => Nat.ne_of_lt hLlt (List.mem_singleton.mp hm)
  · intro k ys h h' hJ hk
    refine hJ.frame fun b o hb e => hk b o (fun q => hb (by simp [q])) (fun q => hb ?_) (fun q => hb (by simp [List.mem_singleton.mp q])) (fun q => hb ?_) e
    · have q' : b = H.objs.size + 1 := q
      simp [q']
    · have q' : b = H.objs.size := q
      simp [q']
  · intro k u s₃ m₃ E' ys hk hu hns hm hkeep htk hJ hS hD
    have hkeep' : ∀ b o, s.heap.get? b = some o → s₃.heap.get? b = some o := fun b o e => hkeep b o (notI b o e) (up b o e)
    have hk' : k < css.length := by rw [List.size_toArray, hlen] at hk; exact hk
    have hcs : css[k]? = some css[k] := List.getElem?_eq_getElem hk'
    have hu' : vsB[k]? = some u := by simpa using hu
    refine wpAny_mono (helt k u _ s₃ _ m₃ E' hu' hcs ⟨hns, hkeep', ?_⟩ hm htk) (fun y s₄ g => g.next hJ hcs fun a ha => rows_avoid F hkeep' hns hD hS.1 ha) fun _ _ e => e
    show s.heap.objs.size ≤ H.objs.size + 1
    rw [hHs]
    exact Nat.le_succ_of_le (Nat.le_succ _)
  · intro h' tk ys hpl hJ hns hkeep htk
    obtain ⟨cD, hcD⟩ := hpl
    have hcD' : h'.get? H.objs.size = some (listOf ys.toList.toArray cD) := by rw [Array.toArray_toList]; exact hcD
    exact k h' tk _ (hJ.rows (by rw [List.size_toArray, hlen]; exact Nat.le_refl _) hcD' (fun q => by
      have q' : H.objs.size = env.locals := q
      rw [hHs] at q'
      exact Nat.lt_irrefl _ (Nat.lt_of_succ_lt (q' ▸ hLlt)))) ⟨hns, fun b o e => hkeep b o (fun q => by
        rw [q] at e
        exact Nat.lt_irrefl _ (Nat.lt_of_lt_of_le (Heap.lt_size e) F.above)) (notI b o (F.keep b o e)) (up b o (F.keep b o e)), F.above⟩ (fun b o hb e => hkeep b o hb (notI b o e) (up b o e)) htk

theorem val_rows {s : Shared} {h₀ : Heap} {L rB : Addr} {m : Str → Option Value} {elt i1 : Expr} {x : Str} {px : Pos} {scope : Scope} {cl : List (Str × Addr)} {pos : Pos} {Q : Value → Shared → Prop} {css : List (List Str)} {vsB : List Value} {cB : Nat}
    (F : Fr h₀ L s.heap m) (hh : A.handled = none)
    (hclos : closureFor scope env = pure cl) (hcell : ∀ y ∈ scope.names, y.2 ≠ .cell) (hkind : scope.kind = .function)
    (hnames : ∀ y ∈ scope.names, y.2 = .local → scope.names.lookup y.1 = some .local) (hx : scope.names.lookup x = some .local)
    (hB : s.heap.get? rB = some (listOf vsB.toArray cB)) (hlen : vsB.length = css.length) (hsz : css.length ≤ sizeLine)
    (hiter : ∀ Q' : Value → Shared → Prop, Q' (.ref rB) s → wpAny (model prog w) A (eval i1 env) Q' E s)
    (helt : ∀ (k : Nat) u cs s₃ C m₃ E', vsB[k]? = some u → css[k]? = some cs → Fr s.heap C s₃.heap m₃ → m₃ x = some u → s.toks ≤ s₃.toks →
      wpAny (model prog w) A (eval elt (compEnvC scope cl C env)) (EltP C m₃ s₃ cs) E' s₃)
    (k : ∀ h₂ tk₂ r, RowsL L h₂ r css → s.heap.get? r = none → (∀ b o, s.heap.get? b = some o → h₂.get? b = some o) → s.toks ≤ tk₂ → Q (.ref r) { s with heap := h₂, toks := tk₂ })
    (hs : ∀ x, foldedSetIterable i1 env x = pure x := by intro _; rfl) :
    wpAny (model prog w) A (eval (.ListComp elt [⟨.Name x px, i1, [], 0⟩] scope pos) env) Q E s := by
  refine wpAny_ListComp_rows hclos hcell hkind hnames hx (hiter _ ?_) hs
  refine wpAny_pyIter_list ⟨_, hB, rfl, _, rfl⟩ ?_
  have hlt : rB < s.heap.objs.size := Heap.lt_size hB
  obtain ⟨oL, esL, epL, hoL, hoR⟩ := F.ns
  have hLlt := Heap.lt_size hoL
  have up : ∀ b o, s.heap.get? b = some o → (s.heap.push { cls := .type "list_iterator", data := .fields #[.ref rB, .int 0 0] }).get? b = some o := fun b o e => Heap.get?_push_of_some _ e
  generalize hH : s.heap.push { cls := .type "list_iterator", data := .fields #[.ref rB, .int 0 0] } = H at up
  have hHs : H.objs.size = s.heap.objs.size + 1 := by rw [← hH, Heap.size_push]
  have notI : ∀ b o, s.heap.get? b = some o → b ∉ [s.heap.objs.size] := fun b o e hm => by
    rw [List.mem_singleton.mp hm] at e
    exact Nat.lt_irrefl _ (Heap.lt_size e)
  refine ⟨_, _, _, _, _, _, JR css [L, H.objs.size + 1, H.objs.size, s.heap.objs.size], rfl, Walks.list hh s.heap.objs.size rB (Nat.ne_of_lt hlt) vsB.toArray, (by rw [List.size_toArray, hlen]; exact hsz), ⟨⟨_, by rw [← hH]; exact Heap.get?_push_size _ rfl, rfl, rfl⟩, ⟨_, up _ _ hB, rfl, _, rfl⟩⟩, ?_, JR.zero, ?_, ?_, ?_⟩
  · intro b hb
    show b < H.objs.size
    simp only [List.mem_cons, List.not_mem_nil, or_false] at hb
    rw [hHs]
    rcases hb with rfl | rfl
    · exact Nat.lt_succ_self _
    · exact Nat.lt_succ_of_lt hlt
  · intro k ys h h' hJ hk
    refine hJ.frame fun b o hb e => hk b o (fun q => hb ?_) (fun q => hb (by simp [List.mem_singleton.mp q])) (fun q => hb ?_) e
    · have q' : b = H.objs.size + 1 := q
      simp [q']
    · have q' : b = H.objs.size := q
      simp [q']
  · intro k u s₃ m₃ E' ys hk hu hns hm hkeep htk hJ hS hD
    have hkeep' : ∀ b o, s.heap.get? b = some o → s₃.heap.get? b = some o := fun b o e => hkeep b o (notI b o e) (up b o e)
    have hk' : k < css.length := by rw [List.size_toArray, hlen] at hk; exact hk
    have hcs : css[k]? = some css[k] := List.getElem?_eq_getElem hk'
    have hu' : vsB[k]? = some u := by simpa using hu
    refine wpAny_mono (helt k u _ s₃ _ m₃ E' hu' hcs ⟨hns, hkeep', ?_⟩ hm htk) (fun y s₄ g => g.next hJ hcs fun a ha => rows_avoid F hkeep' hns hD hS.1 ha) fun _ _ e => e
    show s.heap.objs.size ≤ H.objs.size + 1
    rw [hHs]
    exact Nat.le_succ_of_le (Nat.le_succ _)
  · intro h' tk ys hpl hJ hkeep htk
    obtain ⟨cD, hcD⟩ := hpl
    have hcD' : h'.get? H.objs.size = some (listOf ys.toList.toArray cD) := by rw [Array.toArray_toList]; exact hcD
    refine k h' tk _ (hJ.rows (by rw [List.size_toArray, hlen]; exact Nat.le_refl _) hcD' (fun q => by
      have q' : H.objs.size = L := q
      rw [hHs] at q'
      exact Nat.lt_irrefl _ (Nat.lt_of_succ_lt (q' ▸ hLlt)))) ?_ (fun b o e => hkeep b o (notI b o e) (up b o e)) htk
    show s.heap.get? H.objs.size = none
    exact Heap.get?_none_of_le (by rw [hHs]; exact Nat.le_succ _)
end
end Mine
end

section -- part EltRev
open PySem PySem.W PySem.Calls PyProof.Rows
set_option Elab.async false
set_option maxRecDepth 100000
set_option maxHeartbeats 4000000
namespace Mine
theorem strsAre_reverse {vs : List Value} {ss : List Str} (h : StrsAre vs ss) : StrsAre vs.reverse ss.reverse := by
  induction h with
  | nil => exact .nil
  | cons y t _ ih =>
    rw [List.reverse_cons, List.reverse_cons]
    exact ih.append' (.cons y t .nil)
/-- the end of an element «f(..)[::-1]», a list of texts turned round -/
theorem elt_rev {prog : Program} {w : World} {A : Around} {E : Value → Shared → Prop} {s₃ : Shared} {h₀ h7 : Heap} {C r : Addr} {m₃ : Str → Option Value} {value e : Expr} {pos : Pos} {u : Tok} {t : Nat} {vs7 : List Value} {c7 : Nat} {ps : List Str} {ops : List Value}
    (F : Fr h₀ C s₃.heap m₃) (k7 : ∀ b o, s₃.heap.get? b = some o → h7.get? b = some o) (hr : h7.get? r = some (listOf vs7.toArray c7)) (hs : StrsAre vs7 ps) (ok : ∀ t ∈ ps, PyData.strOk t = true) (hz : ps.length ≤ sizeLine)
    (hsub : subscripted (.Slice none none (some e) pos) false (.ref r) (.ref h7.objs.size) = operate ops (getItem (.ref r) (.ref h7.objs.size))) :
    wpAny (model prog w) A (subscriptTail value (.Slice none none (some e) pos) (.ref r) (.ref h7.objs.size)) (EltP C m₃ s₃ ps.reverse) E { s₃ with heap := h7.push { cls := .type "slice", data := .fields #[.none, .none, .int (-1) u] }, toks := t } := by
  refine kba_turn (value' := .Name (Str.ofString "_") ⟨0, 0, 0, 0⟩) (fun _ => rfl) ?_
  obtain ⟨nw, NA, hall⟩ := all_news h₀ h7 C
  have F7 : Fr h₀ C h7 m₃ := fr_on F k7
  refine slice_list3 (s := { s₃ with heap := h7, toks := t }) F7 NA ⟨_, hr, rfl, _, rfl⟩ .none .none (IsPart.int _ _) (by decide) (fun h8 F8 N8 => ?_) hsub (fun _ => rfl) (by rw [List.size_toArray, hs.length]; exact hz)
  rw [krv_pick] at N8
  have k8 := hall h8 F7.keep F8.keep (fun p hp => N8 p (List.mem_cons_of_mem _ hp))
  have hD := (N8 _ List.mem_cons_self).1
  refine ⟨⟨h8, t, rfl, fun b o hb e => k8 b o hb (k7 b o e), F8.ns⟩, _, rfl, ?_, _, vs7.reverse, 0, rfl, hD, strsAre_reverse hs, fun t ht => ok t (List.mem_reverse.mp ht)⟩
  show s₃.heap.get? (h7.objs.size + 1) = none
  cases e : s₃.heap.get? (h7.objs.size + 1) with
  | none => rfl
  | some o => exact absurd (Heap.lt_size (k7 _ o e)) (Nat.not_lt.mpr (Nat.le_succ _))
end Mine
end

section -- part Rows4
open PySem PySem.W PySem.Calls PyProof.Rows
set_option Elab.async false
set_option maxRecDepth 100000
set_option maxHeartbeats 4000000
namespace Mine
def partsOf (ss : List Str) : List (List Str) := ss.map fun x => partsL none x.cps.toList
def mirOf (ss : List Str) : List (List Str) := ss.map fun x => (partsL none x.cps.toList).reverse
/-- the j-th sample of n octets -/
def cutAt (n : Nat) (ks : List Int) (j : Nat) : List Int := (ks.drop (j * n)).take n
def cuts (n m : Nat) (ks : List Int) : List Str := (List.range m).map fun j => textOf (cutAt n ks j)

theorem cutAt_swap {n m : Nat} {ks : List Int} (hn : 0 < n) (hk : ks.length = m * n) {j : Nat} (hj : j < m) : cutAt n (swapL n ks) j = (cutAt n ks j).reverse := by
  have hjn : j * n + n ≤ ks.length := by
    have := Nat.mul_le_mul_right n (Nat.succ_le_of_lt hj)
    rw [Nat.succ_mul] at this
    omega
  have hl : (swapL n ks).length = ks.length := by simp [swapL]
  have hc : (cutAt n ks j).length = n := by rw [cutAt, List.length_take, List.length_drop]; omega
  have hcs : (cutAt n (swapL n ks) j).length = n := by rw [cutAt, List.length_take, List.length_drop, hl]; omega
  refine List.ext_getElem (by rw [List.length_reverse, hc, hcs]) fun i h1 h2 => ?_
  rw [hcs] at h1
  have e1 : (cutAt n (swapL n ks) j)[i] = swapAt n ks (j * n + i) := by
    simp only [cutAt, List.getElem_take, List.getElem_drop, swapL, List.getElem_map, List.getElem_range]
  have e2 : (cutAt n ks j).reverse[i] = ks[j * n + (n - 1 - i)]'(by omega) := by
    rw [List.getElem_reverse]
    simp only [cutAt, List.getElem_take, List.getElem_drop]
    congr 1
    have := hc
    unfold cutAt at this
    rw [this]
  rw [e1, e2]
  unfold swapAt
  have d1 : (j * n + i) / n = j := by rw [Nat.mul_comm, Nat.mul_add_div hn, Nat.div_eq_of_lt h1, Nat.add_zero]
  have d2 : (j * n + i) % n = i := by rw [Nat.mul_comm, Nat.mul_add_mod, Nat.mod_eq_of_lt h1]
  rw [d1, d2, List.getD_eq_getElem?_getD, List.getElem?_eq_getElem (by omega)]
  rfl
/-- the parts of the swapped samples are the samples' parts, turned round -/
theorem parts_swapped {n m : Nat} {ks : List Int} (hn : 0 < n) (hk : ks.length = m * n) : partsOf (cuts n m (swapL n ks)) = mirOf (cuts n m ks) := by
  simp only [partsOf, mirOf, cuts, List.map_map]
  refine List.map_congr_left fun j hj => ?_
  simp only [Function.comp]
  rw [cutAt_swap hn hk (List.mem_range.mp hj)]
  simp only [textOf, List.toList_toArray, List.map_reverse]
  exact partsL_reverse _

theorem RowsL.on {L r : Addr} {h h' : Heap} {css : List (List Str)} (x : RowsL L h r css) (k : ∀ b o, b ≠ L → h.get? b = some o → h'.get? b = some o) : RowsL L h' r css := by
  obtain ⟨hr, vs, c, hg, hc, hy⟩ := x
  refine ⟨hr, vs, c, k _ _ hr hg, ⟨hc.1, fun m y e => ?_⟩, hy⟩
  obtain ⟨cs, e1, a, vs', c', rfl, hg', hs⟩ := hc.2 m y e
  exact ⟨cs, e1, a, vs', c', rfl, k _ _ (fun q => (hy _ (List.mem_of_getElem? e)).1 (by rw [q])) hg', hs⟩
theorem IsStrs.on {h h' : Heap} {a : Addr} {ss : List Str} (x : IsStrs h (.ref a) ss) (k : ∀ o, h.get? a = some o → h'.get? a = some o) : IsStrs h' (.ref a) ss := by
  obtain ⟨b, vs, c, e, hg, r⟩ := x
  cases e
  exact ⟨a, vs, c, rfl, k _ hg, r⟩

def rowsD (css : List (List Str)) : PyData := .list (css.map strsD)
theorem reads_rows {h : Heap} : ∀ {vs : List Value} {css : List (List Str)}, Cont h vs css → ∃ as, ReadsAll h vs (css.map strsD) as
  | [], [], _ => ⟨[], .nil⟩
  | [], _ :: _, x => by have := x.1; simp at this
  | _ :: _, [], x => by have := x.1; simp at this
  | v :: vs, c :: css, x => by
    obtain ⟨cs, e1, e2⟩ := x.2 0 v rfl
    have : c = cs := by simpa using e1
    subst this
    obtain ⟨as, ra⟩ := e2.reads
    have x' : Cont h vs css := ⟨by have := x.1; simpa using this, fun m y e => by
      obtain ⟨cs', q1, q2⟩ := x.2 (m + 1) y (by simpa using e)
      exact ⟨cs', by simpa using q1, q2⟩⟩
    obtain ⟨bs, rb⟩ := reads_rows x'
    exact ⟨_, .cons ra rb⟩
theorem RowsL.reads {L r : Addr} {h : Heap} {css : List (List Str)} (x : RowsL L h r css) : ∃ as, Reads h (.ref r) (rowsD css) as := by
  obtain ⟨_, vs, c, hg, hc, _⟩ := x
  obtain ⟨as, ra⟩ := reads_rows hc
  exact ⟨_, .list hg rfl rfl (by simpa using ra)⟩
theorem eqv_rows : ∀ css : List (List Str), PyData.eqvAll (css.map strsD) (css.map strsD) = true
  | [] => by simp [PyData.eqvAll]
  | c :: css => by simp only [List.map_cons, PyData.eqvAll, eqv_rows css, eqv_strs, decide_true, Bool.and_self]
theorem rows_shaped {css : List (List Str)} (h : ∀ cs ∈ css, ∀ t ∈ cs, PyData.strOk t = true) : PyData.canLayAll0 (css.map strsD) = true ∧ PyData.depthAll (css.map strsD) ≤ 2 := by
  induction css with
  | nil => exact ⟨rfl, by simp [PyData.depthAll]⟩
  | cons c css ih =>
    obtain ⟨h1, h2⟩ := ih fun cs hc => h cs (List.mem_cons_of_mem _ hc)
    refine ⟨by simp only [List.map_cons, PyData.canLayAll0, h1, canLay_strs (h c List.mem_cons_self), Bool.and_self], ?_⟩
    have := depth_strs c
    simp only [List.map_cons, PyData.depthAll]
    omega
/-- what the difference tells: its first's parts, and nothing -/
def ToldP (L : Addr) (h : Heap) (v : Value) (d : List Str) : Prop := ∃ (t r a b : Addr) (o : Obj) (nn mc ac : Nat), v = .ref t ∧ h.get? t = some o ∧ o.cls = .type "tuple" ∧ o.data = .seq #[Value.ref r, Value.ref a] nn ∧
  h.get? r = some (listOf [Value.ref b].toArray mc) ∧ h.get? a = some (listOf [].toArray ac) ∧ IsStrs h (.ref b) d ∧ t ≠ L ∧ r ≠ L ∧ a ≠ L ∧ b ≠ L
theorem ToldP.on {L : Addr} {h h' : Heap} {v : Value} {d : List Str} (x : ToldP L h v d) (k : ∀ b o, b ≠ L → h.get? b = some o → h'.get? b = some o) : ToldP L h' v d := by
  obtain ⟨t, r, a, b, o, nn, mc, ac, e, h1, h2, h3, h4, h5, h6, n1, n2, n3, n4⟩ := x
  exact ⟨t, r, a, b, o, nn, mc, ac, e, k _ _ n1 h1, h2, h3, k _ _ n2 h4, k _ _ n3 h5, h6.on fun o e => k _ _ n4 e, n1, n2, n3, n4⟩
def toldD (d : List Str) : PyData := .tuple [.list [strsD d], .list []]
theorem told_reads {h : Heap} {t r a : Addr} {x : Value} {o : Obj} {nn mc ac : Nat} {d : List Str} (h1 : h.get? t = some o) (h2 : o.cls = .type "tuple") (h3 : o.data = .seq #[Value.ref r, Value.ref a] nn)
    (h4 : h.get? r = some (listOf [x].toArray mc)) (h5 : h.get? a = some (listOf [].toArray ac)) (h6 : IsStrs h x d) : ∃ as, Reads h (.ref t) (toldD d) as := by
  obtain ⟨as, ra⟩ := h6.reads
  exact ⟨_, .tuple h1 h2 h3 (.cons (.list h4 rfl rfl (.cons ra .nil)) (.cons (.list h5 rfl rfl .nil) .nil))⟩
theorem eqv_told (d : List Str) : PyData.eqv (toldD d) (toldD d) = true := by
  simp only [toldD, PyData.eqv, PyData.eqvAll, eqv_strs, decide_true, Bool.and_self]
theorem told_shaped {d : List Str} (h : ∀ t ∈ d, PyData.strOk t = true) : SeqAt.shaped (toldD d) = true := by
  unfold SeqAt.shaped toldD
  have h1 := canLay_strs h
  have h2 := depth_strs d
  simp only [PyData.canLay0, PyData.canLayAll0, h1, PyData.depth, PyData.depthAll, Bool.and_self, Bool.true_and]
  exact decide_eq_true (by omega)
theorem rowsD_shaped {css : List (List Str)} (h : ∀ cs ∈ css, ∀ t ∈ cs, PyData.strOk t = true) : SeqAt.shaped (rowsD css) = true := by
  obtain ⟨h1, h2⟩ := rows_shaped h
  unfold SeqAt.shaped rowsD
  simp only [PyData.canLay0, h1, PyData.depth, Bool.true_and]
  exact decide_eq_true (by omega)
theorem not_frame {h₀ h : Heap} {L b : Addr} {m : Str → Option Value} {o : Obj} {vs : Array Value} {c : Nat} (F : Fr h₀ L h m) (hg : h.get? b = some o) (hd : o.data = .seq vs c) : b ≠ L := by
  rintro rfl
  obtain ⟨oL, es, ep, ho, hdd, _⟩ := F.ns
  rw [ho] at hg
  cases hg
  rw [hdd] at hd
  cases hd
/-- after a callee has readied the frame of its caller -/
theorem fr_slots {h₀ h h' : Heap} {L : Addr} {m : Str → Option Value} {oL : Obj} {frs' : List (Addr × Obj)} (F : Fr h₀ L h m) (hL : h.get? L = some oL) (SU : TI.SameUp [(L, oL)] frs') (hf : ∀ q ∈ frs', h'.get? q.1 = some q.2) (k : ∀ b o, h₀.get? b = some o → h'.get? b = some o) : Fr h₀ L h' m := by
  obtain ⟨sl, hm⟩ := SU.back (L, oL) List.mem_cons_self
  have h1 := hf _ hm
  obtain ⟨o, es, ep, ho, hd, r⟩ := F.ns
  rw [hL] at ho
  cases ho
  exact ⟨⟨_, es, ep, h1, hd, r⟩, k, F.above⟩
theorem frs_one {env : Env} {L : Addr} {oL : Obj} {es : Array DictEntry} {ep : Nat} (hk : env.scope.kind ≠ .module) (hf : env.frame = some L) (hd : oL.data = .dict es ep) : TI.Frs [env] [(L, oL)] := ⟨hk, hf, ⟨es, ep, hd⟩, trivial⟩
theorem pick_tail (vs : List Value) : kms_pick vs (some 1) none = vs.drop 1 := by
  cases vs with
  | nil => rfl
  | cons v vs => simp [kms_pick, kms_lo, kms_hi]
theorem Cont.drop {h : Heap} {vs : List Value} {css : List (List Str)} (x : Cont h vs css) (k : Nat) : Cont h (vs.drop k) (css.drop k) := by
  refine ⟨by rw [List.length_drop, List.length_drop, x.1], fun m y e => ?_⟩
  rw [List.getElem?_drop] at e
  obtain ⟨cs, e1, e2⟩ := x.2 _ y e
  exact ⟨cs, by rw [List.getElem?_drop]; exact e1, e2⟩
end Mine
end

section -- part TypeB
open PySem PySem.W PySem.Calls PyProof.Rows
set_option Elab.async false
set_option maxRecDepth 100000
set_option maxHeartbeats 4000000
namespace Mine
theorem call_type_bytes {prog : Program} {w : World} {A : Around} {E : Value → Shared → Prop} {s : Shared} {b : Array UInt8} {u : Tok} {Q : Value → Shared → Prop} (hq : Q (.type "bytes") s) : wpAny (model prog w) A (call (.type "type") [.bytes b u]) Q E s := by
  refine wpAny_call (codeAny_of_tree ?_)
  show wpAny _ _ (callAny (.type "type") ⟨[.bytes b u], []⟩) _ _ _
  simp only [callAny]
  refine wpAny_pure ⟨Code.quiet_builtin _ (by decide +kernel), codeAny_builtin entry_type_call ?_⟩
  unfold Builtin.«type.__call__»
  dsimp only
  unfold shownTypeOf
  repeat wp_step
  exact hq
end Mine
end

open PySem PySem.W PySem.Calls PyProof.Rows
namespace Mine
local macro_rules | `(tactic| size_fits) => `(tactic| assumption)

section -- part P02a
set_option Elab.async false
set_option maxRecDepth 100000
set_option maxHeartbeats 8000000
theorem reset_P02a : True := by
  w_top off
  trivial

theorem size_len (x : Str) : Builtin.Range.rangeSize 0 (x.length : Int) 1 = ((x.length : Nat) : Int) := by
  rw [rangeSize_one]
  split <;> omega
theorem parts_call {w : World} {p : Program} {loose : List Str} {mean : ExcName → Option Value} {mg mb : Str → Option Value}
  {dp un : Nat} {gd : Option (List Code)} {fr : List Env} {s : Shared} {E : Value → Shared → Prop} (X : (Mine.hd.heap_39 w.params).In s.heap) (T : Top p loose mean mg mb s.heap)
  (hd : dp + 5 < recursionLimit) (hu : un + 100 < cLine) (x : Str) (t : Tok) (hx : x.length ≤ 64) :
  wpAny (model PySem.Challenge.rw_il0107_02.row.prog w) (Ar dp un gd fr) (call (.ref 86) [.str x t]) (GivesStrs s (partsL none x.cps.toList)) E s := by
  revert X
  k_fill
  intro X
  k_dflt (refine' enter (binds := [(Str.ofString "sample", Value.str x t)]) X T.nolimit ?k6 ?k7 ?k8 ?k9 ?kB ?_ ?c2 ?c3 ?c4 ?c5; (case k6 => k_is); (case k7 => k_is); (case k8 => (show dp < recursionLimit; omega)); (case k9 => exact BindsTo.of_eq rfl); (case kB => exact locs rfl); (case c5 => decide); (case c2 => exact rfl); (case c3 => exact rfl); (case c4 => exact rfl); k_whole; intro L' h' F'; (try dsimp only [List.reverse_cons, List.reverse_nil, List.nil_append, List.cons_append, List.length_cons, List.length_nil] at F' ⊢); (try k_fold))
  have N' := News.nil (h₀ := s.heap) (h := h') (L := L')
  (repeat' (first | ((fail_if_success (with_reducible show wpAny _ _ (exec (Stmt.For _ _ _ _ _) _) _ _ _)); (first | (k_unfold; (try dsimp only)) | ((with_reducible refine wpAny_execs_cons ?_); (try dsimp only)) | walk1 | (dsimp only; walk1) | (leave1; walk_say "STEP leave1"; try dsimp only) | (dsimp only; k_unfold; (try dsimp only))))))
  (rename Fr _ _ _ _ => lF')
  (with_unfolding_all refine' For_invVF lF' ?k1 ?k2 ?_; (case k1 => exact rfl); (case k2 => exact rfl))
  (repeat' (first | ((fail_if_success (with_reducible show wpAny _ _ (pyIter _) _ _ _)); (first | (k_unfold; (try dsimp only)) | ((with_reducible refine wpAny_execs_cons ?_); (try dsimp only)) | walk1 | (dsimp only; walk1) | (leave1; walk_say "STEP leave1"; try dsimp only) | (dsimp only; k_unfold; (try dsimp only))))))
  (rename Fr _ _ _ _ => lF)
  (rename News _ _ _ _ => lN)
  (rename IsRange _ _ _ _ _ _ _ _ => lR)
  (with_unfolding_all refine' loop_range1 x.length (fun i o => ∃ c vs, o = listOf vs.toArray c ∧ StrsAre vs (partsL none (x.cps.toList.take i))) ?k1 lR ?k2 ?k3 lF lN ?k4 ?k5 ?k6)
  (case k1 => exact rfl)
  (case k2 => exact small_one (by omega) (by omega) (by omega) (by omega))
  (case k3 => exact size_len x)
  (case k4 => exact ⟨_, [], rfl, .nil⟩)
  case k5 =>
    intro i tk o h' tk' I oI hi hJ hI _ F' N'
    obtain ⟨c, vs, rfl, hS⟩ := hJ
    have hsz : vs.toArray.size ≤ sizeLine := by
      rw [List.size_toArray, StrsAre.length hS, sizeLine_eq]
      have := partsL_len (x.cps.toList.take i) none
      rw [List.length_take] at this
      omega
    obtain ⟨d, hd'⟩ := sign_at hi
    (try k_fold)
    (repeat' (first | ((fail_if_success (with_reducible show TPost _ _ _ _ _ _ _ _ _ _ _ _ _)); (fail_if_success (with_reducible show GivesStrs _ _ _ _)); (first | (k_unfold; (try dsimp only)) | ((with_reducible refine wpAny_execs_cons ?_); (try dsimp only)) | walk1 | (dsimp only; walk1) | (leave1; walk_say "STEP leave1"; try dsimp only) | (dsimp only; k_unfold; (try dsimp only))))))
    all_goals clear hsz
    all_goals first
      | exact TPost.end (by assumption) (by assumption) (fun z hz => by simp [hz]) ⟨_, _, by rw [List.push_toArray], parts_push hS hd' (told_a hd' (by assumption)) (esc_a hd' (by assumption)) _⟩
      | exact TPost.end (by assumption) (by assumption) (fun z hz => by simp [hz]) ⟨_, _, by rw [List.push_toArray], parts_push hS hd' (told_a hd' (by assumption)) (esc_b hd' (by assumption)) _⟩
      | exact TPost.end (by assumption) (by assumption) (fun z hz => by simp [hz]) ⟨_, _, by rw [List.push_toArray], parts_push hS hd' (told_b hi (by assumption)) (esc_a hd' (by assumption)) _⟩
      | exact TPost.end (by assumption) (by assumption) (fun z hz => by simp [hz]) ⟨_, _, by rw [List.push_toArray], parts_push hS hd' (told_b hi (by assumption)) (esc_b hd' (by assumption)) _⟩
      | exact TPost.end (by assumption) (by assumption) (fun z hz => by simp [hz]) ⟨_, _, rfl, parts_stay hS hd' hi (by assumption) (by assumption)⟩
  case k6 =>
    intro u o h' tk' hJ F' N'
    obtain ⟨c, vs, rfl, hS⟩ := hJ
    rw [List.take_of_length_le (Nat.le_refl x.length)] at hS
    (try k_fold)
    (repeat' (first | ((fail_if_success (with_reducible show TPost _ _ _ _ _ _ _ _ _ _ _ _ _)); (fail_if_success (with_reducible show GivesStrs _ _ _ _)); (first | (k_unfold; (try dsimp only)) | ((with_reducible refine wpAny_execs_cons ?_); (try dsimp only)) | walk1 | (dsimp only; walk1) | (leave1; walk_say "STEP leave1"; try dsimp only) | (dsimp only; k_unfold; (try dsimp only))))))
    exact GivesStrs.intro F' N' (.head _) hS
end

section -- part P02e
set_option Elab.async false
set_option maxRecDepth 100000
set_option maxHeartbeats 8000000
theorem reset_P02e : True := by
  w_top off
  trivial


theorem esc_call {w : World} {p : Program} {loose : List Str} {mean : ExcName → Option Value} {mg mb : Str → Option Value}
  {dp un : Nat} {gd : Option (List Code)} {fr : List Env} {s : Shared} {E : Value → Shared → Prop} (X : (Mine.hd.heap_39 w.params).In s.heap) (T : Top p loose mean mg mb s.heap)
  (hd : dp + 5 < recursionLimit) (c : Nat) (t : Tok) (hc : c ∈ [97, 46, 45, 32]) :
  wpAny (model PySem.Challenge.rw_il0107_02.row.prog w) (Ar dp un gd fr) (call (.ref 48) [.str ⟨#[c]⟩ t]) (fun v s' => Keeps s s' ∧ ∃ t', s.toks ≤ t' ∧ v = .str (escC c) t') E s := by
  revert X
  k_fill
  intro X
  k_dflt (refine' enter (binds := [(Str.ofString "pattern", Value.str ⟨#[c]⟩ t)]) X T.nolimit ?k6 ?k7 ?k8 ?k9 ?kB ?_ ?c2 ?c3 ?c4 ?c5; (case k6 => k_is); (case k7 => k_is); (case k8 => (show dp < recursionLimit; omega)); (case k9 => exact BindsTo.of_eq rfl); (case kB => exact locs rfl); (case c5 => decide); (case c2 => exact rfl); (case c3 => exact rfl); (case c4 => exact rfl); k_whole; intro L' h' F'; (try dsimp only [List.reverse_cons, List.reverse_nil, List.nil_append, List.cons_append, List.length_cons, List.length_nil] at F' ⊢); (try k_fold))
  have N' := News.nil (h₀ := s.heap) (h := h') (L := L')
  repeat' (first | ((fail_if_success (with_reducible show wpAny _ _ (call (Value.builtin "str.translate") _) _ _ _)); (first | (k_unfold; (try dsimp only)) | ((with_reducible refine wpAny_execs_cons ?_); (try dsimp only)) | walk1 | (dsimp only; walk1) | (leave1; walk_say "STEP leave1"; try dsimp only) | (dsimp only; k_unfold; (try dsimp only)))))
  refine method_translate ?_
  repeat' (first | ((fail_if_success (with_reducible show wpAny _ _ (call (Value.builtin "str.translate") _) _ _ _)); (first | (k_unfold; (try dsimp only)) | ((with_reducible refine wpAny_execs_cons ?_); (try dsimp only)) | walk1 | (dsimp only; walk1) | (leave1; walk_say "STEP leave1"; try dsimp only) | (dsimp only; k_unfold; (try dsimp only)))))
  k_dflt (refine' mapsTo_use (prog := PySem.Challenge.rw_il0107_02.row.prog) (w := w) (h := h') (a := 38) ?k1 ?k2 ?k3 ?_; (case k1 => exact X.keeps F'.keep); (case k2 => k_is); (case k3 => decide +kernel))
  intro hm
  simp only [List.mem_cons, List.not_mem_nil, or_false] at hc
  rcases hc with rfl | rfl | rfl | rfl
  · refine call_translate_miss (by decide) rfl hm (by decide +kernel) (by decide) fun h1 tk hk htk => ?_
    k_unfold
    exact ⟨⟨_, _, rfl, fun b o e => hk _ _ (F'.keep _ _ e)⟩, _, Nat.le_trans (Nat.le_add_right _ _) htk, rfl⟩
  · refine call_translate_hit' (escC 46) hm (by decide +kernel) (by decide +kernel) (by decide +kernel) (by decide) fun tk htk => ?_
    k_unfold
    exact ⟨⟨_, _, rfl, F'.keep⟩, _, Nat.le_trans (Nat.le_add_right _ _) htk, rfl⟩
  · refine call_translate_hit' (escC 45) hm (by decide +kernel) (by decide +kernel) (by decide +kernel) (by decide) fun tk htk => ?_
    k_unfold
    exact ⟨⟨_, _, rfl, F'.keep⟩, _, Nat.le_trans (Nat.le_add_right _ _) htk, rfl⟩
  · refine call_translate_hit' (escC 32) hm (by decide +kernel) (by decide +kernel) (by decide +kernel) (by decide) fun tk htk => ?_
    k_unfold
    exact ⟨⟨_, _, rfl, F'.keep⟩, _, Nat.le_trans (Nat.le_add_right _ _) htk, rfl⟩
end

section -- part P02t
set_option Elab.async false
set_option maxRecDepth 100000
set_option maxHeartbeats 8000000
theorem reset_P02t : True := by
  w_top off
  trivial

local macro_rules | `(tactic| walk_at "getAttr ref") => `(tactic| (k_here; (with_reducible show wpAny _ _ (getAttr (Value.ref _) (PySem.Str.ofString "append") true) _ _ _); k_dflt (refine' getAttr_appN ?k1 ?k2 ?k3 ?_; (case k1 => k_asm); (case k2 => k_asm); (case k3 => k_mem); k_whole); intro q' h' tk' htk' F' N' l1; (try dsimp only at htk'); (try k_lt l1); (try k_sweep)))
local macro_rules | `(tactic| walk_at "callWith ref") => `(tactic| (k_here; (with_reducible show wpAny _ _ (callWith _ (Value.ref _) _ (backTo _ (starEach (_ :: _) _)) []) _ _ _); k_dflt (refine' callWith_app ?k1 ?k2 ?_; (case k1 => k_asm); (case k2 => k_mem); k_whole)))
local macro_rules | `(tactic| walk_at "And") => `(tactic| ((with_reducible show AtApp _ _ _ ∧ _); k_dflt (refine ⟨AtApp.of (by k_asm) (by k_mem), ?_⟩); (try dsimp only [List.nil_append, List.cons_append])))
local macro_rules | `(tactic| walk_at "call ref") => `(tactic| (k_here; (with_reducible show wpAny _ _ (call (Value.ref _) [_]) _ _ _); k_dflt (refine' call_appN ?k1 ?k2 ?k3 ?k4 ?_ ?z; (case k1 => k_asm); (case k2 => k_asm); (case k3 => k_mem); (case k4 => k_upd); (case z => assumption); k_whole); intro h' F' N'; (try k_sweep)))
local macro_rules | `(tactic| walk_at "subscriptTail Name Name str int") => `(tactic| (k_here; k_dflt (refine' item_sign (by assumption) (by assumption) ?_)))
local macro_rules | `(tactic| walk_at "truthy ref") => `(tactic| (k_here; k_dflt (refine' truthy_led ?k1 ?k2 ?k3 ?_; (case k1 => k_asm); (case k2 => k_mem); (case k3 => assumption); k_whole)))
local macro_rules | `(tactic| walk_at "compareOp IsNot str str") => `(tactic| (k_here; k_dflt (refine' isnot_str ?k1 ?k2 ?k3 ?_; (case k1 => assumption); (case k2 => assumption); (case k3 => assumption); k_whole)))
local macro_rules | `(tactic| walk_at "subscriptTail") => `(tactic| (k_here; (with_reducible show wpAny _ _ (subscriptTail _ _ (Value.ref _) (Value.int (-1) _)) _ _ _); k_dflt (refine' last_led ?k1 ?k2 ?_; (case k1 => k_asm); (case k2 => k_mem); k_whole)))
theorem esc_use {w : World} {p : Program} {loose : List Str} {mean : ExcName → Option Value} {mg mb : Str → Option Value}
  {dp un : Nat} {gd : Option (List Code)} {fr : List Env} {s : Shared} {E : Value → Shared → Prop} {x y : Str} {i c : Nat} {t : Tok} (_hd : x.cps[i]? = some c) (hy : y = ⟨#[c]⟩) (X : (Mine.hd.heap_39 w.params).In s.heap) (T : Top p loose mean mg mb s.heap)
  (hd : dp + 5 < recursionLimit) (hc : c ∈ [97, 46, 45, 32]) :
  wpAny (model PySem.Challenge.rw_il0107_02.row.prog w) (Ar dp un gd fr) (call (.ref 48) [.str y t]) (fun v s' => Keeps s s' ∧ ∃ t', s.toks ≤ t' ∧ v = .str (escC c) t') E s := by
  subst hy
  exact esc_call X T hd c t hc
local macro_rules | `(tactic| walk_at "call ref") => `(tactic| (k_here; (with_reducible show wpAny _ _ (call (Value.ref 48) [Value.str _ _]) _ _ _); k_dflt (refine' use_call ?k1 ?k2 (esc_use ?k0 ?ky ?k3 ?k4 ?k5 ?k6) ?_; (case k0 => assumption); (case ky => decide +kernel); (case k1 => k_asm); (case k2 => k_asm); (case k3 => exact Frag.In.keeps (by assumption) (Fr.keep (by assumption))); (case k4 => exact Top.keeps (by assumption) (Fr.keep (by assumption))); (case k5 => first | omega | (dsimp only; omega)); (case k6 => decide)); rintro v' h' tk' F' N' ⟨t', ht', e'⟩; subst e'; (try k_sweep)))
theorem trans_call {w : World} {p : Program} {loose : List Str} {mean : ExcName → Option Value} {mg mb : Str → Option Value}
  {dp un : Nat} {gd : Option (List Code)} {fr : List Env} {s : Shared} {E : Value → Shared → Prop} (X : (Mine.hd.heap_39 w.params).In s.heap) (T : Top p loose mean mg mb s.heap)
  (hd : dp + 10 < recursionLimit) (x : Str) (t ts tq : Nat) (hx : x.length ≤ 64) (hsg : ∀ (i d : Nat), x.cps[i]? = some d → d ∈ [42, 63, 97, 46, 45, 32]) (ht0 : ts ≠ 0) (hq0 : tq ≠ 0) (htq : tq ≠ ts) (hts : ts < s.toks) :
  wpAny (model PySem.Challenge.rw_il0107_02.row.prog w) (Ar dp un gd fr) (call (.ref 55) [.str x t, .str (Str.ofString "*") ts, .str (Str.ofString "?") tq]) (GivesStrs s (partsL none x.cps.toList)) E s := by
  revert X
  k_fill
  intro X
  k_dflt (refine' enter (binds := [(Str.ofString "pat", Value.str x t), (Str.ofString "STAR", Value.str (Str.ofString "*") ts), (Str.ofString "QUESTION_MARK", Value.str (Str.ofString "?") tq)]) X T.nolimit ?k6 ?k7 ?k8 ?k9 ?kB ?_ ?c2 ?c3 ?c4 ?c5; (case k6 => k_is); (case k7 => k_is); (case k8 => (show dp < recursionLimit; omega)); (case k9 => exact BindsTo.of_eq rfl); (case kB => exact locs rfl); (case c5 => decide); (case c2 => exact rfl); (case c3 => exact rfl); (case c4 => exact rfl); k_whole; intro L' h' F'; (try dsimp only [List.reverse_cons, List.reverse_nil, List.nil_append, List.cons_append, List.length_cons, List.length_nil] at F' ⊢); (try k_fold))
  have N' := News.nil (h₀ := s.heap) (h := h') (L := L')
  (repeat' (first | ((fail_if_success (with_reducible show wpAny _ _ (exec (Stmt.While _ _ _ _) _) _ _ _)); (first | (k_unfold; (try dsimp only)) | ((with_reducible refine wpAny_execs_cons ?_); (try dsimp only)) | ((with_reducible refine wpAny_execs_nil ?_); (try dsimp only)) | walk1 | (dsimp only; walk1) | (leave1; walk_say "STEP leave1"; try dsimp only) | (dsimp only; k_unfold; (try dsimp only))))))
  (rename Fr _ _ _ _ => lF)
  (rename News _ _ _ _ => lN)
  (with_unfolding_all refine' while_st s.toks (fun c : TrSt => [(_, appM _), (_, listOf c.vs.toArray c.ep)]) (fun c => [(Str.ofString "i", Value.int (c.i : Int) c.ti)]) [Str.ofString "c"] (fun c => c.i ≤ x.length ∧ StrsAre c.vs (partsL none (x.cps.toList.take c.i)) ∧ LastTok ts c.vs) (fun c => x.length - c.i) ⟨0, _, [], 0⟩ ?k0 lF (fun p hp => lN p (List.mem_cons_of_mem _ hp)) ?k1 ?k2 ?k3)
  (case k1 => intro p hp; rw [List.mem_singleton.mp hp]; rfl)
  (case k0 => (dsimp only; omega))
  (case k2 => exact ⟨Nat.zero_le _, .nil, LastTok.nil⟩)
  case k3 =>
    intro c u h' tk htk hP F' N'
    obtain ⟨hi, hS, hLast⟩ := hP
    obtain ⟨i, ti, vs, ep⟩ := c
    dsimp only at hi hS hLast F' N' ⊢
    have hvl : vs.length ≤ 64 := by
      rw [StrsAre.length hS]
      have := partsL_len (x.cps.toList.take i) none
      rw [List.length_take] at this
      omega
    have hvs : vs.toArray.size ≤ sizeLine := by rw [List.size_toArray, sizeLine_eq]; omega
    have hvm : vs.length ≤ 1000000 := by omega
    by_cases hlt : i < x.length
    · obtain ⟨d, hd'⟩ := sign_at hlt
      have hdm := hsg i d hd'
      simp only [List.mem_cons, List.not_mem_nil, or_false] at hdm
      rcases hdm with rfl | rfl | rfl | rfl | rfl | rfl
      · rcases strsAre_split hS with hv | ⟨ws, y, t9, hv⟩
        · subst hv
          have hem : (!([] : List Value).isEmpty) = false := rfl
          (try k_fold)
          (repeat' (first | ((fail_if_success (with_reducible show WPost _ _ _ _ _ _ _ _ _ _ _ _ _)); (fail_if_success (with_reducible show GivesStrs _ _ _ _)); (first | (k_unfold; (try dsimp only)) | ((with_reducible refine wpAny_execs_cons ?_); (try dsimp only)) | ((with_reducible refine wpAny_execs_nil ?_); (try dsimp only)) | walk1 | (dsimp only; walk1) | (leave1; walk_say "STEP leave1"; try dsimp only) | (dsimp only; k_unfold; (try dsimp only))))))
          (rename News _ _ _ _ => nE)
          (try simp only [List.push_toArray, List.nil_append] at nE)
          exact WPost.end ⟨i + 1, _, [_], ep + 1⟩ (by assumption) nE (fun p hp => hp) (by intro p hp; rw [List.mem_singleton.mp hp]; rfl) (by intro z h2 h3; simp only [List.forall_mem_cons, List.not_mem_nil, false_implies, implies_true, and_true, ne_eq] at h2; simp only [List.contains_cons, List.contains_nil, Bool.or_false, beq_eq_false_iff_ne, ne_eq] at h3; simp [kstB, h2, h3]) ⟨hlt, parts_star0 hS hd' _, LastTok.star (vs := []) ht0⟩ (by dsimp only; omega)
        · subst hv
          have hem : (!(ws ++ [Value.str y t9]).isEmpty) = true := by simp
          obtain ⟨h90, h9⟩ := hLast ws y t9 rfl
          (try k_fold)
          (repeat' (first | ((fail_if_success (with_reducible show WPost _ _ _ _ _ _ _ _ _ _ _ _ _)); (fail_if_success (with_reducible show GivesStrs _ _ _ _)); (first | (k_unfold; (try dsimp only)) | ((with_reducible refine wpAny_execs_cons ?_); (try dsimp only)) | ((with_reducible refine wpAny_execs_nil ?_); (try dsimp only)) | walk1 | (dsimp only; walk1) | (leave1; walk_say "STEP leave1"; try dsimp only) | (dsimp only; k_unfold; (try dsimp only))))))
          · (rename News _ _ _ _ => nE)
            (try simp only [List.push_toArray] at nE)
            exact WPost.end ⟨i + 1, _, (ws ++ [Value.str y t9]) ++ [_], ep + 1⟩ (by assumption) nE (fun p hp => hp) (by intro p hp; rw [List.mem_singleton.mp hp]; rfl) (by intro z h2 h3; simp only [List.forall_mem_cons, List.not_mem_nil, false_implies, implies_true, and_true, ne_eq] at h2; simp only [List.contains_cons, List.contains_nil, Bool.or_false, beq_eq_false_iff_ne, ne_eq] at h3; simp [kstB, h2, h3]) ⟨hlt, parts_star1 hS hd' (by assumption) _, LastTok.star ht0⟩ (by dsimp only; omega)
          · (rename News _ _ _ _ => nE)
            exact WPost.end ⟨i + 1, _, ws ++ [Value.str y t9], ep⟩ (by assumption) nE (fun p hp => hp) (by intro p hp; rw [List.mem_singleton.mp hp]; rfl) (by intro z h2 h3; simp only [List.forall_mem_cons, List.not_mem_nil, false_implies, implies_true, and_true, ne_eq] at h2; simp only [List.contains_cons, List.contains_nil, Bool.or_false, beq_eq_false_iff_ne, ne_eq] at h3; simp [kstB, h2, h3]) ⟨hlt, parts_star2 hS hd' (by assumption), hLast⟩ (by dsimp only; omega)
      · (try k_fold)
        (repeat' (first | ((fail_if_success (with_reducible show WPost _ _ _ _ _ _ _ _ _ _ _ _ _)); (fail_if_success (with_reducible show GivesStrs _ _ _ _)); (first | (k_unfold; (try dsimp only)) | ((with_reducible refine wpAny_execs_cons ?_); (try dsimp only)) | ((with_reducible refine wpAny_execs_nil ?_); (try dsimp only)) | walk1 | (dsimp only; walk1) | (leave1; walk_say "STEP leave1"; try dsimp only) | (dsimp only; k_unfold; (try dsimp only))))))
        (rename News _ _ _ _ => nE)
        (try simp only [List.push_toArray] at nE)
        exact WPost.end ⟨i + 1, _, vs ++ [_], ep + 1⟩ (by assumption) nE (fun p hp => hp) (by intro p hp; rw [List.mem_singleton.mp hp]; rfl) (by intro z h2 h3; simp only [List.forall_mem_cons, List.not_mem_nil, false_implies, implies_true, and_true, ne_eq] at h2; simp only [List.contains_cons, List.contains_nil, Bool.or_false, beq_eq_false_iff_ne, ne_eq] at h3; simp [kstB, h2, h3]) ⟨hlt, parts_more hS hd' (by decide) (by decide +kernel) _, LastTok.snoc hq0 ⟨fun e => absurd e (by decide +kernel), fun e => absurd e htq⟩⟩ (by dsimp only; omega)
      all_goals
        (try k_fold)
        (repeat' (first | ((fail_if_success (with_reducible show WPost _ _ _ _ _ _ _ _ _ _ _ _ _)); (fail_if_success (with_reducible show GivesStrs _ _ _ _)); (first | (k_unfold; (try dsimp only)) | ((with_reducible refine wpAny_execs_cons ?_); (try dsimp only)) | ((with_reducible refine wpAny_execs_nil ?_); (try dsimp only)) | walk1 | (dsimp only; walk1) | (leave1; walk_say "STEP leave1"; try dsimp only) | (dsimp only; k_unfold; (try dsimp only))))))
        (rename News _ _ _ _ => nE)
        (rename (_ ≤ _) => ht')
        (dsimp only at ht')
        (try simp only [List.push_toArray] at nE)
        exact WPost.end ⟨i + 1, _, vs ++ [_], ep + 1⟩ (by assumption) nE (fun p hp => hp) (by intro p hp; rw [List.mem_singleton.mp hp]; rfl) (by intro z h2 h3; simp only [List.forall_mem_cons, List.not_mem_nil, false_implies, implies_true, and_true, ne_eq] at h2; simp only [List.contains_cons, List.contains_nil, Bool.or_false, beq_eq_false_iff_ne, ne_eq] at h3; simp [kstB, h2, h3]) ⟨hlt, parts_more hS hd' (by decide) rfl _, LastTok.other (by omega) (by decide +kernel)⟩ (by dsimp only; omega)
    · have hin : i = x.length := by omega
      have hbe : ((i : Int) == (x.length : Int)) = true := by rw [hin]; exact beq_self_eq_true _
      have hdl : decide ((i : Int) < (x.length : Int)) = false := decide_eq_false (by omega)
      (try k_fold)
      (repeat' (first | ((fail_if_success (with_reducible show WPost _ _ _ _ _ _ _ _ _ _ _ _ _)); (fail_if_success (with_reducible show GivesStrs _ _ _ _)); (first | (k_unfold; (try dsimp only)) | ((with_reducible refine wpAny_execs_cons ?_); (try dsimp only)) | ((with_reducible refine wpAny_execs_nil ?_); (try dsimp only)) | walk1 | (dsimp only; walk1) | (leave1; walk_say "STEP leave1"; try dsimp only) | (dsimp only; k_unfold; (try dsimp only))))))
      (try dsimp only)
      (try k_unfold)
      (rename News _ _ _ _ => nE)
      (rename Fr _ _ _ _ => fE)
      rw [hin, List.take_of_length_le (Nat.le_refl x.length)] at hS
      exact GivesStrs.intro fE nE (.tail _ (.head _)) hS
end

section -- part P02s
set_option Elab.async false
set_option maxRecDepth 100000
set_option maxHeartbeats 8000000
theorem reset_P02s : True := by
  w_top off
  trivial

theorem news_swap {h₀ h : Heap} {L : Addr} {x y : Addr × Obj} {r : List (Addr × Obj)} (N : News h₀ L h (x :: y :: r)) : News h₀ L h (y :: x :: r) := fun p hp => N p (by
  rcases List.mem_cons.mp hp with rfl | hp
  · exact List.mem_cons_of_mem _ List.mem_cons_self
  · rcases List.mem_cons.mp hp with rfl | hp
    · exact List.mem_cons_self
    · exact List.mem_cons_of_mem _ (List.mem_cons_of_mem _ hp))
theorem sizeN {ks : List Int} {m n : Nat} (hkl : ks.length = m * n) (hn : 0 < n) : Builtin.Range.rangeSize 0 (ks.length : Int) (n : Int) = ((m : Nat) : Int) := by
  rw [rangeSize_pos (by omega) (by omega), hkl]
  have e : (((m * n : Nat) : Int) + (n : Int) - 1) = ((n : Int) - 1) + (n : Int) * (m : Int) := by rw [Int.mul_comm (n : Int)]; push_cast; omega
  rw [e, Int.add_mul_ediv_left _ _ (by omega), Int.ediv_eq_zero_of_lt (by omega) (by omega)]
  omega
theorem smallN {ks : List Int} {m n : Nat} (hkl : ks.length = m * n) (hk4 : ks.length ≤ 4096) (hn : 0 < n) (hn64 : n ≤ 64) : Builtin.Range.small 0 (ks.length : Int) (n : Int) = true := by
  unfold Builtin.Range.small
  rw [sizeN hkl hn, if_pos (by omega)]
  have hm : m ≤ m * n := Nat.le_mul_of_pos_right m hn
  rw [← hkl] at hm
  simp only [Builtin.Range.rangeFitsLong, Bool.and_eq_true, Bool.or_eq_true, decide_eq_true_eq, beq_iff_eq]
  omega

theorem swap_call {w : World} {p : Program} {loose : List Str} {mean : ExcName → Option Value} {mg mb : Str → Option Value}
  {dp un : Nat} {gd : Option (List Code)} {fr : List Env} {s : Shared} {E : Value → Shared → Prop} (X : (Mine.hd.heap_39 w.params).In s.heap) (T : Top p loose mean mg mb s.heap)
  (hd : dp + 5 < recursionLimit) (d : Array UInt8) (td tw : Tok) (m n : Nat) (hn : 0 < n) (hn64 : n ≤ 64) (ks : List Int) (hk : KBw.bInts d = ks) (hkl : ks.length = m * n) (hk4 : ks.length ≤ 4096) :
  wpC (model PySem.Challenge.rw_il0107_02.row.prog w) (Ar dp un gd fr) (call (.ref 69) [.bytes d td, .int (n : Int) tw]) (GivesBytes s (swapL n ks)) E s := by
  revert X
  k_fill
  intro X
  k_dflt (refine' enterC (binds := [(Str.ofString "data", Value.bytes d td), (Str.ofString "width", Value.int (n : Int) tw)]) X T.nolimit ?k6 ?k7 ?k8 ?k9 ?kB ?_ ?c2 ?c3 ?c4 ?c5; (case k6 => k_is); (case k7 => k_is); (case k8 => (show dp < recursionLimit; omega)); (case k9 => exact BindsTo.of_eq rfl); (case kB => exact locs rfl); (case c5 => decide); (case c2 => exact rfl); (case c3 => exact rfl); (case c4 => exact rfl); k_whole; intro L' h' F'; (try dsimp only [List.reverse_cons, List.reverse_nil, List.nil_append, List.cons_append, List.length_cons, List.length_nil] at F' ⊢); (try k_fold))
  have N' := News.nil (h₀ := s.heap) (h := h') (L := L')
  refine wpC_execs_cons ?_
  refine wpC_Assign_Name ?_
  refine wpC_Call_Name ?_
  (repeat' (first | ((fail_if_success (with_reducible show wpC _ _ _ _ _ _)); (first | (k_unfold; (try dsimp only)) | ((with_reducible refine wpAny_execs_cons ?_); (try dsimp only)) | walk1 | (dsimp only; walk1) | (leave1; walk_say "STEP leave1"; try dsimp only) | (dsimp only; k_unfold; (try dsimp only))))))
  refine wpC_callType1 ?_
  (repeat' (first | ((fail_if_success (with_reducible show wpC _ _ _ _ _ _)); (first | (k_unfold; (try dsimp only)) | ((with_reducible refine wpAny_execs_cons ?_); (try dsimp only)) | walk1 | (dsimp only; walk1) | (leave1; walk_say "STEP leave1"; try dsimp only) | (dsimp only; k_unfold; (try dsimp only))))))
  (rename Fr _ _ _ _ => F')
  (refine wpC_bytearray hk4 ?_)
  intro B hb hnone hB hkeep
  obtain ⟨F₁, N₁⟩ := take_new F' N' hnone hB hkeep
  clear F' N' hnone hkeep
  (repeat' (first | ((fail_if_success (with_reducible show wpC _ _ _ _ _ _)); (first | (k_unfold; (try dsimp only)) | ((with_reducible refine wpAny_execs_cons ?_); (try dsimp only)) | walk1 | (dsimp only; walk1) | (leave1; walk_say "STEP leave1"; try dsimp only) | (dsimp only; k_unfold; (try dsimp only))))))
  refine wpC_of_any ?_
  (repeat' (first | ((fail_if_success (with_reducible show wpAny _ _ (exec (Stmt.For _ _ _ _ _) _) _ _ _)); (first | (k_unfold; (try dsimp only)) | ((with_reducible refine wpAny_execs_cons ?_); (try dsimp only)) | walk1 | (dsimp only; walk1) | (leave1; walk_say "STEP leave1"; try dsimp only) | (dsimp only; k_unfold; (try dsimp only))))))
  (rename Fr _ _ _ _ => lF')
  (with_unfolding_all refine' For_invVF lF' ?k1 ?k2 ?_; (case k1 => exact rfl); (case k2 => exact rfl))
  (repeat' (first | ((fail_if_success (with_reducible show wpAny _ _ (pyIter _) _ _ _)); (first | (k_unfold; (try dsimp only)) | ((with_reducible refine wpAny_execs_cons ?_); (try dsimp only)) | walk1 | (dsimp only; walk1) | (leave1; walk_say "STEP leave1"; try dsimp only) | (dsimp only; k_unfold; (try dsimp only))))))
  (rename Fr _ _ _ _ => lF)
  (rename News _ _ _ _ => lN)
  (rename IsRange _ _ _ _ _ _ _ _ => lR)
  (with_unfolding_all refine' loop_range2 (Str.ofString "j") m (fun i o => Swapped n ks (fun p => p < i * n) o) ?k1 lR ?k2 ?k3 lF lN ?k4 ?k5 ?k6)
  (case k1 => exact rfl)
  (case k2 => exact smallN hkl hk4 hn hn64)
  (case k3 => exact sizeN hkl hn)
  (case k4 => exact Swapped.start n ks)
  case k5 =>
    intro i tk o h' tk' I oI u hi hJ hI _ F' N'
    (try k_fold)
    obtain ⟨b, rfl, hbz, hbS⟩ := hJ
    have hJ' := Swapped.open ⟨b, rfl, hbz, hbS⟩
    clear hbz hbS
    (repeat' (first | ((fail_if_success (with_reducible show wpAny _ _ (exec (Stmt.For _ _ _ _ _) _) _ _ _)); (first | (k_unfold; (try dsimp only)) | ((with_reducible refine wpAny_execs_cons ?_); (try dsimp only)) | walk1 | (dsimp only; walk1) | (leave1; walk_say "STEP leave1"; try dsimp only) | (dsimp only; k_unfold; (try dsimp only))))))
    (rename Fr _ _ _ _ => lF')
    (with_unfolding_all refine' For_invVF lF' ?q1 ?q2 ?_; (case q1 => exact rfl); (case q2 => exact rfl))
    (repeat' (first | ((fail_if_success (with_reducible show wpAny _ _ (pyIter _) _ _ _)); (first | (k_unfold; (try dsimp only)) | ((with_reducible refine wpAny_execs_cons ?_); (try dsimp only)) | walk1 | (dsimp only; walk1) | (leave1; walk_say "STEP leave1"; try dsimp only) | (dsimp only; k_unfold; (try dsimp only))))))
    (rename Fr _ _ _ _ => lF2)
    (rename News _ _ _ _ => lN2)
    (rename IsRange _ _ _ _ _ _ _ _ => lR2)
    have lN3 := news_swap lN2
    clear lN2
    (with_unfolding_all refine' loop_range1 n (fun j o => Swapped n ks (fun p => p < i * n ∨ (i * n + n - j ≤ p ∧ p < i * n + n)) o) ?q1 lR2 ?q2 ?q3 lF2 lN3 ?q4 ?q5 ?q6)
    (case q1 => exact rfl)
    (case q2 => exact small_one (by omega) (by omega) (by omega) (by omega))
    (case q3 => rw [rangeSize_one]; split <;> omega)
    (case q4 => exact hJ')
    case q5 =>
      clear lF lN lR lF2 lN3 lR2 hJ'
      intro j tk2 o2 h2 tk2' I2 oI2 hj hJ2 hI2 hI3 F2 N2
      obtain ⟨b2, rfl, hbz, hbS⟩ := hJ2
      have hin : (i : Int) * (n : Int) + (n : Int) ≤ ((ks.length : Nat) : Int) := by
        have h1 : (i + 1) * n ≤ m * n := Nat.mul_le_mul_right _ hi
        rw [Nat.add_mul, Nat.one_mul, ← hkl] at h1
        have h2 : ((i * n + n : Nat) : Int) ≤ (ks.length : Nat) := by exact_mod_cast h1
        push_cast at h2
        exact h2
      have h0 : 0 ≤ (i : Int) * (n : Int) := Int.mul_nonneg (by omega) (by omega)
      (try k_fold)
      (repeat' (first | ((fail_if_success (with_reducible show wpAny _ _ (setItem _ _ _) _ _ _)); (fail_if_success (with_reducible show UPost _ _ _ _ _ _ _ _ _ _ _ _ _ _)); (fail_if_success (with_reducible show TPost _ _ _ _ _ _ _ _ _ _ _ _ _)); (first | (k_unfold; (try dsimp only)) | ((with_reducible refine wpAny_execs_cons ?_); (try dsimp only)) | walk1 | (dsimp only; walk1) | (leave1; walk_say "STEP leave1"; try dsimp only) | (dsimp only; k_unfold; (try dsimp only))))))
      (rename Fr _ _ _ _ => F3)
      (rename News _ _ _ _ => N3)
      have hB2 := (N3 (B, baObj b2) (List.mem_cons_of_mem _ List.mem_cons_self)).1
      refine ba_setI hB2 (by omega) (by rw [hbz]; omega) (by omega) (by assumption) (by assumption) ?_
      intro h3 hB3 hk3
      have hrest : ∀ p ∈ [(I2, oI2), (I, oI)], p.1 ≠ B := by
        intro p hp
        rcases List.mem_cons.mp hp with rfl | hp
        · exact hI2
        · rcases List.mem_cons.mp hp with rfl | hp
          · exact hI
          · cases hp
      obtain ⟨F4, N4⟩ := turn_new F3 (news_swap N3) hB3 hk3 hrest
      clear F3 N3 hB2 hk3
      have hset := Swapped.set hj ⟨b2, rfl, hbz, hbS⟩
      have e1 : (0 + (i : Int) * (n : Int) + (n : Int) - 1 - (0 + (j : Int) * 1)).toNat = i * n + n - 1 - j := by
        have : ((i * n : Nat) : Int) = (i : Int) * (n : Int) := by push_cast; rfl
        omega
      have e2 : (0 + (i : Int) * (n : Int) + (0 + (j : Int) * 1)).toNat = i * n + j := by
        have : ((i * n : Nat) : Int) = (i : Int) * (n : Int) := by push_cast; rfl
        omega
      rw [e1, e2] at N4
      have N5 := news_swap N4
      clear N4 hB3
      (repeat' (first | ((fail_if_success (with_reducible show wpAny _ _ (setItem _ _ _) _ _ _)); (fail_if_success (with_reducible show UPost _ _ _ _ _ _ _ _ _ _ _ _ _ _)); (fail_if_success (with_reducible show TPost _ _ _ _ _ _ _ _ _ _ _ _ _)); (first | (k_unfold; (try dsimp only)) | ((with_reducible refine wpAny_execs_cons ?_); (try dsimp only)) | walk1 | (dsimp only; walk1) | (leave1; walk_say "STEP leave1"; try dsimp only) | (dsimp only; k_unfold; (try dsimp only))))))
      exact TPost.end (by assumption) (by assumption) (fun z hz => by simp [hz]) hset
    case q6 =>
      intro u2 o2 h2 tk2 hJ2 F2 N2
      have hcl := Swapped.close hJ2
      have N3 := news_swap N2
      clear N2 hJ2 lF lN lR lF2 lN3 lR2 hJ'
      (repeat' (first | ((fail_if_success (with_reducible show wpAny _ _ (setItem _ _ _) _ _ _)); (fail_if_success (with_reducible show UPost _ _ _ _ _ _ _ _ _ _ _ _ _ _)); (fail_if_success (with_reducible show TPost _ _ _ _ _ _ _ _ _ _ _ _ _)); (first | (k_unfold; (try dsimp only)) | ((with_reducible refine wpAny_execs_cons ?_); (try dsimp only)) | walk1 | (dsimp only; walk1) | (leave1; walk_say "STEP leave1"; try dsimp only) | (dsimp only; k_unfold; (try dsimp only))))))
      exact UPost.end (by assumption) (by assumption) (fun z hz hz2 => by simp [hz, hz2]) hcl
  case k6 =>
    intro u u' o h2 tk2 hJ F2 N2
    obtain ⟨b, rfl, hbz, hbI⟩ := Swapped.whole hkl hn (fun k hk' => KBw.ints_in (b := d) (by rw [hk]; exact hk')) hJ
    (repeat' (first | ((fail_if_success (with_reducible show wpAny _ _ (setItem _ _ _) _ _ _)); (fail_if_success (with_reducible show UPost _ _ _ _ _ _ _ _ _ _ _ _ _ _)); (fail_if_success (with_reducible show TPost _ _ _ _ _ _ _ _ _ _ _ _ _)); (first | (k_unfold; (try dsimp only)) | ((with_reducible refine wpAny_execs_cons ?_); (try dsimp only)) | walk1 | (dsimp only; walk1) | (leave1; walk_say "STEP leave1"; try dsimp only) | (dsimp only; k_unfold; (try dsimp only))))))
    (rename Fr _ _ _ _ => F3)
    (rename News _ _ _ _ => N3)
    have hB2 := (N3 (B, baObj b) List.mem_cons_self).1
    refine call_bytes_ba hB2 (by omega) ?_
    intro t k
    (repeat' (first | ((fail_if_success (with_reducible show wpAny _ _ (setItem _ _ _) _ _ _)); (fail_if_success (with_reducible show UPost _ _ _ _ _ _ _ _ _ _ _ _ _ _)); (fail_if_success (with_reducible show TPost _ _ _ _ _ _ _ _ _ _ _ _ _)); (first | (k_unfold; (try dsimp only)) | ((with_reducible refine wpAny_execs_cons ?_); (try dsimp only)) | walk1 | (dsimp only; walk1) | (leave1; walk_say "STEP leave1"; try dsimp only) | (dsimp only; k_unfold; (try dsimp only))))))
    exact ⟨⟨_, _, rfl, F3.keep⟩, b, t, rfl, hbI⟩
end

section -- part P02o
set_option Elab.async false
set_option maxRecDepth 100000
set_option maxHeartbeats 8000000
theorem reset_P02o : True := by
  w_top off
  trivial

/-- the sign of a number at a place -/
def sgnCode (n : Int) (k : Nat) : Int := [42, 63, 97, 46, 45, 32].getD ((n.fdiv (6 ^ k)).fmod 6).toNat 0
def sgn (n : Int) (k : Nat) : Str := ⟨#[(sgnCode n k).toNat]⟩
def rowS (n : Int) : List Str := (List.range 12).map (sgn n)
def rowsS (ns : List Int) : List Str := ns.flatMap rowS
def octL (ns : List Int) : List Int := ns.flatMap fun n => (List.range 12).map (sgnCode n)
def JO (ns : List Int) (i k : Nat) (ys : List Value) : Prop := StrsAre ys (rowsS (ns.take i) ++ (rowS (ns.getD i 0)).take k)
theorem JO.next {ns : List Int} {i : Nat} {ys : List Value} (hi : i < ns.length) (h : JO ns i 12 ys) : JO ns (i + 1) 0 ys := by
  unfold JO at h ⊢
  rw [show (rowS (ns.getD i 0)).take 12 = rowS (ns.getD i 0) from List.take_of_length_le (by simp [rowS])] at h
  rw [List.take_zero, List.append_nil, List.take_add_one]
  have e : ns[i]? = some (ns.getD i 0) := by rw [List.getD_eq_getElem?_getD, List.getElem?_eq_getElem hi]; rfl
  rw [e]
  simpa [rowsS] using h
theorem JO.push {ns : List Int} {i k : Nat} {ys : List Value} {x : Str} {t : Tok} (hk : k < 12) (hx : x = sgn (ns.getD i 0) k) (h : JO ns i k ys) : JO ns i (k + 1) (ys ++ [.str x t]) := by
  unfold JO at h ⊢
  rw [List.take_add_one, ← List.append_assoc]
  have e : (rowS (ns.getD i 0))[k]? = some x := by
    rw [rowS, List.getElem?_map, List.getElem?_range hk, hx]; rfl
  rw [e]
  exact strsAre_snoc h x t
theorem pyIter_range_walk {prog : Program} {w : World} {A : Around} {E : Value → Shared → Prop} {r : Addr} {b : Int} {n : Nat} {t u v : Tok} {s₃ s₄ : Shared} (hh : A.handled = none) (hr : IsRange s₄.heap r 0 b 1 t u v)
    (hsmall : Builtin.Range.small 0 b 1 = true) (hsz : Builtin.Range.rangeSize 0 b 1 = (n : Int)) (hk : Keeps s₃ s₄) :
    wpAny (model prog w) A (pyIter (.ref r)) (fun it s₅ => ∃ I2 St2, it = .ref I2 ∧ Walks prog w A I2 [I2] [I2] n (fun k u => ∃ t, u = .int (0 + (k : Int) * 1) t) St2 ∧ St2 0 s₅.heap ∧ s₃.heap.get? I2 = none ∧ Keeps s₃ s₅) E s₄ := by
  refine wpAny_pyIter_range hr hsmall ?_
  obtain ⟨h, tk, rfl, hkk⟩ := hk
  refine ⟨_, _, rfl, Walks.range hh _ 0 1 n, ?_, ?_, ⟨_, _, rfl, fun b o e => Heap.get?_push_of_some _ (hkk b o e)⟩⟩
  · show IsRangeIter _ _ _ _ _
    rw [hsz]
    simpa using Heap.get?_push_size _ rfl
  · cases e : s₃.heap.get? h.objs.size with
    | none => rfl
    | some o => exact absurd (Heap.lt_size (hkk _ _ e)) (Nat.lt_irrefl _)
theorem six_pow {k : Nat} (hk : k < 12) : ((6 : Int) ^ (0 + (k : Int) * 1).toNat) = 6 ^ k ∧ (6 : Int) ^ k ≠ 0 ∧ ((6 : Int) ^ k).natAbs < 1073741824 := by
  have e : (0 + (k : Int) * 1).toNat = k := by omega
  rw [e]
  have h := (by decide : ∀ k < 12, (6 : Int) ^ k ≠ 0 ∧ ((6 : Int) ^ k).natAbs < 1073741824) k hk
  exact ⟨rfl, h⟩
theorem item_sgn {q : Int} (h0 : 0 ≤ q) (h1 : q < 6) : Txt.item (Str.ofString "*?a.- ") q = ⟨#[([42, 63, 97, 46, 45, 32].getD q.toNat (0 : Int)).toNat]⟩ := by
  obtain ⟨j, rfl⟩ := Int.eq_ofNat_of_zero_le h0
  have hj : j < 6 := by omega
  have h := (by decide : ∀ j : Nat, j < 6 → Txt.item (Str.ofString "*?a.- ") (j : Int) = ⟨#[([42, 63, 97, 46, 45, 32].getD (j : Int).toNat (0 : Int)).toNat]⟩) j hj
  exact h
theorem item_is {ns : List Int} {i k : Nat} {n : Int} (hn : ns[i]? = some n) : Txt.item (Str.ofString "*?a.- ") ((n.fdiv (6 ^ k)).fmod 6) = sgn (ns.getD i 0) k := by
  rw [List.getD_eq_getElem?_getD, hn]
  exact item_sgn (Int.fmod_nonneg_of_pos _ (by decide)) (Int.fmod_lt_of_pos _ (by decide))
theorem sgnCode_range (n : Int) (k : Nat) : 0 ≤ sgnCode n k ∧ sgnCode n k < 128 := by
  unfold sgnCode
  have h0 : 0 ≤ (n.fdiv (6 ^ k)).fmod 6 := Int.fmod_nonneg_of_pos _ (by decide)
  have h1 : (n.fdiv (6 ^ k)).fmod 6 < 6 := Int.fmod_lt_of_pos _ (by decide)
  generalize (n.fdiv (6 ^ k)).fmod 6 = q at h0 h1
  obtain ⟨j, rfl⟩ := Int.eq_ofNat_of_zero_le h0
  have hj : j < 6 := by omega
  exact (by decide : ∀ j : Nat, j < 6 → 0 ≤ [42, 63, 97, 46, 45, 32].getD (j : Int).toNat (0 : Int) ∧ [42, 63, 97, 46, 45, 32].getD (j : Int).toNat (0 : Int) < 128) j hj
theorem octL_range {ns : List Int} {c : Int} (h : c ∈ octL ns) : 0 ≤ c ∧ c < 128 := by
  unfold octL at h
  obtain ⟨n, _, h⟩ := List.mem_flatMap.mp h
  obtain ⟨k, _, rfl⟩ := List.mem_map.mp h
  exact sgnCode_range n k
/-- the text of a row of octets -/
theorem rowsS_signs (ns : List Int) : rowsS ns = signs (textOf (octL ns)) := by
  simp only [rowsS, rowS, textOf, signs, octL, List.map_flatMap, List.map_map]
  rfl
theorem octL_length (ns : List Int) : (octL ns).length = 12 * ns.length := by
  induction ns with
  | nil => rfl
  | cons n ns ih =>
    have e : octL (n :: ns) = (List.range 12).map (sgnCode n) ++ octL ns := rfl
    rw [e, List.length_append, ih]
    simp
    omega
theorem textOf_len (ks : List Int) : (textOf ks).length = ks.length := by simp [textOf, Str.length]
theorem join_octets (ns : List Int) : Txt.join (Str.ofString "") (rowsS ns) = textOf (octL ns) := by
  show Builtin.Str.glued _ _ = _
  rw [StrLaws.glued_eq_join, rowsS_signs]
  exact join_nil_signs _
theorem sum_octets (ns : List Int) : ((rowsS ns).map (·.length)).sum = 12 * ns.length := by
  rw [rowsS_signs, ← octL_length, ← textOf_len]
  generalize textOf (octL ns) = w
  simp only [signs, List.map_map, Str.length]
  rw [show w.cps.size = w.cps.toList.length by simp]
  generalize w.cps.toList = l
  induction l with
  | nil => rfl
  | cons c l ih => rw [List.map_cons, List.sum_cons, ih, List.length_cons]; simp; omega
theorem bytes_octets {ks : List Int} (h : ∀ c ∈ ks, 0 ≤ c ∧ c < 128) : KBw.bInts ((textOf ks).cps.toList.map (·.toUInt8)).toArray = ks := by
  simp only [KBw.bInts, textOf, List.map_map]
  conv => rhs; rw [← List.map_id ks]
  refine List.map_congr_left fun c hc => ?_
  have := h c hc
  simp only [Function.comp, id]
  rw [show (c.toNat.toUInt8).toNat = c.toNat by simp; omega]
  omega
theorem octets_call {w : World} {p : Program} {loose : List Str} {mean : ExcName → Option Value} {mg mb : Str → Option Value}
  {dp un : Nat} {gd : Option (List Code)} {fr : List Env} {s : Shared} {E : Value → Shared → Prop} (X : (Mine.hd.heap_39 w.params).In s.heap) (T : Top p loose mean mg mb s.heap)
  (hd : dp + 5 < recursionLimit) (hu : un + 100 < cLine) (a : Addr) (vs : List Value) (ns : List Int) (hl : s.heap.IsList a vs.toArray) (hi : IntsAre vs ns) (hlen : ns.length ≤ 4) :
  wpAny (model PySem.Challenge.rw_il0107_02.row.prog w) (Ar dp un gd fr) (call (.ref 74) [.ref a]) (GivesBytes s (octL ns)) E s := by
  revert X
  k_fill
  intro X
  k_dflt (refine' enter (binds := [(Str.ofString "numbers", Value.ref a)]) X T.nolimit ?k6 ?k7 ?k8 ?k9 ?kB ?_ ?c2 ?c3 ?c4 ?c5; (case k6 => k_is); (case k7 => k_is); (case k8 => (show dp < recursionLimit; omega)); (case k9 => exact BindsTo.of_eq rfl); (case kB => exact locs rfl); (case c5 => decide); (case c2 => exact rfl); (case c3 => exact rfl); (case c4 => exact rfl); k_whole; intro L' h' F'; (try dsimp only [List.reverse_cons, List.reverse_nil, List.nil_append, List.cons_append, List.length_cons, List.length_nil] at F' ⊢); (try k_fold))
  have N' := News.nil (h₀ := s.heap) (h := h') (L := L')
  (repeat' (first | ((fail_if_success (with_reducible show wpAny _ _ (eval (Expr.ListComp _ _ _ _) _) _ _ _)); (first | (k_unfold; (try dsimp only)) | ((with_reducible refine wpAny_execs_cons ?_); (try dsimp only)) | walk1 | (dsimp only; walk1) | (leave1; walk_say "STEP leave1"; try dsimp only) | (dsimp only; k_unfold; (try dsimp only))))))
  refine wpAny_ListComp_two (cl := []) (closureFor_none (by decide)) (by decide) rfl (by decide) rfl rfl (by decide) ?_
  (repeat' (first | ((fail_if_success (with_reducible show wpAny _ _ (pyIter _) _ _ _)); (first | (k_unfold; (try dsimp only)) | ((with_reducible refine wpAny_execs_cons ?_); (try dsimp only)) | walk1 | (dsimp only; walk1) | (leave1; walk_say "STEP leave1"; try dsimp only) | (dsimp only; k_unfold; (try dsimp only))))))
  (rename Fr _ _ _ _ => lF)
  have hl' : Heap.IsList _ a vs.toArray := hl.at fun o e => lF.keep _ o e
  refine wpAny_pyIter_list hl' ?_
  have hvl : vs.toArray.size = ns.length := by rw [List.size_toArray]; exact hi.length
  have hne : a ≠ h'.objs.size := by obtain ⟨o, ho, _⟩ := hl'; exact Nat.ne_of_lt (Heap.lt_size ho)
  have hlt : a < h'.objs.size := by obtain ⟨o, ho, _⟩ := hl'; exact Heap.lt_size ho
  have hLlt : L' < h'.objs.size := by obtain ⟨o, _, _, ho, _⟩ := lF.ns; exact Heap.lt_size ho
  refine ⟨_, [h'.objs.size, a], [h'.objs.size], vs.toArray.size, 12, fun i v => vs.toArray[i]? = some v, fun k u => ∃ t, u = .int (0 + (k : Int) * 1) t, _, JO ns, rfl, Walks.list rfl _ a hne vs.toArray, ?z1, ⟨⟨_, Heap.get?_push_size _ rfl, rfl, rfl⟩, hl'.push _⟩, ?z2, ?z3, ⟨?z4, ?z5, ?z6⟩, ?z7⟩
  case z1 => rw [hvl, sizeLine_eq]; omega
  case z2 =>
    intro b hb
    show b < (Heap.push h' _).objs.size
    rw [Heap.size_push]
    rcases List.mem_cons.mp hb with rfl | hb
    · exact Nat.lt_succ_self _
    · rw [List.mem_singleton.mp hb]; exact Nat.lt_succ_of_lt hlt
  case z3 => exact .nil
  case z6 => exact fun i ys hi' hJ => JO.next (by rw [← hvl]; exact hi') hJ
  case z4 =>
    rintro C i v s₃ m₃ E' hC hi' hv hns hm hk
    have F3 : Fr s.heap C s₃.heap m₃ := ⟨hns, fun b o e => hk b o (fun hb => by
      have h1 := Heap.lt_size (lF.keep b o e)
      rw [List.mem_singleton.mp hb] at h1
      exact Nat.lt_irrefl _ h1) (Heap.get?_push_of_some _ (lF.keep b o e)), by
        have h1 : (Heap.push h' _).objs.size ≤ C := hC
        rw [Heap.size_push] at h1
        exact Nat.le_trans lF.above (Nat.le_of_lt (Nat.lt_of_lt_of_le hLlt (Nat.le_of_succ_le h1)))⟩
    have N3 := News.nil (h₀ := s.heap) (h := s₃.heap) (L := C)
    clear N' hl' hne hlt hLlt hk lF
    (repeat' (first | ((fail_if_success (with_reducible show wpAny _ _ (pyIter _) _ _ _)); (first | (k_unfold; (try dsimp only)) | ((with_reducible refine wpAny_execs_cons ?_); (try dsimp only)) | walk1 | (dsimp only; walk1) | (leave1; walk_say "STEP leave1"; try dsimp only) | (dsimp only; k_unfold; (try dsimp only))))))
    (rename IsRange _ _ _ _ _ _ _ _ => lR)
    (rename Fr _ _ _ _ => lF3)
    exact pyIter_range_walk rfl lR (small_one (by omega) (by omega) (by omega) (by omega)) rfl ⟨_, _, rfl, by assumption⟩
  case z5 =>
    rintro C i k v u s₃ m₃ E' hC hi' hk12 hv ⟨tu, rfl⟩ hns hm hm2 hk
    obtain ⟨n, tv, rfl, hnv⟩ := IntsAre.at hi i v (by simpa using hv)
    have F3 : Fr s.heap C s₃.heap m₃ := ⟨hns, fun b o e => hk b o (fun hb => by
      have h1 := Heap.lt_size (lF.keep b o e)
      rw [List.mem_singleton.mp hb] at h1
      exact Nat.lt_irrefl _ h1) (Heap.get?_push_of_some _ (lF.keep b o e)), by
        have h1 : (Heap.push h' _).objs.size ≤ C := hC
        rw [Heap.size_push] at h1
        exact Nat.le_trans lF.above (Nat.le_of_lt (Nat.lt_of_lt_of_le hLlt (Nat.le_of_succ_le h1)))⟩
    have N3 := News.nil (h₀ := s.heap) (h := s₃.heap) (L := C)
    clear N' hl' hne hlt hLlt hk lF
    (repeat' (first | ((fail_if_success (with_reducible show wpAny _ _ (pyIter _) _ _ _)); (first | (k_unfold; (try dsimp only)) | ((with_reducible refine wpAny_execs_cons ?_); (try dsimp only)) | walk1 | (dsimp only; walk1) | (leave1; walk_say "STEP leave1"; try dsimp only) | (dsimp only; k_unfold; (try dsimp only))))))
    obtain ⟨e6, h6, h6'⟩ := six_pow hk12
    rw [e6]
    (with_reducible refine floordiv_int h6 ?_ (Or.inl (PyProof.noPylong_small h6')))
    (repeat' (first | ((with_reducible show wpAny _ _ _ _ _ _); (fail_if_success (with_reducible show wpAny _ _ (pyIter _) _ _ _)); (first | (k_unfold; (try dsimp only)) | ((with_reducible refine wpAny_execs_cons ?_); (try dsimp only)) | walk1 | (dsimp only; walk1) | (leave1; walk_say "STEP leave1"; try dsimp only) | (dsimp only; k_unfold; (try dsimp only))))))
    refine ⟨fun ys hJ => ?_, ⟨_, _, rfl, fun b o e => e⟩⟩
    exact JO.push hk12 (item_is hnv) hJ
  case z7 =>
    intro D h2 tk2 ys hD hpl hJ hk
    obtain ⟨c, hc⟩ := hpl
    have hI : ∀ b o, h'.get? b = some o → b ∉ [h'.objs.size] := fun b o e hb => by
      have h1 := Heap.lt_size e
      rw [List.mem_singleton.mp hb] at h1
      exact Nat.lt_irrefl _ h1
    obtain ⟨F2, N2⟩ := take_new (a := D) (h₁ := h2) lF N' (by
      cases e : h'.get? D with
      | none => rfl
      | some o => have h3 := Heap.get?_push_of_some { cls := Value.type "list_iterator", data := Data.fields #[Value.ref a, Value.int 0 0] } e; rw [show Heap.get? _ D = none from hD] at h3; cases h3) hc (fun b o e => hk b o (hI b o e) (Heap.get?_push_of_some _ e))
    unfold JO at hJ
    rw [List.take_zero, List.append_nil, List.take_of_length_le (by rw [hvl]; exact Nat.le_refl _)] at hJ
    rw [show ys = ys.toList.toArray from (Array.toArray_toList).symm] at N2
    generalize ys.toList = zs at hJ N2
    clear N' hl' hne hlt hLlt hk lF hc hD hI
    (repeat' (first | ((with_reducible show wpAny _ _ _ _ _ _); (fail_if_success (with_reducible show wpAny _ _ (pyIter _) _ _ _)); (first | (k_unfold; (try dsimp only)) | ((with_reducible refine wpAny_execs_cons ?_); (try dsimp only)) | walk1 | (dsimp only; walk1) | (leave1; walk_say "STEP leave1"; try dsimp only) | (dsimp only; k_unfold; (try dsimp only))))))
    have hD2 := News.isList N2 List.mem_cons_self
    (with_reducible refine join_listC hD2 hJ (by decide) (by rw [sum_octets, rowsS_signs, signs_length, textOf_len, octL_length]; omega) ?_)
    intro tj kj
    rw [join_octets]
    refine method_encode ?_
    (repeat' (first | ((with_reducible show wpAny _ _ _ _ _ _); (fail_if_success (with_reducible show wpAny _ _ (pyIter _) _ _ _)); (first | (k_unfold; (try dsimp only)) | ((with_reducible refine wpAny_execs_cons ?_); (try dsimp only)) | walk1 | (dsimp only; walk1) | (leave1; walk_say "STEP leave1"; try dsimp only) | (dsimp only; k_unfold; (try dsimp only))))))
    refine call_encode (x := textOf (octL ns)) (fun c hc => ?_) (by rw [textOf_len, octL_length]; omega) fun tb kb => ?_
    · simp only [textOf] at hc
      obtain ⟨z, hz, rfl⟩ := List.mem_map.mp (by simpa using hc)
      have := octL_range hz
      omega
    (repeat' (first | ((with_reducible show wpAny _ _ _ _ _ _); (fail_if_success (with_reducible show wpAny _ _ (pyIter _) _ _ _)); (first | (k_unfold; (try dsimp only)) | ((with_reducible refine wpAny_execs_cons ?_); (try dsimp only)) | walk1 | (dsimp only; walk1) | (leave1; walk_say "STEP leave1"; try dsimp only) | (dsimp only; k_unfold; (try dsimp only))))))
    (rename Fr _ _ _ _ => F9)
    show GivesBytes s (octL ns) (.bytes _ tb) _
    exact ⟨⟨_, _, rfl, F9.keep⟩, _, _, rfl, bytes_octets fun c hc => octL_range hc⟩
end

section -- part P02m
set_option Elab.async false
set_option maxRecDepth 100000
set_option maxHeartbeats 8000000
theorem reset_P02m : True := by
  w_top off
  trivial

theorem walks_lt {prog : Program} {w : World} {A : Around} {I : Addr} {fp wr : List Addr} {n : Nat} {P : Nat → Value → Prop} {St : Nat → Heap → Prop} (W : Walks prog w A I fp wr n P St) : Walks prog w A I fp wr n (fun i v => i < n ∧ P i v) St where
  sub := W.sub
  frame := W.frame
  item := fun i s Q E hi st hQ => W.item i s Q E hi st fun v h' tk hv => hQ v h' tk ⟨hi, hv⟩
  done := W.done
  self := W.self
theorem no_tests {prog : Program} {w : World} {A : Around} {E : Value → Shared → Prop} {env : Env} {s : Shared} :
    wpAny (model prog w) A (forIn ([] : List Expr) true fun c r => if r = true then do let ok ← isTrue c env (eval c env); pure (ForInStep.yield ok) else pure (ForInStep.yield r)) (fun ok s₄ => ok = true ∧ Keeps s s₄) E s := wpAny_pure ⟨rfl, keeps_refl s⟩
/-- the frame of a comprehension's own names, over the frame of the def -/
theorem comp_frame {h₀ h h' : Heap} {L C I : Addr} {m m₃ : Str → Option Value} {o : Obj} {news : List (Addr × Obj)} (F : Fr h₀ L h m) (N : News h₀ L h news) (hI : I = h.objs.size) (hC : (h.push o).objs.size ≤ C) (hns : h'.Ns C m₃)
    (hk : ∀ b o', b ∉ [I] → (h.push o).get? b = some o' → h'.get? b = some o') : Fr h₀ C h' m₃ ∧ News h₀ C h' news := by
  have hlt : ∀ b o', h.get? b = some o' → b ∉ [I] := fun b o' e hb => by
    have h1 := Heap.lt_size e
    rw [List.mem_singleton.mp hb, hI] at h1
    exact Nat.lt_irrefl _ h1
  have keep : ∀ b o', h.get? b = some o' → h'.get? b = some o' := fun b o' e => hk b o' (hlt b o' e) (Heap.get?_push_of_some _ e)
  rw [Heap.size_push] at hC
  refine ⟨⟨hns, fun b o' e => keep b o' (F.keep b o' e), ?_⟩, fun p hp => ⟨keep _ _ (N p hp).1, ?_, (N p hp).2.2⟩⟩
  · exact Nat.le_trans F.above (Nat.le_of_lt (Nat.lt_of_lt_of_le F.ns.lt (Nat.le_of_succ_le hC)))
  · rintro rfl
    exact Nat.lt_irrefl _ (Nat.lt_of_lt_of_le (Heap.lt_size (N p hp).1) (Nat.le_of_succ_le hC))
def JI (pk : Array UInt8) (k : Nat) (ys : List Value) : Prop := StrsAre ys ((pk.toList.map fun c => (⟨#[c.toNat]⟩ : Str)).take k)
theorem JI.push {pk : Array UInt8} {k : Nat} {c : UInt8} {ys : List Value} {t : Tok} (hc : pk[k]? = some c) (h : JI pk k ys) : JI pk (k + 1) (ys ++ [.str ⟨#[(c.toNat : Int).toNat]⟩ t]) := by
  unfold JI at h ⊢
  rw [List.take_add_one, List.getElem?_map, Array.getElem?_toList, hc]
  exact strsAre_snoc h _ t
def JC (n : Nat) (ks : List Int) (i : Nat) (ys : List Value) : Prop := StrsAre ys (cuts n i ks)
theorem JC.push {n : Nat} {ks : List Int} {i : Nat} {ys : List Value} {t : Tok} (h : JC n ks i ys) : JC n ks (i + 1) (ys ++ [.str (textOf (cutAt n ks i)) t]) := by
  unfold JC cuts at h ⊢
  rw [List.range_succ, List.map_append]
  exact strsAre_snoc h _ t
theorem comp_done {h₀ h h₁ : Heap} {L I D : Addr} {m : Str → Option Value} {o oD : Obj} {news : List (Addr × Obj)} (F : Fr h₀ L h m) (N : News h₀ L h news) (hI : I = h.objs.size) (hD : (h.push o).get? D = none) (hc : h₁.get? D = some oD)
    (hk : ∀ b o', b ∉ [I] → (h.push o).get? b = some o' → h₁.get? b = some o') : Fr h₀ L h₁ m ∧ News h₀ L h₁ ((D, oD) :: news) := by
  refine take_new F N ?_ hc fun b o' e => hk b o' (fun hb => ?_) (Heap.get?_push_of_some _ e)
  · cases e : h.get? D with
    | none => rfl
    | some o' => rw [Heap.get?_push_of_some _ e] at hD; cases hD
  · have h1 := Heap.lt_size e
    rw [List.mem_singleton.mp hb, hI] at h1
    exact Nat.lt_irrefl _ h1
theorem textOf_len2 (ks : List Int) : (textOf ks).length = ks.length := by simp [textOf, Str.length]
theorem sum_signs (x : Str) : ((signs x).map (·.length)).sum = x.length := by
  simp only [signs, List.map_map, Str.length]
  rw [show x.cps.size = x.cps.toList.length by simp]
  generalize x.cps.toList = l
  induction l with
  | nil => rfl
  | cons c l ih => rw [List.map_cons, List.sum_cons, ih, List.length_cons]; simp; omega
theorem join_signs (x : Str) : Txt.join (Str.ofString "") (signs x) = x := by
  show Builtin.Str.glued _ _ = _
  rw [StrLaws.glued_eq_join]
  exact join_nil_signs _
theorem signs_ints (b : Array UInt8) : signs (textOf (KBw.bInts b)) = b.toList.map fun c => (⟨#[c.toNat]⟩ : Str) := by
  simp only [signs, textOf, KBw.bInts, List.map_map]
  rfl
theorem cut_is {n i : Nat} {ks : List Int} : (ks.drop (clipAt ks.length (0 + (i : Int) * (n : Int)))).take (clipAt ks.length (0 + (i : Int) * (n : Int) + (n : Int)) - clipAt ks.length (0 + (i : Int) * (n : Int))) = cutAt n ks i := by
  have hc : ∀ q : Nat, clipAt ks.length (q : Int) = min q ks.length := fun q => by
    unfold clipAt
    rw [if_neg (by omega)]
    omega
  have e1 : (0 + (i : Int) * (n : Int)) = ((i * n : Nat) : Int) := by push_cast; omega
  have e2 : (((i * n : Nat) : Int) + (n : Int)) = ((i * n + n : Nat) : Int) := by push_cast; omega
  rw [e1, e2]
  rw [hc, hc, cutAt]
  by_cases h : i * n ≤ ks.length
  · rw [Nat.min_eq_left h]
    by_cases h2 : i * n + n ≤ ks.length
    · rw [Nat.min_eq_left h2, Nat.add_sub_cancel_left]
    · rw [Nat.min_eq_right (by omega), List.take_of_length_le (by rw [List.length_drop]; omega), List.take_of_length_le (by rw [List.length_drop]; omega)]
  · rw [Nat.min_eq_right (show ks.length ≤ i * n + n by omega), Nat.min_eq_right (show ks.length ≤ i * n by omega), List.drop_of_length_le (Nat.le_refl _), List.drop_of_length_le (by omega), List.take_nil, List.take_nil]
theorem samples_call {w : World} {p : Program} {loose : List Str} {mean : ExcName → Option Value} {mg mb : Str → Option Value}
  {dp un : Nat} {gd : Option (List Code)} {fr : List Env} {s : Shared} {E : Value → Shared → Prop} (X : (Mine.hd.heap_39 w.params).In s.heap) (T : Top p loose mean mg mb s.heap)
  (hd : dp + 5 < recursionLimit) (d : Array UInt8) (td tw : Tok) (m n : Nat) (hn : 0 < n) (hn64 : n ≤ 64) (ks : List Int) (hk : KBw.bInts d = ks) (hkl : ks.length = m * n) (hk4 : ks.length ≤ 4096) (hin : ∀ c ∈ ks, 0 ≤ c ∧ c < 128) :
  wpAny (model PySem.Challenge.rw_il0107_02.row.prog w) (Ar dp un gd fr) (call (.ref 79) [.bytes d td, .int (n : Int) tw]) (GivesStrs s (cuts n m ks)) E s := by
  revert X
  k_fill
  intro X
  k_dflt (refine' enterCells (binds := [(Str.ofString "octets", Value.bytes d td), (Str.ofString "width", Value.int (n : Int) tw)]) X T.nolimit ?k6 ?k7 ?k8 ?k9 ?kB ?kC ?_ ?c2 ?c3 ?c4; (case k6 => k_is); (case k7 => k_is); (case k8 => (show dp < recursionLimit; omega)); (case k9 => exact BindsTo.of_eq rfl); (case kB => exact kindsX rfl); (case kC => decide); (case c2 => exact rfl); (case c3 => exact rfl); (case c4 => exact rfl); k_whole; intro L' h' tk' cells F' N' Y')
  k_cells Y'
  (try k_fold)
  (repeat' (first | ((fail_if_success (with_reducible show wpAny _ _ (eval (Expr.ListComp _ _ _ _) _) _ _ _)); (first | (k_unfold; (try dsimp only)) | ((with_reducible refine wpAny_execs_cons ?_); (try dsimp only)) | walk1 | (dsimp only; walk1) | (leave1; walk_say "STEP leave1"; try dsimp only) | (dsimp only; k_unfold; (try dsimp only))))))
  refine wpAny_ListComp_one (cl := [(Str.ofString "width", L' + 1 + 1), (Str.ofString "octets", L' + 1)]) rfl (by decide) rfl (by decide) rfl ?_
  (repeat' (first | ((with_reducible show wpAny _ _ _ _ _ _); (fail_if_success (with_reducible show wpAny _ _ (pyIter _) _ _ _)); (fail_if_success (with_reducible show wpAny _ _ (eval (Expr.ListComp _ _ _ _) _) _ _ _)); (first | (k_unfold; (try dsimp only)) | ((with_reducible refine wpAny_execs_cons ?_); (try dsimp only)) | walk1 | (dsimp only; walk1) | (leave1; walk_say "STEP leave1"; try dsimp only) | (dsimp only; k_unfold; (try dsimp only))))))
  (rename IsRange _ _ _ _ _ _ _ _ => lR)
  (rename Fr _ _ _ _ => lF)
  (rename News _ _ _ _ => lN)
  refine wpAny_pyIter_range lR (smallN hkl hk4 hn hn64) ?_
  have hml : m ≤ m * n := Nat.le_mul_of_pos_right m hn
  refine ⟨_, [_], [_], m, _, _, JC n ks, rfl, Walks.range rfl _ 0 n m, by rw [sizeLine_eq]; omega, ?z1, ?z2, .nil, ?z3, ?z4⟩
  case z1 =>
    show IsRangeIter _ _ _ _ _
    rw [sizeN hkl hn]
    simpa using Heap.get?_push_size _ rfl
  case z2 =>
    intro b hb
    rw [List.mem_singleton.mp hb]
    show _ < (Heap.push _ _).objs.size
    rw [Heap.size_push]
    exact Nat.lt_succ_self _
  case z3 =>
    rintro C i v s₃ m₃ E' hC hi ⟨ti, rfl⟩ hns hm hk _
    obtain ⟨F3, N3⟩ := comp_frame lF lN rfl hC hns hk
    obtain ⟨news3, N3', hall⟩ := all_news s.heap s₃.heap C
    have N3a : News s.heap C s₃.heap (_ :: _ :: news3) := fun p hp => by
      rcases List.mem_cons.mp hp with rfl | hp
      · exact N3 _ List.mem_cons_self
      · rcases List.mem_cons.mp hp with rfl | hp
        · exact N3 _ (List.mem_cons_of_mem _ List.mem_cons_self)
        · exact N3' p hp
    have hall' := fun h' => hall h' F3.keep
    clear lF lN lR hC hk hns N3 N3' hall
    (repeat' (first | ((with_reducible show wpAny _ _ _ _ _ _); (fail_if_success (with_reducible show wpAny _ _ (pyIter _) _ _ _)); (fail_if_success (with_reducible show wpAny _ _ (eval (Expr.ListComp _ _ _ _) _) _ _ _)); (first | (k_unfold; (try dsimp only)) | ((with_reducible refine wpAny_execs_cons ?_); (try dsimp only)) | walk1 | (dsimp only; walk1) | (leave1; walk_say "STEP leave1"; try dsimp only) | (dsimp only; k_unfold; (try dsimp only))))))
    refine wpAny_ListComp_one (cl := []) (closureFor_none (by decide)) (by decide) rfl (by decide) rfl ?_
    (repeat' (first | ((with_reducible show wpAny _ _ _ _ _ _); (fail_if_success (with_reducible show wpAny _ _ (pyIter _) _ _ _)); (fail_if_success (with_reducible show wpAny _ _ (eval (Expr.ListComp _ _ _ _) _) _ _ _)); (first | (k_unfold; (try dsimp only)) | ((with_reducible refine wpAny_execs_cons ?_); (try dsimp only)) | walk1 | (dsimp only; walk1) | (leave1; walk_say "STEP leave1"; try dsimp only) | (dsimp only; k_unfold; (try dsimp only))))))
    (rename Fr _ _ _ _ => F4)
    refine wpAny_Name (wpAny_loadName_local rfl rfl F4.ns hm ?_) (by decide)
    (repeat' (first | ((with_reducible show wpAny _ _ _ _ _ _); (fail_if_success (with_reducible show wpAny _ _ (pyIter _) _ _ _)); (fail_if_success (with_reducible show wpAny _ _ (eval (Expr.ListComp _ _ _ _) _) _ _ _)); (first | (k_unfold; (try dsimp only)) | ((with_reducible refine wpAny_execs_cons ?_); (try dsimp only)) | walk1 | (dsimp only; walk1) | (leave1; walk_say "STEP leave1"; try dsimp only) | (dsimp only; k_unfold; (try dsimp only))))))
    (rename Fr _ _ _ _ => F5)
    refine wpAny_Name (wpAny_loadName_local rfl rfl F5.ns hm ?_) (by decide)
    (repeat' (first | ((with_reducible show wpAny _ _ _ _ _ _); (fail_if_success (with_reducible show wpAny _ _ (pyIter _) _ _ _)); (fail_if_success (with_reducible show wpAny _ _ (eval (Expr.ListComp _ _ _ _) _) _ _ _)); (first | (k_unfold; (try dsimp only)) | ((with_reducible refine wpAny_execs_cons ?_); (try dsimp only)) | walk1 | (dsimp only; walk1) | (leave1; walk_say "STEP leave1"; try dsimp only) | (dsimp only; k_unfold; (try dsimp only))))))
    (rename Fr _ _ _ _ => F6)
    (rename News _ _ _ _ => N6)
    (rename KBw.bInts _ = _ => hcut)
    rw [cut_is] at hcut
    generalize KBy.picked d (some (0 + (i : Int) * (n : Int))) (some (0 + (i : Int) * (n : Int) + (n : Int))) = pk at hcut
    have hpz : pk.size ≤ 4096 := by
      rw [← KBw.ints_length, hcut, cutAt, List.length_take, List.length_drop]
      omega
    refine KBw.pyIter_bytes ?_
    refine ⟨_, [_], [_], _, _, _, JI pk, rfl, KBw.walks rfl _ pk _, by rw [sizeLine_eq]; omega, ⟨_, Heap.get?_push_size _ rfl, rfl, rfl⟩, ?y2, .nil, ?y3, ?y4⟩
    case y2 =>
      intro b hb
      rw [List.mem_singleton.mp hb]
      show _ < (Heap.push _ _).objs.size
      rw [Heap.size_push]
      exact Nat.lt_succ_self _
    case y3 =>
      rintro C2 i2 v2 s5 m5 E2 hC2 _ ⟨c, u, hbc, rfl⟩ hns2 hm2 hk2 _
      obtain ⟨F7, N7⟩ := comp_frame F6 N6 rfl hC2 hns2 hk2
      clear F6 N6 hC2 hk2
      have hc256 := c.toNat_lt
      (repeat' (first | ((with_reducible show wpAny _ _ _ _ _ _); (fail_if_success (with_reducible show wpAny _ _ (pyIter _) _ _ _)); (fail_if_success (with_reducible show wpAny _ _ (eval (Expr.ListComp _ _ _ _) _) _ _ _)); (first | (k_unfold; (try dsimp only)) | ((with_reducible refine wpAny_execs_cons ?_); (try dsimp only)) | walk1 | (dsimp only; walk1) | (leave1; walk_say "STEP leave1"; try dsimp only) | (dsimp only; k_unfold; (try dsimp only))))))
      exact ⟨fun ys hJ => JI.push hbc hJ, _, _, rfl, fun b o _ e => e, hns2⟩
    case y4 =>
      intro D h7 tk7 ys hD hpl hJ hk7
      obtain ⟨c7, hc7⟩ := hpl
      obtain ⟨F8, N8⟩ := comp_done F6 N6 rfl hD hc7 hk7
      unfold JI at hJ
      rw [List.take_of_length_le (by simp), ← signs_ints, hcut] at hJ
      rw [show ys = ys.toList.toArray from (Array.toArray_toList).symm] at N8
      generalize ys.toList = zs at hJ N8
      clear F6 N6 hk7 hc7 hD
      (repeat' (first | ((with_reducible show wpAny _ _ _ _ _ _); (fail_if_success (with_reducible show wpAny _ _ (pyIter _) _ _ _)); (fail_if_success (with_reducible show wpAny _ _ (eval (Expr.ListComp _ _ _ _) _) _ _ _)); (first | (k_unfold; (try dsimp only)) | ((with_reducible refine wpAny_execs_cons ?_); (try dsimp only)) | walk1 | (dsimp only; walk1) | (leave1; walk_say "STEP leave1"; try dsimp only) | (dsimp only; k_unfold; (try dsimp only))))))
      have hD2 := News.isList N8 List.mem_cons_self
      (with_reducible refine join_listC hD2 hJ (by decide) (by rw [sum_signs, signs_length, textOf_len2, cutAt, List.length_take, List.length_drop]; omega) ?_)
      intro tj kj
      rw [join_signs]
      (repeat' (first | ((with_reducible show wpAny _ _ _ _ _ _); (fail_if_success (with_reducible show wpAny _ _ (pyIter _) _ _ _)); (fail_if_success (with_reducible show wpAny _ _ (eval (Expr.ListComp _ _ _ _) _) _ _ _)); (first | (k_unfold; (try dsimp only)) | ((with_reducible refine wpAny_execs_cons ?_); (try dsimp only)) | walk1 | (dsimp only; walk1) | (leave1; walk_say "STEP leave1"; try dsimp only) | (dsimp only; k_unfold; (try dsimp only))))))
      (rename Fr _ _ _ _ => F9)
      (rename News _ _ _ _ => N9)
      refine ⟨fun zs hZ => JC.push hZ, _, _, rfl, hall' _ F9.keep (fun p hp => N9 p (List.mem_cons_of_mem _ (List.mem_cons_of_mem _ (List.mem_cons_of_mem _ hp)))), F9.ns⟩
  case z4 =>
    intro D h7 tk7 ys hD hpl hJ hk7
    obtain ⟨c7, hc7⟩ := hpl
    obtain ⟨F8, N8⟩ := comp_done lF lN rfl hD hc7 hk7
    unfold JC at hJ
    rw [show ys = ys.toList.toArray from (Array.toArray_toList).symm] at N8
    generalize ys.toList = zs at hJ N8
    clear lF lN lR hk7 hc7 hD
    (repeat' (first | ((with_reducible show wpAny _ _ _ _ _ _); (fail_if_success (with_reducible show wpAny _ _ (pyIter _) _ _ _)); (fail_if_success (with_reducible show wpAny _ _ (eval (Expr.ListComp _ _ _ _) _) _ _ _)); (first | (k_unfold; (try dsimp only)) | ((with_reducible refine wpAny_execs_cons ?_); (try dsimp only)) | walk1 | (dsimp only; walk1) | (leave1; walk_say "STEP leave1"; try dsimp only) | (dsimp only; k_unfold; (try dsimp only))))))
    exact GivesStrs.intro (by assumption) (by assumption) (.head _) hJ
end

section -- part P02d
set_option Elab.async false
set_option maxRecDepth 100000
set_option maxHeartbeats 8000000
theorem reset_P02d : True := by
  w_top off
  trivial
local macro_rules | `(tactic| walk_at "truthy ref") => `(tactic| (k_here; k_dflt (refine' truthy_led ?k1 ?k2 ?k3 ?_; (case k1 => k_asm); (case k2 => k_mem); (case k3 => assumption); k_whole)))

theorem allLt_mem {d : Addr} : ∀ {l : List (Addr × Obj)}, AllLt d l → ∀ p ∈ l, p.1 < d
  | [], _, _, h => nomatch h
  | _ :: _, x, p, h => by
    rcases List.mem_cons.mp h with rfl | h
    · exact x.1
    · exact allLt_mem x.2 p h
theorem last_append : ∀ (fs : List Value) (x : Value), kl_last (fs ++ [x]) = some (fs, x)
  | [], x => rfl
  | f :: fs, x => by
    show (match kl_last (fs ++ [x]) with | some (p, y) => some (f :: p, y) | none => some ([], f)) = _
    rw [last_append fs x]
theorem last_concat (fs : List Value) (x : Value) : kl_last (fs.concat x).toArray.toList = some (fs, x) := by
  rw [List.concat_eq_append]
  exact last_append fs x
/-- where the while stands: what is left of expected, of actual, of missing -/
structure DfSt where
  es : List Value
  ec : Nat
  as : List Value
  ac : Nat
  ms : List Value
  mc : Nat
  frs : List (Addr × Obj)

def DfInv (h : Heap) (e a : Addr) (es : List Value) (css : List (List Str)) (frs₀ : List (Addr × Obj)) (c : DfSt) : Prop :=
  TI.SameUp frs₀ c.frs ∧
  ∃ (k : Nat) (ds : List (List Str)), k ≤ css.length ∧ c.es = es.take k ∧ Cont h c.as ds ∧ ds.Perm (css.take k).tail ∧ (1 ≤ k → c.ms = []) ∧
    (k = 0 → ∃ x₀ : Value, es[(0 : Nat)]? = some x₀ ∧ c.ms = [x₀]) ∧ ∀ y, y ∈ c.as → y ≠ Value.ref e ∧ y ≠ Value.ref a
def DfPost (s : Shared) (e a : Addr) (es : List Value) (frs₀ : List (Addr × Obj)) (v : Value) (s' : Shared) : Prop :=
  ∃ h tk t r o n x₀ mc ac' frs', s' = { s with heap := h, toks := tk } ∧ v = .ref t ∧ h.get? t = some o ∧ o.cls = .type "tuple" ∧ o.data = .seq #[Value.ref r, Value.ref a] n ∧
    h.get? r = some (listOf [x₀].toArray mc) ∧ h.get? a = some (listOf [].toArray ac') ∧ es[(0 : Nat)]? = some x₀ ∧ TI.SameUp frs₀ frs' ∧ (∀ q ∈ frs', h.get? q.1 = some q.2) ∧
    ∀ b o, b ≠ e → b ≠ a → b ∉ frs₀.map (·.1) → s.heap.get? b = some o → h.get? b = some o
theorem diff_call {w : World} {p : Program} {loose : List Str} {mean : ExcName → Option Value} {mg mb : Str → Option Value}
  {dp un : Nat} {gd : Option (List Code)} {fr : List Env} {s : Shared} {h₀ : Heap} {E : Value → Shared → Prop} (X : (Mine.hd.heap_39 w.params).In h₀) (T : Top p loose mean mg mb h₀)
  (hk0 : ∀ b o, h₀.get? b = some o → s.heap.get? b = some o) (hz0 : h₀.objs.size ≤ s.heap.objs.size)
  (frs₀ : List (Addr × Obj)) (hFs : TI.Frs fr frs₀) (hfr : ∀ p ∈ frs₀, s.heap.get? p.1 = some p.2 ∧ h₀.get? p.1 = none)
  (hd : dp + 5 < recursionLimit) (hu : un + 100 < cLine) (e a : Addr) (es as : List Value) (ec ac : Nat) (he : s.heap.get? e = some (listOf es.toArray ec)) (ha : s.heap.get? a = some (listOf as.toArray ac)) (he0 : h₀.get? e = none) (ha0 : h₀.get? a = none) (hea : e ≠ a)
  (css ds₀ : List (List Str)) (hr : css.length ≤ 48) (h1 : 1 ≤ css.length) (hE : Cont s.heap es css) (hA : Cont s.heap as ds₀) (hp₀ : ds₀.Perm css.tail) (hne : ∀ y, y ∈ es ∨ y ∈ as → y ≠ .ref e ∧ y ≠ .ref a) :
  wpAny (model PySem.Challenge.rw_il0107_02.row.prog w) (Ar dp un gd fr) (call (.ref 62) [.ref e, .ref a]) (DfPost s e a es frs₀) E s := by
  have X1 := X.keeps hk0
  have T1 := T.keeps hk0
  revert X X1
  k_fill
  intro X X1
  k_dflt (refine' enter (binds := [(Str.ofString "expected", Value.ref e), (Str.ofString "actual", Value.ref a)]) X1 T1.nolimit ?k6 ?k7 ?k8 ?k9 ?kB ?_ ?c2 ?c3 ?c4 ?c5; (case k6 => k_is); (case k7 => k_is); (case k8 => (show dp < recursionLimit; omega)); (case k9 => exact BindsTo.of_eq rfl); (case kB => exact locs rfl); (case c5 => decide); (case c2 => exact rfl); (case c3 => exact rfl); (case c4 => exact rfl); k_whole; intro L' h' F0; (try k_fold))
  have F' : Fr h₀ L' h' _ := ⟨F0.ns, fun b o q => F0.keep b o (hk0 b o q), Nat.le_trans hz0 F0.above⟩
  have hLe : ∀ b o, s.heap.get? b = some o → b ≠ L' := fun b o q hb => Nat.lt_irrefl _ (Nat.lt_of_lt_of_le (hb ▸ Heap.lt_size q) F0.above)
  obtain ⟨rest, r1, r2, r3⟩ := all_but h₀ s.heap L' (e :: a :: frs₀.map (·.1)) (Heap.get?_none_of_le F0.above)
  have N' : News h₀ L' h' ((e, listOf es.toArray ec) :: (a, listOf as.toArray ac) :: (rest ++ frs₀)) := fun q hq => by
    rcases List.mem_cons.mp hq with rfl | hq
    · exact ⟨F0.keep _ _ he, hLe _ _ he, he0⟩
    · rcases List.mem_cons.mp hq with rfl | hq
      · exact ⟨F0.keep _ _ ha, hLe _ _ ha, ha0⟩
      · rcases List.mem_append.mp hq with hq | hq
        · exact r1 h' F0.keep q hq
        · exact ⟨F0.keep _ _ (hfr q hq).1, hLe _ _ (hfr q hq).1, (hfr q hq).2⟩
  have hnfr : ∀ (b : Addr) (vs : List Value) (c : Nat), s.heap.get? b = some (listOf vs.toArray c) → b ∉ frs₀.map (·.1) := fun b vs c hb hm => by
    obtain ⟨p, hp, rfl⟩ := List.mem_map.mp hm
    obtain ⟨es1, ep1, hdd⟩ := hFs.dict p hp
    rw [(hfr p hp).1] at hb
    rw [Option.some.inj hb] at hdd
    cases hdd
  clear X1 T1 r1
  (repeat' (first | ((fail_if_success (with_reducible show wpAny _ _ (exec (Stmt.While _ _ _ _) _) _ _ _)); (first | (k_unfold; (try dsimp only)) | ((with_reducible refine wpAny_execs_cons ?_); (try dsimp only)) | ((with_reducible refine wpAny_execs_nil ?_); (try dsimp only)) | walk1 | (dsimp only; walk1) | (leave1; walk_say "STEP leave1"; try dsimp only) | (dsimp only; k_unfold; (try dsimp only))))))
  (rename Fr _ _ _ _ => lF)
  (rename News _ _ _ _ => lN)
  (rename _ ∧ _ ∧ AllLt _ _ => l1a)
  (with_unfolding_all refine' while_st s.toks (fun c : DfSt => (_, listOf c.ms.toArray c.mc) :: (_, listOf c.es.toArray c.ec) :: (_, listOf c.as.toArray c.ac) :: (rest ++ c.frs)) (fun c => []) [Str.ofString "item"] (DfInv s.heap e a es css frs₀) (fun c => c.es.length) ⟨es, ec, as, ac, [], 0, frs₀⟩ ?k0 lF lN ?k1 ?k2 ?k3)
  (case k1 => intro p hp; cases hp)
  (case k0 => (dsimp only; omega))
  (case k2 => exact ⟨TI.SameUp.refl _, css.length, ds₀, Nat.le_refl _, (List.take_of_length_le (Nat.le_of_eq hE.1)).symm, hA, (by rw [List.take_length]; exact hp₀), (fun _ => rfl), (fun q => absurd q (Nat.ne_of_gt h1)), (fun y hy => hne y (.inr hy))⟩)
  case k3 =>
    intro c u h' tk htk hP F' N'
    obtain ⟨es', ec', as', ac', ms, mc, frs⟩ := c
    obtain ⟨hSU, k, ds, hk, hes, hAc, hpm, hm1, hm0, hnea⟩ := hP
    dsimp only at hSU hes hAc hm1 hm0 hnea F' N' ⊢
    have hel : es'.length = k := by rw [hes, List.length_take, hE.1]; omega
    have hvs : es'.toArray.size ≤ sizeLine := by rw [List.size_toArray, sizeLine_eq]; omega
    have hvm : es'.length ≤ 1000000 := by omega
    have hr2 : ∀ q ∈ rest ++ frs, q.1 ≠ e ∧ q.1 ≠ a := fun q hq => by
      rcases List.mem_append.mp hq with hq | hq
      · exact ⟨fun z => (r2 q hq).1 (by rw [z]; exact List.mem_cons_self), fun z => (r2 q hq).1 (by rw [z]; exact List.mem_cons_of_mem _ List.mem_cons_self)⟩
      · obtain ⟨p, hp, z0⟩ := hSU.fwd q hq
        exact ⟨fun z => hnfr e _ _ he (List.mem_map.mpr ⟨p, hp, by rw [← z0, z]⟩), fun z => hnfr a _ _ ha (List.mem_map.mpr ⟨p, hp, by rw [← z0, z]⟩)⟩
    rcases List.eq_nil_or_concat es' with rfl | ⟨fs, x, rfl⟩
    · have hem : (!([] : List Value).isEmpty) = false := rfl
      (try k_fold)
      (repeat' (first | ((fail_if_success (with_reducible show WPost _ _ _ _ _ _ _ _ _ _ _ _ _)); (first | (k_unfold; (try dsimp only)) | ((with_reducible refine wpAny_execs_cons ?_); (try dsimp only)) | ((with_reducible refine wpAny_execs_nil ?_); (try dsimp only)) | walk1 | (dsimp only; walk1) | (leave1; walk_say "STEP leave1"; try dsimp only) | (dsimp only; k_unfold; (try dsimp only))))))
      (rename News _ _ _ _ => EN)
      (rename Fr _ _ _ _ => EF)
      obtain rfl : k = 0 := hel.symm
      obtain ⟨x₀, hx0, rfl⟩ := hm0 rfl
      obtain rfl : ds = [] := by
        have q := hpm.length_eq
        simpa using q
      obtain rfl : as' = [] := List.length_eq_zero_iff.mp hAc.1
      refine ⟨_, _, _, _, _, _, x₀, mc, ac', frs, rfl, rfl, (EN _ List.mem_cons_self).1, rfl, rfl, (EN _ (List.mem_cons_of_mem _ List.mem_cons_self)).1, (EN _ (List.mem_cons_of_mem _ (List.mem_cons_of_mem _ (List.mem_cons_of_mem _ List.mem_cons_self)))).1, hx0, hSU, fun q hq => (EN q (List.mem_cons_of_mem _ (List.mem_cons_of_mem _ (List.mem_cons_of_mem _ (List.mem_cons_of_mem _ (List.mem_append_right _ hq)))))).1, fun b o hb1 hb2 hb3 hbo => ?_⟩
      exact r3 _ hk0 EF.keep (fun q hq => (EN q (List.mem_cons_of_mem _ (List.mem_cons_of_mem _ (List.mem_cons_of_mem _ (List.mem_cons_of_mem _ (List.mem_append_left _ hq)))))).1) b o (by simp only [List.mem_cons, not_or]; exact ⟨hb1, hb2, hb3⟩) hbo
    · have hem : (!(fs.concat x).isEmpty) = true := by simp
      have hpz : (fs.concat x).toArray.toList.length ≤ sizeLine := by rw [sizeLine_eq]; simpa using (by omega : (fs.concat x).length ≤ 16777216)
      (try k_fold)
      (repeat' (first | ((fail_if_success (with_reducible show WPost _ _ _ _ _ _ _ _ _ _ _ _ _)); (first | (k_unfold; (try dsimp only)) | ((with_reducible refine wpAny_execs_cons ?_); (try dsimp only)) | ((with_reducible refine wpAny_execs_nil ?_); (try dsimp only)) | walk1 | (dsimp only; walk1) | (leave1; walk_say "STEP leave1"; try dsimp only) | (dsimp only; k_unfold; (try dsimp only))))))
      dsimp only
      (rename Fr _ _ _ _ => PF)
      (rename News _ _ _ _ => PN)
      (with_unfolding_all refine' kl_pop PF PN (last_concat fs x) ?pU hpz ?_)
      (case pU => exact Upd.tail (Nat.ne_of_gt l1a.1) (Upd.head (fun q hq => by
        rcases List.mem_cons.mp hq with rfl | hq
        · exact hea.symm
        · exact (hr2 q hq).1)))
      clear PF PN
      intro h2 F2 N2
      (repeat' (first | ((fail_if_success (with_reducible show WPost _ _ _ _ _ _ _ _ _ _ _ _ _)); (first | (k_unfold; (try dsimp only)) | ((with_reducible refine wpAny_execs_cons ?_); (try dsimp only)) | ((with_reducible refine wpAny_execs_nil ?_); (try dsimp only)) | walk1 | (dsimp only; walk1) | (leave1; walk_say "STEP leave1"; try dsimp only) | (dsimp only; k_unfold; (try dsimp only))))))
      (rename Fr _ _ _ _ => RF)
      (rename News _ _ _ _ => RN)
      have hk1 : fs.length + 1 = k := by simpa using hel
      subst hk1
      have hx : es[fs.length]? = some x := by
        have q : (fs.concat x)[fs.length]? = some x := by simp
        rw [hes, List.getElem?_take] at q
        split at q
        · exact q
        · cases q
      obtain ⟨d, hd', hS⟩ := hE.2 _ _ hx
      have keep2 := r3 _ hk0 RF.keep (fun q hq => (RN q (List.mem_cons_of_mem _ (List.mem_cons_of_mem _ (List.mem_cons_of_mem _ (List.mem_append_left _ hq))))).1)
      have lift : ∀ (y : Value) (cs : List Str), (y ≠ .ref e ∧ y ≠ .ref a) → IsStrs s.heap y cs → IsStrs _ y cs := fun y cs hya hy => by
        obtain ⟨b, vs, c0, rfl, hg, hs⟩ := hy
        exact ⟨b, vs, c0, rfl, keep2 b _ (by simp only [List.mem_cons, not_or]; exact ⟨fun z => hya.1 (by rw [z]), fun z => hya.2 (by rw [z]), hnfr b _ _ hg⟩) hg, hs⟩
      have haN := (RN (a, listOf as'.toArray ac') (List.mem_cons_of_mem _ (List.mem_cons_of_mem _ List.mem_cons_self))).1
      by_cases hz : fs.length = 0
      · have hfs : fs = [] := List.length_eq_zero_iff.mp hz
        subst hfs
        have hds : ds = [] := by
          have q := hpm.length_eq
          rw [List.length_tail, List.length_take] at q
          exact List.length_eq_zero_iff.mp (by rw [q]; simp only [List.length_nil]; omega)
        subst hds
        have has : as' = [] := List.length_eq_zero_iff.mp hAc.1
        subst has
        refine call_meets PySem.F.slot_list_remove ⟨_, haN, rfl⟩ PySem.F.entry_list_remove (PySem.F.args_list_remove_2 _ _) (PySem.MeetsSeq.list_remove_none a #[] _ x (fun _ => false) (fun y hy => by simp at hy) (fun m hm => absurd hm (Nat.not_lt_zero m))) ⟨haN, rfl, fun h7 tk7 exc hx7 => ?_⟩
        unfold wants
        dsimp only
        have hfs7 := hFs.up hSU
        have RN7 : News h₀ L' _ (((_, listOf ms.toArray mc) :: (e, listOf ([] : List Value).toArray (ec' + 1)) :: (a, listOf ([] : List Value).toArray ac') :: rest) ++ frs) := RN
        refine TLg.noted_newA rfl hfs7 hx7 RF RN7 ?_ (fun h8 frs8 SU8 Fs8 H8 => ?_) rfl
        · intro p hp hm
          have hne1 := (RN7 p (List.mem_append_left _ hp)).2.1
          rcases List.mem_cons.mp hm with z | hm
          · exact hne1 z
          · obtain ⟨p1, hp1, z⟩ := List.mem_map.mp hm
            obtain ⟨p2, hp2, z2⟩ := hSU.fwd p1 hp1
            rcases List.mem_cons.mp hp with rfl | hp
            · exact Nat.ne_of_lt (allLt_mem l1a.2.2 _ (List.mem_append_right _ hp2)) (by rw [← z2, z])
            · rcases List.mem_cons.mp hp with rfl | hp
              · exact (hr2 p1 (List.mem_append_right _ hp1)).1 z
              · rcases List.mem_cons.mp hp with rfl | hp
                · exact (hr2 p1 (List.mem_append_right _ hp1)).2 z
                · exact (r2 p hp).1 (List.mem_cons_of_mem _ (List.mem_cons_of_mem _ (List.mem_map.mpr ⟨p2, hp2, by rw [← z2, z]⟩)))
        · refine H8.land fun h9 H9 => ?_
          have F9 := H9.held.fr
          dsimp only
          refine wpAny_handleBy_builtin (X := "ValueError") (T := "ValueError") (b := true) (isSubtype_of_subB (by decide +kernel)) (isSubtype_of_subB (by decide +kernel)) (isSubtype_of_subB (by decide +kernel)) (wpAny_passesOwnAt (by passes_own) ?_)
          clear RF RN RN7 haN keep2 lift hx7 H8
          (first | (k_unfold; (try dsimp only)) | ((with_reducible refine wpAny_execs_cons ?_); (try dsimp only)) | ((with_reducible refine wpAny_execs_nil ?_); (try dsimp only)) | walk1 | (dsimp only; walk1) | (leave1; walk_say "STEP leave1"; try dsimp only) | (dsimp only; k_unfold; (try dsimp only)))
          refine ⟨rfl, H9.isA, ?_⟩
          rw [if_pos rfl]
          refine H9.lands fun h10 F10 N10a => wpAny_passesOwnAt (by passes_own) ?_
          have N10 : News h₀ L' h10 ((_, listOf ms.toArray mc) :: (e, listOf ([] : List Value).toArray (ec' + 1)) :: (a, listOf ([] : List Value).toArray ac') :: (rest ++ frs8)) := N10a
          have hms : ms = [] := hm1 (by simp)
          subst hms
          clear F9 H9 N10a
          (repeat' (first | ((fail_if_success (with_reducible show WPost _ _ _ _ _ _ _ _ _ _ _ _ _)); (first | (k_unfold; (try dsimp only)) | ((with_reducible refine wpAny_execs_cons ?_); (try dsimp only)) | ((with_reducible refine wpAny_execs_nil ?_); (try dsimp only)) | walk1 | (dsimp only; walk1) | (leave1; walk_say "STEP leave1"; try dsimp only) | (dsimp only; k_unfold; (try dsimp only))))))
          refine append_K F10 N10 (Upd.head (fun q hq => ?_)) (fun h11 F11 N11 => ?_) (by rw [sizeLine_eq]; simp)
          · rcases List.mem_cons.mp hq with rfl | hq
            · exact Nat.ne_of_lt l1a.1
            · rcases List.mem_cons.mp hq with rfl | hq
              · exact Nat.ne_of_lt l1a.2.1
              · rcases List.mem_append.mp hq with hq | hq
                · exact Nat.ne_of_lt (allLt_mem l1a.2.2 _ (List.mem_append_left _ hq))
                · obtain ⟨p', hp', z⟩ := (hSU.trans SU8).fwd q hq
                  rw [z]
                  exact Nat.ne_of_lt (allLt_mem l1a.2.2 _ (List.mem_append_right _ hp'))
          · clear F10 N10
            (repeat' (first | ((fail_if_success (with_reducible show WPost _ _ _ _ _ _ _ _ _ _ _ _ _)); (first | (k_unfold; (try dsimp only)) | ((with_reducible refine wpAny_execs_cons ?_); (try dsimp only)) | ((with_reducible refine wpAny_execs_nil ?_); (try dsimp only)) | walk1 | (dsimp only; walk1) | (leave1; walk_say "STEP leave1"; try dsimp only) | (dsimp only; k_unfold; (try dsimp only))))))
            exact WPost.end ⟨[], ec' + 1, [], ac', [x], mc + 1, frs8⟩ (by assumption) N11 (fun p hp => hp) (fun p hp => by cases hp)
              (by intro z h2 h3; simp only [List.contains_cons, List.contains_nil, Bool.or_false, beq_eq_false_iff_ne, ne_eq] at h3; simp [kstB, h3])
              ⟨hSU.trans SU8, 0, [], Nat.zero_le _, rfl, hAc, List.Perm.refl _, (fun q => absurd q (by decide)), (fun _ => ⟨x, hx, rfl⟩), hnea⟩ (by simp)
      · obtain ⟨hmem, hpe⟩ := bag_step (by omega) hd' hpm
        obtain ⟨j, hj1, hj2, hj3⟩ := first_at hmem
        refine call_remove (css := ds) (by show un + 3 + 3 < cLine; omega) (lift x d (hne x (.inl (List.mem_of_getElem? hx))) hS) haN (fun m y hy => ?_) ?_ j ?_ hj2 hj3 ?_
        · have hy' : as'[m]? = some y := by simpa using hy
          obtain ⟨cs, q1, q2⟩ := hAc.2 m y hy'
          exact ⟨cs, q1, lift y cs (hnea y (List.mem_of_getElem? hy')) q2⟩
        · have q := hpm.length_eq
          rw [List.length_tail, List.length_take] at q
          rw [List.size_toArray, hAc.1]
          omega
        · rw [List.size_toArray, hAc.1]
          exact hj1
        · intro h4 c4 hl4 hk4
          have RN2 : News h₀ L' _ ((a, listOf as'.toArray ac') :: (_, listOf ms.toArray mc) :: (e, listOf fs.toArray (ec' + 1)) :: (rest ++ frs)) := fun q hq => by
            rcases List.mem_cons.mp hq with rfl | hq
            · exact RN _ (List.mem_cons_of_mem _ (List.mem_cons_of_mem _ List.mem_cons_self))
            · rcases List.mem_cons.mp hq with rfl | hq
              · exact RN _ List.mem_cons_self
              · rcases List.mem_cons.mp hq with rfl | hq
                · exact RN _ (List.mem_cons_of_mem _ List.mem_cons_self)
                · exact RN _ (List.mem_cons_of_mem _ (List.mem_cons_of_mem _ (List.mem_cons_of_mem _ hq)))
          obtain ⟨F5, N5⟩ := turn_new RF RN2 hl4 hk4 (by
            intro q hq
            rcases List.mem_cons.mp hq with rfl | hq
            · exact Nat.ne_of_gt l1a.2.1
            · rcases List.mem_cons.mp hq with rfl | hq
              · exact hea
              · exact (hr2 q hq).2)
          have er : as'.toArray.eraseIdxIfInBounds j = (as'.eraseIdx j).toArray := by
            rw [List.eraseIdxIfInBounds_toArray]
          rw [er] at N5
          have N6 : News h₀ L' _ ((_, listOf ms.toArray mc) :: (e, listOf fs.toArray (ec' + 1)) :: (a, listOf (as'.eraseIdx j).toArray c4) :: (rest ++ frs)) := fun q hq => by
            rcases List.mem_cons.mp hq with rfl | hq
            · exact N5 _ (List.mem_cons_of_mem _ List.mem_cons_self)
            · rcases List.mem_cons.mp hq with rfl | hq
              · exact N5 _ (List.mem_cons_of_mem _ (List.mem_cons_of_mem _ List.mem_cons_self))
              · rcases List.mem_cons.mp hq with rfl | hq
                · exact N5 _ List.mem_cons_self
                · exact N5 _ (List.mem_cons_of_mem _ (List.mem_cons_of_mem _ (List.mem_cons_of_mem _ hq)))
          clear RF RN RN2 N5 hl4 hk4
          (repeat' (first | ((fail_if_success (with_reducible show WPost _ _ _ _ _ _ _ _ _ _ _ _ _)); (first | (k_unfold; (try dsimp only)) | ((with_reducible refine wpAny_execs_cons ?_); (try dsimp only)) | ((with_reducible refine wpAny_execs_nil ?_); (try dsimp only)) | walk1 | (dsimp only; walk1) | (leave1; walk_say "STEP leave1"; try dsimp only) | (dsimp only; k_unfold; (try dsimp only))))))
          (rename News _ _ _ _ => N9)
          exact WPost.end ⟨fs, ec' + 1, as'.eraseIdx j, c4, ms, mc, frs⟩ (by assumption) N9 (fun p hp => hp) (fun p hp => by cases hp)
            (by intro z h2 h3; simp only [List.contains_cons, List.contains_nil, Bool.or_false, beq_eq_false_iff_ne, ne_eq] at h3; simp [kstB, h3])
            ⟨hSU, fs.length, ds.eraseIdx j, by omega, by rw [List.concat_eq_append] at hes; exact (by have q := congrArg (List.take fs.length) hes; rw [List.take_left, List.take_take, Nat.min_eq_left (Nat.le_succ _)] at q; exact q), hAc.eraseIdx j, hpe j hj2, fun _ => hm1 (by omega), fun q => absurd q hz, fun y hy => hnea y (List.mem_of_mem_eraseIdx hy)⟩ (by simp)
end

section -- part P02l
set_option Elab.async false
set_option maxRecDepth 100000
set_option maxHeartbeats 8000000
theorem reset_P02l : True := by
  w_top off
  trivial

theorem width_of (n : Nat) : ∃ k : Nat, k ∈ [2, 3, 4, 6] ∧ ([2, 3, 4, 6] : List Int).getD ((n : Int).fmod 4).toNat 0 = (k : Int) := by
  have h0 : 0 ≤ (n : Int).fmod 4 := Int.fmod_nonneg_of_pos _ (by decide)
  have h1 : (n : Int).fmod 4 < 4 := Int.fmod_lt_of_pos _ (by decide)
  generalize (n : Int).fmod 4 = r at *
  rcases (by omega : r = 0 ∨ r = 1 ∨ r = 2 ∨ r = 3) with rfl | rfl | rfl | rfl
  · exact ⟨2, by decide, rfl⟩
  · exact ⟨3, by decide, rfl⟩
  · exact ⟨4, by decide, rfl⟩
  · exact ⟨6, by decide, rfl⟩
theorem sgnCode_mem (n : Int) (k : Nat) : sgnCode n k ∈ [42, 63, 97, 46, 45, 32] := by
  unfold sgnCode
  have h0 : 0 ≤ (n.fdiv (6 ^ k)).fmod 6 := Int.fmod_nonneg_of_pos _ (by decide)
  have h1 : (n.fdiv (6 ^ k)).fmod 6 < 6 := Int.fmod_lt_of_pos _ (by decide)
  generalize (n.fdiv (6 ^ k)).fmod 6 = r at *
  rcases (by omega : r = 0 ∨ r = 1 ∨ r = 2 ∨ r = 3 ∨ r = 4 ∨ r = 5) with rfl | rfl | rfl | rfl | rfl | rfl <;> decide
theorem octL_mem {ns : List Int} {c : Int} (h : c ∈ octL ns) : c ∈ [42, 63, 97, 46, 45, 32] := by
  obtain ⟨n, _, h⟩ := List.mem_flatMap.mp h
  obtain ⟨k, _, rfl⟩ := List.mem_map.mp h
  exact sgnCode_mem n k
theorem swapL_mem {n m : Nat} {ks : List Int} (hk : ks.length = m * n) (hn : 0 < n) {c : Int} (h : c ∈ swapL n ks) : c ∈ ks := by
  obtain ⟨p, hp, rfl⟩ := List.mem_map.mp h
  rw [List.mem_range] at hp
  unfold swapAt
  have h1 : p / n < m := by rw [Nat.div_lt_iff_lt_mul hn]; omega
  have h2 : p % n < n := Nat.mod_lt _ hn
  have h3 : p / n * n + n ≤ m * n := by
    have := Nat.mul_le_mul_right n (Nat.succ_le_of_lt h1)
    rwa [Nat.succ_mul] at this
  have h4 : p / n * n + (n - 1 - p % n) < ks.length := by omega
  rw [List.getD_eq_getElem?_getD, List.getElem?_eq_getElem h4]
  exact List.getElem_mem h4
theorem cut_facts {n m k : Nat} {ks : List Int} {x : Str} (hx : (cuts n m ks)[k]? = some x) (hmem : ∀ c ∈ ks, c ∈ [42, 63, 97, 46, 45, 32]) : x.length ≤ n ∧ ∀ c ∈ x.cps.toList, c ∈ [42, 63, 97, 46, 45, 32] := by
  obtain ⟨hlt, rfl⟩ := List.getElem?_eq_some_iff.mp hx
  simp only [cuts, List.getElem_map, List.getElem_range]
  refine ⟨?_, fun c hc => ?_⟩
  · rw [textOf_len2, cutAt, List.length_take]
    exact Nat.min_le_left _ _
  · simp only [textOf, List.toList_toArray, List.mem_map] at hc
    obtain ⟨z, hz, rfl⟩ := hc
    have h1 := hmem z (List.mem_of_mem_drop (List.mem_of_mem_take hz))
    exact (by decide : ∀ z ∈ ([42, 63, 97, 46, 45, 32] : List Int), z.toNat ∈ ([42, 63, 97, 46, 45, 32] : List Nat)) z h1
theorem partsL_ok : ∀ (l : List Nat) (p : Option Nat), (∀ c ∈ l, c ∈ [42, 63, 97, 46, 45, 32]) → ∀ t ∈ partsL p l, PyData.strOk t = true
  | [], _, _, t, ht => by cases ht
  | c :: r, p, h, t, ht => by
    rw [partsL] at ht
    rcases List.mem_append.mp ht with ht | ht
    · split at ht
      · obtain rfl := List.mem_singleton.mp ht
        exact (by decide +kernel : ∀ c ∈ ([42, 63, 97, 46, 45, 32] : List Nat), PyData.strOk (escC c) = true) c (h c List.mem_cons_self)
      · cases ht
    · exact partsL_ok r (some c) (fun d hd => h d (List.mem_cons_of_mem _ hd)) t ht
theorem law_call {w : World} {p : Program} {loose : List Str} {mean : ExcName → Option Value} {mg mb : Str → Option Value}
  {dp un : Nat} {gd : Option (List Code)} {s : Shared} {E : Value → Shared → Prop} (X : (Mine.hd.heap_39 w.params).In s.heap) (T : Top p loose mean mg mb s.heap)
  (hd : dp + 20 < recursionLimit) (hu : un + 200 < cLine) (b : Addr) (vs : List Value) (ns : List Int) (hl : s.heap.IsList b vs.toArray) (hi : IntsAre vs ns) (hlen : ns.length ≤ 63) :
  wpC (model PySem.Challenge.rw_il0107_02.row.prog w) (Ar dp un gd []) (call (.ref 91) [.ref b]) (fun v s' => v = .bool true ∧ ∃ h tk L m, s' = { s with heap := h, toks := tk } ∧ Fr s.heap L h m) E s := by
  revert X
  k_fill
  intro X
  k_dflt (refine' enterC (binds := [(Str.ofString "script", Value.ref b)]) X T.nolimit ?k6 ?k7 ?k8 ?k9 ?kB ?_ ?c2 ?c3 ?c4 ?c5; (case k6 => k_is); (case k7 => k_is); (case k8 => (show dp < recursionLimit; omega)); (case k9 => exact BindsTo.of_eq rfl); (case kB => exact locs rfl); (case c5 => decide); (case c2 => exact rfl); (case c3 => exact rfl); (case c4 => exact rfl); k_whole; intro L' h' F'; (try dsimp only [List.reverse_cons, List.reverse_nil, List.nil_append, List.cons_append, List.length_cons, List.length_nil] at F' ⊢); (try k_fold))
  have N' := News.nil (h₀ := s.heap) (h := h') (L := L')
  clear N'
  refine asgC F' (fun v _ => ∃ (n : Nat) (t : Tok), n ∈ [2, 3, 4, 6] ∧ v = .int (n : Int) t) rfl rfl rfl rfl (wpC_of_any ?w1) ?w2
  case w1 =>
    obtain ⟨nw, N', hall⟩ := all_news s.heap h' L'
    have hall' := fun h'' => hall h'' F'.keep
    clear hall
    (repeat' (first | ((with_reducible show wpAny _ _ _ _ _ _); (fail_if_success (with_reducible show wpAny _ _ (pyIter _) _ _ _)); (fail_if_success (with_reducible show wpAny _ _ (call (Value.ref _) _) _ _ _)); (fail_if_success (with_reducible show wpAny _ _ (eval (Expr.ListComp _ _ _ _) _) _ _ _)); (first | (k_unfold; (try dsimp only)) | ((with_reducible refine wpAny_execs_cons ?_); (try dsimp only)) | walk1 | (dsimp only; walk1) | (leave1; walk_say "STEP leave1"; try dsimp only) | (dsimp only; k_unfold; (try dsimp only))))))
    obtain ⟨k, hk1, hk2⟩ := width_of ns.length
    exact ⟨Led.intro hall' (by assumption) (by assumption) (fun _ hp => by first | exact hp | exact List.mem_cons_of_mem _ hp), k, _, hk1, by rw [hk2]⟩
  case w2 =>
  clear F'
  rintro _ - h1 t1 ⟨n, tn, hn, rfl⟩ F1 k1 - ht1
  dsimp only at k1 ht1
  refine asgC F1 (fun v _ => ∃ d t, v = .bytes d t ∧ KBw.bInts d = octL (1092222000 :: ns.take 3)) rfl rfl rfl rfl (wpC_of_any ?w1) ?w2
  case w1 =>
    obtain ⟨nw, N', hall⟩ := all_news s.heap h1 L'
    have hall' := fun h'' => hall h'' F1.keep
    clear hall
    (repeat' (first | ((with_reducible show wpAny _ _ _ _ _ _); (fail_if_success (with_reducible show wpAny _ _ (pyIter _) _ _ _)); (fail_if_success (with_reducible show wpAny _ _ (call (Value.ref _) _) _ _ _)); (fail_if_success (with_reducible show wpAny _ _ (eval (Expr.ListComp _ _ _ _) _) _ _ _)); (first | (k_unfold; (try dsimp only)) | ((with_reducible refine wpAny_execs_cons ?_); (try dsimp only)) | walk1 | (dsimp only; walk1) | (leave1; walk_say "STEP leave1"; try dsimp only) | (dsimp only; k_unfold; (try dsimp only))))))
    (rename Fr _ _ _ _ => F2)
    (rename News _ _ _ _ => N2)
    (rename IntsAre _ ([1092222000] ++ _) => hI2)
    refine ⟨X.keeps F2.keep, ?_⟩
    refine use_give F2 N2 (octets_call (X.keeps F2.keep) (T.keeps F2.keep) (by show dp + 1 + 5 < _; omega) (by show un + 3 + 100 < _; omega) _ _ _ (News.isList N2 (.head _)) hI2 (by simp; omega)) ?_
    rintro v h3 tk3 - F3 N3 ⟨d, t, rfl, hd3⟩
    exact ⟨Led.intro hall' F3 N3 (fun _ hp => List.mem_cons_of_mem _ (List.mem_cons_of_mem _ (List.mem_cons_of_mem _ hp))), d, t, rfl, hd3⟩
  case w2 =>
  have hn' := hn
  clear F1 hn
  rintro _ - h2 t2 ⟨d, td, rfl, hks⟩ F2 k2 - ht2
  dsimp only at k2 ht2
  have hmem : ∀ c ∈ octL (1092222000 :: ns.take 3), c ∈ [42, 63, 97, 46, 45, 32] := fun c hc => octL_mem hc
  have hkl := octL_length (1092222000 :: ns.take 3)
  have hks4 : (1092222000 :: ns.take 3).length ≤ 4 := by simp; omega
  have hks1 : 1 ≤ (1092222000 :: ns.take 3).length := by simp
  generalize octL (1092222000 :: ns.take 3) = ks at hks hmem hkl
  generalize (1092222000 :: ns.take 3).length = q at hkl hks4 hks1
  have hlim : 0 < n ∧ n ≤ 64 ∧ ∃ m, 1 ≤ m ∧ m ≤ 24 ∧ ks.length = m * n := by
    simp only [List.mem_cons, List.not_mem_nil, or_false] at hn'
    rcases hn' with rfl | rfl | rfl | rfl
    · exact ⟨by decide, by decide, 6 * q, by omega, by omega, by omega⟩
    · exact ⟨by decide, by decide, 4 * q, by omega, by omega, by omega⟩
    · exact ⟨by decide, by decide, 3 * q, by omega, by omega, by omega⟩
    · exact ⟨by decide, by decide, 2 * q, by omega, by omega, by omega⟩
  obtain ⟨hn0, hn64, m, hm1, hm24, hkm⟩ := hlim
  have hk4 : ks.length ≤ 4096 := by omega
  have hin : ∀ c ∈ ks, 0 ≤ c ∧ c < 128 := fun c hc => (by decide : ∀ c ∈ ([42, 63, 97, 46, 45, 32] : List Int), 0 ≤ c ∧ c < 128) c (hmem c hc)
  refine asgC F2 (fun v s₁ => ∃ r, v = .ref r ∧ Strs L' s₁.heap r (cuts n m ks)) rfl rfl rfl rfl (wpC_of_any ?w1) ?w2
  case w1 =>
    obtain ⟨nw, N', hall⟩ := all_news s.heap h2 L'
    have hall' := fun h'' => hall h'' F2.keep
    clear hall
    (repeat' (first | ((with_reducible show wpAny _ _ _ _ _ _); (fail_if_success (with_reducible show wpAny _ _ (pyIter _) _ _ _)); (fail_if_success (with_reducible show wpAny _ _ (call (Value.ref _) _) _ _ _)); (fail_if_success (with_reducible show wpAny _ _ (eval (Expr.ListComp _ _ _ _) _) _ _ _)); (first | (k_unfold; (try dsimp only)) | ((with_reducible refine wpAny_execs_cons ?_); (try dsimp only)) | walk1 | (dsimp only; walk1) | (leave1; walk_say "STEP leave1"; try dsimp only) | (dsimp only; k_unfold; (try dsimp only))))))
    (rename Fr _ _ _ _ => F3)
    (rename News _ _ _ _ => N3)
    refine ⟨X.keeps F3.keep, ?_⟩
    refine use_give F3 N3 (samples_call (X.keeps F3.keep) (T.keeps F3.keep) (by show dp + 1 + 5 < _; omega) d _ _ m n hn0 hn64 ks hks hkm hk4 hin) ?_
    rintro v h3 tk3 - F4 N4 ⟨r, vs', c', rfl, hr0, hr1, hr2⟩
    exact ⟨Led.intro hall' F4 N4 (fun _ hp => hp), r, rfl, Strs.of F3 hr0 hr1 hr2⟩
  case w2 =>
  rintro _ s3 h3 t3 ⟨rA, rfl, hA⟩ F3 k3 j3 ht3
  replace hA := hA.on j3
  clear j3 s3 F2
  dsimp only at k3 ht3 ⊢
  have X3 := X.keeps F3.keep
  have T3 := T.keeps F3.keep
  obtain ⟨o79, fd79, h79, hf79⟩ : ∃ o fd, (Mine.hd.heap_39 w.params).lookup 79 = some o ∧ o.data = .func fd := ⟨_, _, (by k_is), rfl⟩
  obtain ⟨o69, fd69, h69, hf69⟩ : ∃ o fd, (Mine.hd.heap_39 w.params).lookup 69 = some o ∧ o.data = .func fd := ⟨_, _, (by k_is), rfl⟩
  have hswl : (swapL n ks).length = m * n := by simp [swapL, hkm]
  have hsw4 : (swapL n ks).length ≤ 4096 := by omega
  have hsmem : ∀ c ∈ swapL n ks, c ∈ [42, 63, 97, 46, 45, 32] := fun c hc => hmem c (swapL_mem hkm hn0 hc)
  have hsin : ∀ c ∈ swapL n ks, 0 ≤ c ∧ c < 128 := fun c hc => (by decide : ∀ c ∈ ([42, 63, 97, 46, 45, 32] : List Int), 0 ≤ c ∧ c < 128) c (hsmem c hc)
  refine asgC F3 (fun v s₁ => ∃ r, v = .ref r ∧ Strs L' s₁.heap r (cuts n m (swapL n ks))) rfl rfl rfl rfl ?w1 ?w2
  case w1 =>
    refine wpC_Call_Name ?_
    (first | (k_unfold; (try dsimp only)) | ((with_reducible refine wpAny_execs_cons ?_); (try dsimp only)) | walk1 | (dsimp only; walk1) | (leave1; walk_say "STEP leave1"; try dsimp only) | (dsimp only; k_unfold; (try dsimp only)))
    refine wpC_callFn2C hf79 ?_
    refine wpC_Call_Name ?_
    (first | (k_unfold; (try dsimp only)) | ((with_reducible refine wpAny_execs_cons ?_); (try dsimp only)) | walk1 | (dsimp only; walk1) | (leave1; walk_say "STEP leave1"; try dsimp only) | (dsimp only; k_unfold; (try dsimp only)))
    refine wpC_callFn2 hf69 ?_
    (first | (k_unfold; (try dsimp only)) | ((with_reducible refine wpAny_execs_cons ?_); (try dsimp only)) | walk1 | (dsimp only; walk1) | (leave1; walk_say "STEP leave1"; try dsimp only) | (dsimp only; k_unfold; (try dsimp only)))
    (first | (k_unfold; (try dsimp only)) | ((with_reducible refine wpAny_execs_cons ?_); (try dsimp only)) | walk1 | (dsimp only; walk1) | (leave1; walk_say "STEP leave1"; try dsimp only) | (dsimp only; k_unfold; (try dsimp only)))
    refine ⟨X3 _ _ h69, ?_⟩
    refine wpC_mono (swap_call X3 T3 (by show dp + 1 + 5 < _; omega) d _ _ m n hn0 hn64 ks hks hkm hk4) (fun v s4 g => ?_) (fun _ _ e => e)
    obtain ⟨⟨h4, t4, rfl, k4⟩, d4, td4, rfl, hd4⟩ := g
    have F4 := fr_on F3 k4
    have X4 := X3.keeps k4
    have T4 := T3.keeps k4
    clear F3
    (first | (k_unfold; (try dsimp only)) | ((with_reducible refine wpAny_execs_cons ?_); (try dsimp only)) | walk1 | (dsimp only; walk1) | (leave1; walk_say "STEP leave1"; try dsimp only) | (dsimp only; k_unfold; (try dsimp only)))
    refine ⟨X4 _ _ h79, ?_⟩
    refine wpAny_mono (samples_call X4 T4 (by show dp + 1 + 5 < _; omega) d4 _ _ m n hn0 hn64 (swapL n ks) hd4 hswl hsw4 hsin) (fun v s5 g => ?_) (fun _ _ e => e)
    obtain ⟨⟨h5, t5, rfl, k5⟩, r, vs', c', rfl, hr0, hr1, hr2⟩ := g
    exact ⟨⟨h5, t5, rfl, fr_on F4 k5, fun b o _ e => k5 b o (k4 b o e)⟩, r, rfl, Strs.of F4 hr0 hr1 hr2⟩
  case w2 =>
  rintro _ s4 h4 t4 ⟨rB, rfl, hB⟩ F4 k4 j4 ht4
  replace hB := hB.on j4
  replace hA := hA.on k4
  clear j4 s4 F3 X3 T3
  dsimp only at k4 ht4 hA ⊢
  have X4 := X.keeps F4.keep
  have T4 := T.keeps F4.keep
  obtain ⟨hBL, vsB, cB, hBg, hBs⟩ := hB
  have hBl : vsB.length = (partsOf (cuts n m (swapL n ks))).length := by rw [hBs.length]; simp [partsOf]
  have hBz : (partsOf (cuts n m (swapL n ks))).length = m := by simp [partsOf, cuts]
  refine asg_rows (css := partsOf (cuts n m (swapL n ks))) F4 rfl rfl rfl (closureFor_none (by decide)) (by decide) rfl (by decide) rfl rfl rfl hBg hBl (by rw [hBz, sizeLine_eq]; omega) ?i1 ?e1 ?k1
  case i1 =>
    intro Q' q
    exact wpAny_Name (wpAny_loadName_local rfl rfl F4.ns rfl q) (by decide)
  case e1 =>
    intro k u cs s3 C m3 E' hu hcs F5 hm htk
    obtain ⟨x, tx, rfl, hx⟩ := hBs.item k u hu
    have hx' : cs = partsL none x.cps.toList := by
      have := hcs
      simp only [partsOf, List.getElem?_map, hx, Option.map_some, Option.some.injEq] at this
      exact this.symm
    subst hx'
    have N5 := News.nil (h₀ := h4) (h := s3.heap) (L := C)
    clear F4
    (repeat' (first | ((with_reducible show wpAny _ _ _ _ _ _); (fail_if_success (with_reducible show wpAny _ _ (pyIter _) _ _ _)); (fail_if_success (with_reducible show wpAny _ _ (call (Value.ref _) _) _ _ _)); (fail_if_success (with_reducible show wpAny _ _ (eval (Expr.ListComp _ _ _ _) _) _ _ _)); (first | (k_unfold; (try dsimp only)) | ((with_reducible refine wpAny_execs_cons ?_); (try dsimp only)) | walk1 | (dsimp only; walk1) | (leave1; walk_say "STEP leave1"; try dsimp only) | (dsimp only; k_unfold; (try dsimp only))))))
    refine wpAny_Name (wpAny_loadName_local rfl rfl F5.ns hm ?_) (by decide)
    (repeat' (first | ((with_reducible show wpAny _ _ _ _ _ _); (fail_if_success (with_reducible show wpAny _ _ (pyIter _) _ _ _)); (fail_if_success (with_reducible show wpAny _ _ (call (Value.ref _) _) _ _ _)); (fail_if_success (with_reducible show wpAny _ _ (eval (Expr.ListComp _ _ _ _) _) _ _ _)); (first | (k_unfold; (try dsimp only)) | ((with_reducible refine wpAny_execs_cons ?_); (try dsimp only)) | walk1 | (dsimp only; walk1) | (leave1; walk_say "STEP leave1"; try dsimp only) | (dsimp only; k_unfold; (try dsimp only))))))
    obtain ⟨hxl, hxs⟩ := cut_facts hx hsmem
    have htk' : t4 ≤ s3.toks := htk
    refine ⟨X4.keeps F5.keep, ?_⟩
    refine wpAny_mono (trans_call (s := { heap := s3.heap, gens := s3.gens, drawn := s3.drawn, toks := s3.toks + 1 + 1, os := s3.os }) (X4.keeps F5.keep) (T4.keeps F5.keep) (by show dp + 1 + 10 < _; omega) x _ _ _ (Nat.le_trans hxl hn64) (fun i d e => hxs d (by rw [← Array.getElem?_toList] at e; exact List.mem_of_getElem? e)) (show s3.toks ≠ 0 by omega) (Nat.succ_ne_zero _) (Nat.succ_ne_self _) (Nat.lt_succ_of_lt (Nat.lt_succ_self _))) (fun v s6 g => ?_) (fun _ _ e => e)
    obtain ⟨⟨h6, t6, rfl, k6⟩, r, vs6, c6, rfl, hr0, hr1, hr2⟩ := g
    exact ⟨⟨h6, t6, rfl, fun b o _ e => k6 b o e, F5.ns.keeps k6⟩, r, rfl, hr0, r, vs6, c6, rfl, hr1, hr2, partsL_ok _ _ hxs⟩
  case k1 =>
    rintro h5 t5 rC hC F5 k5 ht5
    replace hA := hA.on k5
    clear F4 X4 T4
    dsimp only at k5 ht5 hA ⊢
    have X5 := X.keeps F5.keep
    have T5 := T.keeps F5.keep
    obtain ⟨hAL, vsA, cA, hAg, hAs⟩ := hA
    have hAl : vsA.length = (mirOf (cuts n m ks)).length := by rw [hAs.length]; simp [mirOf]
    have hAz : (mirOf (cuts n m ks)).length = m := by simp [mirOf, cuts]
    refine asg_rows (css := mirOf (cuts n m ks)) F5 rfl rfl rfl (closureFor_none (by decide)) (by decide) rfl (by decide) rfl rfl rfl hAg hAl (by rw [hAz, sizeLine_eq]; omega) ?i1 ?e1 ?k1
    case i1 =>
      intro Q' q
      exact wpAny_Name (wpAny_loadName_local rfl rfl F5.ns rfl q) (by decide)
    case e1 =>
      intro k u cs s3 C m3 E' hu hcs F6 hm htk
      obtain ⟨x, tx, rfl, hx⟩ := hAs.item k u hu
      have hx' : cs = (partsL none x.cps.toList).reverse := by
        have := hcs
        simp only [mirOf, List.getElem?_map, hx, Option.map_some, Option.some.injEq] at this
        exact this.symm
      subst hx'
      have N6 := News.nil (h₀ := h5) (h := s3.heap) (L := C)
      clear F5
      (repeat' (first | ((with_reducible show wpAny _ _ _ _ _ _); (fail_if_success (with_reducible show wpAny _ _ (pyIter _) _ _ _)); (fail_if_success (with_reducible show wpAny _ _ (call (Value.ref _) _) _ _ _)); (fail_if_success (with_reducible show wpAny _ _ (eval (Expr.ListComp _ _ _ _) _) _ _ _)); (first | (k_unfold; (try dsimp only)) | ((with_reducible refine wpAny_execs_cons ?_); (try dsimp only)) | walk1 | (dsimp only; walk1) | (leave1; walk_say "STEP leave1"; try dsimp only) | (dsimp only; k_unfold; (try dsimp only))))))
      refine wpAny_Name (wpAny_loadName_local rfl rfl F6.ns hm ?_) (by decide)
      (repeat' (first | ((with_reducible show wpAny _ _ _ _ _ _); (fail_if_success (with_reducible show wpAny _ _ (pyIter _) _ _ _)); (fail_if_success (with_reducible show wpAny _ _ (call (Value.ref _) _) _ _ _)); (fail_if_success (with_reducible show wpAny _ _ (eval (Expr.ListComp _ _ _ _) _) _ _ _)); (first | (k_unfold; (try dsimp only)) | ((with_reducible refine wpAny_execs_cons ?_); (try dsimp only)) | walk1 | (dsimp only; walk1) | (leave1; walk_say "STEP leave1"; try dsimp only) | (dsimp only; k_unfold; (try dsimp only))))))
      obtain ⟨hxl, hxs⟩ := cut_facts hx hmem
      refine ⟨X5.keeps F6.keep, ?_⟩
      refine use_give F6 N6 (parts_call (X5.keeps F6.keep) (T5.keeps F6.keep) (by show dp + 1 + 5 < _; omega) (by show un + 3 + 100 < _; omega) x _ (Nat.le_trans hxl hn64)) ?_
      rintro v h7 t7 k7 F7 N7 ⟨r, vs7, c7, rfl, hr0, hr1, hr2⟩
      have N8 : News h5 C h7 [(r, listOf vs7.toArray c7)] := fun p hp => by
        obtain rfl := List.mem_singleton.mp hp
        refine ⟨hr1, fun e => ?_, ?_⟩
        · obtain ⟨o, _, _, ho, _⟩ := F6.ns
          have e' : r = C := e
          rw [e', ho] at hr0
          cases hr0
        · cases e : h5.get? r with
          | none => rfl
          | some o =>
            have := F6.keep r o e
            rw [hr0] at this
            cases this
      clear F7 N6 N7
      have F6' := F6
      have k7' := fr_on F6 k7
      (repeat' (first | ((with_reducible show wpAny _ _ _ _ _ _); (fail_if_success (with_reducible show wpAny _ _ (subscriptTail _ _ (Value.ref _) (Value.ref _)) _ _ _)); (first | (k_unfold; (try dsimp only)) | ((with_reducible refine wpAny_execs_cons ?_); (try dsimp only)) | walk1 | (dsimp only; walk1) | (leave1; walk_say "STEP leave1"; try dsimp only) | (dsimp only; k_unfold; (try dsimp only))))))
      exact elt_rev F6 k7 hr1 hr2 (partsL_ok _ _ hxs) (by have := partsL_len x.cps.toList none; rw [sizeLine_eq]; have : x.cps.toList.length = x.length := by simp [Str.length]
                                                          omega) (by with_unfolding_all rfl)
    case k1 =>
      rintro h6 t6 rD hD F6 k6 ht6
      replace hC := hC.on k6
      replace hAg := k6 _ _ hAL hAg
      clear F5 X5 T5
      dsimp only at k6 ht6 hAg hC ⊢
      rw [parts_swapped hn0 hkm] at hC
      have X6 := X.keeps F6.keep
      have T6 := T.keeps F6.keep
      have hmok : ∀ cs ∈ mirOf (cuts n m ks), ∀ t ∈ cs, PyData.strOk t = true := by
        intro cs hcs t ht
        obtain ⟨x, hx, rfl⟩ := List.mem_map.mp hcs
        obtain ⟨j, hj⟩ := List.getElem?_of_mem hx
        exact partsL_ok _ _ (cut_facts hj hmem).2 t (List.mem_reverse.mp ht)
      have hm0 : ∃ d0 : List Str, (mirOf (cuts n m ks))[(0 : Nat)]? = some d0 := ⟨_, List.getElem?_eq_getElem (by rw [hAz]; omega)⟩
      obtain ⟨d0, hd0⟩ := hm0
      have hd0ok := hmok d0 (List.mem_of_getElem? hd0)
      refine asgC F6 (fun v s₁ => ToldP L' s₁.heap v d0) rfl rfl rfl rfl (wpC_of_any ?w1) ?w2
      case w1 =>
        (repeat' (first | ((with_reducible show wpAny _ _ _ _ _ _); (fail_if_success (with_reducible show wpAny _ _ (pyIter _) _ _ _)); (fail_if_success (with_reducible show wpAny _ _ (call (Value.ref _) _) _ _ _)); (fail_if_success (with_reducible show wpAny _ _ (eval (Expr.ListComp _ _ _ _) _) _ _ _)); (first | (k_unfold; (try dsimp only)) | ((with_reducible refine wpAny_execs_cons ?_); (try dsimp only)) | walk1 | (dsimp only; walk1) | (leave1; walk_say "STEP leave1"; try dsimp only) | (dsimp only; k_unfold; (try dsimp only))))))
        refine val_rows (css := mirOf (cuts n m ks)) F6 rfl (closureFor_none (by decide)) (by decide) rfl (by decide) rfl hAg hAl (by rw [hAz, sizeLine_eq]; omega) ?i1 ?e1 ?k1
        case i1 =>
          intro Q' q
          exact wpAny_Name (wpAny_loadName_local rfl rfl F6.ns rfl q) (by decide)
        case e1 =>
          intro k u cs s3 C m3 E' hu hcs F7 hm htk
          obtain ⟨x, tx, rfl, hx⟩ := hAs.item k u hu
          have hx' : cs = (partsL none x.cps.toList).reverse := by
            have := hcs
            simp only [mirOf, List.getElem?_map, hx, Option.map_some, Option.some.injEq] at this
            exact this.symm
          subst hx'
          have N7 := News.nil (h₀ := h6) (h := s3.heap) (L := C)
          clear F6
          (repeat' (first | ((with_reducible show wpAny _ _ _ _ _ _); (fail_if_success (with_reducible show wpAny _ _ (pyIter _) _ _ _)); (fail_if_success (with_reducible show wpAny _ _ (call (Value.ref _) _) _ _ _)); (fail_if_success (with_reducible show wpAny _ _ (eval (Expr.ListComp _ _ _ _) _) _ _ _)); (first | (k_unfold; (try dsimp only)) | ((with_reducible refine wpAny_execs_cons ?_); (try dsimp only)) | walk1 | (dsimp only; walk1) | (leave1; walk_say "STEP leave1"; try dsimp only) | (dsimp only; k_unfold; (try dsimp only))))))
          refine wpAny_Name (wpAny_loadName_local rfl rfl F7.ns hm ?_) (by decide)
          (repeat' (first | ((with_reducible show wpAny _ _ _ _ _ _); (fail_if_success (with_reducible show wpAny _ _ (pyIter _) _ _ _)); (fail_if_success (with_reducible show wpAny _ _ (call (Value.ref _) _) _ _ _)); (fail_if_success (with_reducible show wpAny _ _ (eval (Expr.ListComp _ _ _ _) _) _ _ _)); (first | (k_unfold; (try dsimp only)) | ((with_reducible refine wpAny_execs_cons ?_); (try dsimp only)) | walk1 | (dsimp only; walk1) | (leave1; walk_say "STEP leave1"; try dsimp only) | (dsimp only; k_unfold; (try dsimp only))))))
          obtain ⟨hxl, hxs⟩ := cut_facts hx hmem
          have htk' : t6 ≤ s3.toks := htk
          refine ⟨X6.keeps F7.keep, ?_⟩
          refine use_give F7 N7 (trans_call (s := { heap := s3.heap, gens := s3.gens, drawn := s3.drawn, toks := s3.toks + 1 + 1, os := s3.os }) (X6.keeps F7.keep) (T6.keeps F7.keep) (by show dp + 1 + 10 < _; omega) x _ _ _ (Nat.le_trans hxl hn64) (fun i d e => hxs d (by rw [← Array.getElem?_toList] at e; exact List.mem_of_getElem? e)) (show s3.toks ≠ 0 by omega) (Nat.succ_ne_zero _) (Nat.succ_ne_self _) (Nat.lt_succ_of_lt (Nat.lt_succ_self _))) ?_
          rintro v h8 t8 k8 F8 N8 ⟨r, vs8, c8, rfl, hr0, hr1, hr2⟩
          have N9 := News.nil (h₀ := h6) (h := h8) (L := C)
          clear N7 N8
          have F7' := F7
          have k8' := fr_on F7 k8
          clear F8
          (repeat' (first | ((with_reducible show wpAny _ _ _ _ _ _); (fail_if_success (with_reducible show wpAny _ _ (subscriptTail _ _ (Value.ref _) (Value.ref _)) _ _ _)); (first | (k_unfold; (try dsimp only)) | ((with_reducible refine wpAny_execs_cons ?_); (try dsimp only)) | walk1 | (dsimp only; walk1) | (leave1; walk_say "STEP leave1"; try dsimp only) | (dsimp only; k_unfold; (try dsimp only))))))
          exact elt_rev F7 k8 hr1 hr2 (partsL_ok _ _ hxs) (by have := partsL_len x.cps.toList none; rw [sizeLine_eq]; have : x.cps.toList.length = x.length := by simp [Str.length]
                                                              omega) (by with_unfolding_all rfl)
        case k1 =>
          intro h7 t7 rE hE hE0 k7 ht7
          dsimp only at hE0 k7 ht7
          have F7 := fr_on F6 k7
          have hE0s : s.heap.get? rE = none := by
            cases e : s.heap.get? rE with
            | none => rfl
            | some o => rw [F6.keep _ _ e] at hE0; cases hE0
          obtain ⟨hCL, vsC, cC, hCg, hCc, hCy⟩ := hC
          have hCe : ∀ y ∈ vsC, ∃ a o, y = .ref a ∧ h6.get? a = some o := fun y hy => by
            obtain ⟨j, hj⟩ := List.getElem?_of_mem hy
            obtain ⟨_, _, a, _, _, rfl, hg, _⟩ := hCc.2 j y hj
            exact ⟨a, _, rfl, hg⟩
          have hCrE : rC ≠ rE := fun e => by rw [e, hE0] at hCg; cases hCg
          clear F6
          obtain ⟨nw, NA, hmw⟩ := all_news2 s.heap h7 L'
          have hall := fun h' (m' : Str → Option Value) (F' : Fr s.heap L' h' m') (N' : News s.heap L' h' nw) => all_of hmw F7 F' N'
          (repeat' (first | ((with_reducible show wpAny _ _ _ _ _ _); (fail_if_success (with_reducible show wpAny _ _ (subscriptTail _ _ (Value.ref _) (Value.ref _)) _ _ _)); (first | (k_unfold; (try dsimp only)) | ((with_reducible refine wpAny_execs_cons ?_); (try dsimp only)) | walk1 | (dsimp only; walk1) | (leave1; walk_say "STEP leave1"; try dsimp only) | (dsimp only; k_unfold; (try dsimp only))))))
          refine kms_slice_lit F7 NA ⟨_, k7 _ _ hCg, rfl, _, rfl⟩ (IsPart.int _ _) IsPart.none (pick_tail _) (fun D h8 F8 N8 lD => ?_) (by with_unfolding_all rfl) (fun _ => rfl) (by rw [List.size_toArray, hCc.1, hAz, sizeLine_eq]; omega)
          have k8 : ∀ b o, b ≠ L' → h7.get? b = some o → h8.get? b = some o := hall h8 _ F8 (fun p hp => N8 p (List.mem_cons_of_mem _ hp))
          have hDD := N8 _ List.mem_cons_self
          have hlt7 : ∀ b o, b ≠ L' → h7.get? b = some o → b ≠ D := fun b o hb e hD => by
            cases q : s.heap.get? b with
            | none => exact Nat.lt_irrefl _ (hD ▸ lD _ (hmw b o hb q e))
            | some o' => rw [hD, hDD.2.2] at q; cases q
          clear F7 NA hall
          (repeat' (first | ((with_reducible show wpAny _ _ _ _ _ _); (fail_if_success (with_reducible show wpAny _ _ (pyIter _) _ _ _)); (fail_if_success (with_reducible show wpAny _ _ (call (Value.ref _) _) _ _ _)); (fail_if_success (with_reducible show wpAny _ _ (eval (Expr.ListComp _ _ _ _) _) _ _ _)); (first | (k_unfold; (try dsimp only)) | ((with_reducible refine wpAny_execs_cons ?_); (try dsimp only)) | walk1 | (dsimp only; walk1) | (leave1; walk_say "STEP leave1"; try dsimp only) | (dsimp only; k_unfold; (try dsimp only))))))
          refine ⟨X.keeps F8.keep, ?_⟩
          obtain ⟨oL, esL, epL, hoL, hoD, hoR⟩ := id F8.ns
          obtain ⟨hEL, vsE, cE, hEg, hEc, hEy⟩ := hE
          have hEe : ∀ y ∈ vsE, ∃ a o, y = .ref a ∧ a ≠ L' ∧ h7.get? a = some o := fun y hy => by
            obtain ⟨j, hj⟩ := List.getElem?_of_mem hy
            obtain ⟨_, _, a, _, _, rfl, hg, _⟩ := hEc.2 j y hj
            exact ⟨a, _, rfl, fun q => (hEy _ hy).1 (by rw [q]), hg⟩
          have hE8 := (RowsL.on ⟨hEL, vsE, cE, hEg, hEc, hEy⟩ k8 : RowsL L' h8 rE _)
          have hCc8 : Cont h8 vsC (mirOf (cuts n m ks)) := by
            refine ⟨hCc.1, fun j y e => ?_⟩
            obtain ⟨cs, e1, a, vs', c', rfl, hg, hs⟩ := hCc.2 j y e
            exact ⟨cs, e1, a, vs', c', rfl, k8 _ _ (fun q => (hCy _ (List.mem_of_getElem? e)).1 (by rw [q])) (k7 _ _ hg), hs⟩
          have hEc8 : Cont h8 vsE (mirOf (cuts n m ks)) := by
            refine ⟨hEc.1, fun j y e => ?_⟩
            obtain ⟨cs, e1, a, vs', c', rfl, hg, hs⟩ := hEc.2 j y e
            exact ⟨cs, e1, a, vs', c', rfl, k8 _ _ (fun q => (hEy _ (List.mem_of_getElem? e)).1 (by rw [q])) hg, hs⟩
          refine wpAny_mono (diff_call X T F8.keep (Nat.le_trans F8.above (Nat.le_of_lt F8.ns.lt)) [(L', oL)] (by exact frs_one (show ScopeKind.function ≠ ScopeKind.module by decide) rfl hoD) (fun p hp => by
              obtain rfl := List.mem_singleton.mp hp
              exact ⟨hoL, Heap.get?_none_of_le F8.above⟩) (by show dp + 1 + 5 < _; omega) (by show un + 3 + 100 < _; omega) rE D vsE (vsC.drop 1) cE 0 (k8 _ _ hEL hEg) hDD.1 hE0s hDD.2.2 (hlt7 _ _ hEL hEg) (mirOf (cuts n m ks)) ((mirOf (cuts n m ks)).drop 1) (by rw [hAz]; omega) (by rw [hAz]; omega) hEc8 (hCc8.drop 1)
              (by rw [List.drop_one]) (fun y hy => ?_)) (fun v s9 g => ?_) (fun _ _ e => e)
          · rcases hy with hy | hy
            · obtain ⟨a, o, rfl, ha, hg⟩ := hEe y hy
              exact ⟨(hEy _ hy).2, fun q => hlt7 a o ha hg (by injection q)⟩
            · have hy' := List.mem_of_mem_drop hy
              obtain ⟨a, o, rfl, hg⟩ := hCe y hy'
              refine ⟨fun q => ?_, fun q => hlt7 a o (fun q' => (hCy _ hy').1 (by rw [q'])) (k7 _ _ hg) (by injection q)⟩
              have q' : a = rE := by injection q
              rw [q', hE0] at hg
              cases hg
          · obtain ⟨h9, t9, t, r, o, nn, x₀, mc, ac', frs', rfl, rfl, g1, g2, g3, g4, g5, g6, SU, g7, g8⟩ := g
            have g8' : ∀ b o, b ≠ rE → b ≠ D → b ≠ L' → h8.get? b = some o → h9.get? b = some o := fun b o q1 q2 q3 e => g8 b o q1 q2 (by simpa using q3) e
            have F9 := fr_slots F8 hoL SU g7 (fun b o e => g8' b o (fun q => by rw [q, hE0s] at e; cases e) (fun q => by rw [q, hDD.2.2] at e; cases e) (fun q => by
              rw [q] at e
              exact Nat.lt_irrefl _ (Nat.lt_of_lt_of_le (Heap.lt_size e) F8.above)) (F8.keep _ _ e))
            refine ⟨⟨h9, t9, rfl, F9, fun b o hb e => g8' b o (fun q => by rw [q, hE0] at e; cases e) (hlt7 b o hb (k7 _ _ e)) hb (k8 b o hb (k7 _ _ e))⟩, ?_⟩
            obtain ⟨cs0, e0, b0, vs0, c0, rfl, hg0, hs0⟩ := hEc.2 0 x₀ g6
            rw [hd0] at e0
            cases e0
            have hb0 := hEy _ (List.mem_of_getElem? g6)
            have hb0L : b0 ≠ L' := fun q => hb0.1 (by rw [q])
            exact ⟨t, r, D, b0, o, nn, mc, ac', rfl, g1, g2, g3, g4, g5, ⟨b0, vs0, c0, rfl, g8' _ _ (fun q => hb0.2 (by rw [q])) (hlt7 _ _ hb0L hg0) hb0L (k8 _ _ hb0L hg0), hs0⟩, not_frame F9 g1 g3, not_frame F9 g4 rfl, not_frame F9 g5 rfl, hb0L⟩
      case w2 =>
        rintro v s7 h7 t7 hTo F7 k7 j7 ht7
        replace hTo := hTo.on j7
        replace hC := hC.on k7
        replace hD := hD.on k7
        clear j7 s7 F6 X6 T6 hAg
        dsimp only at k7 ht7 hC hD ⊢
        have X7 := X.keeps F7.keep
        have T7 := T.keeps F7.keep
        refine wpC_execs_cons (wpC_Return_some (wpC_And (wpC_Compare1 (wpC_Call_Name ?_))))
        (first | (k_unfold; (try dsimp only)) | ((with_reducible refine wpAny_execs_cons ?_); (try dsimp only)) | walk1 | (dsimp only; walk1) | (leave1; walk_say "STEP leave1"; try dsimp only) | (dsimp only; k_unfold; (try dsimp only)))
        refine wpC_callTypeC (wpC_Call_Name ?_)
        (first | (k_unfold; (try dsimp only)) | ((with_reducible refine wpAny_execs_cons ?_); (try dsimp only)) | walk1 | (dsimp only; walk1) | (leave1; walk_say "STEP leave1"; try dsimp only) | (dsimp only; k_unfold; (try dsimp only)))
        refine wpC_callFn2 hf69 ?_
        (first | (k_unfold; (try dsimp only)) | ((with_reducible refine wpAny_execs_cons ?_); (try dsimp only)) | walk1 | (dsimp only; walk1) | (leave1; walk_say "STEP leave1"; try dsimp only) | (dsimp only; k_unfold; (try dsimp only)))
        (first | (k_unfold; (try dsimp only)) | ((with_reducible refine wpAny_execs_cons ?_); (try dsimp only)) | walk1 | (dsimp only; walk1) | (leave1; walk_say "STEP leave1"; try dsimp only) | (dsimp only; k_unfold; (try dsimp only)))
        refine ⟨X7 _ _ h69, ?_⟩
        refine wpC_mono (swap_call X7 T7 (by show dp + 1 + 5 < _; omega) d _ _ m n hn0 hn64 ks hks hkm hk4) (fun v s8 g => ?_) (fun _ _ e => e)
        obtain ⟨⟨h8, t8, rfl, k8⟩, d8, td8, rfl, hd8⟩ := g
        have F8 := fr_on F7 k8
        replace hTo := hTo.on (fun b o _ e => k8 b o e)
        replace hC := hC.on (fun b o _ e => k8 b o e)
        replace hD := hD.on (fun b o _ e => k8 b o e)
        skip
        obtain ⟨tA, rA1, aA, bA, oA, nnA, mcA, acA, rfl, g1, g2, g3, g4, g5, g6, q1, q2, q3, q4⟩ := hTo
        obtain ⟨nw, NA, hmw⟩ := all_news2 s.heap h8 L'
        have hall := fun h' (m' : Str → Option Value) (F' : Fr s.heap L' h' m') (N' : News s.heap L' h' nw) => all_of hmw F8 F' N'
        clear F7 X7 T7
        refine call_type_bytes ?_
        (repeat' (first | ((with_reducible show wpAny _ _ _ _ _ _); (fail_if_success (with_reducible show wpAny _ _ (subscriptTail _ _ (Value.ref _) _) _ _ _)); (fail_if_success (with_reducible show wpAny _ _ (compareOp CmpOp.Eq _ _) _ _ _)); (first | (k_unfold; (try dsimp only)) | ((with_reducible refine wpAny_execs_cons ?_); (try dsimp only)) | walk1 | (dsimp only; walk1) | (leave1; walk_say "STEP leave1"; try dsimp only) | (dsimp only; k_unfold; (try dsimp only))))))
        rw [if_pos rfl]
        (repeat' (first | ((with_reducible show wpAny _ _ _ _ _ _); (fail_if_success (with_reducible show wpAny _ _ (subscriptTail _ _ (Value.ref _) _) _ _ _)); (fail_if_success (with_reducible show wpAny _ _ (compareOp CmpOp.Eq _ _) _ _ _)); (first | (k_unfold; (try dsimp only)) | ((with_reducible refine wpAny_execs_cons ?_); (try dsimp only)) | walk1 | (dsimp only; walk1) | (leave1; walk_say "STEP leave1"; try dsimp only) | (dsimp only; k_unfold; (try dsimp only))))))
        obtain ⟨as1, ra1⟩ := hC.reads
        obtain ⟨bs1, rb1⟩ := hD.reads
        refine eq_dataH (as := as1) (bs := bs1) ?_ ?_ (rowsD_shaped hmok) (rowsD_shaped hmok) ?_ ?_
        · exact ra1
        · exact rb1
        · show un + 3 + 64 < _
          omega
        rw [show PyData.eqv (rowsD (mirOf (cuts n m ks))) (rowsD (mirOf (cuts n m ks))) = true from by unfold rowsD; simp only [PyData.eqv]; exact eqv_rows _]
        obtain ⟨hDL, vsD, cD, hDg, hDc, hDy⟩ := hD
        have hv0 : vsD[(0 : Nat)]? = some (vsD[0]'(by rw [hDc.1, hAz]; omega)) := List.getElem?_eq_getElem _
        generalize vsD[0]'(by rw [hDc.1, hAz]; omega) = y0 at hv0
        obtain ⟨cs0, e0, hy0⟩ := hDc.2 0 y0 hv0
        rw [hd0] at e0
        cases e0
        clear as1 bs1 ra1 rb1
        (repeat' (first | ((with_reducible show wpAny _ _ _ _ _ _); (fail_if_success (with_reducible show wpAny _ _ (subscriptTail _ _ (Value.ref _) _) _ _ _)); (fail_if_success (with_reducible show wpAny _ _ (compareOp CmpOp.Eq _ _) _ _ _)); (first | (k_unfold; (try dsimp only)) | ((with_reducible refine wpAny_execs_cons ?_); (try dsimp only)) | walk1 | (dsimp only; walk1) | (leave1; walk_say "STEP leave1"; try dsimp only) | (dsimp only; k_unfold; (try dsimp only))))))
        rw [if_pos rfl]
        (repeat' (first | ((with_reducible show wpAny _ _ _ _ _ _); (fail_if_success (with_reducible show wpAny _ _ (subscriptTail _ _ (Value.ref _) _) _ _ _)); (fail_if_success (with_reducible show wpAny _ _ (compareOp CmpOp.Eq _ _) _ _ _)); (first | (k_unfold; (try dsimp only)) | ((with_reducible refine wpAny_execs_cons ?_); (try dsimp only)) | walk1 | (dsimp only; walk1) | (leave1; walk_say "STEP leave1"; try dsimp only) | (dsimp only; k_unfold; (try dsimp only))))))
        refine' item_listL (k := 0) (x := y0) ⟨_, hDg, rfl, _, rfl⟩ (by decide) (by decide) hv0 ?_ ?_ ?_
        rotate_left
        · with_unfolding_all rfl
        · intro _; with_unfolding_all rfl
        (repeat' (first | ((with_reducible show wpAny _ _ _ _ _ _); (fail_if_success (with_reducible show wpAny _ _ (subscriptTail _ _ (Value.ref _) _) _ _ _)); (fail_if_success (with_reducible show wpAny _ _ (compareOp CmpOp.Eq _ _) _ _ _)); (first | (k_unfold; (try dsimp only)) | ((with_reducible refine wpAny_execs_cons ?_); (try dsimp only)) | walk1 | (dsimp only; walk1) | (leave1; walk_say "STEP leave1"; try dsimp only) | (dsimp only; k_unfold; (try dsimp only))))))
        (rename Fr _ _ _ _ => F9)
        (rename News _ _ _ _ => N9)
        have k9 := hall _ _ F9 (fun p hp => N9 p (List.mem_cons_of_mem _ (List.mem_cons_of_mem _ (List.mem_cons_of_mem _ hp))))
        obtain ⟨as2, ra2⟩ := told_reads (k9 _ _ q1 g1) g2 g3 (k9 _ _ q2 g4) (k9 _ _ q3 g5) (g6.on fun o e => k9 _ _ q4 e)
        have hyL := (hDy _ (List.mem_of_getElem? hv0)).1
        obtain ⟨yb, vsY, cY, rfl, hYg, hYs⟩ := hy0
        have hyb : yb ≠ L' := fun q => hyL (by rw [q])
        obtain ⟨bs2, rb2⟩ := told_reads (N9 _ (.head _)).1 rfl rfl (N9 _ (.tail _ (.tail _ (.head _)))).1 (N9 _ (.tail _ (.head _))).1 (IsStrs.on ⟨yb, vsY, cY, rfl, hYg, hYs⟩ fun o e => k9 _ _ hyb e)
        refine eq_dataH (as := as2) (bs := bs2) ?_ ?_ (told_shaped hd0ok) (told_shaped hd0ok) ?_ ?_
        · exact ra2
        · exact rb2
        · show un + 3 + 64 < _
          omega
        · rw [eqv_told]
          exact ⟨rfl, _, _, _, _, rfl, F9⟩
end

end Mine
namespace Mine

section -- part P02z
set_option Elab.async false
set_option maxRecDepth 100000
set_option maxHeartbeats 8000000
theorem reset_P02z : True := by
  w_top off
  trivial
theorem law02 : PySem.Challenge.rw_il0107_02.Holds := by
  w_on
  refine holds_law (by kernel_rfl) fun said => ?_
  refine Mine.PySem.W.holds_open (q := hd.view_39) (loose := [Str.ofString "_twin_re_1", Str.ofString "_special_chars_map"]) (Xt := fun s => xlAt hd.view_39 [] s && recOk (RowW.records PySem.Challenge.rw_il0107_02.row.toRowW) s) (XP := XL hd.view_39 []) (Yf := Hook.obs hook) (Ya := Hook.val hook) (YP := Hook.says hook) (N := 3370) left02 (Hook.of hook) (Hook.keeps hook) (fun s e => xl_of s (Bool.and_eq_true_iff.mp e).1) XL.keeps (by rfl) (by rfl) (by rfl) (fun s e => recFacts_of (Bool.and_eq_true_iff.mp e).2) (by rfl) (by first | assumption | decide +kernel) (by decide +kernel) ⟨rfl, rfl, rfl, rfl, rfl, by decide +kernel⟩ ?hw ?hc
  case hw => w_witness2
  case hc =>
  w_top off
  k_fill
  intro w s₀ s₁ mg mb G Y fa o pm cd doc dV kV ho hd hcd hD hmg hg args vals as hpre hlay hrd hwl hlo
  have KX : (Mine.hd.heap_39 w.params).In s₁.heap := kIn_of Y
  refine Ground.open G ?_
  intro T B D TE TW
  have hfa : fa = 91 := by
    have e := mg_of (n := Str.ofString "law") (v := .ref 91) KX T.g (by kernel_rfl)
    rw [show mg (Str.ofString "law") = some (.ref fa) from hmg] at e
    cases e
    rfl
  subst hfa
  clear B TE TW D hmg Y hd hcd hD ho
  wrow_args hpre hlay hrd hwl hlo
  (rename Heap.IsList _ _ _ => hL)
  (rename IntsAre _ _ => hI)
  refine wpC_mono (law_call (dp := 1 + claimMargin) (un := 4) (gd := some []) KX T (by decide) (by decide) _ _ _ hL hI (by omega)) (fun v s' g => ?_) (fun _ _ e => e)
  obtain ⟨rfl, h, tk, L, m, rfl, F⟩ := g
  exact GoodW.toG (goodW_bool F hg (raisesW_false (by wrow_none_raised)) (by wrow_post))
end
end Mine

open PySem PySem.W PyProof.Rows
set_option Elab.async false
set_option maxRecDepth 100000 in
set_option maxHeartbeats 8000000 in
theorem PySem.Challenge.cw_il0107_02_holds : PySem.Challenge.rw_il0107_02.Holds :=
  Mine.law02

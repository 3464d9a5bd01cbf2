import PyProof.Rows.All
import Wide.All
import OpenK.AllK
import Wide.FinOn
import PyProof.MeetsSeq
import PyProof.SeqRoads2
import PyProof.P3Eq
import PyProof.Rows.Catch
import KE.BytesMake
import KE.FramesApart
import KE.KAnyBase
import KE.KEqSeq
import KE.KEqDeep
import KE.KSliceW
import KE.KRevSl
import PySem.Challenge.RW_il0107_01

section -- part Base1
open PySem PySem.W PySem.Calls PyProof.Rows
set_option Elab.async false
set_option maxRecDepth 100000
set_option maxHeartbeats 4000000
namespace Mine

/-- the surroundings of a call -/
abbrev Ar (dp un : Nat) (gd : Option (List Code)) (fr : List Env) : Around := { handled := none, depth := dp, frames := some fr, guards := gd, units := un }

section
variable {prog : Program} {w : World} {A : Around} {E : Value → Shared → Prop} {s : Shared} {K : Frag} {Q : Value → Shared → Prop}

theorem enter {name qual : Str} {params : Arguments} {body : List Stmt} {scope : Scope} {dV kV doc pm cdv ct oc : Value} {an od : Option Addr} {osl : Array (Option Value)} {f : Addr} {vals : List Value} {kw : List (Str × Value)} {binds : List (Str × Value)}
    (X : K.In s.heap) (hlim : s.heap.NoLimit)
    (ho : K.lookup f = some ⟨oc, od, .func (fnOf name qual params body scope dV kV doc pm an cdv ct), osl⟩) (hcd : codeIn K cdv qual = true) (hroom : A.depth < recursionLimit)
    (hbind : BindsTo s (fnOf name qual params body scope dV kV doc pm an cdv ct) ⟨vals, kw⟩ binds) (hloc : ∀ y ∈ binds, scope.names.lookup y.1 = some .local)
    (h : ∀ L h₁, Fr s.heap L h₁ (fun y => binds.reverse.lookup y) →
      wpAny (model prog w) (A.deeper (envOf qual scope L f cdv)) (execs body (envOf qual scope L f cdv))
        (fun fl s' => Q (match fl with | .ret v => v | _ => .none) s')
        (fun e s' => wpAny (model prog w) (A.deeper (envOf qual scope L f cdv)) (leaving (envOf qual scope L f cdv) e) (fun _ s'' => E e s'') (fun e' s'' => E e' s'') s')
        { s with heap := h₁, toks := s.toks + binds.length })
    (hco : scope.isCoroutine = false) (hgen : scope.isGenerator = false) (hk : scope.kind = .function)
    (hcell : ∀ x ∈ scope.names, x.2 ≠ .cell) : wpAny (model prog w) A (call (.ref f) vals kw) Q E s := by
  refine wpAny_call ?_
  refine codeAny_call_def (fd := fnOf name qual params body scope dV kV doc pm an cdv ct) (body := body) (binds := binds) hroom (X _ _ ho) rfl hlim (codeRec_of X hcd) rfl hbind hcell hloc (fun h₁ hns hk₁ => ?_) hco hgen hk
  exact h _ h₁ ⟨hns, hk₁, Nat.le_refl _⟩
end

section
variable {prog : Program} {w : World} {A : Around} {E : Value → Shared → Prop} {s : Shared} {env : Env} {h₀ : Heap} {x : Str} {body : List Stmt} {Q : Flow → Shared → Prop}

/-- the end of a turn of a loop over a range: the iterator (I, oI) stands aside -/
def RPost (h₀ : Heap) (L : Addr) (J : (Str → Option Value) → List (Addr × Obj) → Prop) (I : Addr) (oI : Obj) (s₁ : Shared) (Q : Flow → Shared → Prop) (f : Flow) (s₂ : Shared) : Prop :=
  match f with
  | .ret v => Q (.ret v) s₂
  | .brk => Q .next s₂
  | _ => ∃ h' tk m' news', s₂ = { s₁ with heap := h', toks := tk } ∧ Fr h₀ L h' m' ∧ News h₀ L h' ((I, oI) :: news') ∧ (∀ p ∈ news', p.1 ≠ I) ∧ J m' news'

theorem loop_range {r : Addr} {a₀ b₀ c₀ : Int} {t₀ u₀ v₀ : Tok} {n : Nat} {m₀ : Str → Option Value} {news : List (Addr × Obj)} (J : Nat → (Str → Option Value) → List (Addr × Obj) → Prop)
    (hh : A.handled = none) (hr : IsRange s.heap r a₀ b₀ c₀ t₀ u₀ v₀) (hsmall : Builtin.Range.small a₀ b₀ c₀ = true) (hsz : Builtin.Range.rangeSize a₀ b₀ c₀ = (n : Int))
    (F : Fr h₀ env.locals s.heap m₀) (N : News h₀ env.locals s.heap news) (hj : J 0 m₀ news)
    (turn : ∀ i t m₁ news₁ h tk I oI, i < n → J i m₁ news₁ → (∀ p ∈ news₁, p.1 ≠ I) → Fr h₀ env.locals h (fun y => if y = x then some (.int (a₀ + (i : Int) * c₀) t) else m₁ y) → News h₀ env.locals h ((I, oI) :: news₁) →
      wpAny (model prog w) A (execs body env) (RPost h₀ env.locals (J (i + 1)) I oI { s with heap := h, toks := tk } Q) E { s with heap := h, toks := tk })
    (done : ∀ m₁ news₁ h tk, J n m₁ news₁ → Fr h₀ env.locals h m₁ → News h₀ env.locals h news₁ → Q .next { s with heap := h, toks := tk }) :
    wpAny (model prog w) A (pyIter (.ref r)) (fun it s₂ => LoopAtV prog w A h₀ env x body Q E it s₂) E s := by
  refine wpAny_pyIter_range hr hsmall ?_
  have W := Walks.range (prog := prog) (w := w) hh s.heap.objs.size a₀ c₀ n
  refine ⟨_, _, _, n, _, _, m₀, news, J, rfl, W, ?_, ?_, ?_, ?_, F.push _, (fun p hp => ⟨Heap.get?_push_of_some _ (N p hp).1, (N p hp).2⟩), hj, ?_, ?_⟩
  · intro hm
    exact absurd F.ns.lt ((List.mem_singleton.mp hm) ▸ Nat.lt_irrefl _)
  · intro b hb
    rw [List.mem_singleton.mp hb]
    exact next_is_new F
  · intro p hp hI
    exact absurd (Heap.lt_size (N p hp).1) ((List.mem_singleton.mp hI) ▸ Nat.lt_irrefl _)
  · show IsRangeIter _ _ _ _ _
    rw [hsz]
    simpa using Heap.get?_push_size _ rfl
  · rintro i v m₁ news₁ s₁ own ⟨hh', tk', rfl⟩ hin ⟨t, rfl⟩ hJ hoff hown hget hall hst F₁ N₁
    have hI0 : h₀.get? s.heap.objs.size = none := next_is_new F
    obtain ⟨oI, hst'⟩ : ∃ o, hh'.get? s.heap.objs.size = some o := ⟨_, (show IsRangeIter hh' s.heap.objs.size _ _ _ from hst)⟩
    have hIown : (s.heap.objs.size, oI) ∈ own := hall _ (List.mem_singleton.mpr rfl) hI0 _ hst'
    have hne : ∀ p ∈ news₁, p.1 ≠ s.heap.objs.size := fun p hp e => hoff p hp (List.mem_singleton.mpr e)
    refine wpAny_mono (turn i t m₁ news₁ hh' tk' s.heap.objs.size oI hin hJ hne F₁ (fun p hp => ?_)) (fun f s₂ p => ?_) fun _ _ e => e
    · rcases List.mem_cons.mp hp with rfl | hp
      · exact N₁ _ (List.mem_append.mpr (.inl hIown))
      · exact N₁ p (List.mem_append.mpr (.inr hp))
    · have fin : (∃ h' tk m' news', s₂ = { ({ s with heap := hh', toks := tk' } : Shared) with heap := h', toks := tk } ∧ Fr h₀ env.locals h' m' ∧ News h₀ env.locals h' ((s.heap.objs.size, oI) :: news') ∧ (∀ p ∈ news', p.1 ≠ s.heap.objs.size) ∧ J (i + 1) m' news') →
          LoopStepU h₀ env.locals [s.heap.objs.size] own (J (i + 1)) { s with heap := hh', toks := tk' } .next s₂ := by
        rintro ⟨h', tk, m', news', e, F', N', hn, hm⟩
        refine ⟨rfl, h', tk, m', news', e, F', fun p hp => ?_, fun p hp hq => hn p hp (List.mem_singleton.mp hq), hm⟩
        rcases List.mem_append.mp hp with hp | hp
        · have h1 := List.mem_singleton.mp (hown p hp)
          have h2 := hget p hp
          have h2' : hh'.get? s.heap.objs.size = some p.2 := by rw [← h1]; exact h2
          rw [hst'] at h2'
          obtain ⟨pa, po⟩ := p
          cases h2'
          have h3 : pa = s.heap.objs.size := h1
          subst h3
          exact N' _ (List.mem_cons_self)
        · exact N' p (List.mem_cons_of_mem _ hp)
      cases f with
      | ret v => exact .ret p
      | brk => exact .brk p
      | next => exact .next (fin p)
      | cont => exact .cont (fin p)
  · rintro h' tk m' news' F' N' _ hJ
    exact done m' news' h' tk hJ F' N'

/-- the same where the turns store no name but the loop's own -/
def SPost (h₀ : Heap) (L : Addr) (x : Str) (m₀ : Str → Option Value) (J : List (Addr × Obj) → Prop) (I : Addr) (oI : Obj) (s₁ : Shared) (Q : Flow → Shared → Prop) (f : Flow) (s₂ : Shared) : Prop :=
  match f with
  | .ret v => Q (.ret v) s₂
  | .brk => Q .next s₂
  | _ => ∃ h' tk m' news', s₂ = { s₁ with heap := h', toks := tk } ∧ Fr h₀ L h' m' ∧ News h₀ L h' ((I, oI) :: news') ∧ (∀ p ∈ news', p.1 ≠ I) ∧ (∀ z, z ≠ x → m' z = m₀ z) ∧ J news'
theorem SPost.end {L : Addr} {m₀ : Str → Option Value} {J : List (Addr × Obj) → Prop} {I : Addr} {oI : Obj} {s₁ : Shared} {h' : Heap} {tk : Nat} {m' : Str → Option Value} (news' : List (Addr × Obj))
    (F : Fr h₀ L h' m') (N : News h₀ L h' ((I, oI) :: news')) (hn : ∀ p ∈ news', p.1 ≠ I) (hm : ∀ z, z ≠ x → m' z = m₀ z) (hj : J news') : SPost h₀ L x m₀ J I oI s₁ Q .next { s₁ with heap := h', toks := tk } :=
  ⟨h', tk, m', news', rfl, F, N, hn, hm, hj⟩

theorem loop_rangeC {r : Addr} {a₀ b₀ c₀ : Int} {t₀ u₀ v₀ : Tok} (n : Nat) {m₀ : Str → Option Value} {news : List (Addr × Obj)} (J : Nat → List (Addr × Obj) → Prop)
    (hh : A.handled = none) (hr : IsRange s.heap r a₀ b₀ c₀ t₀ u₀ v₀) (hsmall : Builtin.Range.small a₀ b₀ c₀ = true) (hsz : Builtin.Range.rangeSize a₀ b₀ c₀ = (n : Int))
    (F : Fr h₀ env.locals s.heap m₀) (N : News h₀ env.locals s.heap news) (hj : J 0 news)
    (turn : ∀ i t news₁ h tk I oI, i < n → J i news₁ → (∀ p ∈ news₁, p.1 ≠ I) → Fr h₀ env.locals h (fun y => if y = x then some (.int (a₀ + (i : Int) * c₀) t) else m₀ y) → News h₀ env.locals h ((I, oI) :: news₁) →
      wpAny (model prog w) A (execs body env) (SPost h₀ env.locals x m₀ (J (i + 1)) I oI { s with heap := h, toks := tk } Q) E { s with heap := h, toks := tk })
    (done : ∀ (u : Option Value) news₁ h tk, J n news₁ → Fr h₀ env.locals h (fun y => if y = x then u else m₀ y) → News h₀ env.locals h news₁ → Q .next { s with heap := h, toks := tk }) :
    wpAny (model prog w) A (pyIter (.ref r)) (fun it s₂ => LoopAtV prog w A h₀ env x body Q E it s₂) E s := by
  refine loop_range (fun i m nx => (∀ z, z ≠ x → m z = m₀ z) ∧ J i nx) hh hr hsmall hsz F N ⟨fun _ _ => rfl, hj⟩ ?_ ?_
  · rintro i t m₁ news₁ h tk I oI hi ⟨hm, hJ⟩ hn F₁ N₁
    have e : (fun y => if y = x then some (Value.int (a₀ + (i : Int) * c₀) t) else m₁ y) = fun y => if y = x then some (Value.int (a₀ + (i : Int) * c₀) t) else m₀ y := by
      funext y
      by_cases h1 : y = x
      · simp [h1]
      · simp only [if_neg h1]; exact hm y h1
    rw [e] at F₁
    refine wpAny_mono (turn i t news₁ h tk I oI hi hJ hn F₁ N₁) (fun f s₂ p => ?_) fun _ _ e => e
    cases f with
    | ret v => exact p
    | brk => exact p
    | next => obtain ⟨h', tk', m', news', e, F', N', hn', hm', hj'⟩ := p; exact ⟨h', tk', m', news', e, F', N', hn', hm', hj'⟩
    | cont => obtain ⟨h', tk', m', news', e, F', N', hn', hm', hj'⟩ := p; exact ⟨h', tk', m', news', e, F', N', hn', hm', hj'⟩
  · rintro m₁ news₁ h tk ⟨hm, hJ⟩ F₁ N₁
    refine done (m₁ x) news₁ h tk hJ ?_ N₁
    have e : (fun y => if y = x then m₁ x else m₀ y) = m₁ := by
      funext y
      by_cases h1 : y = x
      · simp [h1]
      · simp only [if_neg h1]; exact (hm y h1).symm
    rw [e]; exact F₁

/-- one object of the ledger turns, the rest stands -/
def TPost (h₀ : Heap) (L : Addr) (x : Str) (m₀ : Str → Option Value) (l : Addr) (P : Obj → Prop) (rest : List (Addr × Obj)) (I : Addr) (oI : Obj) (s₁ : Shared) (Q : Flow → Shared → Prop) (f : Flow) (s₂ : Shared) : Prop :=
  match f with
  | .ret v => Q (.ret v) s₂
  | .brk => Q .next s₂
  | _ => ∃ h' tk m' o', s₂ = { s₁ with heap := h', toks := tk } ∧ Fr h₀ L h' m' ∧ News h₀ L h' ((I, oI) :: (l, o') :: rest) ∧ (∀ z, z ≠ x → m' z = m₀ z) ∧ P o'
theorem TPost.end {L : Addr} {m₀ : Str → Option Value} {l : Addr} {P : Obj → Prop} {rest : List (Addr × Obj)} {I : Addr} {oI o' : Obj} {s₁ : Shared} {h' : Heap} {tk : Nat} {m' : Str → Option Value}
    (F : Fr h₀ L h' m') (N : News h₀ L h' ((I, oI) :: (l, o') :: rest)) (hm : ∀ z, z ≠ x → m' z = m₀ z) (hj : P o') : TPost h₀ L x m₀ l P rest I oI s₁ Q .next { s₁ with heap := h', toks := tk } :=
  ⟨h', tk, m', o', rfl, F, N, hm, hj⟩

theorem loop_range1 {r : Addr} {a₀ b₀ c₀ : Int} {t₀ u₀ v₀ : Tok} (n : Nat) {m₀ : Str → Option Value} {l : Addr} {o₀ : Obj} {rest : List (Addr × Obj)} (P : Nat → Obj → Prop)
    (hh : A.handled = none) (hr : IsRange s.heap r a₀ b₀ c₀ t₀ u₀ v₀) (hsmall : Builtin.Range.small a₀ b₀ c₀ = true) (hsz : Builtin.Range.rangeSize a₀ b₀ c₀ = (n : Int))
    (F : Fr h₀ env.locals s.heap m₀) (N : News h₀ env.locals s.heap ((l, o₀) :: rest)) (hj : P 0 o₀)
    (turn : ∀ i t o h tk I oI, i < n → P i o → I ≠ l → (∀ p ∈ rest, p.1 ≠ I) → Fr h₀ env.locals h (fun y => if y = x then some (.int (a₀ + (i : Int) * c₀) t) else m₀ y) → News h₀ env.locals h ((I, oI) :: (l, o) :: rest) →
      wpAny (model prog w) A (execs body env) (TPost h₀ env.locals x m₀ l (P (i + 1)) rest I oI { s with heap := h, toks := tk } Q) E { s with heap := h, toks := tk })
    (done : ∀ (u : Option Value) o h tk, P n o → Fr h₀ env.locals h (fun y => if y = x then u else m₀ y) → News h₀ env.locals h ((l, o) :: rest) → Q .next { s with heap := h, toks := tk }) :
    wpAny (model prog w) A (pyIter (.ref r)) (fun it s₂ => LoopAtV prog w A h₀ env x body Q E it s₂) E s := by
  refine loop_rangeC n (fun i nx => ∃ o, nx = (l, o) :: rest ∧ P i o) hh hr hsmall hsz F N ⟨_, rfl, hj⟩ ?_ ?_
  · rintro i t news₁ h tk I oI hi ⟨o, rfl, hP⟩ hn F₁ N₁
    refine wpAny_mono (turn i t o h tk I oI hi hP (fun e => hn _ (List.mem_cons_self) e.symm) (fun p hp => hn p (List.mem_cons_of_mem _ hp)) F₁ N₁) (fun f s₂ p => ?_) fun _ _ e => e
    have hn' : ∀ o' : Obj, ∀ p ∈ (l, o') :: rest, p.1 ≠ I := fun o' p hp => by
      rcases List.mem_cons.mp hp with rfl | hp
      · exact hn (l, o) List.mem_cons_self
      · exact hn p (List.mem_cons_of_mem _ hp)
    cases f with
    | ret v => exact p
    | brk => exact p
    | next => obtain ⟨h', tk', m', o', e, F', N', hm', hj'⟩ := p; exact ⟨h', tk', m', _, e, F', N', hn' o', hm', o', rfl, hj'⟩
    | cont => obtain ⟨h', tk', m', o', e, F', N', hm', hj'⟩ := p; exact ⟨h', tk', m', _, e, F', N', hn' o', hm', o', rfl, hj'⟩
  · rintro u news₁ h tk ⟨o, rfl, hP⟩ F₁ N₁
    exact done u o h tk hP F₁ N₁
end

/-- a new list of texts comes back, all else stands -/
def GivesStrs (s : Shared) (ss : List Str) (v : Value) (s' : Shared) : Prop :=
  Keeps s s' ∧ ∃ r vs c, v = .ref r ∧ s.heap.get? r = none ∧ s'.heap.get? r = some (listOf vs.toArray c) ∧ StrsAre vs ss
theorem GivesStrs.intro {s : Shared} {ss : List Str} {h' : Heap} {tk : Nat} {L r : Addr} {m : Str → Option Value} {vs : List Value} {c : Nat} {news : List (Addr × Obj)} (F : Fr s.heap L h' m) (N : News s.heap L h' news) (hm : (r, listOf vs.toArray c) ∈ news)
    (hS : StrsAre vs ss) : GivesStrs s ss (.ref r) { s with heap := h', toks := tk } :=
  ⟨⟨h', tk, rfl, F.keep⟩, r, vs, c, rfl, (N _ hm).2.2, (N _ hm).1, hS⟩
theorem strsAre_snoc {vs : List Value} {ss : List Str} (h : StrsAre vs ss) (x : Str) (t : Tok) : StrsAre (vs ++ [.str x t]) (ss ++ [x]) := StrsAre.append' h (.cons x t .nil)
end Mine
end

section -- part Enc
open PySem PySem.W PySem.Calls PyProof.Rows
set_option Elab.async false
set_option maxRecDepth 100000
set_option maxHeartbeats 4000000
namespace Mine
open Builtin._codecs

theorem range_twice {β : Type} {f : Nat → β → Sem (ForInStep β)} {n : Nat} {init fin : β} (hz : n = 0 → init = fin) (f1 : 0 < n → ∀ k, f k init = pure (.yield fin)) (f2 : ∀ k, f k fin = pure (.done fin)) :
    forIn [:n] init f = (pure fin : Sem β) := by
  rw [Std.Legacy.Range.forIn_eq_forIn_range']
  cases n with
  | zero =>
    show forIn [] init f = _
    rw [List.forIn_nil, hz rfl]
  | succ n =>
    have e : List.range' 0 (Std.Legacy.Range.size [:n+1]) 1 = 0 :: List.range' 1 n 1 := by simp [Std.Legacy.Range.size, List.range'_succ]
    show forIn (List.range' 0 (Std.Legacy.Range.size [:n+1]) 1) init f = _
    rw [e, List.forIn_cons, f1 (Nat.succ_pos _), pure_bind]
    dsimp only
    cases n with
    | zero => rfl
    | succ n => rw [List.range'_succ, List.forIn_cons, f2, pure_bind]

theorem utf8_ascii {c : Nat} (h : c < 128) : Str.utf8Of c = [c.toUInt8] := by
  unfold Str.utf8Of
  simp [h]
theorem fold_ascii {l : List Nat} (h : ∀ c ∈ l, c < 128) (a : Array UInt8) : l.foldl (fun acc y => acc ++ (Str.utf8Of y).toArray) a = a ++ (l.map (·.toUInt8)).toArray := by
  induction l generalizing a with
  | nil => simp
  | cons c l ih =>
    rw [List.foldl_cons, ih (fun c hc => h c (List.mem_cons_of_mem _ hc)), utf8_ascii (h c List.mem_cons_self)]
    simp

theorem narrow_run {self : Value} {x : Str} (hx : ∀ c ∈ x.cps.toList, c < 128) (hz : x.length ≤ 4096) : encodeNarrow "str.encode" utf8Codec none self x = pure (x.cps.toList.map (·.toUInt8)).toArray := by
  have hbad : ∀ c ∈ x.cps.toList, Str.isSurrogate c = false := fun c hc => by
    have := hx c hc
    unfold Str.isSurrogate
    simp; omega
  have hfind : Array.findIdx? Str.isSurrogate x.cps = none := by
    rw [Array.findIdx?_eq_none_iff]
    intro c hc
    exact hbad c (Array.mem_toList_iff.mpr hc)
  unfold encodeNarrow
  refine (congrArg (· >>= _) (range_twice (fin := (x.cps.size, (x.cps.toList.map (·.toUInt8)).toArray, {})) ?_ ?_ ?_)).trans ?_
  · intro h0
    have e : x.cps = #[] := Array.eq_empty_of_size_eq_zero h0
    simp [e]
  · intro h0 k
    have hs : 0 < x.cps.size := h0
    have h1 : x.cps[0]? = some x.cps[0] := Array.getElem?_eq_getElem hs
    have hb : Str.isSurrogate x.cps[0] = false := hbad _ (by simp)
    rw [if_neg (by simp [sizeLine_eq])]
    dsimp only
    rw [h1]
    dsimp only [utf8Codec]
    refine (if_pos (show (!Str.isSurrogate x.cps[0]) = true by rw [hb]; rfl)).trans ?_
    simp only [Array.extract_size, hfind, Option.getD_none, Nat.zero_add]
    rw [← Array.foldl_toList, fold_ascii hx]
    simp
  · intro k
    have h1 : x.cps[x.cps.size]? = none := by simp
    rw [if_neg (by simp [sizeLine_eq]; have : x.cps.size ≤ 4096 := hz; omega)]
    dsimp only
    rw [h1]
  · rfl

section
variable {prog : Program} {w : World} {A : Around} {E : Value → Shared → Prop} {s : Shared}
theorem call_encode {x : Str} {t : Tok} {Q : Value → Shared → Prop} (hx : ∀ c ∈ x.cps.toList, c < 128) (hz : x.length ≤ 4096)
    (h : ∀ t k, Q (.bytes (x.cps.toList.map (·.toUInt8)).toArray t) { s with toks := k }) : wpAny (model prog w) A (call (.builtin "str.encode") [.str x t]) Q E s := by
  refine wpAny_call_entry F.slot_str_encode (typeIs_str _ _ _) F.entry_str_encode ?_ (F.args_str_encode_1 _)
  rw [encode_tree, encodeRoad_utf8, narrow_run hx hz, pure_bind]
  refine wpAny_bind (wpAny_mkBytes ?_ (by simp [sizeLine_eq]; have : x.cps.size ≤ 4096 := hz; omega))
  exact wpAny_pure ⟨_, rfl, h _ _⟩
end
theorem method_encode {M : Model} {A : Around} {E : Value → Shared → Prop} {s : Shared} {x : Str} {t : Tok} {pl : Sem Bool} {Q : Value × List Value → Shared → Prop} (h : Q (.builtin "str.encode", [.str x t]) s) :
    wpAny M A (getMethod (.str x t) (Str.ofString "encode") pl) Q E s := GM.of (.str x t) (typeIs_str _ _ _) F.slot_str_encode F.type_str_encode GM.noRef h
end Mine
end

section -- part Base5
open PySem PySem.W PySem.Calls PyProof.Rows
set_option Elab.async false
set_option maxRecDepth 100000
set_option maxHeartbeats 4000000
namespace Mine
section
variable {prog : Program} {w : World} {A : Around} {E : Value → Shared → Prop} {s : Shared} {K : Frag} {Q : Value → Shared → Prop}
/-- a def whose arguments stand in cells is entered -/
theorem enterCells {name qual : Str} {params : Arguments} {body : List Stmt} {scope : Scope} {dV kV doc pm cdv ct oc : Value} {an od : Option Addr} {osl : Array (Option Value)} {f : Addr} {vals : List Value} {kw : List (Str × Value)} {binds : List (Str × Value)}
    (X : K.In s.heap) (hlim : s.heap.NoLimit)
    (ho : K.lookup f = some ⟨oc, od, .func (fnOf name qual params body scope dV kV doc pm an cdv ct), osl⟩) (hcd : codeIn K cdv qual = true) (hroom : A.depth < recursionLimit)
    (hbind : BindsTo s (fnOf name qual params body scope dV kV doc pm an cdv ct) ⟨vals, kw⟩ binds)
    (hkind : ∀ n, ∀ x ∈ binds, scope.names.lookup x.1 = some .local ∨ (scope.names.lookup x.1 = some .cell ∧ ((cellsFrom n scope.names []).lookup x.1).isSome = true))
    (hnd : ((cellsFrom 0 scope.names []).map (·.1)).Nodup)
    (h : ∀ L h₁ tk cells, Fr s.heap L h₁ (bindL (envOfC qual scope L f cdv).kindOf binds fun _ => none) → News s.heap L h₁ cells → CellsAre (bindC (envOfC qual scope L f cdv).kindOf binds fun _ => none) (cellsFrom (L + 1) scope.names []) cells →
      wpAny (model prog w) (A.deeper (envOfC qual scope L f cdv)) (execs body (envOfC qual scope L f cdv))
        (fun fl s' => Q (match fl with | .ret v => v | _ => .none) s')
        (fun e s' => wpAny (model prog w) (A.deeper (envOfC qual scope L f cdv)) (leaving (envOfC qual scope L f cdv) e) (fun _ s'' => E e s'') (fun e' s'' => E e' s'') s')
        { s with heap := h₁, toks := tk })
    (hco : scope.isCoroutine = false) (hgen : scope.isGenerator = false) (hk : scope.kind = .function) : wpAny (model prog w) A (call (.ref f) vals kw) Q E s := by
  refine wpAny_call ?_
  refine codeAny_call_function (fd := fnOf name qual params body scope dV kV doc pm an cdv ct) (body := body) hroom (X _ _ ho) rfl hco hgen rfl (codeRec_of X hcd) (hbind _ _ _ _ ?_)
  refine wpAny_newFunctionEnv_cells hk (hkind _) fun env' he s' x => ?_
  subst he
  refine ⟨hlim.keeps x.toInCall.keep, codeAny_func ?_⟩
  obtain ⟨h₁, tk, rfl, _⟩ := x.done
  have hk₁ := x.toInCall.keep
  obtain ⟨cells, NC, Y⟩ := Cl.news (h₀ := s.heap) (Nat.le_refl _) fun n c hm => ⟨x.cell n c (lookup_of_mem_nodup (cellsFrom_names scope.names 0 (s.heap.objs.size + 1) [] [] rfl ▸ hnd) hm), x.above n c hm⟩
  exact h s.heap.objs.size h₁ tk cells ⟨x.toInCall.ns, hk₁, Nat.le_refl _⟩ NC Y
end
end Mine
end

section -- part Comp2
open PySem PySem.W PySem.Calls PyProof.Rows
set_option Elab.async false
set_option maxRecDepth 100000
set_option maxHeartbeats 4000000
namespace Mine

theorem compTurn_two0 (elt t1 i1 t2 i2 : Expr) (scope : Scope) (pos : Pos) (it acc : Value) (env : Env) :
    compTurn (.ListComp elt [⟨t1, i1, [], 0⟩, ⟨t2, i2, [], 0⟩] scope pos) 0 it acc env = (standAt i1.pos >>= fun _ => pyNext it >>= fun r => match r with
      | none => pure (.done .next)
      | some v => letOwnedTupleGo t1 it v >>= fun _ => assign t1 env v >>= fun _ =>
        (eval i2 env >>= fun x => standAt i2.pos >>= fun _ => foldedSetIterable i2 env x >>= fun x => holding [x] (pyIter x) >>= fun i =>
          runOwn (.compStart (.ListComp elt [⟨t1, i1, [], 0⟩, ⟨t2, i2, [], 0⟩] scope pos) 1 i acc env) env >>= fun _ =>
          again (.compLoop (.ListComp elt [⟨t1, i1, [], 0⟩, ⟨t2, i2, [], 0⟩] scope pos) 0 it acc env))) := by rfl
theorem compTurn_two1 (elt t1 i1 t2 i2 : Expr) (scope : Scope) (pos : Pos) (it acc : Value) (env : Env) :
    compTurn (.ListComp elt [⟨t1, i1, [], 0⟩, ⟨t2, i2, [], 0⟩] scope pos) 1 it acc env = (standAt i2.pos >>= fun _ => pyNext it >>= fun r => match r with
      | none => pure (.done .next)
      | some v => letOwnedTupleGo t2 it v >>= fun _ => assign t2 env v >>= fun _ =>
        (eval elt env >>= fun x => call (.builtin "list.append") [acc, x] >>= fun _ => pure ()) >>= fun _ =>
          again (.compLoop (.ListComp elt [⟨t1, i1, [], 0⟩, ⟨t2, i2, [], 0⟩] scope pos) 1 it acc env)) := by rfl

section
variable {prog : Program} {w : World} {A : Around} {R : Result → Shared → Prop} {s : Shared}

theorem comp2_start1 {elt t1 i1 t2 i2 : Expr} {scope : Scope} {pos : Pos} {it acc : Value} {env : Env}
    (h0 : codeAny (model prog w) A (.compLoop (.ListComp elt [⟨t1, i1, [], 0⟩, ⟨t2, i2, [], 0⟩] scope pos) 1 it acc env) R s)
    (h : wpAny (model prog w) A (pyIter it) (fun it' s' => codeAny (model prog w) A (.compLoop (.ListComp elt [⟨t1, i1, [], 0⟩, ⟨t2, i2, [], 0⟩] scope pos) 1 it' acc env) R s')
      (notedBy (model prog w) A env fun x s' => R (.error x) s') s) :
    codeAny (model prog w) A (.compStart (.ListComp elt [⟨t1, i1, [], 0⟩, ⟨t2, i2, [], 0⟩] scope pos) 1 it acc env) R s := by
  refine codeAny_of_tree ?_
  show wpAny _ _ ((compStart (.ListComp elt [⟨t1, i1, [], 0⟩, ⟨t2, i2, [], 0⟩] scope pos) 1 it acc env).onRaise (fun x => do noteFrame x env; standAt theWindowsPlace)) _ _ s
  refine wpAny_notedAt ?_
  unfold compStart
  show wpAny _ _ (ask >>= _) _ _ s
  refine wpAny_bind (wpAny_askSetting (wpAny_ite ?_))
  split
  · first
      | exact wpAny_bind (wpAny_pure (wpAny_pure (And.intro rfl h0)))
      | exact wpAny_pure (And.intro rfl h0)
  · first
      | exact wpAny_bind (wpAny_rule (wpAny_bind (wpAny_standAt (wpAny_bind (wpAny_mono h (fun it' s' h' => wpAny_pure (And.intro rfl h')) fun _ _ x => x)))))
      | (refine wpAny_bind (wpAny_rule ?_); show wpAny _ _ (standAt i2.pos >>= _) _ _ s; exact wpAny_bind (wpAny_standAt (wpAny_bind (wpAny_mono h (fun it' s' h' => wpAny_pure (And.intro rfl h')) fun _ _ x => x))))

/-- the inner clause's turns -/
theorem comp2_inner {elt i1 i2 : Expr} {x1 x2 : Str} {px1 px2 : Pos} {scope : Scope} {pos : Pos} {I D : Addr} {n : Nat} {P : Nat → Value → Prop} {St : Nat → Heap → Prop} {cenv : Env} {m : Str → Option Value}
    (W : Walks prog w A I [I] [I] n P St) (J : Nat → List Value → Prop)
    (hx : cenv.kindOf x2 = some .local) (hp : (cenv.scope.kind == .class || (cenv.scope.kind == .module && cenv.locals != cenv.globals)) = false)
    (hDC : D ≠ cenv.locals) (hDI : D ≠ I) (hCI : cenv.locals ≠ I) (hst : St 0 s.heap) {ys₀ : Array Value} (hacc : s.heap.PlainList D ys₀) (hn : s.heap.Ns cenv.locals m) (hj : J 0 ys₀.toList) (hz : ys₀.size + n ≤ sizeLine)
    (helt : ∀ k u s₂ m₂, k < n → P k u → s₂.heap.Ns cenv.locals m₂ → m₂ x2 = some u → (∀ z, z ≠ x2 → m₂ z = m z) → (∀ b o, b ≠ cenv.locals → b ≠ I → b ≠ D → s.heap.get? b = some o → s₂.heap.get? b = some o) →
      wpAny (model prog w) A (eval elt cenv) (fun y s₃ => (∀ ys, J k ys → J (k + 1) (ys ++ [y])) ∧ Keeps s₂ s₃) (notedBy (model prog w) A cenv fun e s' => R (.error e) s') s₂)
    (hR : ∀ h' tk m' ys, h'.Ns cenv.locals m' → (∀ z, z ≠ x2 → m' z = m z) → h'.PlainList D ys → ys.size = ys₀.size + n → J n ys.toList → (∀ b o, b ≠ cenv.locals → b ≠ I → b ≠ D → s.heap.get? b = some o → h'.get? b = some o) →
      R (.ok .next) { s with heap := h', toks := tk }) :
    codeAny (model prog w) A (.compLoop (.ListComp elt [⟨.Name x1 px1, i1, [], 0⟩, ⟨.Name x2 px2, i2, [], 0⟩] scope pos) 1 (.ref I) (.ref D) cenv) R s := by
  refine codeAny_loop rfl
    (fun k s' => ∃ h' tk m' ys i, s' = { s with heap := h', toks := tk } ∧ St i h' ∧ h'.PlainList D ys ∧ ys.size = ys₀.size + i ∧ h'.Ns cenv.locals m' ∧ (∀ z, z ≠ x2 → m' z = m z) ∧ J i ys.toList ∧ i ≤ n ∧ k = n + 1 - i ∧
      (∀ b o, b ≠ cenv.locals → b ≠ I → b ≠ D → s.heap.get? b = some o → h'.get? b = some o)) ?_ (n + 1)
    ⟨s.heap, s.toks, m, ys₀, 0, rfl, hst, hacc, rfl, hn, fun _ _ => rfl, hj, Nat.zero_le _, rfl, fun _ _ _ _ _ e => e⟩
  rintro k s' ⟨H, tk, m', ys, i, rfl, hst', hacc', hsz, hn', hm', hj', hi, rfl, hk⟩
  show wpAny _ _ ((compTurn (.ListComp elt [⟨.Name x1 px1, i1, [], 0⟩, ⟨.Name x2 px2, i2, [], 0⟩] scope pos) 1 (.ref I) (.ref D) cenv).onRaise (fun x => do noteFrame x cenv; theTreesLotGoes x)) _ _ _
  refine wpAny_noted ?_
  rw [compTurn_two1]
  refine wpAny_bind (wpAny_standAt (wpAny_bind ?_))
  by_cases hlt : i < n
  · refine W.item i _ _ _ hlt hst' fun v h₁ tk₁ hPv hst₁ hk₁ => ?_
    have hk₁' : ∀ b o, b ≠ I → H.get? b = some o → h₁.get? b = some o := fun b o hb e => hk₁ b o (by simpa using hb) e
    refine wpAny_bind (wpAny_of_eq (a := ()) rfl ?_)
    refine wpAny_bind (wpAny_assign_Name (wpAny_storeName_local hx (hn'.at' fun o e => hk₁' _ o hCI e) (fun h₂ hn₂ hs₂ => ?_) hp))
    have up₂ : ∀ b o, b ≠ cenv.locals → b ≠ I → H.get? b = some o → h₂.get? b = some o := fun b o hbC hbI e => hs₂.extBut b o hbC (hk₁' b o hbI e)
    have hst₂ : St (i + 1) h₂ := W.frame _ _ _ hst₁ fun b hb o e => hs₂.extBut b o (fun h => hCI (h ▸ List.mem_singleton.mp hb)) e
    refine wpAny_bind (wpAny_bind (wpAny_mono (helt i v _ _ hlt hPv hn₂ (by simp) (fun z hz => by simp only [if_neg hz]; exact hm' z hz) (fun b o hbC hbI hbD e => up₂ b o hbC hbI (hk b o hbC hbI hbD e))) (fun y s₃ h₃ => ?_) fun _ _ e => e))
    obtain ⟨hJ, h₃, tk₃, rfl, hk₃⟩ := h₃
    refine wpAny_bind (wpAny_list_append_plain (hsz := by omega) ((hacc'.at fun o e => up₂ D o hDC hDI e).at fun o e => hk₃ _ o e) fun h₄ hl₄ hs₄ => ?_)
    refine wpAny_pure (wpAny_pure ⟨rfl, n + 1 - (i + 1), by omega, h₄, tk₃, _, ys.push y, i + 1, rfl, ?_, hl₄, by simp [hsz]; omega, (hn₂.keeps hk₃).sameBut hs₄ (Ne.symm hDC), (fun z hz => by simp only [if_neg hz]; exact hm' z hz), by simpa using hJ _ hj', hlt, rfl,
      fun b o hbC hbI hbD e => hs₄.extBut b o hbD (hk₃ b o (up₂ b o hbC hbI (hk b o hbC hbI hbD e)))⟩)
    exact W.frame _ _ _ hst₂ fun b hb o e => hs₄.extBut b o (fun h => hDI (h ▸ List.mem_singleton.mp hb)) (hk₃ b o e)
  · have hin : i = n := by omega
    subst hin
    refine W.done _ _ _ hst' fun h₁ tk₁ hk₁ => ?_
    have hk₁' : ∀ b o, b ≠ I → H.get? b = some o → h₁.get? b = some o := fun b o hb e => hk₁ b o (by simpa using hb) e
    exact wpAny_pure (hR h₁ tk₁ m' ys (hn'.at' fun o e => hk₁' _ o hCI e) hm' (hacc'.at fun o e => hk₁' _ o hDI e) hsz hj' fun b o hbC hbI hbD e => hk₁' b o hbI (hk b o hbC hbI hbD e))

/-- the outer clause's turns -/
theorem comp2_outer {elt i1 i2 : Expr} {x1 x2 : Str} {px1 px2 : Pos} {scope : Scope} {pos : Pos} {I D : Addr} {fp wr : List Addr} {n n2 : Nat} {P P2 : Nat → Value → Prop} {St : Nat → Heap → Prop} {cenv : Env} {m : Str → Option Value}
    (W : Walks prog w A I fp wr n P St) (J : Nat → Nat → List Value → Prop)
    (hx1 : cenv.kindOf x1 = some .local) (hx : cenv.kindOf x2 = some .local) (hp : (cenv.scope.kind == .class || (cenv.scope.kind == .module && cenv.locals != cenv.globals)) = false) (hx12 : x1 ≠ x2)
    (hDC : D ≠ cenv.locals) (hDf : D ∉ fp) (hCf : cenv.locals ∉ fp) (hst : St 0 s.heap) (hacc : s.heap.PlainList D #[]) (hn : s.heap.Ns cenv.locals m) (hj : J 0 0 []) (hz : n * n2 ≤ sizeLine)
    (hfold : ∀ x, foldedSetIterable i2 cenv x = pure x)
    (hiter : ∀ i v s₂ m₂ E', i < n → P i v → s₂.heap.Ns cenv.locals m₂ → m₂ x1 = some v → (∀ b o, b ≠ cenv.locals → b ∉ wr → b ≠ D → s.heap.get? b = some o → s₂.heap.get? b = some o) →
      wpAny (model prog w) A (eval i2 cenv) (fun xv s₃ => wpAny (model prog w) A (pyIter xv) (fun it s₄ => ∃ I2 St2, it = .ref I2 ∧ Walks prog w A I2 [I2] [I2] n2 P2 St2 ∧ St2 0 s₄.heap ∧ s₂.heap.get? I2 = none ∧ Keeps s₂ s₄) E' s₃) E' s₂)
    (helt : ∀ i k v u s₂ m₂ E', i < n → k < n2 → P i v → P2 k u → s₂.heap.Ns cenv.locals m₂ → m₂ x1 = some v → m₂ x2 = some u → (∀ b o, b ≠ cenv.locals → b ∉ wr → b ≠ D → s.heap.get? b = some o → s₂.heap.get? b = some o) →
      wpAny (model prog w) A (eval elt cenv) (fun y s₃ => (∀ ys, J i k ys → J i (k + 1) (ys ++ [y])) ∧ Keeps s₂ s₃) E' s₂)
    (hnext : ∀ i ys, i < n → J i n2 ys → J (i + 1) 0 ys)
    (hR : ∀ h' tk m' ys, h'.Ns cenv.locals m' → h'.PlainList D ys → J n 0 ys.toList → (∀ b o, b ≠ cenv.locals → b ∉ wr → b ≠ D → s.heap.get? b = some o → h'.get? b = some o) →
      R (.ok .next) { s with heap := h', toks := tk }) :
    codeAny (model prog w) A (.compLoop (.ListComp elt [⟨.Name x1 px1, i1, [], 0⟩, ⟨.Name x2 px2, i2, [], 0⟩] scope pos) 0 (.ref I) (.ref D) cenv) R s := by
  have hCw : cenv.locals ∉ wr := fun h => hCf (W.sub _ h)
  have hDw : D ∉ wr := fun h => hDf (W.sub _ h)
  refine codeAny_loop rfl
    (fun k s' => ∃ h' tk m' ys i, s' = { s with heap := h', toks := tk } ∧ St i h' ∧ h'.PlainList D ys ∧ ys.size = i * n2 ∧ h'.Ns cenv.locals m' ∧ J i 0 ys.toList ∧ i ≤ n ∧ k = n + 1 - i ∧
      (∀ b o, b ≠ cenv.locals → b ∉ wr → b ≠ D → s.heap.get? b = some o → h'.get? b = some o)) ?_ (n + 1)
    ⟨s.heap, s.toks, m, #[], 0, rfl, hst, hacc, by simp, hn, hj, Nat.zero_le _, rfl, fun _ _ _ _ _ e => e⟩
  rintro k s' ⟨H, tk, m', ys, i, rfl, hst', hacc', hsz, hn', hj', hi, rfl, hk⟩
  show wpAny _ _ ((compTurn (.ListComp elt [⟨.Name x1 px1, i1, [], 0⟩, ⟨.Name x2 px2, i2, [], 0⟩] scope pos) 0 (.ref I) (.ref D) cenv).onRaise (fun x => do noteFrame x cenv; theTreesLotGoes x)) _ _ _
  refine wpAny_noted ?_
  rw [compTurn_two0]
  refine wpAny_bind (wpAny_standAt (wpAny_bind ?_))
  by_cases hlt : i < n
  · refine W.item i _ _ _ hlt hst' fun v h₁ tk₁ hPv hst₁ hk₁ => ?_
    refine wpAny_bind (wpAny_of_eq (a := ()) rfl ?_)
    refine wpAny_bind (wpAny_assign_Name (wpAny_storeName_local hx1 (hn'.at' fun o e => hk₁ _ o hCw e) (fun h₂ hn₂ hs₂ => ?_) hp))
    have up₂ : ∀ b o, b ≠ cenv.locals → b ∉ wr → H.get? b = some o → h₂.get? b = some o := fun b o hbC hbw e => hs₂.extBut b o hbC (hk₁ b o hbw e)
    have hst₂ : St (i + 1) h₂ := W.frame _ _ _ hst₁ fun b hb o e => hs₂.extBut b o (fun h => hCf (h ▸ hb)) e
    have keep₂ : ∀ b o, b ≠ cenv.locals → b ∉ wr → b ≠ D → s.heap.get? b = some o → h₂.get? b = some o := fun b o hbC hbw hbD e => up₂ b o hbC hbw (hk b o hbC hbw hbD e)
    have hacc₂ : h₂.PlainList D ys := hacc'.at fun o e => up₂ D o hDC hDw e
    refine wpAny_bind (wpAny_mono (hiter i v _ _ _ hlt hPv hn₂ (by simp) keep₂) (fun xv s₃ h₃ => wpAny_bind (wpAny_standAt (wpAny_bind (wpAny_of_eq (hfold xv) (wpAny_bind (wpAny_holding (wpAny_mono h₃ (fun it s₄ h₄ => ?_) fun _ _ e => e))))))) fun _ _ e => e)
    obtain ⟨I2, St2, rfl, W2, hst2, hI2, h₄, tk₄, rfl, hk₄⟩ := h₄
    have hsome : ∀ b o, h₂.get? b = some o → b ≠ I2 := fun b o e hb => by subst hb; rw [hI2] at e; cases e
    have hDI : D ≠ I2 := by obtain ⟨_, e⟩ := hacc₂; exact hsome _ _ e
    have hCI : cenv.locals ≠ I2 := by obtain ⟨o, _, _, e, _⟩ := hn₂; exact hsome _ _ e
    have hacc₄ : h₄.PlainList D ys := hacc₂.at fun o e => hk₄ _ o e
    have hn₄ := hn₂.keeps hk₄
    have hle : i * n2 + n2 ≤ n * n2 := by
      have := Nat.mul_le_mul_right n2 hlt
      rw [Nat.succ_mul] at this
      exact this
    refine wpAny_bind (wpAny_runOwn ?_)
    have loop : ∀ R' : Result → Shared → Prop, (∀ h' tk m' zs, h'.Ns cenv.locals m' → (∀ z, z ≠ x2 → m' z = (fun y => if y = x1 then some v else _) z) → h'.PlainList D zs → zs.size = ys.size + n2 → J i n2 zs.toList → (∀ b o, b ≠ cenv.locals → b ≠ I2 → b ≠ D → h₄.get? b = some o → h'.get? b = some o) →
        R' (.ok .next) { s with heap := h', toks := tk }) → codeAny (model prog w) A (.compLoop (.ListComp elt [⟨.Name x1 px1, i1, [], 0⟩, ⟨.Name x2 px2, i2, [], 0⟩] scope pos) 1 (.ref I2) (.ref D) cenv) R' { s with heap := h₄, toks := tk₄ } := fun R' hR' =>
      comp2_inner (s := { s with heap := h₄, toks := tk₄ }) W2 (J i) hx hp hDC hDI hCI hst2 hacc₄ hn₄ hj' (by omega) (fun k u s₅ m₅ hkn hP2 hn₅ hm₅ hmm keep₅ =>
        helt i k v u s₅ m₅ _ hlt hkn hPv hP2 hn₅ (by rw [hmm x1 hx12]; simp) hm₅ fun b o hbC hbw hbD e => keep₅ b o hbC (hsome b o (keep₂ b o hbC hbw hbD e)) hbD (hk₄ b o (keep₂ b o hbC hbw hbD e))) hR'
    show codeAny (model prog w) A _ _ _
    refine comp2_start1 (loop _ ?_) (W2.self 0 _ _ _ hst2 (loop _ ?_)) <;>
      (intro h' tk' m'' zs hn'' _ hl'' hsz'' hJ'' hk''
       exact wpAny_pure ⟨rfl, n + 1 - (i + 1), by omega, h', tk', m'', zs, i + 1, rfl, W.frame _ _ _ hst₂ fun b hb o e => hk'' b o (fun h => hCf (h ▸ hb)) (hsome b o e) (fun h => hDf (h ▸ hb)) (hk₄ b o e), hl'',
        by rw [hsz'', hsz, Nat.succ_mul], hn'', hnext i _ hlt hJ'', hlt, rfl,
        fun b o hbC hbw hbD e => hk'' b o hbC (hsome b o (keep₂ b o hbC hbw hbD e)) hbD (hk₄ b o (keep₂ b o hbC hbw hbD e))⟩)
  · have hin : i = n := by omega
    subst hin
    refine W.done _ _ _ hst' fun h₁ tk₁ hk₁ => ?_
    exact wpAny_pure (hR h₁ tk₁ m' ys (hn'.at' fun o e => hk₁ _ o hCw e) (hacc'.at fun o e => hk₁ _ o hDw e) hj' fun b o hbC hbw hbD e => hk₁ b o hbw (hk b o hbC hbw hbD e))
end

section
variable {prog : Program} {w : World} {A : Around} {E : Value → Shared → Prop} {env : Env}

/-- what the turns of a comprehension of two clauses need: the inner iterable, the element, the step from one outer turn to the next -/
structure Turns2 (prog : Program) (w : World) (A : Around) (env : Env) (scope : Scope) (cl : List (Str × Addr)) (x1 x2 : Str) (elt i2 : Expr) (wr : List Addr) (n n2 : Nat) (P P2 : Nat → Value → Prop) (J : Nat → Nat → List Value → Prop) (s₂ : Shared) : Prop where
  iter : ∀ C i v s₃ m₃ E', s₂.heap.objs.size ≤ C → i < n → P i v → s₃.heap.Ns C m₃ → m₃ x1 = some v → (∀ b o, b ∉ wr → s₂.heap.get? b = some o → s₃.heap.get? b = some o) →
    wpAny (model prog w) A (eval i2 (compEnvC scope cl C env)) (fun xv s₄ => wpAny (model prog w) A (pyIter xv) (fun it s₅ => ∃ I2 St2, it = .ref I2 ∧ Walks prog w A I2 [I2] [I2] n2 P2 St2 ∧ St2 0 s₅.heap ∧ s₃.heap.get? I2 = none ∧ Keeps s₃ s₅) E' s₄) E' s₃
  elt : ∀ C i k v u s₃ m₃ E', s₂.heap.objs.size ≤ C → i < n → k < n2 → P i v → P2 k u → s₃.heap.Ns C m₃ → m₃ x1 = some v → m₃ x2 = some u → (∀ b o, b ∉ wr → s₂.heap.get? b = some o → s₃.heap.get? b = some o) →
    wpAny (model prog w) A (eval elt (compEnvC scope cl C env)) (fun y s₄ => (∀ ys, J i k ys → J i (k + 1) (ys ++ [y])) ∧ Keeps s₃ s₄) E' s₃
  next : ∀ i ys, i < n → J i n2 ys → J (i + 1) 0 ys

theorem comp2_block {elt i1 i2 : Expr} {x1 x2 : Str} {px1 px2 : Pos} {scope : Scope} {cl : List (Str × Addr)} {pos : Pos} {s₂ : Shared} {I : Addr} {fp wr : List Addr} {n n2 : Nat} {P P2 : Nat → Value → Prop}
    {St : Nat → Heap → Prop} (W : Walks prog w A I fp wr n P St) (J : Nat → Nat → List Value → Prop) {RR : Value → Addr → Result → Shared → Prop}
    (hcell : ∀ y ∈ scope.names, y.2 ≠ .cell) (hkind : scope.kind = .function) (hx1 : scope.names.lookup x1 = some .local) (hx2 : scope.names.lookup x2 = some .local) (hx12 : x1 ≠ x2)
    (hst : St 0 s₂.heap) (hfp : ∀ b ∈ fp, b < s₂.heap.objs.size) (hj : J 0 0 []) (hz : n * n2 ≤ sizeLine) (hfold : ∀ C x, foldedSetIterable i2 (compEnvC scope cl C env) x = pure x)
    (hq : Turns2 prog w A env scope cl x1 x2 elt i2 wr n n2 P P2 J s₂)
    (hRR : ∀ D C h' tk m' ys, s₂.heap.get? D = none → s₂.heap.get? C = none → D ≠ C → h'.Ns C m' → h'.PlainList D ys → J n 0 ys.toList →
      (∀ b o, b ∉ wr → s₂.heap.get? b = some o → h'.get? b = some o) → RR (.ref D) C (.ok .next) { s₂ with heap := h', toks := tk }) :
    wpAny (model prog w) A (newList []) (fun acc s₃ => wpAny (model prog w) A (newFunctionEnv scope env.globals cl [] env.qual none .none (some env)) (fun cenv s₄ =>
      codeAny (model prog w) A (.compStart (.ListComp elt [⟨.Name x1 px1, i1, [], 0⟩, ⟨.Name x2 px2, i2, [], 0⟩] scope pos) 0 (.ref I) acc { cenv with scope := relabel scope env }) (RR acc cenv.locals) s₄) E s₃) E s₂ := by
  refine wpAny_newObj_type (wpAny_newFunctionEnv hcell (by intro y hy; simp at hy) (fun h₁ hns₁ hsb₁ => ?_) hkind)
  dsimp only at hns₁ hsb₁ ⊢
  generalize hH2 : s₂.heap.push { cls := .type "list", dict := none, data := .seq ([] : List Value).toArray } = H2 at hns₁ hsb₁ ⊢
  have hC : H2.objs.size = s₂.heap.objs.size + 1 := by rw [← hH2, Heap.size_push]
  have hDC : s₂.heap.objs.size ≠ H2.objs.size := by rw [hC]; exact Nat.ne_of_lt (Nat.lt_succ_self _)
  have hCle : s₂.heap.objs.size ≤ H2.objs.size := by rw [hC]; exact Nat.le_succ _
  have below : ∀ b, b < s₂.heap.objs.size → b ≠ H2.objs.size ∧ b ≠ s₂.heap.objs.size := fun b hb => ⟨by rw [hC]; exact Nat.ne_of_lt (Nat.lt_succ_of_lt hb), Nat.ne_of_lt hb⟩
  have hDf : s₂.heap.objs.size ∉ fp := fun hm => Nat.lt_irrefl _ (hfp _ hm)
  have hCf : H2.objs.size ∉ fp := fun hm => by have := hfp _ hm; rw [hC] at this; exact Nat.lt_irrefl _ (Nat.lt_of_succ_lt this)
  have old : ∀ b o, s₂.heap.get? b = some o → h₁.get? b = some o := fun b o e => hsb₁.extBut b o (below b (Heap.lt_size e)).1 (Heap.get?_push_of_some _ (hH2 ▸ Heap.get?_push_of_some _ e))
  have hacc : h₁.PlainList s₂.heap.objs.size #[] := ⟨_, hsb₁.extBut _ _ hDC (Heap.get?_push_of_some _ (hH2 ▸ Heap.get?_push_size _ rfl))⟩
  have hst₁ : St 0 h₁ := W.frame _ _ _ hst fun b _ o e => old b o e
  have fresh : ∀ a, s₂.heap.objs.size ≤ a → s₂.heap.get? a = none := fun a ha => by
    cases e : s₂.heap.get? a with
    | none => rfl
    | some o' => exact absurd (Heap.lt_size e) (Nat.not_lt.mpr ha)
  have loop : ∀ s₃ : Shared, s₃ = { s₂ with heap := h₁, toks := s₂.toks + ([] : List (Str × Value)).length } →
      codeAny (model prog w) A (.compLoop (.ListComp elt [⟨.Name x1 px1, i1, [], 0⟩, ⟨.Name x2 px2, i2, [], 0⟩] scope pos) 0 (.ref I) (.ref s₂.heap.objs.size) (compEnvC scope cl H2.objs.size env))
        (RR (.ref s₂.heap.objs.size) H2.objs.size) s₃ := by
    rintro s₃ rfl
    refine comp2_outer (s := { s₂ with heap := h₁, toks := s₂.toks + ([] : List (Str × Value)).length }) (cenv := compEnvC scope cl H2.objs.size env) W J (lookup_relabel_local hx1) (lookup_relabel_local hx2) (by simp [compEnvC, relabel, hkind]) hx12 hDC hDf hCf hst₁ hacc hns₁ hj hz (hfold _)
      (fun i v s₃ m₃ E' hi hv hn hm hk => hq.iter _ i v s₃ m₃ E' hCle hi hv hn hm fun b o hbf e => hk b o (below b (Heap.lt_size e)).1 hbf (below b (Heap.lt_size e)).2 (old b o e))
      (fun i k v u s₃ m₃ E' hi hkn hv hu hn hm hm2 hk => hq.elt _ i k v u s₃ m₃ E' hCle hi hkn hv hu hn hm hm2 fun b o hbf e => hk b o (below b (Heap.lt_size e)).1 hbf (below b (Heap.lt_size e)).2 (old b o e))
      hq.next fun h' tk m' ys hn hl hJ hk => ?_
    exact hRR _ _ h' tk m' ys (fresh _ (Nat.le_refl _)) (fresh _ (by rw [hC]; exact Nat.le_succ _)) hDC hn hl hJ fun b o hbf e =>
      hk b o (below b (Heap.lt_size e)).1 hbf (below b (Heap.lt_size e)).2 (old b o e)
  exact codeAny_compStart_list (loop _ rfl) (W.self 0 _ _ _ hst₁ (loop _ rfl))

end
end Mine
end

section -- part Comp3
open PySem PySem.W PySem.Calls PyProof.Rows
set_option Elab.async false
set_option maxRecDepth 100000
set_option maxHeartbeats 4000000
namespace Mine

/-- all but the namespace C stands, which holds m -/
def KeepsBut (C : Addr) (m : Str → Option Value) (s s' : Shared) : Prop := ∃ h tk, s' = { s with heap := h, toks := tk } ∧ (∀ b o, b ≠ C → s.heap.get? b = some o → h.get? b = some o) ∧ h.Ns C m

/-- every new object beside C, as a ledger, and what is in it -/
theorem all_news2 (h₀ h : Heap) (C : Addr) : ∃ news, News h₀ C h news ∧ ∀ b o, b ≠ C → h₀.get? b = none → h.get? b = some o → (b, o) ∈ news := by
  refine ⟨(List.range h.objs.size).filterMap fun b => if b = C ∨ h₀.get? b ≠ none then none else (h.get? b).map fun o => (b, o), ?_, ?_⟩
  · intro p hp
    obtain ⟨b, _, e⟩ := List.mem_filterMap.mp hp
    by_cases hb : b = C ∨ h₀.get? b ≠ none
    · rw [if_pos hb] at e; cases e
    · rw [if_neg hb] at e
      obtain ⟨o, ho, rfl⟩ := Option.map_eq_some_iff.mp e
      exact ⟨ho, fun q => hb (.inl q), by
        by_cases q : h₀.get? b = none
        · exact q
        · exact absurd (.inr q) hb⟩
  · intro b o hbC hb e
    refine List.mem_filterMap.mpr ⟨b, List.mem_range.mpr (Heap.lt_size e), ?_⟩
    rw [if_neg (fun z => z.elim hbC fun z => z hb), e]
    rfl
theorem all_of {h₀ h h' : Heap} {C : Addr} {m m' : Str → Option Value} {nw : List (Addr × Obj)} (hmem : ∀ b o, b ≠ C → h₀.get? b = none → h.get? b = some o → (b, o) ∈ nw) (F : Fr h₀ C h m) (F' : Fr h₀ C h' m') (N : News h₀ C h' nw) : ∀ b o, b ≠ C → h.get? b = some o → h'.get? b = some o := by
  intro b o hb e
  cases q : h₀.get? b with
  | none => exact (N _ (hmem b o hb q e)).1
  | some o' =>
    have := F.keep b o' q
    rw [e] at this
    cases this
    exact F'.keep b o q
/-- every new object beside C, as a ledger -/
theorem all_news (h₀ h : Heap) (C : Addr) : ∃ news, News h₀ C h news ∧ ∀ h', (∀ b o, h₀.get? b = some o → h.get? b = some o) → (∀ b o, h₀.get? b = some o → h'.get? b = some o) → News h₀ C h' news → ∀ b o, b ≠ C → h.get? b = some o → h'.get? b = some o := by
  obtain ⟨nw, N, hm⟩ := all_news2 h₀ h C
  refine ⟨nw, N, fun h' k k' N' b o hb e => ?_⟩
  cases q : h₀.get? b with
  | none => exact (N' _ (hm b o hb q e)).1
  | some o' =>
    have := k b o' q
    rw [e] at this
    cases this
    exact k' b o q

section
variable {prog : Program} {w : World} {A : Around} {R : Result → Shared → Prop} {s : Shared}

theorem comp3_loop {elt i1 : Expr} {x : Str} {px : Pos} {scope : Scope} {pos : Pos} {I D : Addr} {fp wr : List Addr} {n : Nat} {P : Nat → Value → Prop} {St : Nat → Heap → Prop} {cenv : Env} {m : Str → Option Value}
    (W : Walks prog w A I fp wr n P St) (J : Nat → List Value → Heap → Prop)
    (hJf : ∀ k ys h h', J k ys h → (∀ b o, b ≠ cenv.locals → b ∉ wr → b ≠ D → h.get? b = some o → h'.get? b = some o) → J k ys h')
    (hx : cenv.kindOf x = some .local) (hp : (cenv.scope.kind == .class || (cenv.scope.kind == .module && cenv.locals != cenv.globals)) = false)
    (hDC : D ≠ cenv.locals) (hDf : D ∉ fp) (hCf : cenv.locals ∉ fp) (hst : St 0 s.heap) (hacc : s.heap.PlainList D #[]) (hn : s.heap.Ns cenv.locals m) (hj : J 0 [] s.heap) (hz : n ≤ sizeLine)
    (helt : ∀ k u s₂ m₂ E' ys, k < n → P k u → s₂.heap.Ns cenv.locals m₂ → m₂ x = some u → (∀ b o, b ≠ cenv.locals → b ∉ wr → b ≠ D → s.heap.get? b = some o → s₂.heap.get? b = some o) → s.toks ≤ s₂.toks →
      J k ys s₂.heap → St (k + 1) s₂.heap → (∃ o, s₂.heap.get? D = some o) →
      wpAny (model prog w) A (eval elt cenv) (fun y s₃ => J (k + 1) (ys ++ [y]) s₃.heap ∧ KeepsBut cenv.locals m₂ s₂ s₃) E' s₂)
    (hR : ∀ h' tk m' ys, h'.Ns cenv.locals m' → h'.PlainList D ys → J n ys.toList h' → (∀ b o, b ≠ cenv.locals → b ∉ wr → b ≠ D → s.heap.get? b = some o → h'.get? b = some o) → s.toks ≤ tk →
      R (.ok .next) { s with heap := h', toks := tk }) :
    codeAny (model prog w) A (.compLoop (.ListComp elt [⟨.Name x px, i1, [], 0⟩] scope pos) 0 (.ref I) (.ref D) cenv) R s := by
  have hCw : cenv.locals ∉ wr := fun h => hCf (W.sub _ h)
  have hDw : D ∉ wr := fun h => hDf (W.sub _ h)
  refine codeAny_loop rfl
    (fun k s' => ∃ h' tk m' ys i, s' = { s with heap := h', toks := tk } ∧ St i h' ∧ h'.PlainList D ys ∧ ys.size = i ∧ h'.Ns cenv.locals m' ∧ J i ys.toList h' ∧ i ≤ n ∧ k = n + 1 - i ∧
      (∀ b o, b ≠ cenv.locals → b ∉ wr → b ≠ D → s.heap.get? b = some o → h'.get? b = some o) ∧ s.toks ≤ tk) ?_ (n + 1)
    ⟨s.heap, s.toks, m, #[], 0, rfl, hst, hacc, rfl, hn, hj, Nat.zero_le _, rfl, fun _ _ _ _ _ e => e, Nat.le_refl _⟩
  rintro k s' ⟨H, tk, m', ys, i, rfl, hst', hacc', hsz, hn', hj', hi, rfl, hk, htk⟩
  show wpAny _ _ ((compTurn (.ListComp elt [⟨.Name x px, i1, [], 0⟩] scope pos) 0 (.ref I) (.ref D) cenv).onRaise (fun x => do noteFrame x cenv; theTreesLotGoes x)) _ _ _
  refine wpAny_noted ?_
  rw [compTurn_list1]
  refine wpAny_bind (wpAny_standAt (wpAny_bind ?_))
  by_cases hlt : i < n
  · refine wpAny_with_toks (n := s.toks) htk (W.item i _ _ _ hlt hst' fun v h₁ tk₁ hPv hst₁ hk₁ htk₁ => ?_)
    refine wpAny_bind (wpAny_of_eq (a := ()) rfl ?_)
    refine wpAny_bind (wpAny_assign_Name (wpAny_storeName_local hx (hn'.at' fun o e => hk₁ _ o hCw e) (fun h₂ hn₂ hs₂ => ?_) hp))
    have up₂ : ∀ b o, b ≠ cenv.locals → b ∉ wr → H.get? b = some o → h₂.get? b = some o := fun b o hbC hbw e => hs₂.extBut b o hbC (hk₁ b o hbw e)
    have hst₂ : St (i + 1) h₂ := W.frame _ _ _ hst₁ fun b hb o e => hs₂.extBut b o (fun h => hCf (h ▸ hb)) e
    have hJ₂ : J i ys.toList h₂ := hJf _ _ _ _ hj' fun b o hbC hbw _ e => up₂ b o hbC hbw e
    obtain ⟨cD, hcD⟩ := hacc'
    refine wpAny_bind (wpAny_bind (wpAny_mono (wpAny_toks_of (n := s.toks) (Nat.le_succ_of_le htk₁) (helt i v _ _ _ ys.toList hlt hPv hn₂ (by simp) (fun b o hbC hbw hbD e => up₂ b o hbC hbw (hk b o hbC hbw hbD e)) (Nat.le_succ_of_le htk₁) hJ₂ hst₂ ⟨_, up₂ D _ hDC hDw hcD⟩)) (fun y s₃ h₃ => ?_) fun _ _ e => e.2))
    obtain ⟨htk₃, hJ, h₃, tk₃, rfl, hk₃, hn₃⟩ := h₃
    have hacc' : H.PlainList D ys := ⟨cD, hcD⟩
    refine wpAny_bind (wpAny_list_append_plain (hsz := by omega) ((hacc'.at fun o e => up₂ D o hDC hDw e).at fun o e => hk₃ _ o hDC e) fun h₄ hl₄ hs₄ => ?_)
    refine wpAny_pure (wpAny_pure ⟨rfl, n + 1 - (i + 1), by omega, h₄, tk₃, _, ys.push y, i + 1, rfl, ?_, hl₄, by simp [hsz], hn₃.sameBut hs₄ (Ne.symm hDC), ?_, hlt, rfl,
      fun b o hbC hbw hbD e => hs₄.extBut b o hbD (hk₃ b o hbC (up₂ b o hbC hbw (hk b o hbC hbw hbD e))), htk₃⟩)
    · exact W.frame _ _ _ hst₂ fun b hb o e => hs₄.extBut b o (fun h => hDf (h ▸ hb)) (hk₃ b o (fun h => hCf (h ▸ hb)) e)
    · rw [Array.toList_push]
      exact hJf _ _ _ _ hJ fun b o _ _ hbD e => hs₄.extBut b o hbD e
  · have hin : i = n := by omega
    subst hin
    refine wpAny_with_toks (n := s.toks) htk (W.done _ _ _ hst' fun h₁ tk₁ hk₁ htk₁ => ?_)
    exact wpAny_pure (hR h₁ tk₁ m' ys (hn'.at' fun o e => hk₁ _ o hCw e) (hacc'.at fun o e => hk₁ _ o hDw e) (hJf _ _ _ _ hj' fun b o _ hbw _ e => hk₁ b o hbw e) (fun b o hbC hbw hbD e => hk₁ b o hbw (hk b o hbC hbw hbD e)) htk₁)
end

section
variable {prog : Program} {w : World} {A : Around} {E : Value → Shared → Prop} {env : Env}

theorem rows_block {s₂ : Shared} {elt i1 : Expr} {x : Str} {px : Pos} {scope : Scope} {cl : List (Str × Addr)} {pos : Pos} {RR : Value → Addr → Result → Shared → Prop} {I : Addr} {fp wr : List Addr} {n : Nat} {P : Nat → Value → Prop} {St : Nat → Heap → Prop}
    (W : Walks prog w A I fp wr n P St) (J : Nat → List Value → Heap → Prop) (hsz : n ≤ sizeLine) (hst : St 0 s₂.heap) (hfp : ∀ b ∈ fp, b < s₂.heap.objs.size) (hj : J 0 [] s₂.heap)
    (hcell : ∀ y ∈ scope.names, y.2 ≠ .cell) (hkind : scope.kind = .function) (hx : scope.names.lookup x = some .local)
    (hJf : ∀ k ys h h', J k ys h → (∀ b o, b ≠ s₂.heap.objs.size + 1 → b ∉ wr → b ≠ s₂.heap.objs.size → h.get? b = some o → h'.get? b = some o) → J k ys h')
    (helt : ∀ k u s₃ m₃ E' ys, k < n → P k u → s₃.heap.Ns (s₂.heap.objs.size + 1) m₃ → m₃ x = some u → (∀ b o, b ∉ wr → s₂.heap.get? b = some o → s₃.heap.get? b = some o) → s₂.toks ≤ s₃.toks →
        J k ys s₃.heap → St (k + 1) s₃.heap → (∃ o, s₃.heap.get? s₂.heap.objs.size = some o) →
        wpAny (model prog w) A (eval elt (compEnvC scope cl (s₂.heap.objs.size + 1) env)) (fun y s₄ => J (k + 1) (ys ++ [y]) s₄.heap ∧ KeepsBut (s₂.heap.objs.size + 1) m₃ s₃ s₄) E' s₃)
    (hRR : ∀ h' tk m' ys, h'.Ns (s₂.heap.objs.size + 1) m' → h'.PlainList s₂.heap.objs.size ys → J n ys.toList h' → (∀ b o, b ∉ wr → s₂.heap.get? b = some o → h'.get? b = some o) → s₂.toks ≤ tk → RR (.ref s₂.heap.objs.size) (s₂.heap.objs.size + 1) (.ok .next) { s₂ with heap := h', toks := tk }) :
    wpAny (model prog w) A (newList []) (fun acc s₃ => wpAny (model prog w) A (newFunctionEnv scope env.globals cl [] env.qual none .none (some env)) (fun cenv s₄ =>
        codeAny (model prog w) A (.compStart (.ListComp elt [⟨.Name x px, i1, [], 0⟩] scope pos) 0 (.ref I) acc { cenv with scope := relabel scope env }) (RR acc cenv.locals) s₄) E s₃) E s₂ := by
  refine wpAny_newObj_type (wpAny_newFunctionEnv hcell (by intro y hy; simp at hy) (fun h₁ hns₁ hsb₁ => ?_) hkind)
  dsimp only at hns₁ hsb₁ ⊢
  generalize hH2 : s₂.heap.push { cls := .type "list", dict := none, data := .seq ([] : List Value).toArray } = H2 at hns₁ hsb₁ ⊢
  have hC : H2.objs.size = s₂.heap.objs.size + 1 := by rw [← hH2, Heap.size_push]
  rw [hC] at hns₁ hsb₁ ⊢
  have hDC : s₂.heap.objs.size ≠ s₂.heap.objs.size + 1 := Nat.ne_of_lt (Nat.lt_succ_self _)
  have below : ∀ b, b < s₂.heap.objs.size → b ≠ s₂.heap.objs.size + 1 ∧ b ≠ s₂.heap.objs.size := fun b hb => ⟨Nat.ne_of_lt (Nat.lt_succ_of_lt hb), Nat.ne_of_lt hb⟩
  have hDf : s₂.heap.objs.size ∉ fp := fun hm => Nat.lt_irrefl _ (hfp _ hm)
  have hCf : s₂.heap.objs.size + 1 ∉ fp := fun hm => Nat.lt_irrefl _ (Nat.lt_of_succ_lt (hfp _ hm))
  have old : ∀ b o, s₂.heap.get? b = some o → h₁.get? b = some o := fun b o e => hsb₁.extBut b o (below b (Heap.lt_size e)).1 (Heap.get?_push_of_some _ (hH2 ▸ Heap.get?_push_of_some _ e))
  have hacc : h₁.PlainList s₂.heap.objs.size #[] := ⟨_, hsb₁.extBut _ _ hDC (Heap.get?_push_of_some _ (hH2 ▸ Heap.get?_push_size _ rfl))⟩
  have hst₁ : St 0 h₁ := W.frame _ _ _ hst fun b _ o e => old b o e
  have loop : ∀ s₃ : Shared, s₃ = { s₂ with heap := h₁, toks := s₂.toks + ([] : List (Str × Value)).length } →
      codeAny (model prog w) A (.compLoop (.ListComp elt [⟨.Name x px, i1, [], 0⟩] scope pos) 0 (.ref I) (.ref s₂.heap.objs.size) (compEnvC scope cl (s₂.heap.objs.size + 1) env))
        (RR (.ref s₂.heap.objs.size) (s₂.heap.objs.size + 1)) s₃ := by
    rintro s₃ rfl
    exact comp3_loop (s := { s₂ with heap := h₁, toks := s₂.toks + ([] : List (Str × Value)).length }) (cenv := compEnvC scope cl (s₂.heap.objs.size + 1) env) W J hJf (lookup_relabel_local hx) (by simp [compEnvC, relabel, hkind]) hDC hDf hCf hst₁ hacc hns₁ (hJf _ _ _ _ hj fun b o _ _ _ e => old b o e) hsz
      (fun k u s₃ m₃ E' ys hkn hv hn hm hk htk hJ hS hDo => helt k u s₃ m₃ E' ys hkn hv hn hm (fun b o hbf e => hk b o (below b (Heap.lt_size e)).1 hbf (below b (Heap.lt_size e)).2 (old b o e)) (Nat.le_trans (Nat.le_add_right _ _) htk) hJ hS hDo)
      fun h' tk m' ys hn hpl hJ hk htk => hRR h' tk m' ys hn hpl hJ (fun b o hbf e => hk b o (below b (Heap.lt_size e)).1 hbf (below b (Heap.lt_size e)).2 (old b o e)) (Nat.le_trans (Nat.le_add_right _ _) htk)
  exact codeAny_compStart_list (loop _ rfl) (W.self 0 _ _ _ hst₁ (loop _ rfl))

/-- a comprehension of one clause, no tests; its elements may be new objects, of which J speaks -/
theorem wpAny_ListComp_rows {s : Shared} {elt i1 : Expr} {x : Str} {px : Pos} {scope : Scope} {cl : List (Str × Addr)} {pos : Pos} {Q : Value → Shared → Prop}
    (hclos : closureFor scope env = pure cl) (hcell : ∀ y ∈ scope.names, y.2 ≠ .cell) (hkind : scope.kind = .function)
    (hnames : ∀ y ∈ scope.names, y.2 = .local → scope.names.lookup y.1 = some .local) (hx : scope.names.lookup x = some .local)
    (h : wpAny (model prog w) A (eval i1 env) (fun xv s₁ => wpAny (model prog w) A (pyIter xv) (fun it s₂ => ∃ (I : Addr) (fp wr : List Addr) (n : Nat) (P : Nat → Value → Prop) (St : Nat → Heap → Prop) (J : Nat → List Value → Heap → Prop), it = .ref I ∧ Walks prog w A I fp wr n P St ∧ n ≤ sizeLine ∧ St 0 s₂.heap ∧ (∀ b ∈ fp, b < s₂.heap.objs.size) ∧ J 0 [] s₂.heap ∧
      (∀ k ys h h', J k ys h → (∀ b o, b ≠ s₂.heap.objs.size + 1 → b ∉ wr → b ≠ s₂.heap.objs.size → h.get? b = some o → h'.get? b = some o) → J k ys h') ∧
      (∀ k u s₃ m₃ E' ys, k < n → P k u → s₃.heap.Ns (s₂.heap.objs.size + 1) m₃ → m₃ x = some u → (∀ b o, b ∉ wr → s₂.heap.get? b = some o → s₃.heap.get? b = some o) → s₂.toks ≤ s₃.toks →
        J k ys s₃.heap → St (k + 1) s₃.heap → (∃ o, s₃.heap.get? s₂.heap.objs.size = some o) →
        wpAny (model prog w) A (eval elt (compEnvC scope cl (s₂.heap.objs.size + 1) env)) (fun y s₄ => J (k + 1) (ys ++ [y]) s₄.heap ∧ KeepsBut (s₂.heap.objs.size + 1) m₃ s₃ s₄) E' s₃) ∧
      (∀ h' tk ys, h'.PlainList s₂.heap.objs.size ys → J n ys.toList h' → (∀ b o, b ∉ wr → s₂.heap.get? b = some o → h'.get? b = some o) → s₂.toks ≤ tk → Q (.ref s₂.heap.objs.size) { s₂ with heap := h', toks := tk })) E s₁) E s)
    (hs : ∀ x, foldedSetIterable i1 env x = pure x := by intro _; rfl) :
    wpAny (model prog w) A (eval (.ListComp elt [⟨.Name x px, i1, [], 0⟩] scope pos) env) Q E s := by
  rw [eval_ListComp]
  refine wpAny_comprehension_free (use := none) rfl hs hclos hkind hnames (wpAny_mono h (fun xv s₁ h₁ => wpAny_mono h₁ (fun it s₂ h₂ => ?_) fun _ _ e => e) fun _ _ e => e)
  obtain ⟨I, fp, wr, n, P, St, J, rfl, W, hsz, hst, hfp, hj, hJf, helt, hQ⟩ := h₂
  refine rows_block (RR := fun acc C => compPost (model prog w) A E none Q acc C) W J hsz hst hfp hj hcell hkind hx hJf helt ?_
  intro h' tk m' ys hn hpl hJ hk htk
  refine ⟨m', hn, fun h'' hs'' => hQ h'' tk ys (hpl.extBut hs''.extBut (Nat.ne_of_lt (Nat.lt_succ_self _))) (hJf _ _ _ _ hJ fun b o hbC _ _ e => hs''.extBut b o hbC e) (fun b o hbf e => hs''.extBut b o ?_ (hk b o hbf e)) htk⟩
  exact Nat.ne_of_lt (Nat.lt_succ_of_lt (Heap.lt_size e))

/-- a comprehension of one clause, no tests; its element may make new objects -/
theorem wpAny_ListComp_one {s : Shared} {elt i1 : Expr} {x : Str} {px : Pos} {scope : Scope} {cl : List (Str × Addr)} {pos : Pos} {Q : Value → Shared → Prop}
    (hclos : closureFor scope env = pure cl) (hcell : ∀ y ∈ scope.names, y.2 ≠ .cell) (hkind : scope.kind = .function)
    (hnames : ∀ y ∈ scope.names, y.2 = .local → scope.names.lookup y.1 = some .local) (hx : scope.names.lookup x = some .local)
    (h : wpAny (model prog w) A (eval i1 env) (fun xv s₁ => wpAny (model prog w) A (pyIter xv) (fun it s₂ => ∃ (I : Addr) (fp wr : List Addr) (n : Nat) (P : Nat → Value → Prop) (St : Nat → Heap → Prop) (J : Nat → List Value → Prop), it = .ref I ∧ Walks prog w A I fp wr n P St ∧ n ≤ sizeLine ∧ St 0 s₂.heap ∧ (∀ b ∈ fp, b < s₂.heap.objs.size) ∧ J 0 [] ∧
      (∀ C k u s₃ m₃ E', s₂.heap.objs.size ≤ C → k < n → P k u → s₃.heap.Ns C m₃ → m₃ x = some u → (∀ b o, b ∉ wr → s₂.heap.get? b = some o → s₃.heap.get? b = some o) → s₂.toks ≤ s₃.toks →
        wpAny (model prog w) A (eval elt (compEnvC scope cl C env)) (fun y s₄ => (∀ ys, J k ys → J (k + 1) (ys ++ [y])) ∧ KeepsBut C m₃ s₃ s₄) E' s₃) ∧
      (∀ D h' tk ys, s₂.heap.get? D = none → h'.PlainList D ys → J n ys.toList → (∀ b o, b ∉ wr → s₂.heap.get? b = some o → h'.get? b = some o) → Q (.ref D) { s₂ with heap := h', toks := tk })) E s₁) E s)
    (hs : ∀ x, foldedSetIterable i1 env x = pure x := by intro _; rfl) :
    wpAny (model prog w) A (eval (.ListComp elt [⟨.Name x px, i1, [], 0⟩] scope pos) env) Q E s := by
  refine wpAny_ListComp_rows hclos hcell hkind hnames hx (wpAny_mono h (fun xv s₁ h₁ => wpAny_mono h₁ (fun it s₂ h₂ => ?_) fun _ _ e => e) fun _ _ e => e) hs
  obtain ⟨I, fp, wr, n, P, St, J, hI, W, hsz, hst, hfp, hj, helt, hQ⟩ := h₂
  exact ⟨I, fp, wr, n, P, St, fun k ys _ => J k ys, hI, W, hsz, hst, hfp, hj, fun _ _ _ _ h _ => h, fun k u s₃ m₃ E' ys hk hu hn hm hkp htk hJ _ _ => wpAny_mono (helt _ k u s₃ m₃ E' (Nat.le_succ _) hk hu hn hm hkp htk) (fun y s₄ g => ⟨g.1 ys hJ, g.2⟩) fun _ _ e => e,
    fun h' tk ys hpl hJ hk _ => hQ _ h' tk ys (Heap.get?_none_of_le (Nat.le_refl _)) hpl hJ hk⟩

/-- «y = [elt for x in i1]» in a def -/
theorem wpAny_Assign_rows {s : Shared} {elt i1 : Expr} {x y : Str} {px py : Pos} {scope : Scope} {cl : List (Str × Addr)} {pos spos : Pos} {Q : Flow → Shared → Prop}
    (hsw : swapsWith (.ListComp elt [⟨.Name x px, i1, [], 0⟩] scope pos) (some (.Name y py)) spos.line env = pure true)
    (hclos : closureFor scope env = pure cl) (hcell : ∀ y ∈ scope.names, y.2 ≠ .cell) (hkind : scope.kind = .function)
    (hnames : ∀ y ∈ scope.names, y.2 = .local → scope.names.lookup y.1 = some .local) (hx : scope.names.lookup x = some .local)
    (hy : env.kindOf y = some .local) (hp : (env.scope.kind == .class || (env.scope.kind == .module && env.locals != env.globals)) = false)
    (h : wpAny (model prog w) A (eval i1 env) (fun xv s₁ => wpAny (model prog w) A (pyIter xv) (fun it s₂ => ∃ (I : Addr) (fp wr : List Addr) (n : Nat) (P : Nat → Value → Prop) (St : Nat → Heap → Prop) (J : Nat → List Value → Heap → Prop) (m : Str → Option Value), it = .ref I ∧ Walks prog w A I fp wr n P St ∧ n ≤ sizeLine ∧ St 0 s₂.heap ∧ (∀ b ∈ fp, b < s₂.heap.objs.size) ∧ J 0 [] s₂.heap ∧
      env.locals ∉ wr ∧ s₂.heap.Ns env.locals m ∧
      (∀ k ys h h', J k ys h → (∀ b o, b ≠ env.locals → b ≠ s₂.heap.objs.size + 1 → b ∉ wr → b ≠ s₂.heap.objs.size → h.get? b = some o → h'.get? b = some o) → J k ys h') ∧
      (∀ k u s₃ m₃ E' ys, k < n → P k u → s₃.heap.Ns (s₂.heap.objs.size + 1) m₃ → m₃ x = some u → (∀ b o, b ∉ wr → s₂.heap.get? b = some o → s₃.heap.get? b = some o) → s₂.toks ≤ s₃.toks →
        J k ys s₃.heap → St (k + 1) s₃.heap → (∃ o, s₃.heap.get? s₂.heap.objs.size = some o) →
        wpAny (model prog w) A (eval elt (compEnvC scope cl (s₂.heap.objs.size + 1) env)) (fun y s₄ => J (k + 1) (ys ++ [y]) s₄.heap ∧ KeepsBut (s₂.heap.objs.size + 1) m₃ s₃ s₄) E' s₃) ∧
      (∀ h' tk ys, h'.PlainList s₂.heap.objs.size ys → J n ys.toList h' → h'.Ns env.locals (fun z => if z = y then some (.ref s₂.heap.objs.size) else m z) → (∀ b o, b ≠ env.locals → b ∉ wr → s₂.heap.get? b = some o → h'.get? b = some o) → s₂.toks ≤ tk →
        Q .next { s₂ with heap := h', toks := tk })) E s₁) E s)
    (hs : ∀ x, foldedSetIterable i1 env x = pure x := by intro _; rfl) :
    wpAny (model prog w) A (exec (.Assign [.Name y py] (.ListComp elt [⟨.Name x px, i1, [], 0⟩] scope pos) spos) env) Q E s := by
  rw [exec_Assign_Name_used _ _ _ _ hsw]
  refine wpAny_bind (wpAny_standAt (wpAny_bind ?_))
  show wpAny _ A (do let _ ← comprehension (.ListComp elt [⟨.Name x px, i1, [], 0⟩] scope pos) scope env _ (newList []) false (eval i1 env) (some (assign (.Name y py) env))) _ _ s
  refine wpAny_bind (wpAny_mono (wpAny_comprehension_free (use := some (assign (.Name y py) env)) (Q := fun _ s' => Q .next s') rfl hs hclos hkind hnames
    (wpAny_mono h (fun xv s₁ h₁ => wpAny_mono h₁ (fun it s₂ h₂ => ?_) fun _ _ e => e) fun _ _ e => e)) (fun _ s' hq => wpAny_pure (wpAny_pure hq)) fun _ _ e => e)
  obtain ⟨I, fp, wr, n, P, St, J, m, rfl, W, hsz, hst, hfp, hj, hLw, hn, hJf, helt, hQ⟩ := h₂
  refine rows_block (RR := fun acc C => compPost (model prog w) A E (some (assign (.Name y py) env)) (fun _ s' => Q .next s') acc C) W J hsz hst hfp hj hcell hkind hx (fun k ys h h' hJ hk => hJf k ys h h' hJ fun b o _ => hk b o) helt ?_
  intro h' tk m' ys hnC hpl hJ hk htk
  obtain ⟨oL, es, ep, hoL, hoR⟩ := hn
  have hLlt := Heap.lt_size hoL
  have hLC : env.locals ≠ s₂.heap.objs.size + 1 := Nat.ne_of_lt (Nat.lt_succ_of_lt hLlt)
  have hLD : env.locals ≠ s₂.heap.objs.size := Nat.ne_of_lt hLlt
  have hDC : s₂.heap.objs.size ≠ s₂.heap.objs.size + 1 := Nat.ne_of_lt (Nat.lt_succ_self _)
  show wpAny _ A (assign (.Name y py) env (.ref s₂.heap.objs.size)) _ _ _
  refine wpAny_assign_Name (wpAny_storeName_local hy (show h'.Ns env.locals m from ⟨oL, es, ep, hk _ _ hLw hoL, hoR⟩) (fun h₂ hn₂ hs₂ => ?_) hp)
  refine ⟨m', hnC.sameBut hs₂ (Ne.symm hLC), fun h₃ hs₃ => ?_⟩
  exact hQ h₃ _ ys ((hpl.extBut hs₂.extBut (Ne.symm hLD)).extBut hs₃.extBut hDC) (hJf _ _ _ _ hJ fun b o hbL hbC _ _ e => hs₃.extBut b o hbC (hs₂.extBut b o hbL e)) (hn₂.sameBut hs₃ hLC)
    (fun b o hbL hbf e => hs₃.extBut b o (Nat.ne_of_lt (Nat.lt_succ_of_lt (Heap.lt_size e))) (hs₂.extBut b o hbL (hk b o hbf e))) (Nat.le_succ_of_le htk)
end
end Mine
end

section -- part Clr1
open PySem PySem.W PySem.Calls PyProof.Rows
set_option Elab.async false
set_option maxRecDepth 100000
set_option maxHeartbeats 4000000
namespace Mine
open Sem (wp)

/-- the built-in frames that may hold a bytearray's octets -/
def heldIds : List String := ["bytearray.__contains__", "bytearray.__mod__", "bytearray.__rmod__", "_struct.pack_into.held", "bytearray.find.held"] ++ Builtin.Bytes.decodersThatHold
def holdsOne : Code → Bool
  | .builtin id _ => heldIds.contains id
  | _ => false
/-- no frame below the running one holds a bytearray -/
abbrev Under (Γ : Ctx) : Prop := Γ.below.any (fun x => holdsOne x.1) = false
/-- no frame at all -/
abbrev Clear (Γ : Ctx) : Prop := holdsOne Γ.code = false ∧ Under Γ

def wpC {α : Type} (M : Model) (A : Around) (t : Sem α) (Q : α → Shared → Prop) (E : Value → Shared → Prop) (s : Shared) : Prop :=
  ∀ Γ p, Γ.In A → Clear Γ → wp M Γ t (fun a _ s' => Q a s') (fun e _ s' => E e s') p s
def codeC (M : Model) (A : Around) (c : Code) (R : Result → Shared → Prop) (s : Shared) : Prop :=
  ∀ Γ p, Γ.code = c → Γ.Below A → Under Γ → wpCode M Γ R p s

theorem held_ne {id : String} (h : heldIds.contains id = false) {l : String} (hl : heldIds.contains l = true) : id ≠ l := fun e => by rw [e, hl] at h; cases h
theorem decoder_not {id : String} (h : heldIds.contains id = false) : Builtin.Bytes.decodersThatHold.contains id = false := by
  cases hq : Builtin.Bytes.decodersThatHold.contains id with
  | false => rfl
  | true =>
    have z : heldIds.contains id = true := List.contains_iff_mem.mpr (List.mem_append_right _ (List.contains_iff_mem.mp hq))
    rw [h] at z
    cases z
theorem exported_clear {M : Model} {A : Around} {self : Value} {Q : Bool → Shared → Prop} {E : Value → Shared → Prop} {s : Shared} (h : Q false s) : wpC M A (Builtin.Bytes.exported self) Q E s := by
  intro Γ p _ hc
  have key : ∀ f : Code × Pos → Bool, (∀ x : Code × Pos, holdsOne x.1 = false → f x = false) → Q (((Γ.code, p) :: Γ.below).any f) s := by
    intro f hf
    rw [show (((Γ.code, p) :: Γ.below).any f) = false from ?_]
    · exact h
    · refine List.any_eq_false.mpr fun x hx => ?_
      rw [hf x ?_]
      · decide
      · rcases List.mem_cons.mp hx with rfl | hx
        · exact hc.1
        · simpa using List.any_eq_false.mp hc.2 x hx
  unfold Builtin.Bytes.exported
  rw [Sem.wp_bind']
  refine key _ fun ⟨c, q⟩ h1 => ?_
  cases c with
  | builtin id args =>
    obtain ⟨pos, kw⟩ := args
    have h1' : heldIds.contains id = false := h1
    delta Builtin.Bytes.exported.match_1
    delta Builtin.Bytes.exported._sparseCasesOn_1
    dsimp only
    refine (dif_neg (held_ne (l := "bytearray.__contains__") h1' (by decide +kernel))).trans ?_
    refine (dif_neg (held_ne (l := "bytearray.__mod__") h1' (by decide +kernel))).trans ?_
    refine (dif_neg (held_ne (l := "bytearray.__rmod__") h1' (by decide +kernel))).trans ?_
    refine (dif_neg (held_ne (l := "_struct.pack_into.held") h1' (by decide +kernel))).trans ?_
    refine (dif_neg (held_ne (l := "bytearray.find.held") h1' (by decide +kernel))).trans ?_
    cases pos with
    | nil => rfl
    | cons v r => exact Bool.and_eq_false_iff.mpr (.inr (decoder_not h1'))
  | _ => rfl

section
variable {α β : Type} {M : Model} {A : Around} {E : Value → Shared → Prop} {s : Shared}

theorem wpC_of_any {t : Sem α} {Q : α → Shared → Prop} (h : wpAny M A t Q E s) : wpC M A t Q E s := fun Γ p hΓ _ => h Γ p hΓ
theorem wpC_pure {a : α} {Q : α → Shared → Prop} (h : Q a s) : wpC M A (pure a) Q E s := fun _ _ _ _ => h
theorem wpC_mono {t : Sem α} {Q Q' : α → Shared → Prop} {E' : Value → Shared → Prop} (h : wpC M A t Q E s)
    (hQ : ∀ a s, Q a s → Q' a s) (hE : ∀ e s, E e s → E' e s) : wpC M A t Q' E' s :=
  fun Γ p hΓ hc => Sem.wp_mono M Γ t (fun a _ s => hQ a s) (fun e _ s => hE e s) p s (h Γ p hΓ hc)
theorem wpC_bind {m : Sem α} {f : α → Sem β} {Q : β → Shared → Prop} (h : wpC M A m (fun a s' => wpC M A (f a) Q E s') E s) : wpC M A (m >>= f) Q E s := fun Γ p hΓ hc => by
  rw [Sem.wp_bind']
  exact Sem.wp_mono M Γ m (fun a p' s' h' => h' Γ p' hΓ hc) (fun _ _ _ h' => h') p s (h Γ p hΓ hc)
/-- first something of which a rule of the library speaks, then the rest -/
theorem wpC_then {m : Sem α} {f : α → Sem β} {Q : β → Shared → Prop} (h : wpAny M A m (fun a s' => wpC M A (f a) Q E s') E s) : wpC M A (m >>= f) Q E s := wpC_bind (wpC_of_any h)
theorem wpC_onRaise {m : Sem α} {k : Value → Sem Unit} {Q : α → Shared → Prop} (h : wpC M A m Q (fun e s' => wpAny M A (k e) (fun _ s'' => E e s'') E s') s) : wpC M A (m.onRaise k) Q E s := fun Γ p hΓ hc => by
  rw [Sem.wp_onRaise]
  exact Sem.wp_mono M Γ m (fun _ _ _ h' => h') (fun e p' s' h' => h' Γ p' hΓ) p s (h Γ p hΓ hc)
theorem wpC_holding {vs : List Value} {m : Sem α} {Q : α → Shared → Prop} (h : wpC M A m Q E s) : wpC M A (holding vs m) Q E s :=
  fun Γ p hΓ hc => by rw [Sem.wp_holding]; exact h Γ p hΓ hc
theorem wpC_standAt {pos : Pos} {Q : Unit → Shared → Prop} (h : Q () s) : wpC M A (standAt pos) Q E s := fun _ _ _ _ => h
theorem wpC_runValue {c : Code} {Q : Value → Shared → Prop}
    (hc : codeC M A c (fun r s' => match r with | .ok (.ret v) => Q v s' | .ok _ => False | .error e => E e s') s) :
    wpC M A (runValue c) Q E s := fun Γ p hΓ hk => by
  rw [Sem.wp_runValue]
  refine hc _ p rfl (hΓ.enter c none p (by intro x; cases x)) ?_
  show ((Γ.code, p) :: Γ.below).any _ = false
  simp [hk.1, hk.2]
theorem wpC_call {f : Value} {pos : List Value} {kw : List (Str × Value)} {Q : Value → Shared → Prop}
    (hc : codeC M A (.call f ⟨pos, kw⟩) (fun r s' => match r with | .ok (.ret v) => Q v s' | .ok _ => False | .error e => E e s') s) :
    wpC M A (call f pos kw) Q E s := wpC_runValue hc
theorem codeC_of_tree {c : Code} {R : Result → Shared → Prop} (hcl : holdsOne c = false)
    (h : wpC M (A.under c) (M.den c) (fun fin s' => match fin with | .done f => R (.ok f) s' | .again c' => c'.quiet = true ∧ codeC M A c' R s')
      (fun e s' => R (.error e) s') s) : codeC M A c R s := fun Γ p hc hΓ hu => by
  rw [wpCode_iff_wp, hc]
  refine Sem.wp_mono M Γ _ (fun fin p' s' h' => ?_) (fun _ _ _ h' => h') p s (h Γ p (hc ▸ hΓ.in) ⟨by rw [hc]; exact hcl, hu⟩)
  cases fin with
  | done f => exact h'
  | again c' => exact ⟨h'.1, h'.2 (Γ.goto c') p' rfl (hΓ.goto c') hu⟩
end

section
variable {M : Model} {A : Around} {E : Value → Shared → Prop} {s : Shared} {env : Env}

theorem wpC_execs_cons {st : Stmt} {rest : List Stmt} {Q : Flow → Shared → Prop}
    (h : wpC M A (exec st env) (fun f s' => match f with | .next => wpC M A (execs rest env) Q E s' | f => Q f s') E s) :
    wpC M A (execs (st :: rest) env) Q E s := by
  rw [execs_cons]
  refine wpC_bind (wpC_mono h (fun f s' h' => ?_) fun _ _ x => x)
  cases f <;> first | exact h' | exact wpC_pure h'
theorem wpC_Assign_Name {x : Str} {pos' pos : Pos} {value : Expr} {Q : Flow → Shared → Prop}
    (h : wpC M A (eval value env) (fun v s₁ => wpAny M A (storeName env x v) (fun _ => Q .next) E s₁) E s)
    (hs : swapsWith value (some (.Name x pos')) pos.line env = pure false := by rfl) :
    wpC M A (exec (.Assign [.Name x pos'] value pos) env) Q E s := fun Γ p hΓ hc => by
  simp only [exec_Assign_Name env x pos' value pos hs, Sem.wp_bind', Sem.wp_cmd_standAt, Sem.wp_bindName, Sem.wp_pure']
  exact Sem.wp_mono M Γ _ (fun v _ s₁ h₁ => h₁ Γ _ hΓ) (fun _ _ _ h' => h') _ _ (h Γ _ hΓ hc)
theorem wpC_Return_some {e : Expr} {pos : Pos} {Q : Flow → Shared → Prop} (h : wpC M A (eval e env) (fun v => Q (.ret v)) E s) :
    wpC M A (exec (.Return (some e) pos) env) Q E s := fun Γ p hΓ hc => by
  simp only [exec_Return_some, Sem.wp_bind', Sem.wp_cmd_standAt, Sem.wp_pure']; exact h Γ _ hΓ hc
theorem wpC_Compare1 {l r : Expr} {op : CmpOp} {pos : Pos} {Q : Value → Shared → Prop}
    (h : wpC M A (eval l env) (fun a s₁ => wpAny M A (eval r env) (fun b s₂ => wpAny M A (compareOp op a b) Q E s₂) E s₁) E s)
    (hm : behindInMarks op r = false := by with_unfolding_all rfl) :
    wpC M A (eval (.Compare l [op] [r] pos) env) Q E s := fun Γ p hΓ hc => by
  simp only [eval_Compare1, markedBehindIn_of_false hm, Sem.wp_bind', Sem.wp_holding, Sem.wp_cmd_standAt, Sem.wp_operate]
  exact Sem.wp_mono M Γ _ (fun a p₁ s₁ h₁ => Sem.wp_mono M Γ _ (fun b _ s₂ h₂ => h₂ Γ _ hΓ) (fun _ _ _ h' => h') _ _ (h₁ Γ p₁ hΓ))
    (fun _ _ _ h' => h') _ _ (h Γ p hΓ hc)
end
end Mine
end

section -- part Clr2
open PySem PySem.W PySem.Calls PyProof.Rows
set_option Elab.async false
set_option maxRecDepth 100000
set_option maxHeartbeats 4000000
namespace Mine
open Sem (wp)

section
variable {M : Model} {A : Around} {E : Value → Shared → Prop} {s : Shared} {env : Env}

theorem wpC_keep {α : Type} {vs : List Value} {m : Sem α} {Q : α → Shared → Prop} (h : wpC M A m Q E s) : wpC M A (m.keep vs) Q E s :=
  fun Γ p hΓ hc => by rw [Sem.wp_keep]; exact h Γ p hΓ hc
/-- a row of plain arguments: the first in clear contexts, the others anywhere -/
theorem wpC_spliced {x : Sem Value} {rest : List (Bool × Sem Value)} {Q : List Value → Shared → Prop}
    (h : wpC M A x (fun v s₁ => wpAny M A (spliced rest) (fun vs s₂ => Q (v :: vs) s₂) E s₁) E s) : wpC M A (spliced ((false, x) :: rest)) Q E s := by
  rw [spliced]
  refine wpC_bind (wpC_mono h (fun v s₁ h₁ => wpC_of_any ?_) fun _ _ x => x)
  simp only [Bool.false_eq_true, if_false]
  exact wpAny_bind (wpAny_pure (wpAny_bind (wpAny_holding (wpAny_mono h₁ (fun vs s₂ h₂ => wpAny_pure h₂) fun _ _ x => x))))
theorem wpC_evalArgs {f : Value} {x : Sem Value} {rest : List (Bool × Sem Value)} {Q : Args → Shared → Prop}
    (h : wpC M A (spliced ((false, x) :: rest)) (fun vs s' => Q ⟨vs, []⟩ s') E s) : wpC M A (evalArgs f true ((false, x) :: rest) []) Q E s := by
  unfold evalArgs
  show wpC M A (spliced ((false, x) :: rest) >>= _) Q E s
  refine wpC_bind (wpC_mono h (fun vs s' h' => wpC_of_any ?_) fun _ _ x => x)
  refine wpAny_holding ?_
  exact wpAny_bind (wpAny_pure (wpAny_bind (wpAny_pure (wpAny_pure h'))))

theorem wpC_callWith_type {pos : Pos} {T : String} {args : List (Bool × Sem Value)} {Q : Value → Shared → Prop} (hplain : args.any (·.1) = false)
    (h : wpC M A (evalArgs (.type T) true args []) (fun a s₁ => wpC M A (call (.type T) ([] ++ a.pos) a.kw) Q E s₁) E s) :
    wpC M A (callWith pos (.type T) [] args []) Q E s := by
  unfold callWith
  refine wpC_bind (wpC_holding (wpC_mono h (fun a s₁ h₁ => wpC_bind (wpC_standAt ?_)) fun _ _ x => x))
  simp only [hplain, List.any_nil, Bool.or_false]
  refine wpC_bind (wpC_pure ?_)
  exact wpC_bind (wpC_mono h₁ (fun r s₂ hr => wpC_of_any (wpAny_bind (wpAny_holding (wpAny_point (wpAny_pure hr))))) fun _ _ x => x)

theorem wpC_callWith_function {pos : Pos} {a : Addr} {o : Obj} {fd : FuncData} {args : List (Bool × Sem Value)} {Q : Value → Shared → Prop}
    (h : wpC M A (evalArgs (.ref a) true args []) (fun x s₁ => (s₁.heap.get? a = some o ∧ o.data = .func fd) ∧ wpC M A (call (.ref a) ([] ++ x.pos) x.kw) Q E s₁) E s) :
    wpC M A (callWith pos (.ref a) [] args []) Q E s := by
  unfold callWith
  refine wpC_bind (wpC_holding (wpC_mono h (fun x s₁ h₁ => wpC_bind (wpC_standAt ?_)) fun _ _ x => x))
  have tail : ∀ {t : Sem Value}, wpC M A t Q E s₁ → wpC M A (t >>= fun r => holding [r] point >>= fun _ => pure r) Q E s₁ :=
    fun ht => wpC_bind (wpC_mono ht (fun r s₂ hr => wpC_of_any (wpAny_bind (wpAny_holding (wpAny_point (wpAny_pure hr))))) fun _ _ x => x)
  cases hs : args.any (·.1) <;> simp only [List.any_nil, Bool.or_false] <;>
    refine wpC_then (m := keeperOf (.ref a)) ?_ <;> unfold keeperOf <;>
    refine wpAny_bind (wpAny_load h₁.1.1 ?_) <;> rw [h₁.1.2] <;> refine wpAny_pure ?_
  · dsimp only
    split
    · exact tail h₁.2
    · exact tail (by unfold callMarked; exact wpC_keep h₁.2)
  · exact tail (by unfold callMarked; exact wpC_keep h₁.2)

theorem wpC_callType1 {T : String} {pos : Pos} {e : Expr} {Q : Value → Shared → Prop} (h : wpAny M A (eval e env) (fun v s₁ => wpC M A (call (.type T) [v]) Q E s₁) E s)
    (he : backTo pos (starEach [e] env) = [(false, eval e env)] := by rfl) (hk : backToKw pos (keywordEach [] env) = [] := by rfl) :
    wpC M A (callWith pos (.type T) [] (backTo pos (starEach [e] env)) (backToKw pos (keywordEach [] env))) Q E s := by
  rw [he, hk]
  exact wpC_callWith_type rfl (wpC_of_any (evalArgs_plain (spliced_cons (wpAny_mono h (fun v s₁ h₁ => spliced_nil h₁) fun _ _ x => x))))
/-- f(e, e'), f a def -/
theorem wpC_callFn2 {a : Addr} {o : Obj} {fd : FuncData} {pos : Pos} {e e' : Expr} {Q : Value → Shared → Prop} (hd : o.data = .func fd)
    (h : wpAny M A (eval e env) (fun v s₁ => wpAny M A (eval e' env) (fun v' s₂ => s₂.heap.get? a = some o ∧ wpC M A (call (.ref a) [v, v']) Q E s₂) E s₁) E s)
    (he : backTo pos (starEach [e, e'] env) = [(false, eval e env), (false, eval e' env)] := by rfl) (hk : backToKw pos (keywordEach [] env) = [] := by rfl) :
    wpC M A (callWith pos (.ref a) [] (backTo pos (starEach [e, e'] env)) (backToKw pos (keywordEach [] env))) Q E s := by
  rw [he, hk]
  exact wpC_callWith_function (wpC_of_any (evalArgs_plain (spliced_cons (wpAny_mono h (fun v s₁ h₁ => spliced_cons (wpAny_mono h₁ (fun v' s₂ h₂ => spliced_nil ⟨⟨h₂.1, hd⟩, h₂.2⟩) fun _ _ x => x)) fun _ _ x => x))))
/-- f(e, e'), e in clear contexts -/
theorem wpC_callFn2C {a : Addr} {o : Obj} {fd : FuncData} {pos : Pos} {e e' : Expr} {Q : Value → Shared → Prop} (hd : o.data = .func fd)
    (h : wpC M A (eval e env) (fun v s₁ => wpAny M A (eval e' env) (fun v' s₂ => s₂.heap.get? a = some o ∧ wpAny M A (call (.ref a) [v, v']) Q E s₂) E s₁) E s)
    (he : backTo pos (starEach [e, e'] env) = [(false, eval e env), (false, eval e' env)] := by rfl) (hk : backToKw pos (keywordEach [] env) = [] := by rfl) :
    wpC M A (callWith pos (.ref a) [] (backTo pos (starEach [e, e'] env)) (backToKw pos (keywordEach [] env))) Q E s := by
  rw [he, hk]
  exact wpC_callWith_function (wpC_evalArgs (wpC_spliced (wpC_mono h (fun v s₁ h₁ => spliced_cons (wpAny_mono h₁ (fun v' s₂ h₂ => spliced_nil ⟨⟨h₂.1, hd⟩, wpC_of_any h₂.2⟩) fun _ _ x => x)) fun _ _ x => x)))

/-- «f(args)», f a name of the globals -/
theorem wpC_Call_Name {id : Str} {p pos : Pos} {args : List Expr} {keywords : List Keyword} {Q : Value → Shared → Prop}
    (h : wpAny M A (eval (.Name id p) env) (fun f s₁ => wpC M A (callWith pos f [] (backTo pos (starEach args env)) (backToKw pos (keywordEach keywords env))) Q E s₁) E s) :
    wpC M A (eval (.Call (.Name id p) args keywords pos) env) Q E s := by
  rw [arm_eval_Call_Name']
  exact wpC_then h
end

section
variable {prog : Program} {w : World} {A : Around} {E : Value → Shared → Prop} {s : Shared} {K : Frag} {Q : Value → Shared → Prop}

theorem codeC_func {R : Result → Shared → Prop} {body : List Stmt} {env : Env}
    (h : wpC (model prog w) (A.deeper env) (execs body env) (fun f s' => R (.ok (.ret (match f with | .ret v => v | _ => .none))) s')
      (fun e s' => wpAny (model prog w) (A.deeper env) (leaving env e) (fun _ s'' => R (.error e) s'') (fun e' s'' => R (.error e') s'') s') s) :
    codeC (model prog w) A (.func body env) R s := by
  refine codeC_of_tree rfl ?_
  show wpC _ (A.deeper env) (do point; match ← (execs body env).onRaise (leaving env) with | .ret v => ret v | _ => ret .none) _ _ s
  refine wpC_then (wpAny_point (wpC_bind ?_))
  intro Γ p hΓ hc
  rw [Sem.wp_onRaise]
  refine Sem.wp_mono _ Γ _ (fun f p' s' h' => ?_) (fun e p' s' h' => h' Γ p' hΓ) p s (h Γ p hΓ hc)
  cases f <;> exact fun _ _ _ _ => h'

theorem codeC_call_function {R : Result → Shared → Prop} {a : Addr} {args : Args} {o : Obj} {fd : FuncData} {body : List Stmt} (hroom : A.depth < recursionLimit)
    (ho : s.heap.get? a = some o) (hd' : o.data = .func fd) (hco : fd.scope.isCoroutine = false) (hgen : fd.scope.isGenerator = false) (hbody : fd.body = .stmts body) (hcd : s.heap.CodeRec fd.code fd.qualname)
    (h : wpAny (model prog w) A.in1 (bindArgs fd args) (fun binds s₁ =>
      wpAny (model prog w) A.in1 (newFunctionEnv fd.scope fd.globals fd.closure binds (fd.qualname ++ ".<locals>.") (some a) fd.code none fd.builtins)
        (fun env s₂ => s₂.heap.NoLimit ∧ codeC (model prog w) A (.func body env) R s₂) (fun e s' => R (.error e) s') s₁) (fun e s' => R (.error e) s') s) :
    codeC (model prog w) A (.call (.ref a) args) R s := by
  refine codeC_of_tree rfl ?_
  show wpC _ A.in1 (callAny (.ref a) args) _ _ s
  refine wpC_of_any ?_
  simp only [callAny]
  refine wpAny_bind (wpAny_load ho ?_)
  obtain ⟨c, oc, vs, tq, hc, hoc, hdc, hq⟩ := hcd
  simp only [hd', callFunction, hco, hgen, hbody, hc]
  rw [hc] at h
  refine wpAny_bind (m := field (.ref c) 1) (wpAny_field hoc hdc hq (wpAny_bind (wpAny_pure ?_)))
  exact wpAny_bind (wpAny_mono h (fun binds s₁ h₁ => wpAny_bind (wpAny_mono h₁ (fun env s₂ h₂ => wpAny_bind (wpAny_enterFrame h₂.1 hroom
    (wpAny_pure (And.intro rfl h₂.2)))) fun _ _ h' => h')) fun _ _ h' => h')

/-- a def is entered in clear contexts -/
theorem enterC {name qual : Str} {params : Arguments} {body : List Stmt} {scope : Scope} {dV kV doc pm cdv ct oc : Value} {an od : Option Addr} {osl : Array (Option Value)} {f : Addr} {vals : List Value} {kw : List (Str × Value)} {binds : List (Str × Value)}
    (X : K.In s.heap) (hlim : s.heap.NoLimit)
    (ho : K.lookup f = some ⟨oc, od, .func (fnOf name qual params body scope dV kV doc pm an cdv ct), osl⟩) (hcd : codeIn K cdv qual = true) (hroom : A.depth < recursionLimit)
    (hbind : BindsTo s (fnOf name qual params body scope dV kV doc pm an cdv ct) ⟨vals, kw⟩ binds) (hloc : ∀ y ∈ binds, scope.names.lookup y.1 = some .local)
    (h : ∀ L h₁, Fr s.heap L h₁ (fun y => binds.reverse.lookup y) →
      wpC (model prog w) (A.deeper (envOf qual scope L f cdv)) (execs body (envOf qual scope L f cdv))
        (fun fl s' => Q (match fl with | .ret v => v | _ => .none) s')
        (fun e s' => wpAny (model prog w) (A.deeper (envOf qual scope L f cdv)) (leaving (envOf qual scope L f cdv) e) (fun _ s'' => E e s'') (fun e' s'' => E e' s'') s')
        { s with heap := h₁, toks := s.toks + binds.length })
    (hco : scope.isCoroutine = false) (hgen : scope.isGenerator = false) (hk : scope.kind = .function)
    (hcell : ∀ x ∈ scope.names, x.2 ≠ .cell) : wpC (model prog w) A (call (.ref f) vals kw) Q E s := by
  refine wpC_call ?_
  refine codeC_call_function (fd := fnOf name qual params body scope dV kV doc pm an cdv ct) (body := body) hroom (X _ _ ho) rfl hco hgen rfl (codeRec_of X hcd) (hbind _ _ _ _ ?_)
  refine wpAny_newFunctionEnv hcell hloc (fun h₀ hns₀ hsb₀ => ⟨hlim.fresh _ hsb₀, codeC_func ?_⟩) hk
  refine h _ h₀ ⟨hns₀, fun b o e => ?_, Nat.le_refl _⟩
  exact hsb₀.extBut b o (Nat.ne_of_lt (Heap.lt_size e)) (Heap.get?_push_of_some _ e)
end
end Mine
end

section -- part Ba1
open PySem PySem.W PySem.Calls PyProof.Rows
set_option Elab.async false
set_option maxRecDepth 100000
set_option maxHeartbeats 4000000
namespace Mine
open Sem (wp)

namespace BA
theorem mro_ba : mroOf (.type "bytearray") = pure [.type "bytearray", .type "object"] := by rw [mroOf_type]; kernel_rfl
theorem lookup_new : typeLookup (.type "bytearray") "__new__" = pure (some (.builtin "bytearray.__new__")) := by rw [typeLookup_type, builtinLookup_eq_fast]; kernel_rfl
theorem slot_init : Slot "bytearray" "__init__" "bytearray.__init__" :=
  .of (owner := "bytearray") (n := "__init__") (by rw [typeLookup_type, builtinLookup_eq_fast]; kernel_rfl) (by decide +kernel) (by decide +kernel) (by decide +kernel)
    (by first | exact .inl (by decide +kernel) | exact .inr (by decide +kernel)) (by rw [isSubtype_type]; kernel_rfl)
theorem made : Bind.madeBy (.type "bytearray") = pure (some "bytearray.__new__") := madeBy_type mro_ba lookup_new (by decide +kernel)
theorem sub_self : isSubtype (.type "bytearray") (.type "bytearray") = pure true := by rw [isSubtype_type]; kernel_rfl
theorem called : TypeCalled "bytearray" "bytearray.__new__" "bytearray.__init__" :=
  ⟨by decide +kernel, by decide +kernel, ⟨_, _, mro_ba⟩, made, by decide +kernel, sub_self, slot_init⟩
theorem typeCall (a : Value) : checkTypeCall "bytearray" ⟨[a], []⟩ = pure () := by kernel_rfl
theorem newCall (a : Value) : checkBuiltinCall "bytearray.__new__" ⟨[.type "bytearray", a], []⟩ = pure () := by kernel_rfl
theorem entry_new : entryFor table "bytearray.__new__" = some Builtin.«list.__new__» :=
  entryFor_alias (id' := "list.__new__") (by kernel_rfl) (by first | rfl | decide +kernel) (by decide +kernel) (by kernel_rfl)
theorem entry_init : entryFor table "bytearray.__init__" = some Builtin.«bytearray.__init__» := entryFor_of_tree (by kernel_rfl)
theorem plain_new : plainId "bytearray.__new__" = true := by decide +kernel
theorem args_init (a b : Value) : argsOk "bytearray.__init__" ⟨[a, b], []⟩ := by unfold argsOk; kernel_rfl
theorem owner_new : ("bytearray.__new__".splitOn ".__new__").headD "" = "bytearray" := by simp +decide [String.splitOn, String.splitOnAux]
end BA

/-- a bytearray on the heap -/
def baObj (b : Array UInt8) : Obj := { cls := .type "bytearray", data := .bytearray b }
def IsBA (h : Heap) (a : Addr) (b : Array UInt8) : Prop := h.get? a = some (baObj b)

section
variable {prog : Program} {w : World} {A : Around} {E : Value → Shared → Prop} {s : Shared}

theorem code_new (a : Value) {Q₁ : Value → Shared → Prop} (h : Q₁ (.ref s.heap.objs.size) { s with heap := s.heap.push (baObj #[]) }) :
    codeAny (model prog w) A (.call (.builtin "bytearray.__new__") ⟨[.type "bytearray", a], []⟩) (wants Q₁ E) s := by
  refine codeAny_of_tree ?_
  show wpAny _ A.in1 (do checkBuiltinCall "bytearray.__new__" ⟨[.type "bytearray", a], []⟩; again (.builtin "bytearray.__new__" ⟨[.type "bytearray", a], []⟩)) _ _ s
  refine wpAny_bind (wpAny_of_eq (BA.newCall a) (wpAny_pure ⟨plainId_quiet BA.plain_new _, codeAny_builtin_stack BA.entry_new rfl fun p st => ?_⟩))
  rw [Around.under_plainId BA.plain_new _]
  have hsub := BA.sub_self
  have hown := BA.owner_new
  obtain ⟨hp, g, d, tk, os⟩ := s
  simp only [hown]
  wp_walk
  exact h

theorem wpC_of_eq {α β : Type} {M : Model} {m : Sem α} {a : α} {f : α → Sem β} {Q : β → Shared → Prop} (e : m = pure a) (h : wpC M A (f a) Q E s) : wpC M A (m >>= f) Q E s := by
  rw [e]
  exact wpC_bind (wpC_pure h)

end
theorem BA.typeIs {s : Shared} {a : Addr} {b : Array UInt8} (h : IsBA s.heap a b) : s.TypeIs (.ref a) "bytearray" := ⟨_, h, rfl⟩
theorem BA.lk_release : typeLookup (.type "bytearray") "__release_buffer__" = pure (some (.builtin "bytearray.__release_buffer__")) := by rw [typeLookup_type, builtinLookup_eq_fast]; kernel_rfl
theorem BA.lk_index : typeLookup (.type "int") "__index__" = pure (some (.builtin "int.__index__")) := by rw [typeLookup_type, builtinLookup_eq_fast]; kernel_rfl
theorem BA.bindOpt (v : Value) : Builtin.Bytes.bindOptional "bytearray.__init__" "bytearray" ["source", "encoding", "errors"] [v] [] = pure [some v, none, none] := by first | rfl | kernel_rfl
theorem BA.endsRel : ("bytearray.__release_buffer__" : String).endsWith ("." ++ "__release_buffer__") = true := by decide +kernel
theorem BA.dropRel : ("bytearray.__release_buffer__" : String).dropRight ("__release_buffer__".length + 1) = "bytearray" := by decide +kernel
theorem wpC_if_not {α : Type} {M : Model} {A : Around} {E : Value → Shared → Prop} {s : Shared} {c : Bool} {a b : Sem α} {Q : α → Shared → Prop} (hc : c = false) (h : wpC M A b Q E s) : wpC M A (if c = true then a else b) Q E s := by
  subst hc
  exact h
theorem BA.if_not {α : Type} {M : Model} {A : Around} {E : Value → Shared → Prop} {s : Shared} {c : Bool} {a b : Sem α} {Q : α → Shared → Prop} (hc : c = false) (h : wpAny M A b Q E s) : wpAny M A (if c = true then a else b) Q E s := by
  subst hc
  exact h
theorem BA.if_so {α : Type} {M : Model} {A : Around} {E : Value → Shared → Prop} {s : Shared} {c : Bool} {a b : Sem α} {Q : α → Shared → Prop} (hc : c = true) (h : wpAny M A a Q E s) : wpAny M A (if c = true then a else b) Q E s := by
  subst hc
  exact h
theorem BA.asStr_int (i : Int) (t : Tok) : asStr? (.int i t) = pure none := rfl
theorem BA.attempt_int (i : Int) (t : Tok) : (asIndex (.int i t)).attempt = pure (.ok i) := rfl
theorem BA.map_eq {s : Heap} {a : Addr} {b : Array UInt8} {f : Array UInt8 → Array UInt8} (ha : IsBA s a b) : (s.update a (Obj.mapBytearray f)).get? a = some (baObj (f b)) := Heap.get?_update_self _ ha rfl
theorem BA.upd {M : Model} {A : Around} {E : Value → Shared → Prop} {s : Shared} {a : Addr} {b : Array UInt8} {f : Array UInt8 → Array UInt8} {Q : Unit → Shared → Prop} (ha : IsBA s.heap a b) (hz : (f b).size ≤ sizeLine)
    (h : ∀ h', IsBA h' a (f b) → (∀ c o, c ≠ a → s.heap.get? c = some o → h'.get? c = some o) → Q () { s with heap := h' }) : wpAny M A (Builtin.Bytes.write (.ref a) f) Q E s := by
  show wpAny M A (updateBytearray a f) Q E s
  unfold updateBytearray
  refine wpAny_bind (wpAny_load ha ?_)
  dsimp only [baObj]
  refine wpAny_bind (wpAny_update ha ?_)
  have e := BA.map_eq (f := f) ha
  refine wpAny_lookBehind (o := baObj (f b)) e ?_ (h _ e fun c o hc ho => (Heap.get?_update_other _ _ (Ne.symm hc)).trans ho)
  show (if (f b).size > sizeLine then some "bytearray:memory" else none) = none
  rw [if_neg (Nat.not_lt.mpr hz)]
theorem BA.own {M : Model} {A : Around} {E : Value → Shared → Prop} {s : Shared} {a : Addr} {b : Array UInt8} {Q : Bool → Shared → Prop} (h : IsBA s.heap a b) (hq : Q false s) : wpAny M A (Builtin.Bytes.ownRelease (.ref a)) Q E s := by
  unfold Builtin.Bytes.ownRelease Builtin.Bytes.slotIsOwn
  refine wpAny_bind (wpAny_bind (wpAny_specialOf (BA.typeIs h) BA.lk_release ?_))
  dsimp only
  rw [BA.endsRel, BA.dropRel]
  exact wpAny_isInstance (BA.typeIs h) BA.sub_self (wpAny_pure hq)

theorem init_run {prog : Program} {w : World} {A : Around} {E : Value → Shared → Prop} {s : Shared} {a : Addr} {n : Nat} {t : Tok} {Q : Fin → Shared → Prop} (ha : IsBA s.heap a #[]) (hn : n ≤ 4096)
    (h : ∀ h', IsBA h' a (Array.replicate n 0) → (∀ b o, b ≠ a → s.heap.get? b = some o → h'.get? b = some o) → Q (.done (.ret .none)) { s with heap := h' }) :
    wpC (model prog w) A (Builtin.«bytearray.__init__» ⟨[.ref a, .int n t], []⟩) Q E s := by
  unfold Builtin.«bytearray.__init__»
  refine wpC_then (BA.own ha ?_)
  refine wpC_if_not rfl ?_
  refine wpC_of_eq (BA.bindOpt _) ?_
  refine wpC_of_eq rfl ?_
  refine wpC_of_eq rfl ?_
  refine wpC_bind (wpC_bind (exported_clear ?_))
  refine wpC_of_any ?_
  show wpAny _ _ (Builtin.Bytes.exportsOf (.ref a) >>= fun l => pure (decide (l > 0))) _ _ _
  unfold Builtin.Bytes.exportsOf
  refine wpAny_bind (wpAny_bind (wpAny_load ha ?_))
  refine wpAny_pure (wpAny_pure ?_)
  refine wpC_of_any ?_
  refine BA.if_not rfl ?_
  have e0 : (fun _ : Array UInt8 => (#[] : Array UInt8)) #[] = #[] := rfl
  refine wpAny_bind (BA.upd ha (f := fun _ => #[]) (Nat.zero_le _) fun h₁ ha₁ k₁ => ?_)
  show wpAny _ _ (asStr? (.int n t) >>= _) _ _ _
  rw [BA.asStr_int, pure_bind]
  simp only [Option.isSome_none, Bool.false_eq_true, if_false, pure_bind]
  have hT : Shared.TypeIs { s with heap := h₁ } (.int n t) "int" := typeIs_int _ _ _
  have key : ∀ (F : Option Value → Sem PySem.Fin), wpAny (model prog w) A (F (some (.builtin "int.__index__"))) Q E { s with heap := h₁ } → wpAny (model prog w) A (specialOf (.int n t) (Str.ofString "__index__") >>= F) Q E { s with heap := h₁ } :=
    fun F hF => wpAny_bind (wpAny_specialOf hT BA.lk_index hF)
  refine key _ ?_
  have hi : Builtin.Bytes.fitsIndex (n : Int) = true := by
    unfold Builtin.Bytes.fitsIndex
    simp only [Bool.and_eq_true, decide_eq_true_eq]
    omega
  have h2 : ¬ ((n : Int) < 0) := by omega
  have h3 : ((n : Int) == 2 ^ 63 - 1) = false := beq_eq_false_iff_ne.mpr (by omega)
  have h4 : Builtin.Bytes.tooLong (n : Int).toNat = false := by unfold Builtin.Bytes.tooLong; exact decide_eq_false (by rw [sizeLine_eq]; omega)
  simp only [Option.isSome_some, if_true, BA.attempt_int, pure_bind, hi, Bool.not_true, Bool.false_eq_true, if_false, h2, h3, h4]
  refine wpAny_bind (wpAny_rule ?_)
  by_cases hz : n = 0
  · subst hz
    rw [if_neg (by omega)]
    exact wpAny_pure (h h₁ ha₁ k₁)
  · rw [if_pos (by omega)]
    refine wpAny_bind (BA.upd ha₁ (f := fun _ => Array.replicate (n : Int).toNat 0) (by simp [sizeLine_eq]; omega) fun h₂ ha₂ k₂ => wpAny_pure (h h₂ (by simpa using ha₂) fun b o hb e => k₂ b o hb (k₁ b o hb e)))

theorem codeC_builtin {prog : Program} {w : World} {A : Around} {s : Shared} {R : Result → Shared → Prop} {id : String} {args : Args} {b : Builtin} (hcl : holdsOne (.builtin id args) = false) (hb : entryFor table id = some b)
    (h : wpC (model prog w) (A.under (.builtin id args)) (b args) (fun fin s' => match fin with | .done f => R (.ok f) s' | .again c' => c'.quiet = true ∧ codeC (model prog w) A c' R s') (fun e s' => R (.error e) s') s) :
    codeC (model prog w) A (.builtin id args) R s := by
  refine codeC_of_tree hcl ?_
  show wpC _ _ (match entryFor table id with | some b => b args | none => unsupported ((withoutEnding? id "#data").getD id)) _ _ s
  rw [hb]; exact h

theorem wpC_callSpecial {M : Model} {A : Around} {E : Value → Shared → Prop} {s : Shared} {self : Value} {T : String} {name : Str} {id : String} {args : List Value} {kw : List (Str × Value)}
    {Q : Option Value → Shared → Prop} (hT : s.TypeIs self T) (h : Slot T name id)
    (hc : wpC M A (call (.builtin id) (self :: args) kw) (fun v => Q (some v)) E s) : wpC M A (callSpecial? self name args kw) Q E s := by
  simp only [callSpecial?]
  refine wpC_then (wpAny_specialOf hT h.lookup ?_)
  simp only [h.bind]
  exact wpC_holding (wpC_bind (wpC_pure (wpC_bind (wpC_mono hc (fun v s' h' => wpC_pure h') fun _ _ h' => h'))))

theorem codeC_call_builtin {prog : Program} {w : World} {A : Around} {s : Shared} {R : Result → Shared → Prop} {id : String} {args : Args} {b : Builtin} (hcl : holdsOne (.builtin id args) = false) (hp : plainId id = true) (hb : entryFor table id = some b)
    (h : wpAny (model prog w) A.in1 (checkBuiltinCall id args) (fun _ s₁ => wpC (model prog w) A.in1 (b args)
      (fun fin s' => match fin with | .done f => R (.ok f) s' | .again c' => c'.quiet = true ∧ codeC (model prog w) A c' R s') (fun e s' => R (.error e) s') s₁)
      (fun e s' => R (.error e) s') s) : codeC (model prog w) A (.call (.builtin id) args) R s := by
  refine codeC_of_tree rfl ?_
  show wpC _ A.in1 (do checkBuiltinCall id args; again (.builtin id args)) _ _ s
  refine wpC_then (wpAny_mono h (fun _ s₁ h₁ => wpC_pure (And.intro (plainId_quiet hp _) (codeC_builtin hcl hb ?_))) fun _ _ h' => h')
  rw [Around.under_plainId hp _]
  exact h₁

theorem wpC_bytearray {prog : Program} {w : World} {A : Around} {E : Value → Shared → Prop} {s : Shared} {n : Nat} {t : Tok} {Q : Value → Shared → Prop} (hn : n ≤ 4096)
    (h : ∀ a h', s.heap.get? a = none → IsBA h' a (Array.replicate n 0) → (∀ b o, s.heap.get? b = some o → h'.get? b = some o) → Q (.ref a) { s with heap := h' }) :
    wpC (model prog w) A (call (.type "bytearray") [.int n t]) Q E s := by
  refine wpC_call (codeC_of_tree rfl ?_)
  show wpC _ _ (callAny (.type "bytearray") _) _ _ _
  refine wpC_pure ⟨Code.quiet_builtin _ (by decide +kernel), codeC_builtin rfl F.entry_type_call ?_⟩
  rw [Around.under_plain (weight_type_call_type "bytearray" [.int n t] []) rfl]
  unfold Builtin.«type.__call__»
  have h1 := BA.called.notType
  have h2 := BA.called.canCreate
  simp only [h1, h2, BA.typeCall, BA.mro_ba, BA.made, pure_bind, Bool.false_eq_true, if_false, List.isEmpty_cons]
  refine wpC_then (wpAny_holding (wpAny_call (codeAny_mono (code_new (E := fun e s' => False) (.int n t) (Q₁ := fun v s' => v = .ref s.heap.objs.size ∧ s' = { s with heap := s.heap.push (baObj #[]) }) ⟨rfl, rfl⟩) fun r s' hr => ?_)))
  cases r with
  | error e => exact hr.elim
  | ok fl =>
    cases fl with
    | ret obj =>
      obtain ⟨rfl, rfl⟩ := hr
      have ha : IsBA (s.heap.push (baObj #[])) s.heap.objs.size #[] := by simpa [IsBA] using Heap.get?_push_size _ rfl
      have hT : Shared.TypeIs { s with heap := s.heap.push (baObj #[]) } (.ref s.heap.objs.size) "bytearray" := BA.typeIs ha
      refine wpC_then (wpAny_isInstance hT BA.sub_self ?_)
      simp only [Bool.not_true, Bool.false_eq_true, if_false]
      refine wpC_bind (wpC_holding (wpC_callSpecial hT BA.slot_init (wpC_call (codeC_call_builtin rfl BA.slot_init.plain BA.entry_init (BA.slot_init.check _ _ _ _ _ _ _ _ hT (BA.args_init _ _) ?_)))))
      refine init_run ha hn fun h' hb hk => ?_
      refine wpC_pure (h _ h' (Heap.get?_none_of_le (Nat.le_refl _)) hb fun b o e => hk b o (Nat.ne_of_lt (Heap.lt_size e)) (Heap.get?_push_of_some _ e))
    | _ => exact hr.elim
end Mine
end

section -- part Ba2
open PySem PySem.W PySem.Calls PyProof.Rows
set_option Elab.async false
set_option maxRecDepth 100000
set_option maxHeartbeats 4000000
namespace Mine
open Sem (wp)
namespace BA
theorem slot_set : Slot "bytearray" "__setitem__" "bytearray.__setitem__" :=
  .of (owner := "bytearray") (n := "__setitem__") (by rw [typeLookup_type, builtinLookup_eq_fast]; kernel_rfl) (by decide +kernel) (by decide +kernel) (by decide +kernel)
    (by first | exact .inl (by decide +kernel) | exact .inr (by decide +kernel)) (by rw [isSubtype_type]; kernel_rfl)
theorem entry_set : entryFor table "bytearray.__setitem__" = some Builtin.«bytearray.__setitem__» := entryFor_of_tree (by kernel_rfl)
theorem args_set (a b c : Value) : argsOk "bytearray.__setitem__" ⟨[a, b, c], []⟩ := by unfold argsOk; kernel_rfl
theorem noBytes : typeLookup (.type "bytearray") "__bytes__" = pure none := by rw [typeLookup_type, builtinLookup_eq_fast]; kernel_rfl
theorem noIndex : typeLookup (.type "bytearray") "__index__" = pure none := by rw [typeLookup_type, builtinLookup_eq_fast]; kernel_rfl
theorem lk_buffer : typeLookup (.type "bytearray") "__buffer__" = pure (some (.builtin "bytearray.__buffer__")) := by rw [typeLookup_type, builtinLookup_eq_fast]; kernel_rfl
theorem endsBuf : ("bytearray.__buffer__" : String).endsWith ("." ++ "__buffer__") = true := by decide +kernel
theorem dropBuf : ("bytearray.__buffer__" : String).dropRight ("__buffer__".length + 1) = "bytearray" := by decide +kernel
theorem asIndex_int (i : Int) (t : Tok) : asIndex (.int i t) = pure i := rfl
end BA

section
variable {prog : Program} {w : World} {A : Around} {E : Value → Shared → Prop} {s : Shared}

theorem ba_payload {M : Model} {a : Addr} {b : Array UInt8} {Q : Array UInt8 → Shared → Prop} (ha : IsBA s.heap a b) (h : Q b s) : wpAny M A (Builtin.Bytes.payload (.ref a)) Q E s := by
  unfold Builtin.Bytes.payload Builtin.Bytes.payload?
  refine wpAny_bind (wpAny_bind (wpAny_load ha ?_))
  exact wpAny_pure (wpAny_pure h)

theorem ba_set {a : Addr} {b : Array UInt8} {k : Nat} {t u : Tok} {x : UInt8} {Q : Unit → Shared → Prop} (ha : IsBA s.heap a b) (hk : k < b.size) (hz : b.size ≤ 4096)
    (h : ∀ h', IsBA h' a (b.setIfInBounds k x) → (∀ c o, c ≠ a → s.heap.get? c = some o → h'.get? c = some o) → Q () { s with heap := h' }) :
    wpAny (model prog w) A (setItem (.ref a) (.int (k : Int) t) (.int (x.toNat : Int) u)) Q E s := by
  have hT := BA.typeIs ha
  unfold setItem
  refine wpAny_holding ?_
  refine wpAny_bind (wpAny_sequenceKey hT (by decide) ?_)
  refine wpAny_bind (wpAny_callSpecial?_slot (name := Str.ofString "__setitem__") hT BA.slot_set (wpAny_call_entry BA.slot_set hT BA.entry_set ?_ (BA.args_set _ _ _)))
  unfold Builtin.«bytearray.__setitem__»
  refine BA.if_not ?_ ?_
  · exact rfl
  have hsub : Builtin.Bytes.subscript? (.int (k : Int) t) = (do if (← specialOf (.int (k : Int) t) "__index__").isNone then return none else pure (some (k : Int))) := by
    unfold Builtin.Bytes.subscript?
    have : Builtin.Bytes.fitsIndex (k : Int) = true := by
      unfold Builtin.Bytes.fitsIndex
      simp only [Bool.and_eq_true, decide_eq_true_eq]
      omega
    simp only [BA.asIndex_int, pure_bind, this, Bool.not_true, Bool.false_eq_true, if_false]
  show wpAny _ _ (Builtin.Bytes.subscript? (.int (k : Int) t) >>= _) _ _ _
  rw [hsub]
  refine wpAny_bind (wpAny_bind (wpAny_specialOf (typeIs_int _ _ _) BA.lk_index ?_))
  refine BA.if_not ?_ ?_
  · exact rfl
  refine wpAny_pure ?_
  have hx : x.toNat < 256 := x.toNat_lt
  have hbv : Builtin.Bytes.byteValue (.int (x.toNat : Int) u) = pure x := by
    unfold Builtin.Bytes.byteValue
    have e : ((x.toNat : Int) < 0 || (x.toNat : Int) ≥ 256) = false := by simp; omega
    simp only [BA.asIndex_int, pure_bind]
    rw [show (decide ((x.toNat : Int) < 0) || decide ((x.toNat : Int) ≥ 256)) = false by simp; omega]
    simp
  show wpAny _ _ (Builtin.Bytes.byteValue (.int (x.toNat : Int) u) >>= _) _ _ _
  rw [hbv, pure_bind]
  refine wpAny_bind (ba_payload ha ?_)
  have hsi : seqIndex? (k : Int) b.size = some k := by
    unfold seqIndex?
    have h0 : ¬ ((k : Int) < 0) := by omega
    simp [h0, hk]
  rw [hsi]
  dsimp only
  refine wpAny_bind (BA.upd ha (f := fun b => b.setIfInBounds k x) (by simp [sizeLine_eq]; omega) fun h' hb hk => ?_)
  first
    | exact wpAny_bind (wpAny_pure (wpAny_pure ⟨.none, rfl, wpAny_pure (h h' hb hk)⟩))
    | exact wpAny_pure ⟨.none, rfl, wpAny_pure (h h' hb hk)⟩

theorem bytes_new {a : Addr} {b : Array UInt8} {Q : Value → Shared → Prop} (ha : IsBA s.heap a b) (hz : b.size ≤ 4096) (hQ : ∀ t k, Q (.bytes b t) { s with toks := k }) :
    codeAny (model prog w) A (.call (.builtin "bytes.__new__") ⟨[.type "bytes", .ref a], []⟩) (wants Q E) s := by
  refine codeAny_of_tree ?_
  show wpAny _ A.in1 (do checkBuiltinCall "bytes.__new__" ⟨[.type "bytes", .ref a], []⟩; again (.builtin "bytes.__new__" ⟨[.type "bytes", .ref a], []⟩)) _ _ s
  refine wpAny_bind (wpAny_of_eq (F.bm_newCall _) (wpAny_pure ⟨plainId_quiet F.bm_plain _, codeAny_builtin F.bm_entry ?_⟩))
  rw [Around.under_plainId F.bm_plain _]
  have hT := BA.typeIs ha
  unfold Builtin.«bytes.__new__»
  refine wpAny_bind (wpAny_of_eq (a := true) rfl ?_)
  refine bm_if_false ?_ ?_
  · exact rfl
  refine wpAny_bind (wpAny_of_eq F.bm_sub ?_)
  refine bm_if_false ?_ ?_
  · exact rfl
  refine wpAny_bind (wpAny_of_eq (F.bm_bind _) ?_)
  refine wpAny_bind (wpAny_of_eq (a := ()) rfl ?_)
  refine wpAny_bind (wpAny_of_eq (a := ()) rfl ?_)
  refine bm_if_false ?_ ?_
  · exact rfl
  refine wpAny_bind (wpAny_specialOf hT BA.noBytes ?_)
  refine wpAny_bind (wpAny_bind ?_)
  show wpAny _ _ (load a >>= _) _ _ _
  refine wpAny_bind (wpAny_load ha ?_)
  refine wpAny_pure (wpAny_pure ?_)
  refine bm_if_false ?_ ?_
  · exact rfl
  refine wpAny_bind (wpAny_specialOf hT BA.noIndex ?_)
  refine bm_if_true ?_ ?_
  · exact rfl
  first
    | show wpAny _ _ (Builtin.Bytes.buffer? "bytes.__new__" (.ref a) true >>= _) _ _ _
    | (refine wpAny_bind ?_; show wpAny _ _ (Builtin.Bytes.buffer? "bytes.__new__" (.ref a) true >>= _) _ _ _)
  refine wpAny_bind ?_
  unfold Builtin.Bytes.buffer?
  refine wpAny_bind (wpAny_specialOf hT BA.lk_buffer ?_)
  dsimp only
  unfold Builtin.Bytes.slotIsOwn
  refine wpAny_bind (wpAny_bind (wpAny_specialOf hT BA.lk_buffer ?_))
  dsimp only
  rw [BA.endsBuf, BA.dropBuf]
  refine bm_if_false ?_ ?_
  · exact rfl
  refine wpAny_isInstance hT BA.sub_self ?_
  refine bm_if_false ?_ ?_
  · exact rfl
  refine wpAny_bind (wpAny_specialOf hT BA.lk_buffer ?_)
  refine wpAny_bind (BA.own ha ?_)
  refine bm_if_false ?_ ?_
  · exact rfl
  refine wpAny_bind (ba_payload ha (wpAny_pure ?_))
  refine wpAny_bind (wpAny_rule ?_)
  refine wpAny_bind (wpAny_mkBytes ?_ (by rw [sizeLine_eq]; omega))
  show wpAny _ _ (if (Value.type "bytes" == Value.type "bytes") = true then _ else _) _ _ _
  refine bm_if_true (by decide) ?_
  first
    | exact wpAny_pure (hQ _ _)
    | exact wpAny_bind (wpAny_pure (wpAny_pure (hQ _ _)))

/-- bytes(x), x a bytearray -/
theorem call_bytes_ba {a : Addr} {b : Array UInt8} {Q : Value → Shared → Prop} (ha : IsBA s.heap a b) (hz : b.size ≤ 4096)
    (hQ : ∀ t k, Q (.bytes b t) { s with toks := k }) : wpAny (model prog w) A (call (.type "bytes") [.ref a]) Q E s := by
  refine callType_codes (Q₁ := fun obj s₁ => s₁.TypeIs obj "bytes" ∧ Q obj s₁) F.bm_called (F.bm_typeCall _) F.entry_object_init
    (bytes_new ha hz fun t k => ⟨PySem.W.typeIs_bytes _ _ _, hQ t k⟩) fun obj s₁ h₁ => ?_
  exact ⟨h₁.1, F.args_object_init_2 obj _, object_init_meets F.bm_called.init.lookup F.bm_called.made (by decide) prog w A.in1 _ s₁ ⟨h₁.1, rfl, h₁.2⟩⟩
end
end Mine
end

section -- part Base4
open PySem PySem.W PySem.Calls PyProof.Rows
set_option Elab.async false
set_option maxRecDepth 100000
set_option maxHeartbeats 4000000
namespace Mine

/-- a heap that has grown by one object -/
theorem take_new {h₀ h h₁ : Heap} {L a : Addr} {m : Str → Option Value} {news : List (Addr × Obj)} {o : Obj} (F : Fr h₀ L h m) (N : News h₀ L h news)
    (hn : h.get? a = none) (ho : h₁.get? a = some o) (hk : ∀ b o, h.get? b = some o → h₁.get? b = some o) : Fr h₀ L h₁ m ∧ News h₀ L h₁ ((a, o) :: news) := by
  refine ⟨⟨F.ns.keeps hk, fun b o e => hk b o (F.keep b o e), F.above⟩, fun p hp => ?_⟩
  rcases List.mem_cons.mp hp with rfl | hp
  · refine ⟨ho, ?_, ?_⟩
    · rintro rfl
      obtain ⟨o', _, _, e, _⟩ := F.ns
      rw [hn] at e; cases e
    · cases e : h₀.get? a with
      | none => rfl
      | some o' => rw [F.keep _ _ e] at hn; cases hn
  · exact ⟨hk _ _ (N p hp).1, (N p hp).2⟩
/-- one new object is written -/
theorem turn_new {h₀ h h₁ : Heap} {L a : Addr} {m : Str → Option Value} {rest : List (Addr × Obj)} {o o' : Obj} (F : Fr h₀ L h m) (N : News h₀ L h ((a, o) :: rest))
    (ho : h₁.get? a = some o') (hk : ∀ b o, b ≠ a → h.get? b = some o → h₁.get? b = some o) (hr : ∀ p ∈ rest, p.1 ≠ a) : Fr h₀ L h₁ m ∧ News h₀ L h₁ ((a, o') :: rest) := by
  have ha := N (a, o) List.mem_cons_self
  refine ⟨⟨?_, fun b o e => hk b o (fun hb => by subst hb; rw [ha.2.2] at e; cases e) (F.keep b o e), F.above⟩, fun p hp => ?_⟩
  · obtain ⟨o1, es, ep, e, hd, h3, h4⟩ := F.ns
    exact ⟨o1, es, ep, hk _ _ (fun hb => ha.2.1 hb.symm) e, hd, h3, h4⟩
  · rcases List.mem_cons.mp hp with rfl | hp
    · exact ⟨ho, ha.2⟩
    · exact ⟨hk _ _ (hr p hp) (N p (List.mem_cons_of_mem _ hp)).1, (N p (List.mem_cons_of_mem _ hp)).2⟩

section
variable {prog : Program} {w : World} {A : Around} {E : Value → Shared → Prop} {s : Shared} {env : Env} {h₀ : Heap} {x x₂ : Str} {body : List Stmt} {Q : Flow → Shared → Prop}

/-- the end of a turn that stores one more name, x₂ -/
def UPost (h₀ : Heap) (L : Addr) (x x₂ : Str) (m₀ : Str → Option Value) (l : Addr) (P : Obj → Prop) (rest : List (Addr × Obj)) (I : Addr) (oI : Obj) (s₁ : Shared) (Q : Flow → Shared → Prop) (f : Flow) (s₂ : Shared) : Prop :=
  match f with
  | .ret v => Q (.ret v) s₂
  | .brk => Q .next s₂
  | _ => ∃ h' tk m' o', s₂ = { s₁ with heap := h', toks := tk } ∧ Fr h₀ L h' m' ∧ News h₀ L h' ((I, oI) :: (l, o') :: rest) ∧ (∀ z, z ≠ x → z ≠ x₂ → m' z = m₀ z) ∧ P o'
theorem UPost.end {L : Addr} {m₀ : Str → Option Value} {l : Addr} {P : Obj → Prop} {rest : List (Addr × Obj)} {I : Addr} {oI o' : Obj} {s₁ : Shared} {h' : Heap} {tk : Nat} {m' : Str → Option Value}
    (F : Fr h₀ L h' m') (N : News h₀ L h' ((I, oI) :: (l, o') :: rest)) (hm : ∀ z, z ≠ x → z ≠ x₂ → m' z = m₀ z) (hj : P o') : UPost h₀ L x x₂ m₀ l P rest I oI s₁ Q .next { s₁ with heap := h', toks := tk } :=
  ⟨h', tk, m', o', rfl, F, N, hm, hj⟩

theorem loop_range2 {r : Addr} {a₀ b₀ c₀ : Int} {t₀ u₀ v₀ : Tok} (x₂ : Str) (n : Nat) {m₀ : Str → Option Value} {l : Addr} {o₀ : Obj} {rest : List (Addr × Obj)} (P : Nat → Obj → Prop)
    (hh : A.handled = none) (hr : IsRange s.heap r a₀ b₀ c₀ t₀ u₀ v₀) (hsmall : Builtin.Range.small a₀ b₀ c₀ = true) (hsz : Builtin.Range.rangeSize a₀ b₀ c₀ = (n : Int))
    (F : Fr h₀ env.locals s.heap m₀) (N : News h₀ env.locals s.heap ((l, o₀) :: rest)) (hj : P 0 o₀)
    (turn : ∀ i t o h tk I oI (u : Option Value), i < n → P i o → I ≠ l → (∀ p ∈ rest, p.1 ≠ I) → Fr h₀ env.locals h (fun y => if y = x then some (.int (a₀ + (i : Int) * c₀) t) else if y = x₂ then u else m₀ y) → News h₀ env.locals h ((I, oI) :: (l, o) :: rest) →
      wpAny (model prog w) A (execs body env) (UPost h₀ env.locals x x₂ m₀ l (P (i + 1)) rest I oI { s with heap := h, toks := tk } Q) E { s with heap := h, toks := tk })
    (done : ∀ (u u' : Option Value) o h tk, P n o → Fr h₀ env.locals h (fun y => if y = x then u else if y = x₂ then u' else m₀ y) → News h₀ env.locals h ((l, o) :: rest) → Q .next { s with heap := h, toks := tk }) :
    wpAny (model prog w) A (pyIter (.ref r)) (fun it s₂ => LoopAtV prog w A h₀ env x body Q E it s₂) E s := by
  refine loop_range (fun i m nx => (∀ z, z ≠ x → z ≠ x₂ → m z = m₀ z) ∧ ∃ o, nx = (l, o) :: rest ∧ P i o) hh hr hsmall hsz F N ⟨fun _ _ _ => rfl, _, rfl, hj⟩ ?_ ?_
  · rintro i t m₁ news₁ h tk I oI hi ⟨hm, o, rfl, hP⟩ hn F₁ N₁
    have e : (fun y => if y = x then some (Value.int (a₀ + (i : Int) * c₀) t) else m₁ y) = fun y => if y = x then some (Value.int (a₀ + (i : Int) * c₀) t) else if y = x₂ then m₁ x₂ else m₀ y := by
      funext y
      by_cases h1 : y = x
      · simp [h1]
      · simp only [if_neg h1]
        by_cases h2 : y = x₂
        · simp [h2]
        · simp only [if_neg h2]; exact hm y h1 h2
    rw [e] at F₁
    have hn' : ∀ o' : Obj, ∀ p ∈ (l, o') :: rest, p.1 ≠ I := fun o' p hp => by
      rcases List.mem_cons.mp hp with rfl | hp
      · exact hn (l, o) List.mem_cons_self
      · exact hn p (List.mem_cons_of_mem _ hp)
    refine wpAny_mono (turn i t o h tk I oI (m₁ x₂) hi hP (fun e => hn _ (List.mem_cons_self) e.symm) (fun p hp => hn p (List.mem_cons_of_mem _ hp)) F₁ N₁) (fun f s₂ p => ?_) fun _ _ e => e
    cases f with
    | ret v => exact p
    | brk => exact p
    | next => obtain ⟨h', tk', m', o', e, F', N', hm', hj'⟩ := p; exact ⟨h', tk', m', _, e, F', N', hn' o', hm', o', rfl, hj'⟩
    | cont => obtain ⟨h', tk', m', o', e, F', N', hm', hj'⟩ := p; exact ⟨h', tk', m', _, e, F', N', hn' o', hm', o', rfl, hj'⟩
  · rintro m₁ news₁ h tk ⟨hm, o, rfl, hP⟩ F₁ N₁
    refine done (m₁ x) (m₁ x₂) o h tk hP ?_ N₁
    have e : (fun y => if y = x then m₁ x else if y = x₂ then m₁ x₂ else m₀ y) = m₁ := by
      funext y
      by_cases h1 : y = x
      · simp [h1]
      · simp only [if_neg h1]
        by_cases h2 : y = x₂
        · simp [h2]
        · simp only [if_neg h2]; exact (hm y h1 h2).symm
    rw [e]; exact F₁
end

/-- the octets of samples of n, each sample turned round -/
def swapAt (n : Nat) (ks : List Int) (p : Nat) : Int := ks.getD (p / n * n + (n - 1 - p % n)) 0
def swapL (n : Nat) (ks : List Int) : List Int := (List.range ks.length).map (swapAt n ks)
/-- a bytearray at which the places of S have their octet -/
def Swapped (n : Nat) (ks : List Int) (S : Nat → Prop) (o : Obj) : Prop := ∃ b : Array UInt8, o = baObj b ∧ b.size = ks.length ∧ ∀ p, p < ks.length → S p → b[p]? = some (swapAt n ks p).toNat.toUInt8

theorem Swapped.start (n : Nat) (ks : List Int) : Swapped n ks (fun p => p < 0 * n) (baObj (Array.replicate ks.length 0)) :=
  ⟨_, rfl, by simp, fun p _ h => by omega⟩
theorem swapAt_eq {n : Nat} {ks : List Int} {i j : Nat} (hj : j < n) : swapAt n ks (i * n + n - 1 - j) = ks.getD (i * n + j) 0 := by
  unfold swapAt
  have e : i * n + n - 1 - j = (n - 1 - j) + n * i := by rw [Nat.mul_comm n i]; omega
  have hd : (i * n + n - 1 - j) / n = i := by
    rw [e, Nat.add_mul_div_left _ _ (by omega), Nat.div_eq_of_lt (by omega)]; omega
  have hm : (i * n + n - 1 - j) % n = n - 1 - j := by
    rw [e, Nat.add_mul_mod_self_left, Nat.mod_eq_of_lt (by omega)]
  rw [hd, hm]
  congr 1
  omega
theorem Swapped.set {n : Nat} {ks : List Int} {i j : Nat} {b : Array UInt8} (hj : j < n) (hb : Swapped n ks (fun p => p < i * n ∨ (i * n + n - j ≤ p ∧ p < i * n + n)) (baObj b)) :
    Swapped n ks (fun p => p < i * n ∨ (i * n + n - (j + 1) ≤ p ∧ p < i * n + n)) (baObj (b.setIfInBounds (i * n + n - 1 - j) (ks.getD (i * n + j) 0).toNat.toUInt8)) := by
  obtain ⟨b', e, hz, hb⟩ := hb
  have : b' = b := by
    have := congrArg Obj.data e
    simp [baObj] at this
    exact this.symm
  subst this
  refine ⟨_, rfl, by simpa using hz, fun p hp hS => ?_⟩
  rw [Array.getElem?_setIfInBounds]
  by_cases h : i * n + n - 1 - j = p
  · subst h
    rw [if_pos rfl, if_pos (by omega), swapAt_eq hj]
  · rw [if_neg h]
    exact hb p hp (by rcases hS with hS | hS; · exact .inl hS
                      · exact .inr ⟨by omega, hS.2⟩)
theorem Swapped.open {n : Nat} {ks : List Int} {i : Nat} {o : Obj} (h : Swapped n ks (fun p => p < i * n) o) : Swapped n ks (fun p => p < i * n ∨ (i * n + n - 0 ≤ p ∧ p < i * n + n)) o := by
  obtain ⟨b, e, hz, hb⟩ := h
  exact ⟨b, e, hz, fun p hp hS => hb p hp (by rcases hS with hS | hS <;> omega)⟩
theorem Swapped.close {n : Nat} {ks : List Int} {i : Nat} {o : Obj} (h : Swapped n ks (fun p => p < i * n ∨ (i * n + n - n ≤ p ∧ p < i * n + n)) o) : Swapped n ks (fun p => p < (i + 1) * n) o := by
  obtain ⟨b, e, hz, hb⟩ := h
  refine ⟨b, e, hz, fun p hp hS => hb p hp ?_⟩
  rw [Nat.add_mul, Nat.one_mul] at hS
  by_cases h1 : p < i * n
  · exact .inl h1
  · exact .inr ⟨by omega, hS⟩
theorem Swapped.whole {n m : Nat} {ks : List Int} {o : Obj} (hk : ks.length = m * n) (hn : 0 < n) (hin : ∀ k ∈ ks, 0 ≤ k ∧ k < 256) (h : Swapped n ks (fun p => p < m * n) o) : ∃ b, o = baObj b ∧ b.size = ks.length ∧ KBw.bInts b = swapL n ks := by
  obtain ⟨b, e, hz, hb⟩ := h
  refine ⟨b, e, hz, ?_⟩
  apply List.ext_getElem?
  intro p
  by_cases hp : p < ks.length
  · have h1 := hb p hp (by omega)
    have hp' : p < b.size := by omega
    have h2 : b[p] = (swapAt n ks p).toNat.toUInt8 := by
      rw [Array.getElem?_eq_getElem hp'] at h1
      exact Option.some.inj h1
    have hv : 0 ≤ swapAt n ks p ∧ swapAt n ks p < 256 := by
      unfold swapAt
      rw [List.getD_eq_getElem?_getD]
      cases hq : ks[p / n * n + (n - 1 - p % n)]? with
      | none => simp
      | some k => exact hin k (List.mem_of_getElem? hq)
    rw [KBw.bInts, List.getElem?_map, Array.getElem?_toList, Array.getElem?_eq_getElem hp', swapL, List.getElem?_map, List.getElem?_range hp]
    simp only [Option.map_some, h2]
    congr 1
    rw [show ((swapAt n ks p).toNat.toUInt8).toNat = (swapAt n ks p).toNat by simp; omega]
    omega
  · rw [List.getElem?_eq_none (by rw [KBw.ints_length]; omega), List.getElem?_eq_none (by simp [swapL]; omega)]

section
variable {prog : Program} {w : World} {A : Around} {E : Value → Shared → Prop} {s : Shared}
theorem ba_setI {a : Addr} {b : Array UInt8} {k v : Int} {t u : Tok} {Q : Unit → Shared → Prop} (ha : IsBA s.heap a b) (h0 : 0 ≤ k) (hk : k < b.size) (hz : b.size ≤ 4096) (hv : 0 ≤ v) (hv' : v < 256)
    (h : ∀ h', IsBA h' a (b.setIfInBounds k.toNat v.toNat.toUInt8) → (∀ c o, c ≠ a → s.heap.get? c = some o → h'.get? c = some o) → Q () { s with heap := h' }) :
    wpAny (model prog w) A (setItem (.ref a) (.int k t) (.int v u)) Q E s := by
  have e1 : k = ((k.toNat : Nat) : Int) := by omega
  have e2 : v = ((v.toNat.toUInt8.toNat : Nat) : Int) := by simp; omega
  rw [e1, e2]
  refine ba_set ha (by omega) hz fun h' hb hk' => ?_
  refine h h' ?_ hk'
  simpa using hb
end
/-- octets come back, all else stands -/
def GivesBytes (s : Shared) (ks : List Int) (v : Value) (s' : Shared) : Prop := Keeps s s' ∧ ∃ b t, v = .bytes b t ∧ KBw.bInts b = ks
/-- the text of a row of octets -/
def textOf (ks : List Int) : Str := ⟨(ks.map (·.toNat)).toArray⟩
end Mine
end

section -- part HeadC
open PySem PySem.W PySem.Calls PyProof.Rows
set_option Elab.async false
set_option maxRecDepth 100000
set_option maxHeartbeats 4000000
namespace Mine
open Sem (wp)

/-- the caller's own context has no frame that holds a bytearray -/
theorem clear_caller : Clear (⟨.builtin "claim.caller" {}, none, none, [], none⟩ : Ctx) := ⟨by decide, rfl⟩

theorem thread_endsC {prog : Program} {w : World} {t : Sem Fin} {s : Shared} {R : Result → Shared → Prop} (hreg : s.asleep)
    (h : wpC (model prog w) callerA t (fun fin s' => ∃ f, fin = .done f ∧ (R (.ok f) s' ∧ leftWithCleanup s'.gens = false)) (fun e s' => R (.error e) s' ∧ leftWithCleanup s'.gens = false) s) :
    ∃ n r s' s'', runN (denote table) prog w n s ⟨t, .builtin "claim.caller" {}, default, []⟩ = .halted (outcomeOf r) s' ∧
      schedN (denote table) prog w n (.single s ⟨t, .builtin "claim.caller" {}, default, []⟩) = .halted (outcomeOf r) s' ∧ s'.forget = s''.forget ∧ R r s'' := by
  have h' : wp (model prog w) ⟨.builtin "claim.caller" {}, none, none, [], none⟩ t (Sem.finPost (model prog w) ⟨.builtin "claim.caller" {}, none, none, [], none⟩ fun r s' => R r s' ∧ leftWithCleanup s'.gens = false)
      (fun e _ s' => R (.error e) s' ∧ leftWithCleanup s'.gens = false) default s := by
    refine Sem.wp_mono _ _ t (fun fin p' s' h' => ?_) (fun _ _ _ h' => h') default s (h _ default caller_in clear_caller)
    obtain ⟨f, rfl, hf⟩ := h'
    exact hf
  obtain ⟨n, r, s₁, s₂, hs, hn, hfo, hR⟩ := wp_halts_full (M := model prog w) (R := R) hreg h'
  exact ⟨n, r, s₂, s₁, hn, hs, hfo, hR⟩

theorem callFrom_C {c : ClaimW} {tree : List Value → Sem Fin} {w : World} {s : Shared} {free : Addr → Prop} {gens : Prop} {kept : Heap → Prop} (hz : s.asleep) (hgens : s.gens = #[])
    (hspec : ∀ args, c.pre args = true → WData.layableAll args = true →
      ∀ ord : List DictEntry → List DictEntry, (∀ l, (ord l).Perm l) →
      ∃ vs s₁, layAllW c.records (classAt s.heap) w.params ord args s = some (vs, s₁) ∧
        wpC (model c.prog w) callerA (tree vs) (fun fin s' => ∃ f, fin = .done f ∧ (c.Ends s args vs s₁ (.ok f) s' ∧ s'.os = s.os ∧ AllBare s'.gens ∧ kept s'.heap))
          (fun e s' => c.Ends s args vs s₁ (.error e) s' ∧ s'.os = s.os ∧ AllBare s'.gens ∧ kept s'.heap) s₁) :
    c.CallFrom (fun vs => ⟨tree vs, .builtin "claim.caller" {}, default, []⟩) w free gens kept s := by
  intro args hpre hlay ord hord
  obtain ⟨vs, s₁, hlaid, hcode⟩ := hspec args hpre hlay ord hord
  have hal := layAllW_rest _ _ _ hlaid
  obtain ⟨k, r, s', s'', hrun, hsched, hfo, hcase, hos, hkp⟩ := thread_endsC (prog := c.prog) (w := w) (t := tree vs) (s := s₁)
    (R := fun r s' => c.Ends s args vs s₁ r s' ∧ s'.os = s.os ∧ kept s'.heap)
    (Shared.asleep_of_life hal.2.2.2 hz)
    (wpC_mono hcode (by
      rintro fin s' ⟨f, e, h1, h2, h3, h4⟩
      exact ⟨f, e, ⟨h1, h2, h4⟩, leftWithCleanup_false_of_bare h3⟩) (by
      rintro e s' ⟨h1, h2, h3, h4⟩
      exact ⟨⟨h1, h2, h4⟩, leftWithCleanup_false_of_bare h3⟩))
  obtain ⟨eh, _, _, eo, _⟩ := Shared.forget_eq hfo
  have hcase := hcase.congr eh
  have hkp : kept s'.heap := by first | exact eh ▸ hkp | (rw [eh] at hkp; exact hkp) | (rw [← eh] at hkp; exact hkp)
  rw [← eo] at hos
  have hlife : s'.heap.life = s.heap.life := (runN_life _ _ _ hrun).trans hal.2.2.2
  refine ⟨vs, s₁, hlaid, k, _, s', hsched, ?_, (fun _ i x hx => by rw [hgens] at hx; simp at hx), hkp, by rw [hlife], Shared.rest_eq hos⟩
  rcases hcase with ⟨v, rfl, d1, d2, d3, d4, d5⟩ | ⟨e, ob, cls, rfl, d1, d2, d3, d4, d5⟩
  · exact .inl ⟨v, rfl, d1, d2, d3, fun b o y _ => d4 b o y, d5⟩
  · exact .inr ⟨e, ob, cls, rfl, d1, d2, d3, d4, fun b o y _ => d5 b o y⟩

/-- what is left of a law behind its head: its call, in clear contexts -/
abbrev WalkC (q : Program) (loose : List Str) (XP : (Str → Option Value) → Heap → Prop) (YP : World → Heap → Prop) (r : RowW) (d : DefRec) (kwd : List (Str × Expr)) : Prop :=
  ∀ (w : World) (s₀ s₁ : Shared) (mg mb : Str → Option Value), Ground q loose r.records XP w s₀ mg mb s₁.heap → YP w s₁.heap → ∀ (a : Addr) (o : Obj) (pm cd doc dV kV : Value), s₁.heap.get? a = some o →
    o.data = .func { docDef d.name d.params d.body d.scope pm cd doc with defaults := dV, kwdefaults := kV } → s₁.heap.CodeRec cd d.name → Dflts mg s₁.heap d.params kwd dV kV → mg d.name = some (.ref a) → s₁.gens = #[] →
    ∀ (args : List WData) (vals : List Value) (as : List Addr), r.claim.pre args = true → WData.layableAll args = true → ReadsAllW r.records (classAt s₀.heap) s₁.heap vals args as → WellAll w.params s₁.heap vals args → (∀ a ∈ as, (a == sysModules) = false) →
      wpC (model r.prog w) callerA (PySem.call (.ref a) vals) (fun v s' => GoodWG r.claim (classAt s₀.heap) (ExcName.means s₀.heap) args s₁ (.ok (.ret v)) s')
        (fun e s' => GoodWG r.claim (classAt s₀.heap) (ExcName.means s₀.heap) args s₁ (.error e) s') s₁

end Mine

theorem Mine.PySem.W.holds_open {r : OpenRow} {q : Program} {loose : List Str} {Xt : Shared → Bool} {XP : (Str → Option Value) → Heap → Prop} {α : Type} {Yf : Shared → α} {Ya : World → α} {YP : World → Heap → Prop} {d : DefRec} {kwd : List (Str × Expr)} {N : Nat}
    (left : LeftO r.prog q loose Xt Yf Ya N) (hY : ∀ w s, Yf s = Ya w → YP w s.heap) (hYk : ∀ w h h', YP w h → (∀ b o, h.get? b = some o → h'.get? b = some o) → YP w h')
    (hX : ∀ s, Xt s = true → XP (s.heap.nsMap mainGlobals) s.heap) (hXk : ∀ mg h h', XP mg h → (∀ b o, h.get? b = some o → h'.get? b = some o) → XP mg h')
    (hdef : defOf q r.name = some (d, kwd)) (hp : r.prog.theDef r.name = some (d.params, d.body, d.scope)) (hk : kwWritten? d.params.kwonlyargs d.params.kw_defaults = some kwd) (hRf : ∀ s, Xt s = true → RecFacts r.records s.heap) (hwr : (!r.writes || r.records.isEmpty) = true)
    (k1 : r.wellSaid = true) (ok : (chainsOk q && opensWell r.prog && (frees r.toRowW && r.within.isEmpty)) = true) (hb : r.prog.bare) (hw : r.toRowW.promised)
    (call : WalkC q loose XP YP r.toRowW d kwd) : r.Holds := by
  refine ⟨k1, hw, ?_⟩
  obtain ⟨ok, k5⟩ := Bool.and_eq_true_iff.mp ok
  obtain ⟨hch, o1⟩ := Bool.and_eq_true_iff.mp ok
  obtain ⟨k5, k6⟩ := Bool.and_eq_true_iff.mp k5
  obtain ⟨hsame, hu, ha, hap, hm⟩ := frees_parts k5
  refine ⟨⟨hb, o1, by show r.toRowW.makers.map _ = []; rw [hm]; rfl⟩, hw.witness, fun w => ⟨(left.behind hX hch w).1, fun s' hs' => ?_⟩⟩
  obtain ⟨s₀, hf, hg0, s, hT, hz, hgens, hg, G00, y⟩ := (left.behind (XP := fun mg h => XP mg h ∧ RecFacts r.records h) (fun s hs => ⟨hX s hs, hRf s hs⟩) hch w).2 s' hs'
  have G0 : Ground q loose [] XP w s (s.heap.nsMap mainGlobals) (s.heap.nsMap builtinsNs) s.heap := ⟨G00.T, G00.B, G00.D, G00.TE, G00.TD, G00.W, G00.X.1, G00.cls, G00.has, G00.apart, G00.once, G00.K⟩
  have RF := G00.X.2
  have hT' := hT
  refine ⟨s₀, hf, hg0, s, hT, ?_, RF.1, RF.2.1, ?_⟩
  · intro n hn
    obtain rfl : n = r.name := by split at hn <;> simp_all
    exact pinned_of_view hg G0 hdef hp hk
  have hgens : s.gens = #[] := Array.eq_empty_of_size_eq_zero (beq_iff_eq.mp hgens)
  have G : Ground q loose r.records XP w s _ _ s.heap := RF.ground G0
  refine callFrom_C (c := r.toRowW.claim) hz hgens fun args hpre hlay ord hord => ?_
  obtain ⟨⟨vs, s₁⟩, hlaid⟩ := Option.isSome_iff_exists.mp (layAllW_isSome (P := w.params) (ord := ord) G.has args r.toRowW.args s (pre_splitW hpre).1)
  have keeps := layAllW_keeps _ _ _ hlaid
  have hal := layAllW_rest _ _ _ hlaid
  obtain ⟨as, hrd, hin, hold⟩ := reads_layAllW hord _ _ _ hlaid hlay s₁.heap (fun _ _ e => e)
  have L : Laid r.toRowW.records w s s₁ args vs as := ⟨⟨ord, hord, hlaid⟩, hrd, hin, hold, keeps, hal.1.trans hgens, hal.2.2.1⟩
  have G₁ := G.keeps hXk keeps
  obtain ⟨a, o, pm, cd, doc, dV, kV, h1, h2, h3, h4, h5⟩ := G₁.fn hdef
  have h := call w s s₁ _ _ G₁ (hYk _ _ _ (hY w s y) keeps) a o pm cd doc dV kV h2 h3 h4 h5 (defOf_name hdef ▸ h1) L.gens args vs as hpre hlay L.reads L.well (L.low G.low)
  have hi := ident_freeW hu ha hap
  have hwi : r.toRowW.claim.within = [] := List.isEmpty_iff.mp k6
  refine ⟨vs, s₁, hlaid, ?_⟩
  refine wpC_then (wpAny_nsGet G₁.T.g ?_)
  rw [h1]
  refine wpC_bind (wpC_mono h (fun v s' g => wpC_pure ⟨_, rfl, have z := g.laid (c := r.toRowW.claim) hsame hwi hi L; ⟨z.1, z.2.1, z.2.2, fun q => ⟨namesKept_of hT' hg _ keeps g.2.1.old, noTable hwr q⟩⟩⟩) fun e s' g =>
    have z := g.laid (c := r.toRowW.claim) hsame hwi hi L; ⟨z.1, z.2.1, z.2.2, fun q => ⟨namesKept_of hT' hg _ keeps g.2.1.old, noTable hwr q⟩⟩)
end

section -- part HeadK1
open PySem PySem.W PySem.Calls PyProof.Rows
set_option Elab.async false
set_option maxRecDepth 100000
set_option maxHeartbeats 8000000
namespace Mine
/-- the program's statements that count for the names -/
def hd.view_39 : Program := { PySem.Challenge.rw_il0107_01.row.prog with main := { PySem.Challenge.rw_il0107_01.row.prog.main with body := [0, 2, 3, 5, 6, 8, 10, 12, 13, 14, 15, 16, 17].filterMap fun i => PySem.Challenge.rw_il0107_01.row.prog.main.body[i]? } }
/-- the function that the program's i-th statement leaves -/
def fobj (i : Nat) (pm cd : Value) : Obj := match PySem.Challenge.rw_il0107_01.row.prog.main.body[i]? with
  | some (.FunctionDef name params body _ _ _ scope _ _ _) => ⟨.type "function", none, .func (fnOf name name params body scope .none .none .none pm none cd .none), #[]⟩
  | _ => ⟨.none, none, .plain, #[]⟩
/-- objects that stand when the law is called: the names, the map of escape, the functions and their codes -/
def hd.heap_39 : Params → Frag := fun P => [
  (nat_lit 3, Obj.mk (Value.type "dict") none (Data.dict #[DictEntry.mk (PyData.keyHash P (Str.ofString "__name__")) (Value.str (Str.ofString "__name__") 165) (Value.str (Str.ofString "law_il0107_01") 521), DictEntry.mk (PyData.keyHash P (Str.ofString "__doc__")) (Value.str (Str.ofString "__doc__") 166) Value.none, DictEntry.mk (PyData.keyHash P (Str.ofString "__package__")) (Value.str (Str.ofString "__package__") 167) Value.none, DictEntry.mk (PyData.keyHash P (Str.ofString "__loader__")) (Value.str (Str.ofString "__loader__") 168) (Value.builtin "__main__.__loader__#opaque"), DictEntry.mk (PyData.keyHash P (Str.ofString "__spec__")) (Value.str (Str.ofString "__spec__") 169) Value.none, DictEntry.mk (PyData.keyHash P (Str.ofString "__annotations__")) (Value.str (Str.ofString "__annotations__") 170) (Value.ref 6), DictEntry.mk (PyData.keyHash P (Str.ofString "__builtins__")) (Value.str (Str.ofString "__builtins__") 171) (Value.ref 4), DictEntry.mk (PyData.keyHash P (Str.ofString "__file__")) (Value.str (Str.ofString "__file__") 173) (Value.str (Str.ofString "/claim/cut.py") 172), DictEntry.mk (PyData.keyHash P (Str.ofString "__cached__")) (Value.str (Str.ofString "__cached__") 174) Value.none, DictEntry.mk (PyData.keyHash P (Str.ofString "_sre")) (Value.str (Str.ofString "_sre") 275) (Value.ref 12), DictEntry.mk (PyData.keyHash P (Str.ofString "_byteswap")) (Value.str (Str.ofString "_byteswap") 294) (Value.ref 38), DictEntry.mk (PyData.keyHash P (Str.ofString "_twin_re_1")) (Value.str (Str.ofString "_twin_re_1") 332) (Value.ref 43), DictEntry.mk (PyData.keyHash P (Str.ofString "_special_chars_map")) (Value.str (Str.ofString "_special_chars_map") 480) (Value.ref 45), DictEntry.mk (PyData.keyHash P (Str.ofString "escape")) (Value.str (Str.ofString "escape") 487) (Value.ref 55), DictEntry.mk (PyData.keyHash P (Str.ofString "_translate")) (Value.str (Str.ofString "_translate") 508) (Value.ref 62), DictEntry.mk (PyData.keyHash P (Str.ofString "unorderable_list_difference")) (Value.str (Str.ofString "unorderable_list_difference") 520) (Value.ref 69), DictEntry.mk (PyData.keyHash P (Str.ofString "_law_octets")) (Value.str (Str.ofString "_law_octets") 528) (Value.ref 74), DictEntry.mk (PyData.keyHash P (Str.ofString "_law_samples")) (Value.str (Str.ofString "_law_samples") 534) (Value.ref 79), DictEntry.mk (PyData.keyHash P (Str.ofString "_law_takes")) (Value.str (Str.ofString "_law_takes") 540) (Value.ref 84), DictEntry.mk (PyData.keyHash P (Str.ofString "_law_fits")) (Value.str (Str.ofString "_law_fits") 546) (Value.ref 89), DictEntry.mk (PyData.keyHash P (Str.ofString "_law_told")) (Value.str (Str.ofString "_law_told") 552) (Value.ref 94), DictEntry.mk (PyData.keyHash P (Str.ofString "law")) (Value.str (Str.ofString "law") 558) (Value.ref 99)] 22) #[]),
  (nat_lit 37, Obj.mk (Value.type "code") none (Data.fields #[Value.str (Str.ofString "_byteswap") 284, Value.str (Str.ofString "_byteswap") 285, Value.str (Str.ofString "/claim/cut.py") 286, Value.int 3 0, Value.int 2 0, Value.int 0 0, Value.int 0 0, Value.int 3 0, Value.ref 32, Value.bool true, Value.int 276 0, Value.ref 33, Value.none, Value.ref 34, Value.ref 35, Value.ref 36, Value.int 292 0, Value.int 3 0, Value.str (Str.ofString "/claim/cut.py") 293]) #[]),
  (nat_lit 38, fobj 2 (Value.str (Str.ofString "cpy313.wave") 282) (Value.ref 37)),
  (nat_lit 45, Obj.mk (Value.type "dict") none (Data.dict #[DictEntry.mk 40 (Value.int 40 336) (Value.str (Str.ofString "\\(") 340), DictEntry.mk 41 (Value.int 41 342) (Value.str (Str.ofString "\\)") 346), DictEntry.mk 91 (Value.int 91 348) (Value.str (Str.ofString "\\[") 352), DictEntry.mk 93 (Value.int 93 354) (Value.str (Str.ofString "\\]") 358), DictEntry.mk 123 (Value.int 123 360) (Value.str (Str.ofString "\\{") 364), DictEntry.mk 125 (Value.int 125 366) (Value.str (Str.ofString "\\}") 370), DictEntry.mk 63 (Value.int 63 372) (Value.str (Str.ofString "\\?") 376), DictEntry.mk 42 (Value.int 42 378) (Value.str (Str.ofString "\\*") 382), DictEntry.mk 43 (Value.int 43 384) (Value.str (Str.ofString "\\+") 388), DictEntry.mk 45 (Value.int 45 390) (Value.str (Str.ofString "\\-") 394), DictEntry.mk 124 (Value.int 124 396) (Value.str (Str.ofString "\\|") 400), DictEntry.mk 94 (Value.int 94 402) (Value.str (Str.ofString "\\^") 406), DictEntry.mk 36 (Value.int 36 408) (Value.str (Str.ofString "\\$") 412), DictEntry.mk 92 (Value.int 92 414) (Value.str (Str.ofString "\\\\") 418), DictEntry.mk 46 (Value.int 46 420) (Value.str (Str.ofString "\\.") 424), DictEntry.mk 38 (Value.int 38 426) (Value.str (Str.ofString "\\&") 430), DictEntry.mk 126 (Value.int 126 432) (Value.str (Str.ofString "\\~") 436), DictEntry.mk 35 (Value.int 35 438) (Value.str (Str.ofString "\\#") 442), DictEntry.mk 32 (Value.int 32 444) (Value.str (Str.ofString "\\ ") 448), DictEntry.mk 9 (Value.int 9 450) (Value.str (Str.ofString "\\\t") 454), DictEntry.mk 10 (Value.int 10 456) (Value.str (Str.ofString "\\\n") 460), DictEntry.mk 13 (Value.int 13 462) (Value.str (Str.ofString "\\\x0d") 466), DictEntry.mk 11 (Value.int 11 468) (Value.str (Str.ofString "\\\x0b") 472), DictEntry.mk 12 (Value.int 12 474) (Value.str (Str.ofString "\\\x0c") 478)] 24) #[]),
  (nat_lit 54, Obj.mk (Value.type "code") none (Data.fields #[Value.str (Str.ofString "escape") 481, Value.str (Str.ofString "escape") 482, Value.str (Str.ofString "/claim/cut.py") 483, Value.int 12 0, Value.int 1 0, Value.int 0 0, Value.int 0 0, Value.int 3 0, Value.ref 49, Value.bool true, Value.int 276 0, Value.ref 50, Value.none, Value.ref 51, Value.ref 52, Value.ref 53, Value.int 485 0, Value.int 12 0, Value.str (Str.ofString "/claim/cut.py") 486]) #[]),
  (nat_lit 55, fobj 6 (Value.str (Str.ofString "re") 333) (Value.ref 54)),
  (nat_lit 61, Obj.mk (Value.type "code") none (Data.fields #[Value.str (Str.ofString "_translate") 490, Value.str (Str.ofString "_translate") 491, Value.str (Str.ofString "/claim/cut.py") 492, Value.int 19 0, Value.int 3 0, Value.int 0 0, Value.int 0 0, Value.int 3 0, Value.ref 56, Value.bool true, Value.int 276 0, Value.ref 57, Value.none, Value.ref 58, Value.ref 59, Value.ref 60, Value.int 506 0, Value.int 19 0, Value.str (Str.ofString "/claim/cut.py") 507]) #[]),
  (nat_lit 62, fobj 8 (Value.str (Str.ofString "cpy313.fnmatch") 488) (Value.ref 61)),
  (nat_lit 68, Obj.mk (Value.type "code") none (Data.fields #[Value.str (Str.ofString "unorderable_list_difference") 511, Value.str (Str.ofString "unorderable_list_difference") 512, Value.str (Str.ofString "/claim/cut.py") 513, Value.int 82 0, Value.int 2 0, Value.int 0 0, Value.int 0 0, Value.int 3 0, Value.ref 63, Value.bool true, Value.int 276 0, Value.ref 64, Value.none, Value.ref 65, Value.ref 66, Value.ref 67, Value.int 518 0, Value.int 82 0, Value.str (Str.ofString "/claim/cut.py") 519]) #[]),
  (nat_lit 69, fobj 10 (Value.str (Str.ofString "cpy313.unittest.util") 509) (Value.ref 68)),
  (nat_lit 73, Obj.mk (Value.type "code") none (Data.fields #[Value.str (Str.ofString "_law_octets") 523, Value.str (Str.ofString "_law_octets") 524, Value.str (Str.ofString "/claim/cut.py") 525, Value.int 92 0, Value.int 2 0, Value.int 0 0, Value.int 0 0, Value.int 3 0, Value.ref 70, Value.bool true, Value.int 276 0, Value.ref 71, Value.none, Value.none, Value.none, Value.ref 72, Value.int 526 0, Value.int 92 0, Value.str (Str.ofString "/claim/cut.py") 527]) #[]),
  (nat_lit 74, fobj 12 (Value.str (Str.ofString "law_il0107_01") 521) (Value.ref 73)),
  (nat_lit 78, Obj.mk (Value.type "code") none (Data.fields #[Value.str (Str.ofString "_law_samples") 529, Value.str (Str.ofString "_law_samples") 530, Value.str (Str.ofString "/claim/cut.py") 531, Value.int 95 0, Value.int 2 0, Value.int 0 0, Value.int 0 0, Value.int 3 0, Value.ref 75, Value.bool true, Value.int 276 0, Value.ref 76, Value.none, Value.none, Value.none, Value.ref 77, Value.int 532 0, Value.int 95 0, Value.str (Str.ofString "/claim/cut.py") 533]) #[]),
  (nat_lit 79, fobj 13 (Value.str (Str.ofString "law_il0107_01") 521) (Value.ref 78)),
  (nat_lit 83, Obj.mk (Value.type "code") none (Data.fields #[Value.str (Str.ofString "_law_takes") 535, Value.str (Str.ofString "_law_takes") 536, Value.str (Str.ofString "/claim/cut.py") 537, Value.int 97 0, Value.int 2 0, Value.int 0 0, Value.int 0 0, Value.int 3 0, Value.ref 80, Value.bool true, Value.int 276 0, Value.ref 81, Value.none, Value.none, Value.none, Value.ref 82, Value.int 538 0, Value.int 97 0, Value.str (Str.ofString "/claim/cut.py") 539]) #[]),
  (nat_lit 84, fobj 14 (Value.str (Str.ofString "law_il0107_01") 521) (Value.ref 83)),
  (nat_lit 88, Obj.mk (Value.type "code") none (Data.fields #[Value.str (Str.ofString "_law_fits") 541, Value.str (Str.ofString "_law_fits") 542, Value.str (Str.ofString "/claim/cut.py") 543, Value.int 105 0, Value.int 2 0, Value.int 0 0, Value.int 0 0, Value.int 3 0, Value.ref 85, Value.bool true, Value.int 276 0, Value.ref 86, Value.none, Value.none, Value.none, Value.ref 87, Value.int 544 0, Value.int 105 0, Value.str (Str.ofString "/claim/cut.py") 545]) #[]),
  (nat_lit 89, fobj 15 (Value.str (Str.ofString "law_il0107_01") 521) (Value.ref 88)),
  (nat_lit 93, Obj.mk (Value.type "code") none (Data.fields #[Value.str (Str.ofString "_law_told") 547, Value.str (Str.ofString "_law_told") 548, Value.str (Str.ofString "/claim/cut.py") 549, Value.int 111 0, Value.int 3 0, Value.int 0 0, Value.int 0 0, Value.int 3 0, Value.ref 90, Value.bool true, Value.int 276 0, Value.ref 91, Value.none, Value.none, Value.none, Value.ref 92, Value.int 550 0, Value.int 111 0, Value.str (Str.ofString "/claim/cut.py") 551]) #[]),
  (nat_lit 94, fobj 16 (Value.str (Str.ofString "law_il0107_01") 521) (Value.ref 93)),
  (nat_lit 98, Obj.mk (Value.type "code") none (Data.fields #[Value.str (Str.ofString "law") 553, Value.str (Str.ofString "law") 554, Value.str (Str.ofString "/claim/cut.py") 555, Value.int 121 0, Value.int 1 0, Value.int 0 0, Value.int 0 0, Value.int 3 0, Value.ref 95, Value.bool true, Value.int 276 0, Value.ref 96, Value.none, Value.none, Value.none, Value.ref 97, Value.int 556 0, Value.int 121 0, Value.str (Str.ofString "/claim/cut.py") 557]) #[]),
  (nat_lit 99, fobj 17 (Value.str (Str.ofString "law_il0107_01") 521) (Value.ref 98))]

def hook : Hook := kHook hd.heap_39 [3, 37, 38, 45, 54, 55, 61, 62, 68, 69, 73, 74, 78, 79, 83, 84, 88, 89, 93, 94, 98, 99] (fun _ => rfl)
abbrev PL (w : World) : Prop := (openEnds treeTable PySem.Challenge.rw_il0107_01.row.prog w 3464).map (fun s => (openSeen hd.view_39 [Str.ofString "_twin_re_1", Str.ofString "_special_chars_map"] (importedModules PySem.Challenge.rw_il0107_01.row.prog.main.body) (fun s => xlAt hd.view_39 [] s && recOk (RowW.records PySem.Challenge.rw_il0107_01.row.toRowW) s) true s, Hook.obs hook s)) = some (openGood hd.view_39 [Str.ofString "_twin_re_1", Str.ofString "_special_chars_map"], Hook.val hook w)
theorem leaf_ff (w : World) : PL ((w.withFollow "special-get-raises" false).withFollow "comprehension-iter-twice" false) := by
  delta PL
  kernel_rfl
theorem leaf_ft (w : World) : PL ((w.withFollow "special-get-raises" true).withFollow "comprehension-iter-twice" false) := by
  delta PL
  kernel_rfl
theorem leaf_tf (w : World) : PL ((w.withFollow "special-get-raises" false).withFollow "comprehension-iter-twice" true) := by
  delta PL
  kernel_rfl
theorem leaf_tt (w : World) : PL ((w.withFollow "special-get-raises" true).withFollow "comprehension-iter-twice" true) := by
  delta PL
  kernel_rfl
theorem left02 : LeftO PySem.Challenge.rw_il0107_01.row.prog hd.view_39 [Str.ofString "_twin_re_1", Str.ofString "_special_chars_map"] (fun s => xlAt hd.view_39 [] s && recOk (RowW.records PySem.Challenge.rw_il0107_01.row.toRowW) s) (Hook.obs hook) (Hook.val hook) 3464 :=
  byRow2 "comprehension-iter-twice" (P := PL) (byRow2 "special-get-raises" (P := fun w => PL (w.withFollow "comprehension-iter-twice" false)) leaf_ff leaf_ft)
    (byRow2 "special-get-raises" (P := fun w => PL (w.withFollow "comprehension-iter-twice" true)) leaf_tf leaf_tt)
end Mine
end

section -- part Rem
open PySem PySem.W PySem.Calls PyProof.Rows
set_option Elab.async false
set_option maxRecDepth 100000
set_option maxHeartbeats 4000000
namespace Mine

/-- a list of texts on the heap -/
def IsStrs (h : Heap) (v : Value) (ss : List Str) : Prop := ∃ a vs c, v = .ref a ∧ h.get? a = some { cls := .type "list", data := .seq (vs : List Value).toArray c } ∧ StrsAre vs ss ∧ ∀ t ∈ ss, PyData.strOk t = true
def strsD (ss : List Str) : PyData := .list (ss.map .str)

theorem reads_strs {h : Heap} : ∀ {vs : List Value} {ss : List Str}, StrsAre vs ss → ReadsAll h vs (ss.map .str) []
  | _, _, .nil => .nil
  | _, _, .cons x t r => .cons (as := []) (.str x t) (reads_strs r)
theorem IsStrs.reads {h : Heap} {v : Value} {ss : List Str} (x : IsStrs h v ss) : ∃ as, Reads h v (strsD ss) as := by
  obtain ⟨a, vs, c, rfl, hg, hs, _⟩ := x
  exact ⟨_, .list hg rfl rfl (by simpa using reads_strs hs)⟩
theorem eqvAll_strs : ∀ xs ys : List Str, PyData.eqvAll (xs.map .str) (ys.map .str) = decide (xs = ys)
  | [], [] => by simp [PyData.eqvAll]
  | [], y :: ys => by simp [PyData.eqvAll]
  | x :: xs, [] => by simp [PyData.eqvAll]
  | x :: xs, y :: ys => by
    simp only [List.map_cons, PyData.eqvAll, eqvAll_strs xs ys, PyData.eqv]
    by_cases h1 : x = y <;> by_cases h2 : xs = ys <;> simp [h1, h2]
theorem eqv_strs (xs ys : List Str) : PyData.eqv (strsD xs) (strsD ys) = decide (xs = ys) := by
  show PyData.eqv (.list _) (.list _) = _
  simp only [PyData.eqv]
  exact eqvAll_strs xs ys
theorem canLay_strs {ss : List Str} (h : ∀ t ∈ ss, PyData.strOk t = true) : PyData.canLay0 (strsD ss) = true := by
  show PyData.canLay0 (.list _) = true
  simp only [PyData.canLay0]
  induction ss with
  | nil => simp [PyData.canLayAll0]
  | cons x ss ih => simp [PyData.canLayAll0, PyData.canLay0, ih fun t ht => h t (List.mem_cons_of_mem _ ht), h x List.mem_cons_self]
theorem depth_strs (ss : List Str) : (strsD ss).depth ≤ 2 := by
  have h : ∀ ss : List Str, PyData.depthAll (ss.map .str) ≤ 1 := by
    intro ss
    induction ss with
    | nil => simp [PyData.depthAll]
    | cons x ss ih => simp [PyData.depthAll, PyData.depth]; omega
  show PyData.depth (.list _) ≤ 2
  have := h ss
  simp only [PyData.depth]
  omega

section
variable {prog : Program} {w : World} {A : Around} {E : Value → Shared → Prop} {s : Shared}
end
end Mine
namespace Mine
/-- every object of h that is not in h₀ and not among xs, as a ledger -/
theorem all_but (h₀ h : Heap) (L : Addr) (xs : List Addr) (hL : h.get? L = none) : ∃ news, (∀ h' : Heap, (∀ b o, h.get? b = some o → h'.get? b = some o) → News h₀ L h' news) ∧ (∀ p ∈ news, p.1 ∉ xs ∧ p.1 < h.objs.size) ∧
    ∀ h' : Heap, (∀ b o, h₀.get? b = some o → h.get? b = some o) → (∀ b o, h₀.get? b = some o → h'.get? b = some o) → (∀ p ∈ news, h'.get? p.1 = some p.2) → ∀ b o, b ∉ xs → h.get? b = some o → h'.get? b = some o := by
  refine ⟨(List.range h.objs.size).filterMap fun b => if b ∈ xs ∨ h₀.get? b ≠ none then none else (h.get? b).map fun o => (b, o), ?_, ?_, ?_⟩
  · intro h' hk p hp
    obtain ⟨b, _, e⟩ := List.mem_filterMap.mp hp
    by_cases hb : b ∈ xs ∨ h₀.get? b ≠ none
    · rw [if_pos hb] at e; cases e
    · rw [if_neg hb] at e
      obtain ⟨o, ho, rfl⟩ := Option.map_eq_some_iff.mp e
      refine ⟨hk _ _ ho, (fun (z : b = L) => by subst z; rw [hL] at ho; cases ho), ?_⟩
      cases q : h₀.get? b with
      | none => rfl
      | some o' => exact absurd (.inr (by rw [q]; exact fun z => by cases z)) hb
  · intro p hp
    obtain ⟨b, hb', e⟩ := List.mem_filterMap.mp hp
    by_cases hb : b ∈ xs ∨ h₀.get? b ≠ none
    · rw [if_pos hb] at e; cases e
    · rw [if_neg hb] at e
      obtain ⟨o, ho, rfl⟩ := Option.map_eq_some_iff.mp e
      exact ⟨fun h => hb (.inl h), List.mem_range.mp hb'⟩
  · intro h' k0 k1 N b o hbx e
    by_cases hb : h₀.get? b = none
    · refine N (b, o) (List.mem_filterMap.mpr ⟨b, List.mem_range.mpr (Heap.lt_size e), ?_⟩)
      rw [if_neg (fun z => z.elim hbx fun z => z hb), e]
      rfl
    · obtain ⟨o', ho'⟩ := Option.ne_none_iff_exists'.mp hb
      have := k0 b o' ho'
      rw [e] at this
      cases this
      exact k1 b o ho'
end Mine
end

section -- part Bag
open PySem PySem.W PySem.Calls PyProof.Rows
set_option Elab.async false
set_option maxHeartbeats 4000000
namespace Mine
/-- values that stand for lists of texts -/
def Cont (h : Heap) (vs : List Value) (css : List (List Str)) : Prop := vs.length = css.length ∧ ∀ (m : Nat) (y : Value), vs[m]? = some y → ∃ cs : List Str, css[m]? = some cs ∧ IsStrs h y cs

theorem Cont.eraseIdx {h : Heap} {vs : List Value} {css : List (List Str)} (x : Cont h vs css) (j : Nat) : Cont h (vs.eraseIdx j) (css.eraseIdx j) := by
  refine ⟨?_, fun m y hy => ?_⟩
  · rw [List.length_eraseIdx, List.length_eraseIdx, x.1]
  · rw [List.getElem?_eraseIdx] at hy ⊢
    by_cases hm : m < j
    · rw [if_pos hm] at hy ⊢
      exact x.2 m y hy
    · rw [if_neg hm] at hy ⊢
      exact x.2 (m + 1) y hy
end Mine
end

section -- part Rows3
open PySem PySem.W PySem.Calls PyProof.Rows
set_option Elab.async false
set_option maxRecDepth 100000
set_option maxHeartbeats 4000000
namespace Mine
theorem fr_on {h₀ h h' : Heap} {L : Addr} {m : Str → Option Value} (F : Fr h₀ L h m) (k : ∀ b o, h.get? b = some o → h'.get? b = some o) : Fr h₀ L h' m := ⟨F.ns.keeps k, fun b o e => k b o (F.keep b o e), F.above⟩
/-- what a walk within the law's frame leaves: the frame, and all that stood -/
def Led (h₀ : Heap) (L : Addr) (m : Str → Option Value) (s s' : Shared) : Prop := ∃ h tk, s' = { s with heap := h, toks := tk } ∧ Fr h₀ L h m ∧ ∀ b o, b ≠ L → s.heap.get? b = some o → h.get? b = some o
theorem wpC_toks {α : Type} {M : Model} {A : Around} {E : Value → Shared → Prop} {s : Shared} {t : Sem α} {Q : α → Shared → Prop} (h : wpC M A t Q E s) :
    wpC M A t (fun a s' => s.toks ≤ s'.toks ∧ Q a s') (fun e s' => s.toks ≤ s'.toks ∧ E e s') s := fun Γ p hΓ hc => Sem.wp_toks M Γ s.toks t _ _ p s (Nat.le_refl _) (h Γ p hΓ hc)
theorem use_give {M : Model} {A : Around} {E : Value → Shared → Prop} {s : Shared} {h₀ : Heap} {L : Addr} {m : Str → Option Value} {news : List (Addr × Obj)} {t : Sem Value} {Q R : Value → Shared → Prop}
    (F : Fr h₀ L s.heap m) (N : News h₀ L s.heap news) (C : wpAny M A t (fun v s' => Keeps s s' ∧ R v s') E s)
    (h : ∀ v h' tk', (∀ b o, s.heap.get? b = some o → h'.get? b = some o) → Fr h₀ L h' m → News h₀ L h' news → R v { s with heap := h', toks := tk' } → Q v { s with heap := h', toks := tk' }) : wpAny M A t Q E s := by
  refine wpAny_mono C (fun v s' ⟨k, r⟩ => ?_) fun _ _ x => x
  obtain ⟨h', tk', rfl, k⟩ := k
  exact h v h' tk' k (F.keeps k) (N.grown k) r
section
variable {M : Model} {A : Around} {E : Value → Shared → Prop} {s : Shared} {env : Env}
end
/-- a list of lists of texts, none of them the frame or the list itself -/
def RowsL (L : Addr) (h : Heap) (r : Addr) (css : List (List Str)) : Prop := r ≠ L ∧ ∃ vs c, h.get? r = some (listOf vs.toArray c) ∧ Cont h vs css ∧ ∀ y ∈ vs, y ≠ .ref L ∧ y ≠ .ref r
/-- the rows that a comprehension has made so far, at none of the addresses av -/
def JR (css : List (List Str)) (av : List Addr) (k : Nat) (ys : List Value) (h : Heap) : Prop := Cont h ys (css.take k) ∧ ∀ y ∈ ys, ∀ a, y = .ref a → a ∉ av
theorem JR.zero {css : List (List Str)} {av : List Addr} {h : Heap} : JR css av 0 [] h := ⟨⟨rfl, fun m y e => by simp at e⟩, fun y hy => by cases hy⟩
theorem JR.frame {css : List (List Str)} {av : List Addr} {k : Nat} {ys : List Value} {h h' : Heap} (x : JR css av k ys h) (kk : ∀ b o, b ∉ av → h.get? b = some o → h'.get? b = some o) : JR css av k ys h' := by
  refine ⟨⟨x.1.1, fun m y e => ?_⟩, x.2⟩
  obtain ⟨cs, e1, a, vs, c, rfl, hg, hs⟩ := x.1.2 m y e
  exact ⟨cs, e1, a, vs, c, rfl, kk a _ (x.2 _ (List.mem_of_getElem? e) a rfl) hg, hs⟩
theorem JR.push {css : List (List Str)} {av : List Addr} {k : Nat} {ys : List Value} {h : Heap} {a : Addr} {cs : List Str} (x : JR css av k ys h) (hc : css[k]? = some cs) (hi : IsStrs h (.ref a) cs) (ha : a ∉ av) : JR css av (k + 1) (ys ++ [.ref a]) h := by
  have hlt : k < css.length := (List.getElem?_eq_some_iff.mp hc).1
  have hl : ys.length = k := by rw [x.1.1, List.length_take]; omega
  refine ⟨⟨by rw [List.length_append, hl, List.length_take]; simp; omega, fun m y e => ?_⟩, fun y hy b e => ?_⟩
  · by_cases hm : m < ys.length
    · rw [List.getElem?_append_left hm] at e
      obtain ⟨cs', e1, e2⟩ := x.1.2 m y e
      refine ⟨cs', ?_, e2⟩
      rw [List.getElem?_take] at e1 ⊢
      rw [if_pos (by omega)] at e1
      rw [if_pos (by omega)]
      exact e1
    · rw [List.getElem?_append_right (by omega)] at e
      have hm0 : m - ys.length = 0 := by
        have := (List.getElem?_eq_some_iff.mp e).1
        simp at this
        omega
      rw [hm0] at e
      have ey : Value.ref a = y := by simpa using e
      subst ey
      have em : m = k := by omega
      subst em
      exact ⟨cs, by rw [List.getElem?_take, if_pos (by omega)]; exact hc, hi⟩
  · rcases List.mem_append.mp hy with hy | hy
    · exact x.2 y hy b e
    · have := List.mem_singleton.mp hy
      rw [this] at e
      cases e
      exact ha

section
variable {prog : Program} {w : World} {A : Around} {E : Value → Shared → Prop} {env : Env}

theorem rows_avoid {h₀ h h₃ : Heap} {L I C D a ax : Addr} {m m₃ : Str → Option Value} {i : Nat} (F : Fr h₀ L h m) (hk : ∀ b o, h.get? b = some o → h₃.get? b = some o) (hC : h₃.Ns C m₃) (hD : ∃ o, h₃.get? D = some o) (hI : h₃.IsListIter I ax i) (ha : h₃.get? a = none) : a ∉ [L, C, D, I] := by
  intro hm
  simp only [List.mem_cons, List.not_mem_nil, or_false] at hm
  rcases hm with rfl | rfl | rfl | rfl
  · obtain ⟨o, _, _, ho, _⟩ := F.ns
    rw [hk _ _ ho] at ha; cases ha
  · obtain ⟨o, _, _, ho, _⟩ := hC
    rw [ho] at ha; cases ha
  · obtain ⟨o, ho⟩ := hD
    rw [ho] at ha; cases ha
  · obtain ⟨o, ho, _⟩ := hI
    rw [ho] at ha; cases ha
theorem JR.rows {css : List (List Str)} {L C I D : Addr} {n c : Nat} {ys : List Value} {h : Heap} (x : JR css [L, C, D, I] n ys h) (hn : css.length ≤ n) (hg : h.get? D = some (listOf ys.toArray c)) (hDL : D ≠ L) : RowsL L h D css := by
  refine ⟨hDL, ys, c, hg, by have := x.1; rwa [List.take_of_length_le hn] at this, fun y hy => ⟨?_, ?_⟩⟩
  · rintro rfl
    exact x.2 _ hy _ rfl (by simp)
  · rintro rfl
    exact x.2 _ hy _ rfl (by simp)

end
end Mine
end

section -- part EltRev
open PySem PySem.W PySem.Calls PyProof.Rows
set_option Elab.async false
set_option maxRecDepth 100000
set_option maxHeartbeats 4000000
namespace Mine
end Mine
end

section -- part Pure1
open PySem PyProof PyProof.Rows
set_option Elab.async false
namespace Mine

/-- a sign, a backslash ahead of the dot, the hyphen and the blank -/
def escC (c : Nat) : Str := if c = 46 ∨ c = 45 ∨ c = 32 then ⟨#[92, c]⟩ else ⟨#[c]⟩
/-- is this sign told, that one standing ahead of it? -/
def told (p : Option Nat) (c : Nat) : Bool := c != 42 || p != some 42
/-- the parts of a text: one star for each run -/
def partsL : Option Nat → List Nat → List Str
  | _, [] => []
  | p, c :: r => (if told p c then [escC c] else []) ++ partsL (some c) r

theorem partsL_snoc (c : Nat) : ∀ (l : List Nat) (p : Option Nat), partsL p (l ++ [c]) = partsL p l ++ (if told (l.getLast?.or p) c then [escC c] else [])
  | [], p => by simp [partsL]; rfl
  | d :: r, p => by
    rw [List.cons_append, partsL, partsL, partsL_snoc c r (some d), List.append_assoc]
    cases r with
    | nil => simp; rfl
    | cons e r =>
      rw [List.getLast?_cons_cons]
      cases h : (e :: r).getLast? with
      | none => simp at h
      | some v => simp; rfl

theorem partsL_len : ∀ (l : List Nat) (p : Option Nat), (partsL p l).length ≤ l.length
  | [], _ => Nat.le_refl _
  | c :: r, p => by
    rw [partsL, List.length_append, List.length_cons]
    have := partsL_len r (some c)
    split <;> simp <;> omega

theorem partsL_prev (r : List Nat) (p q : Option Nat) (h : r.head? ≠ some 42 ∨ (p = some 42 ↔ q = some 42)) : partsL p r = partsL q r := by
  cases r with
  | nil => rfl
  | cons c r =>
    rw [partsL, partsL]
    have e : told p c = told q c := by
      unfold told
      rcases h with h | h
      · have hc : c ≠ 42 := by simpa using h
        rw [bne_iff_ne.mpr hc, Bool.true_or, Bool.true_or]
      · by_cases hp : p = some 42
        · rw [hp, h.mp hp]
        · have hq : q ≠ some 42 := fun e => hp (h.mpr e)
          rw [bne_iff_ne.mpr hp, bne_iff_ne.mpr hq]
    rw [e]

theorem partsL_some (c : Nat) (r : List Nat) : partsL (some c) r = (if c = 42 ∧ r.head? = some 42 then (partsL none r).drop 1 else partsL none r) := by
  split
  · rename_i h
    obtain ⟨rfl, h⟩ := h
    cases r with
    | nil => cases h
    | cons d r =>
      have hd : d = 42 := by simpa using h
      subst hd
      simp [partsL, told]
  · rename_i h
    refine partsL_prev r _ _ ?_
    by_cases hc : c = 42
    · exact .inl fun q => h ⟨hc, q⟩
    · exact .inr (by simp [hc])

/-- the parts of the text read from behind are the parts, read from behind -/
theorem partsL_reverse : ∀ l : List Nat, partsL none l.reverse = (partsL none l).reverse
  | [] => rfl
  | c :: r => by
    rw [List.reverse_cons, partsL_snoc, partsL_reverse r, partsL, List.reverse_append, partsL_some]
    simp only [List.getLast?_reverse, Option.or_none]
    by_cases hc : c = 42
    · subst hc
      by_cases hr : r.head? = some 42
      · cases r with
        | nil => cases hr
        | cons d r =>
          have hd : d = 42 := by simpa using hr
          subst hd
          simp [partsL, told]
      · simp [hr, told]
    · simp [hc, told]

theorem sign_at {x : Str} {i : Nat} (hi : i < x.length) : ∃ d, x.cps[i]? = some d := by
  have hi' : i < x.cps.size := hi
  exact ⟨x.cps[i], Array.getElem?_eq_getElem hi'⟩
theorem ne_star (c : Nat) : ((⟨#[c]⟩ : Str) != Str.ofString "*") = decide (c ≠ 42) := by
  rw [show Str.ofString "*" = ⟨#[42]⟩ from by decide +kernel]
  by_cases h : c = 42
  · subst h; decide +kernel
  · have : (⟨#[c]⟩ : Str) ≠ ⟨#[42]⟩ := fun e => h (by simpa using congrArg (fun s : Str => s.cps) e)
    simp [h, bne_iff_ne, this]
section
variable {x : Str} {i d : Nat} {vs : List Value}
theorem parts_step (hd : x.cps[i]? = some d) : partsL none (x.cps.toList.take (i + 1)) = partsL none (x.cps.toList.take i) ++ (if told (x.cps.toList.take i).getLast? d then [escC d] else []) := by
  have : x.cps.toList.take (i + 1) = x.cps.toList.take i ++ [d] := by
    rw [List.take_add_one]
    simp [hd]
  rw [this, partsL_snoc, Option.or_none]
end

theorem escC_star (c : Nat) : escC c = ⟨#[42]⟩ ↔ c = 42 := by
  unfold escC
  constructor
  · intro h
    split at h
    · have := congrArg (fun s : Str => s.cps.size) h
      simp at this
    · have := congrArg (fun s : Str => s.cps) h
      simpa using this
  · rintro rfl
    rfl
theorem partsL_last (l : List Nat) (c : Nat) : ∃ ws, partsL none (l ++ [c]) = ws ++ [escC c] := by
  have main : ∀ n, ∀ l : List Nat, l.length ≤ n → ∀ c, ∃ ws, partsL none (l ++ [c]) = ws ++ [escC c] := by
    intro n
    induction n with
    | zero =>
      intro l hl c
      have : l = [] := List.length_eq_zero_iff.mp (Nat.le_zero.mp hl)
      subst this
      exact ⟨[], by simp [partsL, told]⟩
    | succ n ih =>
      intro l hl c
      rw [partsL_snoc, Option.or_none]
      cases ht : told l.getLast? c with
      | true => exact ⟨partsL none l, by simp⟩
      | false =>
        unfold told at ht
        have hc : c = 42 := by
          cases hq : (c != 42) with
          | true => rw [hq] at ht; simp at ht
          | false => simpa using hq
        have hl' : l.getLast? = some 42 := by
          cases hq : (l.getLast? != some 42) with
          | true => rw [hq] at ht; simp at ht
          | false => simpa using hq
        obtain ⟨ws, rfl⟩ : ∃ ws, l = ws ++ [42] := by
          rw [List.getLast?_eq_some_iff] at hl'
          exact hl'
        obtain ⟨us, hu⟩ := ih ws (by rw [List.length_append, List.length_singleton] at hl; omega) 42
        refine ⟨us, ?_⟩
        rw [hu, hc]
        simp
  exact main l.length l (Nat.le_refl _) c
/-- the parts so far, one sign more -/
theorem parts_more {x y : Str} {i d : Nat} {vs : List Value} (hS : StrsAre vs (partsL none (x.cps.toList.take i))) (hd : x.cps[i]? = some d) (hne : d ≠ 42) (hy : escC d = y) (t : Tok) :
    StrsAre (vs ++ [.str y t]) (partsL none (x.cps.toList.take (i + 1))) := by
  subst hy
  rw [parts_step hd, if_pos (by rw [told, bne_iff_ne.mpr hne, Bool.true_or])]
  exact StrsAre.append' hS (.cons (escC d) t .nil)
theorem strsAre_last {ws : List Value} {y : Str} {t : Tok} : ∀ {ss : List Str}, StrsAre (ws ++ [.str y t]) ss → ∃ us, ss = us ++ [y] ∧ StrsAre ws us := by
  induction ws with
  | nil => intro ss h; cases h with | cons _ _ r => cases r; exact ⟨[], rfl, .nil⟩
  | cons v ws ih =>
    intro ss h
    cases h with
    | cons n u r =>
      obtain ⟨us, rfl, hr⟩ := ih r
      exact ⟨n :: us, rfl, .cons _ _ hr⟩
theorem strsAre_split {vs : List Value} {ss : List Str} (h : StrsAre vs ss) : vs = [] ∨ ∃ ws y t, vs = ws ++ [.str y t] := by
  rcases List.eq_nil_or_concat vs with e | ⟨ws, v, e⟩
  · exact .inl e
  · rw [List.concat_eq_append] at e
    subst e
    right
    have : ∀ (ws : List Value) (v : Value) (ss : List Str), StrsAre (ws ++ [v]) ss → ∃ y t, v = .str y t := by
      intro ws
      induction ws with
      | nil => intro v ss h; cases h with | cons y t r => exact ⟨y, t, rfl⟩
      | cons w ws ih => intro v ss h; cases h with | cons y t r => exact ih v _ r
    obtain ⟨y, t, rfl⟩ := this ws v ss h
    exact ⟨ws, y, t, rfl⟩
/-- a star: told where nothing stands yet, or the last part is no star -/
theorem parts_star {x : Str} {i : Nat} {vs : List Value} (hS : StrsAre vs (partsL none (x.cps.toList.take i))) (hd : x.cps[i]? = some 42) (t : Tok)
    (h : vs = [] ∨ ∃ ws y u, vs = ws ++ [.str y u] ∧ y ≠ ⟨#[42]⟩) : StrsAre (vs ++ [.str ⟨#[42]⟩ t]) (partsL none (x.cps.toList.take (i + 1))) := by
  have ht : told (x.cps.toList.take i).getLast? 42 = true := by
    unfold told
    rw [Bool.or_eq_true]
    right
    rw [bne_iff_ne]
    intro e
    obtain ⟨l, hl⟩ := List.getLast?_eq_some_iff.mp e
    rw [hl] at hS
    obtain ⟨us, hu⟩ := partsL_last l 42
    rw [hu] at hS
    rcases h with rfl | ⟨ws, y, u, rfl, hy⟩
    · have := StrsAre.length hS
      simp at this
    · obtain ⟨us', e', _⟩ := strsAre_last hS
      have := (List.append_inj' e' rfl).2
      simp at this
      exact hy this.symm
  rw [parts_step hd, if_pos ht]
  exact StrsAre.append' hS (.cons _ t .nil)
theorem parts_star_stay {x : Str} {i : Nat} {ws : List Value} {u : Tok} (hS : StrsAre (ws ++ [.str ⟨#[42]⟩ u]) (partsL none (x.cps.toList.take i))) (hd : x.cps[i]? = some 42) : StrsAre (ws ++ [.str ⟨#[42]⟩ u]) (partsL none (x.cps.toList.take (i + 1))) := by
  have ht : told (x.cps.toList.take i).getLast? 42 = false := by
    rcases List.eq_nil_or_concat (x.cps.toList.take i) with e | ⟨l, c, e⟩
    · rw [e] at hS
      have := StrsAre.length hS
      simp [partsL] at this
    · rw [List.concat_eq_append] at e
      rw [e] at hS ⊢
      obtain ⟨us, hu⟩ := partsL_last l c
      rw [hu] at hS
      obtain ⟨us', e', _⟩ := strsAre_last hS
      have h2 := (List.append_inj' e' rfl).2
      simp at h2
      have hc := (escC_star c).mp h2
      subst hc
      simp [told]
  rw [parts_step hd, ht]
  simpa using hS

theorem star_eq : Str.ofString "*" = ⟨#[42]⟩ := by decide +kernel
theorem parts_star0 {x : Str} {i : Nat} (hS : StrsAre [] (partsL none (x.cps.toList.take i))) (hd : x.cps[i]? = some 42) (t : Tok) : StrsAre [.str (Str.ofString "*") t] (partsL none (x.cps.toList.take (i + 1))) := by
  rw [star_eq]
  exact parts_star hS hd t (.inl rfl)
theorem parts_star1 {x y : Str} {i : Nat} {ws : List Value} {u : Tok} (hS : StrsAre (ws ++ [.str y u]) (partsL none (x.cps.toList.take i))) (hd : x.cps[i]? = some 42) (hy : (y != Str.ofString "*") = true) (t : Tok) :
    StrsAre ((ws ++ [.str y u]) ++ [.str (Str.ofString "*") t]) (partsL none (x.cps.toList.take (i + 1))) := by
  rw [star_eq] at hy ⊢
  exact parts_star hS hd t (.inr ⟨ws, y, u, rfl, bne_iff_ne.mp hy⟩)
theorem parts_star2 {x y : Str} {i : Nat} {ws : List Value} {u : Tok} (hS : StrsAre (ws ++ [.str y u]) (partsL none (x.cps.toList.take i))) (hd : x.cps[i]? = some 42) (hy : (y != Str.ofString "*") = false) :
    StrsAre (ws ++ [.str y u]) (partsL none (x.cps.toList.take (i + 1))) := by
  rw [star_eq] at hy
  have hy' : y = ⟨#[42]⟩ := by simpa using hy
  subst hy'
  exact parts_star_stay hS hd
end Mine
end

section -- part Rows4
open PySem PySem.W PySem.Calls PyProof.Rows
set_option Elab.async false
set_option maxRecDepth 100000
set_option maxHeartbeats 4000000
namespace Mine
/-- the j-th sample of n octets -/
def cutAt (n : Nat) (ks : List Int) (j : Nat) : List Int := (ks.drop (j * n)).take n
def cuts (n m : Nat) (ks : List Int) : List Str := (List.range m).map fun j => textOf (cutAt n ks j)

theorem cutAt_swap {n m : Nat} {ks : List Int} (hn : 0 < n) (hk : ks.length = m * n) {j : Nat} (hj : j < m) : cutAt n (swapL n ks) j = (cutAt n ks j).reverse := by
  have hjn : j * n + n ≤ ks.length := by
    have := Nat.mul_le_mul_right n (Nat.succ_le_of_lt hj)
    rw [Nat.succ_mul] at this
    omega
  have hl : (swapL n ks).length = ks.length := by simp [swapL]
  have hc : (cutAt n ks j).length = n := by rw [cutAt, List.length_take, List.length_drop]; omega
  have hcs : (cutAt n (swapL n ks) j).length = n := by rw [cutAt, List.length_take, List.length_drop, hl]; omega
  refine List.ext_getElem (by rw [List.length_reverse, hc, hcs]) fun i h1 h2 => ?_
  rw [hcs] at h1
  have e1 : (cutAt n (swapL n ks) j)[i] = swapAt n ks (j * n + i) := by
    simp only [cutAt, List.getElem_take, List.getElem_drop, swapL, List.getElem_map, List.getElem_range]
  have e2 : (cutAt n ks j).reverse[i] = ks[j * n + (n - 1 - i)]'(by omega) := by
    rw [List.getElem_reverse]
    simp only [cutAt, List.getElem_take, List.getElem_drop]
    congr 1
    have := hc
    unfold cutAt at this
    rw [this]
  rw [e1, e2]
  unfold swapAt
  have d1 : (j * n + i) / n = j := by rw [Nat.mul_comm, Nat.mul_add_div hn, Nat.div_eq_of_lt h1, Nat.add_zero]
  have d2 : (j * n + i) % n = i := by rw [Nat.mul_comm, Nat.mul_add_mod, Nat.mod_eq_of_lt h1]
  rw [d1, d2, List.getD_eq_getElem?_getD, List.getElem?_eq_getElem (by omega)]
  rfl
def rowsD (css : List (List Str)) : PyData := .list (css.map strsD)
theorem reads_rows {h : Heap} : ∀ {vs : List Value} {css : List (List Str)}, Cont h vs css → ∃ as, ReadsAll h vs (css.map strsD) as
  | [], [], _ => ⟨[], .nil⟩
  | [], _ :: _, x => by have := x.1; simp at this
  | _ :: _, [], x => by have := x.1; simp at this
  | v :: vs, c :: css, x => by
    obtain ⟨cs, e1, e2⟩ := x.2 0 v rfl
    have : c = cs := by simpa using e1
    subst this
    obtain ⟨as, ra⟩ := e2.reads
    have x' : Cont h vs css := ⟨by have := x.1; simpa using this, fun m y e => by
      obtain ⟨cs', q1, q2⟩ := x.2 (m + 1) y (by simpa using e)
      exact ⟨cs', by simpa using q1, q2⟩⟩
    obtain ⟨bs, rb⟩ := reads_rows x'
    exact ⟨_, .cons ra rb⟩
theorem RowsL.reads {L r : Addr} {h : Heap} {css : List (List Str)} (x : RowsL L h r css) : ∃ as, Reads h (.ref r) (rowsD css) as := by
  obtain ⟨_, vs, c, hg, hc, _⟩ := x
  obtain ⟨as, ra⟩ := reads_rows hc
  exact ⟨_, .list hg rfl rfl (by simpa using ra)⟩
theorem Cont.drop {h : Heap} {vs : List Value} {css : List (List Str)} (x : Cont h vs css) (k : Nat) : Cont h (vs.drop k) (css.drop k) := by
  refine ⟨by rw [List.length_drop, List.length_drop, x.1], fun m y e => ?_⟩
  rw [List.getElem?_drop] at e
  obtain ⟨cs, e1, e2⟩ := x.2 _ y e
  exact ⟨cs, by rw [List.getElem?_drop]; exact e1, e2⟩
end Mine
end

section -- part CompT
open PySem PySem.W PySem.Calls PyProof.Rows
set_option Elab.async false
set_option maxRecDepth 100000
set_option maxHeartbeats 4000000
namespace Mine
theorem one_test {prog : Program} {w : World} {A : Around} {E : Value → Shared → Prop} {env : Env} {s : Shared} {c : Expr} {Q : Bool → Shared → Prop} (h : wpAny (model prog w) A (isTrue c env (eval c env)) Q E s) :
    wpAny (model prog w) A (forIn [c] true fun c r => if r = true then do let ok ← isTrue c env (eval c env); pure (ForInStep.yield ok) else pure (ForInStep.yield r)) Q E s := by
  rw [List.forIn_cons]
  refine wpAny_bind ?_
  rw [if_pos rfl]
  exact wpAny_bind (wpAny_mono h (fun ok s' g => wpAny_pure (wpAny_pure g)) fun _ _ e => e)
section
variable {prog : Program} {w : World} {A : Around} {R : Result → Shared → Prop} {s : Shared}

/-- the turns of a comprehension with one test; test and element may make new objects -/
theorem compT_loop {elt i1 c : Expr} {x : Str} {px : Pos} {scope : Scope} {pos : Pos} {I D : Addr} {fp wr : List Addr} {n : Nat} {P : Nat → Value → Prop} {St : Nat → Heap → Prop} {cenv : Env} {m : Str → Option Value}
    (W : Walks prog w A I fp wr n P St) (J : Nat → List Value → Prop) (p : Nat → Bool)
    (hx : cenv.kindOf x = some .local) (hp : (cenv.scope.kind == .class || (cenv.scope.kind == .module && cenv.locals != cenv.globals)) = false)
    (hDC : D ≠ cenv.locals) (hDf : D ∉ fp) (hCf : cenv.locals ∉ fp) (hst : St 0 s.heap) (hacc : s.heap.PlainList D #[]) (hn : s.heap.Ns cenv.locals m) (hj : J 0 []) (hz : n ≤ sizeLine)
    (hskip : ∀ k ys, k < n → p k = false → J k ys → J (k + 1) ys)
    (htest : ∀ k u s₂ m₂ E', k < n → P k u → s₂.heap.Ns cenv.locals m₂ → m₂ x = some u → (∀ b o, b ≠ cenv.locals → b ∉ wr → b ≠ D → s.heap.get? b = some o → s₂.heap.get? b = some o) → s.toks ≤ s₂.toks →
      wpAny (model prog w) A (isTrue c cenv (eval c cenv)) (fun ok s₃ => ok = p k ∧ KeepsBut cenv.locals m₂ s₂ s₃) E' s₂)
    (helt : ∀ k u s₂ m₂ E', k < n → p k = true → P k u → s₂.heap.Ns cenv.locals m₂ → m₂ x = some u → (∀ b o, b ≠ cenv.locals → b ∉ wr → b ≠ D → s.heap.get? b = some o → s₂.heap.get? b = some o) → s.toks ≤ s₂.toks →
      wpAny (model prog w) A (eval elt cenv) (fun y s₃ => (∀ ys, J k ys → J (k + 1) (ys ++ [y])) ∧ KeepsBut cenv.locals m₂ s₂ s₃) E' s₂)
    (hR : ∀ h' tk m' ys, h'.Ns cenv.locals m' → h'.PlainList D ys → J n ys.toList → (∀ b o, b ≠ cenv.locals → b ∉ wr → b ≠ D → s.heap.get? b = some o → h'.get? b = some o) → s.toks ≤ tk →
      R (.ok .next) { s with heap := h', toks := tk }) :
    codeAny (model prog w) A (.compLoop (.ListComp elt [⟨.Name x px, i1, [c], 0⟩] scope pos) 0 (.ref I) (.ref D) cenv) R s := by
  have hCw : cenv.locals ∉ wr := fun h => hCf (W.sub _ h)
  have hDw : D ∉ wr := fun h => hDf (W.sub _ h)
  refine codeAny_compLoop_tests
    (fun k s' => ∃ h' tk m' ys i, s' = { s with heap := h', toks := tk } ∧ St i h' ∧ h'.PlainList D ys ∧ ys.size ≤ i ∧ h'.Ns cenv.locals m' ∧ J i ys.toList ∧ i ≤ n ∧ k = n + 1 - i ∧
      (∀ b o, b ≠ cenv.locals → b ∉ wr → b ≠ D → s.heap.get? b = some o → h'.get? b = some o) ∧ s.toks ≤ tk) ?_ (n + 1)
    ⟨s.heap, s.toks, m, #[], 0, rfl, hst, hacc, Nat.le_refl _, hn, hj, Nat.zero_le _, rfl, fun _ _ _ _ _ e => e, Nat.le_refl _⟩
  rintro k s' ⟨H, tk, m', ys, i, rfl, hst', hacc', hsz, hn', hj', hi, rfl, hk, htk⟩
  by_cases hlt : i < n
  · refine wpAny_with_toks (n := s.toks) htk (W.item i _ _ _ hlt hst' fun v h₁ tk₁ hPv hst₁ hk₁ htk₁ => ?_)
    refine wpAny_assign_Name (wpAny_storeName_local hx (hn'.at' fun o e => hk₁ _ o hCw e) (fun h₂ hn₂ hs₂ => ?_) hp)
    have up₂ : ∀ b o, b ≠ cenv.locals → b ∉ wr → H.get? b = some o → h₂.get? b = some o := fun b o hbC hbw e => hs₂.extBut b o hbC (hk₁ b o hbw e)
    have hst₂ : St (i + 1) h₂ := W.frame _ _ _ hst₁ fun b hb o e => hs₂.extBut b o (fun h => hCf (h ▸ hb)) e
    refine one_test (wpAny_mono (wpAny_toks_of (n := s.toks) (Nat.le_succ_of_le htk₁) (htest i v _ _ _ hlt hPv hn₂ (by simp) (fun b o hbC hbw hbD e => up₂ b o hbC hbw (hk b o hbC hbw hbD e)) (Nat.le_succ_of_le htk₁))) (fun ok s₃ h₃ => ?_) fun _ _ e => e.2)
    obtain ⟨htk₃, rfl, h₃, tk₃, rfl, hk₃, hn₃⟩ := h₃
    have hst₃ : St (i + 1) h₃ := W.frame _ _ _ hst₂ fun b hb o e => hk₃ b o (fun h => hCf (h ▸ hb)) e
    have hacc₃ : h₃.PlainList D ys := hacc'.at fun o e => hk₃ _ o hDC (up₂ D o hDC hDw e)
    have hkk : ∀ b o, b ≠ cenv.locals → b ∉ wr → b ≠ D → s.heap.get? b = some o → h₃.get? b = some o := fun b o hbC hbw hbD e => hk₃ b o hbC (up₂ b o hbC hbw (hk b o hbC hbw hbD e))
    cases hpv : p i with
    | false =>
      simp only [Bool.false_eq_true, if_false]
      exact ⟨n + 1 - (i + 1), by omega, h₃, tk₃, _, ys, i + 1, rfl, hst₃, hacc₃, Nat.le_succ_of_le hsz, hn₃, hskip i _ hlt hpv hj', hlt, rfl, hkk, htk₃⟩
    | true =>
      simp only [if_true]
      refine wpAny_mono (wpAny_toks_of (n := s.toks) htk₃ (helt i v _ _ _ hlt hpv hPv hn₃ (by simp) hkk htk₃)) (fun y s₄ h₄ => ?_) fun _ _ e => e.2
      obtain ⟨htk₄, hJ, h₄, tk₄, rfl, hk₄, hn₄⟩ := h₄
      refine wpAny_list_append_plain (hsz := by omega) (hacc₃.at fun o e => hk₄ _ o hDC e) fun h₅ hl₅ hs₅ => ?_
      refine ⟨n + 1 - (i + 1), by omega, h₅, tk₄, _, ys.push y, i + 1, rfl, ?_, hl₅, by simp; omega, hn₄.sameBut hs₅ (Ne.symm hDC), by simpa using hJ _ hj', hlt, rfl,
        fun b o hbC hbw hbD e => hs₅.extBut b o hbD (hk₄ b o hbC (hkk b o hbC hbw hbD e)), htk₄⟩
      exact W.frame _ _ _ hst₃ fun b hb o e => hs₅.extBut b o (fun h => hDf (h ▸ hb)) (hk₄ b o (fun h => hCf (h ▸ hb)) e)
  · have hin : i = n := by omega
    subst hin
    refine wpAny_with_toks (n := s.toks) htk (W.done _ _ _ hst' fun h₁ tk₁ hk₁ htk₁ => ?_)
    exact hR h₁ tk₁ m' ys (hn'.at' fun o e => hk₁ _ o hCw e) (hacc'.at fun o e => hk₁ _ o hDw e) hj' (fun b o hbC hbw hbD e => hk₁ b o hbw (hk b o hbC hbw hbD e)) htk₁
end

section
variable {prog : Program} {w : World} {A : Around} {E : Value → Shared → Prop} {env : Env}

theorem test_block {s₂ : Shared} {elt i1 c : Expr} {x : Str} {px : Pos} {scope : Scope} {cl : List (Str × Addr)} {pos : Pos} {RR : Value → Addr → Result → Shared → Prop} {I : Addr} {fp wr : List Addr} {n : Nat} {P : Nat → Value → Prop} {St : Nat → Heap → Prop}
    (W : Walks prog w A I fp wr n P St) (J : Nat → List Value → Prop) (p : Nat → Bool) (hsz : n ≤ sizeLine) (hst : St 0 s₂.heap) (hfp : ∀ b ∈ fp, b < s₂.heap.objs.size) (hj : J 0 [])
    (hcell : ∀ y ∈ scope.names, y.2 ≠ .cell) (hkind : scope.kind = .function) (hx : scope.names.lookup x = some .local)
    (hskip : ∀ k ys, k < n → p k = false → J k ys → J (k + 1) ys)
    (htest : ∀ C k u s₃ m₃ E', s₂.heap.objs.size ≤ C → k < n → P k u → s₃.heap.Ns C m₃ → m₃ x = some u → (∀ b o, b ∉ wr → s₂.heap.get? b = some o → s₃.heap.get? b = some o) → s₂.toks ≤ s₃.toks →
      wpAny (model prog w) A (isTrue c (compEnvC scope cl C env) (eval c (compEnvC scope cl C env))) (fun ok s₄ => ok = p k ∧ KeepsBut C m₃ s₃ s₄) E' s₃)
    (helt : ∀ C k u s₃ m₃ E', s₂.heap.objs.size ≤ C → k < n → p k = true → P k u → s₃.heap.Ns C m₃ → m₃ x = some u → (∀ b o, b ∉ wr → s₂.heap.get? b = some o → s₃.heap.get? b = some o) → s₂.toks ≤ s₃.toks →
      wpAny (model prog w) A (eval elt (compEnvC scope cl C env)) (fun y s₄ => (∀ ys, J k ys → J (k + 1) (ys ++ [y])) ∧ KeepsBut C m₃ s₃ s₄) E' s₃)
    (hRR : ∀ h' tk m' ys, h'.Ns (s₂.heap.objs.size + 1) m' → h'.PlainList s₂.heap.objs.size ys → J n ys.toList → (∀ b o, b ∉ wr → s₂.heap.get? b = some o → h'.get? b = some o) → s₂.toks ≤ tk → RR (.ref s₂.heap.objs.size) (s₂.heap.objs.size + 1) (.ok .next) { s₂ with heap := h', toks := tk }) :
    wpAny (model prog w) A (newList []) (fun acc s₃ => wpAny (model prog w) A (newFunctionEnv scope env.globals cl [] env.qual none .none (some env)) (fun cenv s₄ =>
        codeAny (model prog w) A (.compStart (.ListComp elt [⟨.Name x px, i1, [c], 0⟩] scope pos) 0 (.ref I) acc { cenv with scope := relabel scope env }) (RR acc cenv.locals) s₄) E s₃) E s₂ := by
  refine wpAny_newObj_type (wpAny_newFunctionEnv hcell (by intro y hy; simp at hy) (fun h₁ hns₁ hsb₁ => ?_) hkind)
  dsimp only at hns₁ hsb₁ ⊢
  generalize hH2 : s₂.heap.push { cls := .type "list", dict := none, data := .seq ([] : List Value).toArray } = H2 at hns₁ hsb₁ ⊢
  have hC : H2.objs.size = s₂.heap.objs.size + 1 := by rw [← hH2, Heap.size_push]
  rw [hC] at hns₁ hsb₁ ⊢
  have hDC : s₂.heap.objs.size ≠ s₂.heap.objs.size + 1 := Nat.ne_of_lt (Nat.lt_succ_self _)
  have below : ∀ b, b < s₂.heap.objs.size → b ≠ s₂.heap.objs.size + 1 ∧ b ≠ s₂.heap.objs.size := fun b hb => ⟨Nat.ne_of_lt (Nat.lt_succ_of_lt hb), Nat.ne_of_lt hb⟩
  have hDf : s₂.heap.objs.size ∉ fp := fun hm => Nat.lt_irrefl _ (hfp _ hm)
  have hCf : s₂.heap.objs.size + 1 ∉ fp := fun hm => Nat.lt_irrefl _ (Nat.lt_of_succ_lt (hfp _ hm))
  have old : ∀ b o, s₂.heap.get? b = some o → h₁.get? b = some o := fun b o e => hsb₁.extBut b o (below b (Heap.lt_size e)).1 (Heap.get?_push_of_some _ (hH2 ▸ Heap.get?_push_of_some _ e))
  have hacc : h₁.PlainList s₂.heap.objs.size #[] := ⟨_, hsb₁.extBut _ _ hDC (Heap.get?_push_of_some _ (hH2 ▸ Heap.get?_push_size _ rfl))⟩
  have hst₁ : St 0 h₁ := W.frame _ _ _ hst fun b _ o e => old b o e
  have back : ∀ s₃ : Shared, (∀ b o, b ≠ s₂.heap.objs.size + 1 → b ∉ wr → b ≠ s₂.heap.objs.size → h₁.get? b = some o → s₃.heap.get? b = some o) → ∀ b o, b ∉ wr → s₂.heap.get? b = some o → s₃.heap.get? b = some o :=
    fun s₃ hk b o hbf e => hk b o (below b (Heap.lt_size e)).1 hbf (below b (Heap.lt_size e)).2 (old b o e)
  have loop : ∀ s₃ : Shared, s₃ = { s₂ with heap := h₁, toks := s₂.toks + ([] : List (Str × Value)).length } →
      codeAny (model prog w) A (.compLoop (.ListComp elt [⟨.Name x px, i1, [c], 0⟩] scope pos) 0 (.ref I) (.ref s₂.heap.objs.size) (compEnvC scope cl (s₂.heap.objs.size + 1) env))
        (RR (.ref s₂.heap.objs.size) (s₂.heap.objs.size + 1)) s₃ := by
    rintro s₃ rfl
    exact compT_loop (s := { s₂ with heap := h₁, toks := s₂.toks + ([] : List (Str × Value)).length }) (cenv := compEnvC scope cl (s₂.heap.objs.size + 1) env) W J p (lookup_relabel_local hx) (by simp [compEnvC, relabel, hkind]) hDC hDf hCf hst₁ hacc hns₁ hj hsz hskip
      (fun k u s₃ m₃ E' hkn hv hn hm hk htk => htest _ k u s₃ m₃ E' (Nat.le_succ _) hkn hv hn hm (back s₃ hk) (Nat.le_trans (Nat.le_add_right _ _) htk))
      (fun k u s₃ m₃ E' hkn hpk hv hn hm hk htk => helt _ k u s₃ m₃ E' (Nat.le_succ _) hkn hpk hv hn hm (back s₃ hk) (Nat.le_trans (Nat.le_add_right _ _) htk))
      fun h' tk m' ys hn hpl hJ hk htk => hRR h' tk m' ys hn hpl hJ (fun b o hbf e => hk b o (below b (Heap.lt_size e)).1 hbf (below b (Heap.lt_size e)).2 (old b o e)) (Nat.le_trans (Nat.le_add_right _ _) htk)
  exact codeAny_compStart_list (loop _ rfl) (W.self 0 _ _ _ hst₁ (loop _ rfl))

/-- «[elt for x in i1 if c]» as a value -/
theorem wpAny_ListComp_test {s : Shared} {elt i1 c : Expr} {x : Str} {px : Pos} {scope : Scope} {cl : List (Str × Addr)} {pos : Pos} {Q : Value → Shared → Prop}
    (hclos : closureFor scope env = pure cl) (hcell : ∀ y ∈ scope.names, y.2 ≠ .cell) (hkind : scope.kind = .function)
    (hnames : ∀ y ∈ scope.names, y.2 = .local → scope.names.lookup y.1 = some .local) (hx : scope.names.lookup x = some .local)
    (h : wpAny (model prog w) A (eval i1 env) (fun xv s₁ => wpAny (model prog w) A (pyIter xv) (fun it s₂ => ∃ (I : Addr) (fp wr : List Addr) (n : Nat) (P : Nat → Value → Prop) (St : Nat → Heap → Prop) (J : Nat → List Value → Prop) (p : Nat → Bool), it = .ref I ∧ Walks prog w A I fp wr n P St ∧ n ≤ sizeLine ∧ St 0 s₂.heap ∧ (∀ b ∈ fp, b < s₂.heap.objs.size) ∧ J 0 [] ∧
      (∀ k ys, k < n → p k = false → J k ys → J (k + 1) ys) ∧
      (∀ C k u s₃ m₃ E', s₂.heap.objs.size ≤ C → k < n → P k u → s₃.heap.Ns C m₃ → m₃ x = some u → (∀ b o, b ∉ wr → s₂.heap.get? b = some o → s₃.heap.get? b = some o) → s₂.toks ≤ s₃.toks →
        wpAny (model prog w) A (isTrue c (compEnvC scope cl C env) (eval c (compEnvC scope cl C env))) (fun ok s₄ => ok = p k ∧ KeepsBut C m₃ s₃ s₄) E' s₃) ∧
      (∀ C k u s₃ m₃ E', s₂.heap.objs.size ≤ C → k < n → p k = true → P k u → s₃.heap.Ns C m₃ → m₃ x = some u → (∀ b o, b ∉ wr → s₂.heap.get? b = some o → s₃.heap.get? b = some o) → s₂.toks ≤ s₃.toks →
        wpAny (model prog w) A (eval elt (compEnvC scope cl C env)) (fun y s₄ => (∀ ys, J k ys → J (k + 1) (ys ++ [y])) ∧ KeepsBut C m₃ s₃ s₄) E' s₃) ∧
      (∀ D h' tk ys, s₂.heap.get? D = none → h'.PlainList D ys → J n ys.toList → (∀ b o, b ∉ wr → s₂.heap.get? b = some o → h'.get? b = some o) → s₂.toks ≤ tk → Q (.ref D) { s₂ with heap := h', toks := tk })) E s₁) E s)
    (hs : ∀ x, foldedSetIterable i1 env x = pure x := by intro _; rfl) :
    wpAny (model prog w) A (eval (.ListComp elt [⟨.Name x px, i1, [c], 0⟩] scope pos) env) Q E s := by
  rw [eval_ListComp]
  refine wpAny_comprehension_free (use := none) rfl hs hclos hkind hnames (wpAny_mono h (fun xv s₁ h₁ => wpAny_mono h₁ (fun it s₂ h₂ => ?_) fun _ _ e => e) fun _ _ e => e)
  obtain ⟨I, fp, wr, n, P, St, J, p, rfl, W, hsz, hst, hfp, hj, hsk, ht, he, hQ⟩ := h₂
  refine test_block (RR := fun acc C => compPost (model prog w) A E none Q acc C) W J p hsz hst hfp hj hcell hkind hx hsk ht he ?_
  intro h' tk m' ys hn hpl hJ hk htk
  refine ⟨m', hn, fun h'' hs'' => hQ _ h'' tk ys (Heap.get?_none_of_le (Nat.le_refl _)) (hpl.extBut hs''.extBut (Nat.ne_of_lt (Nat.lt_succ_self _))) hJ (fun b o hbf e => hs''.extBut b o ?_ (hk b o hbf e)) htk⟩
  exact Nat.ne_of_lt (Nat.lt_succ_of_lt (Heap.lt_size e))

/-- «y = [elt for x in i1 if c]» in a def -/
theorem wpAny_Assign_test {s : Shared} {elt i1 c : Expr} {x y : Str} {px py : Pos} {scope : Scope} {cl : List (Str × Addr)} {pos spos : Pos} {Q : Flow → Shared → Prop}
    (hsw : swapsWith (.ListComp elt [⟨.Name x px, i1, [c], 0⟩] scope pos) (some (.Name y py)) spos.line env = pure true)
    (hclos : closureFor scope env = pure cl) (hcell : ∀ y ∈ scope.names, y.2 ≠ .cell) (hkind : scope.kind = .function)
    (hnames : ∀ y ∈ scope.names, y.2 = .local → scope.names.lookup y.1 = some .local) (hx : scope.names.lookup x = some .local)
    (hy : env.kindOf y = some .local) (hp : (env.scope.kind == .class || (env.scope.kind == .module && env.locals != env.globals)) = false)
    (h : wpAny (model prog w) A (eval i1 env) (fun xv s₁ => wpAny (model prog w) A (pyIter xv) (fun it s₂ => ∃ (I : Addr) (fp wr : List Addr) (n : Nat) (P : Nat → Value → Prop) (St : Nat → Heap → Prop) (J : Nat → List Value → Prop) (p : Nat → Bool) (m : Str → Option Value), it = .ref I ∧ Walks prog w A I fp wr n P St ∧ n ≤ sizeLine ∧ St 0 s₂.heap ∧ (∀ b ∈ fp, b < s₂.heap.objs.size) ∧ J 0 [] ∧
      env.locals ∉ wr ∧ s₂.heap.Ns env.locals m ∧
      (∀ k ys, k < n → p k = false → J k ys → J (k + 1) ys) ∧
      (∀ C k u s₃ m₃ E', s₂.heap.objs.size ≤ C → k < n → P k u → s₃.heap.Ns C m₃ → m₃ x = some u → (∀ b o, b ∉ wr → s₂.heap.get? b = some o → s₃.heap.get? b = some o) → s₂.toks ≤ s₃.toks →
        wpAny (model prog w) A (isTrue c (compEnvC scope cl C env) (eval c (compEnvC scope cl C env))) (fun ok s₄ => ok = p k ∧ KeepsBut C m₃ s₃ s₄) E' s₃) ∧
      (∀ C k u s₃ m₃ E', s₂.heap.objs.size ≤ C → k < n → p k = true → P k u → s₃.heap.Ns C m₃ → m₃ x = some u → (∀ b o, b ∉ wr → s₂.heap.get? b = some o → s₃.heap.get? b = some o) → s₂.toks ≤ s₃.toks →
        wpAny (model prog w) A (eval elt (compEnvC scope cl C env)) (fun y s₄ => (∀ ys, J k ys → J (k + 1) (ys ++ [y])) ∧ KeepsBut C m₃ s₃ s₄) E' s₃) ∧
      (∀ D h' tk ys, s₂.heap.get? D = none → h'.PlainList D ys → J n ys.toList → h'.Ns env.locals (fun z => if z = y then some (.ref D) else m z) → (∀ b o, b ≠ env.locals → b ∉ wr → s₂.heap.get? b = some o → h'.get? b = some o) → s₂.toks ≤ tk →
        Q .next { s₂ with heap := h', toks := tk })) E s₁) E s)
    (hs : ∀ x, foldedSetIterable i1 env x = pure x := by intro _; rfl) :
    wpAny (model prog w) A (exec (.Assign [.Name y py] (.ListComp elt [⟨.Name x px, i1, [c], 0⟩] scope pos) spos) env) Q E s := by
  rw [exec_Assign_Name_used _ _ _ _ hsw]
  refine wpAny_bind (wpAny_standAt (wpAny_bind ?_))
  show wpAny _ A (do let _ ← comprehension (.ListComp elt [⟨.Name x px, i1, [c], 0⟩] scope pos) scope env _ (newList []) false (eval i1 env) (some (assign (.Name y py) env))) _ _ s
  refine wpAny_bind (wpAny_mono (wpAny_comprehension_free (use := some (assign (.Name y py) env)) (Q := fun _ s' => Q .next s') rfl hs hclos hkind hnames
    (wpAny_mono h (fun xv s₁ h₁ => wpAny_mono h₁ (fun it s₂ h₂ => ?_) fun _ _ e => e) fun _ _ e => e)) (fun _ s' hq => wpAny_pure (wpAny_pure hq)) fun _ _ e => e)
  obtain ⟨I, fp, wr, n, P, St, J, p, m, rfl, W, hsz, hst, hfp, hj, hLw, hn, hsk, ht, he, hQ⟩ := h₂
  refine test_block (RR := fun acc C => compPost (model prog w) A E (some (assign (.Name y py) env)) (fun _ s' => Q .next s') acc C) W J p hsz hst hfp hj hcell hkind hx hsk ht he ?_
  intro h' tk m' ys hnC hpl hJ hk htk
  obtain ⟨oL, es, ep, hoL, hoR⟩ := hn
  have hLlt := Heap.lt_size hoL
  have hLC : env.locals ≠ s₂.heap.objs.size + 1 := Nat.ne_of_lt (Nat.lt_succ_of_lt hLlt)
  have hLD : env.locals ≠ s₂.heap.objs.size := Nat.ne_of_lt hLlt
  have hDC : s₂.heap.objs.size ≠ s₂.heap.objs.size + 1 := Nat.ne_of_lt (Nat.lt_succ_self _)
  show wpAny _ A (assign (.Name y py) env (.ref s₂.heap.objs.size)) _ _ _
  refine wpAny_assign_Name (wpAny_storeName_local hy (show h'.Ns env.locals m from ⟨oL, es, ep, hk _ _ hLw hoL, hoR⟩) (fun h₂ hn₂ hs₂ => ?_) hp)
  refine ⟨m', hnC.sameBut hs₂ (Ne.symm hLC), fun h₃ hs₃ => ?_⟩
  exact hQ _ h₃ _ ys (Heap.get?_none_of_le (Nat.le_refl _)) ((hpl.extBut hs₂.extBut (Ne.symm hLD)).extBut hs₃.extBut hDC) hJ (hn₂.sameBut hs₃ hLC)
    (fun b o hbL hbf e => hs₃.extBut b o (Nat.ne_of_lt (Nat.lt_succ_of_lt (Heap.lt_size e))) (hs₂.extBut b o hbL (hk b o hbf e))) (Nat.le_succ_of_le htk)
end
end Mine
end

section -- part Base2
open PySem PySem.W PySem.Calls PyProof.Rows
set_option Elab.async false
set_option maxRecDepth 100000
set_option maxHeartbeats 4000000
namespace Mine

/-- «xs.append» as a value -/
def appM (l : Addr) : Obj := { cls := .type "builtin_function_or_method", data := .fields #[.builtin "list.append", .ref l] }

theorem slot_mget : Slot "method_descriptor" "__get__" "method_descriptor.__get__" :=
  .of (owner := "method_descriptor") (n := "__get__") (by rw [typeLookup_type, builtinLookup_eq_fast]; kernel_rfl) (by decide +kernel) (by decide +kernel) (by decide +kernel)
    (by first | exact .inl (by decide +kernel) | exact .inr (by decide +kernel)) (by rw [isSubtype_type]; kernel_rfl)
theorem entry_mget : entryFor table "method_descriptor.__get__" = some Builtin.«method_descriptor.__get__» := entryFor_of_tree (by kernel_rfl)
theorem args_mget (a b c : Value) : argsOk "method_descriptor.__get__" ⟨[a, b, c], []⟩ := by unfold argsOk; kernel_rfl
theorem type_app : typeOf (.builtin "list.append") = pure (.type "method_descriptor") := by show builtinType _ = _; rw [builtinType_eq_fast]; kernel_rfl
theorem look_app : typeLookup (.type "list") "append" = pure (some (.builtin "list.append")) := by rw [typeLookup_type, builtinLookup_eq_fast]; kernel_rfl
theorem look_get : typeLookup (.type "method_descriptor") "__get__" = pure (some (.builtin "method_descriptor.__get__")) := by rw [typeLookup_type, builtinLookup_eq_fast]; kernel_rfl
theorem look_set : typeLookup (.type "method_descriptor") "__set__" = pure none := by rw [typeLookup_type, builtinLookup_eq_fast]; kernel_rfl
theorem look_del : typeLookup (.type "method_descriptor") "__delete__" = pure none := by rw [typeLookup_type, builtinLookup_eq_fast]; kernel_rfl

section
variable {prog : Program} {w : World} {M : Model} {A : Around} {E : Value → Shared → Prop} {s : Shared}

theorem run_mget {l : Addr} {o : Obj} {P : Fin → Shared → Prop} (ho : s.heap.get? l = some o) (hc : o.cls = .type "list") (h : P (.done (.ret (.ref s.heap.objs.size))) { s with heap := s.heap.push (appM l) }) :
    wpAny M A (Builtin.«method_descriptor.__get__» ⟨[.builtin "list.append", .ref l, .type "list"], []⟩) P E s := by
  have hT : s.TypeIs (.ref l) "list" := ⟨o, ho, hc⟩
  unfold Builtin.«method_descriptor.__get__»
  refine wpAny_bind (wpAny_of_eq (a := (.builtin "list.append", some (.ref l), some (.type "list"))) (by first | rfl | kernel_rfl) ?_)
  dsimp only
  rw [if_neg (by decide +kernel)]
  have hsub : isSubtype (.type "list") (.type "list") = pure true := by rw [isSubtype_type]; kernel_rfl
  have hcut : (".".intercalate ("list.append".cutAt '.').dropLast) = "list" := by decide +kernel
  repeat (any_goals (first | assumption | wp_step))
  rw [hcut]
  refine wpAny_of_eq hsub ?_
  rw [if_neg (by decide)]
  refine wpAny_pure (wpAny_bind ?_)
  exact wpAny_newObj_type (wpAny_pure h)

theorem meets_getattribute_app (l : Addr) (its : Array Value) (k : Nat) (u : Tok) :
    Meets (Builtin.«object.__getattribute__» ⟨[.ref l, .str (Str.ofString "append") u], []⟩) (fun _ R s => s.heap.get? l = some (listOf its k) ∧ ∀ tk, R (.ok (.ret (.ref s.heap.objs.size))) { s with heap := s.heap.push (appM l), toks := tk }) :=
  Meets.of_wp fun prog w A R s hs => by
    obtain ⟨hp, g, d, tk, os⟩ := s
    obtain ⟨hx, hs⟩ := hs
    have hT : (⟨hp, g, d, tk, os⟩ : Shared).TypeIs (.ref l) "list" := ⟨_, hx, rfl⟩
    have h1 := look_app
    have h2 := type_app
    have h3 := look_get
    have h4 := look_set
    have h5 := look_del
    unfold Builtin.«object.__getattribute__»
    repeat (any_goals (first | assumption | ((with_reducible show wpAny _ _ (call (Value.builtin "method_descriptor.__get__") _ _) _ _ _); refine wpAny_call_entry slot_mget type_app entry_mget (run_mget hx rfl ⟨_, rfl, wpAny_pure ⟨_, rfl, hs tk⟩⟩) (args_mget _ _ _)) | wp_step))

theorem entry_lga : entryFor table "list.__getattribute__" = some Builtin.«object.__getattribute__» :=
  entryFor_alias (id' := "object.__getattribute__") (by kernel_rfl) (by decide +kernel) (by decide +kernel) (by kernel_rfl)

/-- «xs.append», the value -/
theorem getAttr_app {l : Addr} {its : Array Value} {k : Nat} {Q : Value → Shared → Prop} (hx : s.heap.get? l = some (listOf its k))
    (h : ∀ tk, Q (.ref s.heap.objs.size) { s with heap := s.heap.push (appM l), toks := tk }) :
    wpAny (model prog w) A (getAttr (.ref l) (Str.ofString "append") true) Q E s := by
  obtain ⟨hp, g, d, tk, os⟩ := s
  have hT : ∀ tk', (⟨hp, g, d, tk', os⟩ : Shared).TypeIs (.ref l) "list" := fun _ => ⟨_, hx, rfl⟩
  have f3 := F.slot_list_getattribute.lookup
  have f4 := F.slot_list_getattribute.bind (.ref l)
  unfold getAttr getAttrBy
  repeat (any_goals (first | assumption | exact hT _ | ((with_reducible show wpAny _ _ (call (Value.builtin "list.__getattribute__") _ _) _ _ _); refine call_meets F.slot_list_getattribute (hT _) entry_lga (F.args_list_getattribute_2 _ _) (meets_getattribute_app l its k _) ⟨hx, fun tk' => ?_⟩) | wp_step))
  show wpAny _ _ (handedOut (.ref _)) _ _ _
  exact wpAny_pure (h _)

theorem quiet_app {as : Args} : (Code.builtin "list.append" as).quiet = true := Code.quiet_builtin _ (by decide +kernel)
theorem sig_app : ∃ sig, Manifest.signature? "list.append" = some sig ∧ ∀ (a : Addr) (x : Value), Bind.checkArgs "list.append" { sig with full := s!"{Bind.lastOf "list"}.{Bind.lastOf "list.append"}" } ⟨[.ref a, x], []⟩ = pure () := by
  refine ⟨(Manifest.signature? "list.append").get (by decide +kernel), by simp, fun a x => ?_⟩
  kernel_rfl
theorem kind_app : builtinKind "list.append" = some .method := by decide +kernel
theorem vara_app : Manifest.varargsMethods.contains "list.append" = false := by decide +kernel
theorem check_app {l : Addr} {o : Obj} {x : Value} {Q : Unit → Shared → Prop} (ho : s.heap.get? l = some o) (hc : o.cls = .type "list") (hdat : ∃ xs n, o.data = .seq xs n) (h : Q () s) :
    wpAny M A (checkBoundCall "list.append" ⟨[.ref l, x], []⟩) Q E s := by
  obtain ⟨sig, hs, hchk⟩ := sig_app
  obtain ⟨xs, n, hd⟩ := hdat
  have hT : s.TypeIs (.ref l) "list" := ⟨o, ho, hc⟩
  have hsub : isSubtype (.type "list") (.type "module") = pure false := by rw [isSubtype_type]; kernel_rfl
  unfold checkBoundCall
  rw [hs, kind_app]
  dsimp only
  rw [if_neg (by decide)]
  refine wpAny_bind (wpAny_isInstance hT hsub ?_)
  rw [vara_app, if_neg (by decide)]
  refine wpAny_bind (wpAny_bind ?_)
  unfold loadHead
  refine wpAny_loadPart ho ?_
  refine wpAny_pure ?_
  rw [hd]
  dsimp only
  rw [if_neg (by decide)]
  refine wpAny_bind (wpAny_typeOf hT ?_)
  dsimp only
  rw [hchk]
  exact wpAny_pure h

theorem call_app {q l : Addr} {its : Array Value} {n : Nat} {x : Value} {Q : Value → Shared → Prop} (hq : s.heap.get? q = some (appM l)) (ho : s.heap.get? l = some (listOf its n))
    (h : ∀ h', Heap.SameBut l s.heap h' → h'.get? l = some (listOf (its.push x) (n + 1)) → Q .none { s with heap := h' }) (hsz : its.size ≤ sizeLine) :
    wpAny (model prog w) A (call (.ref q) [x]) Q E s := by
  refine wpAny_call (codeAny_of_tree ?_)
  show wpAny _ A.in1 (callAny (.ref q) ⟨[x], []⟩) _ _ s
  simp only [callAny]
  refine wpAny_bind (wpAny_load hq ?_)
  simp only [appM, show (Value.type "builtin_function_or_method" == Value.type "method" || Value.type "builtin_function_or_method" == Value.type "builtin_function_or_method" || Value.type "builtin_function_or_method" == Value.type "method-wrapper") = true by decide, if_true]
  refine KFB.if_so (by decide) ?_
  refine wpAny_bind (check_app ho rfl ⟨_, _, rfl⟩ ?_)
  refine wpAny_pure ⟨quiet_app, codeAny_builtin entry_list_append ?_⟩
  show wpAny _ _ (updateSeq l (·.push x) >>= fun _ => ret .none) _ _ s
  refine wpAny_bind ?_
  refine wpAny_updateSeq ho rfl (wpAny_pure (h _ (Heap.SameBut.update ..) ?_))
  rw [Heap.get?_update_self _ ho (by rw [mapSeq_push]; rfl), mapSeq_push]
end

section
variable {prog : Program} {w : World} {M : Model} {A : Around} {E : Value → Shared → Prop} {s : Shared} {h₀ : Heap} {L : Addr} {m : Str → Option Value} {news news' : List (Addr × Obj)}
theorem getAttr_appN {l : Addr} {its : Array Value} {k : Nat} {Q : Value → Shared → Prop} (F : Fr h₀ L s.heap m) (N : News h₀ L s.heap news) (hm : (l, listOf its k) ∈ news)
    (h : ∀ q h' tk, s.toks ≤ tk → Fr h₀ L h' m → News h₀ L h' ((q, appM l) :: news) → (∀ p ∈ news, p.1 < q) → Q (.ref q) { s with heap := h', toks := tk }) :
    wpAny (model prog w) A (getAttr (.ref l) (Str.ofString "append") true) Q E s :=
  wpAny_with_toks (n := s.toks) (Nat.le_refl _) (wpAny_mono (Q := fun v s' => s.toks ≤ s'.toks → Q v s') (E := fun e s' => s.toks ≤ s'.toks → E e s') (getAttr_app (N _ hm).1 fun tk htk => h _ _ _ htk (F.push _) (News.push F N _) fun p hp => Heap.lt_size (N p hp).1) (fun _ _ x => x) fun _ _ x => x)
def AtApp (q l : Addr) (h : Heap) : Prop := h.get? q = some (appM l)
theorem AtApp.of {q l : Addr} {h : Heap} (N : News h₀ L h news) (hm : (q, appM l) ∈ news) : AtApp q l h := (N _ hm).1
theorem callWith_fieldsA {pos : Pos} {q l : Addr} {first : List Value} {args : List (Bool × Sem Value)} {Q : Value → Shared → Prop} (hplain : args.any (·.1) = false)
    (h : wpAny M A (evalArgs (.ref q) true args []) (fun x s₁ => AtApp q l s₁.heap ∧ wpAny M A (call (.ref q) (first ++ x.pos) x.kw) Q E s₁) E s) : wpAny M A (callWith pos (.ref q) first args []) Q E s := by
  unfold callWith
  refine wpAny_bind (wpAny_holding (wpAny_mono h (fun x s₁ h₁ => wpAny_bind (wpAny_standAt ?_)) fun _ _ x => x))
  obtain ⟨ho, hcall⟩ := h₁
  simp only [hplain, List.any_nil, Bool.or_false]
  refine wpAny_bind (m := keeperOf (.ref q)) ?_
  unfold keeperOf
  refine wpAny_bind (wpAny_load ho ?_)
  simp only [appM, show (Value.type "builtin_function_or_method" != Value.type "method") = true by decide, show (Value.type "builtin_function_or_method" == Value.type "builtin_function_or_method" || Value.type "builtin_function_or_method" == Value.type "method-wrapper") = true by decide, if_true]
  refine wpAny_pure ?_
  exact wpAny_bind (wpAny_mono hcall (fun r s₂ hr => wpAny_bind (wpAny_holding (wpAny_point (wpAny_pure hr)))) fun _ _ x => x)
theorem callWith_app {pos : Pos} {q l : Addr} {first : List Value} {env : Env} {e : Expr} {rest : List Expr} {Q : Value → Shared → Prop} (_N : News h₀ L s.heap news) (_hm : (q, appM l) ∈ news)
    (h : wpAny M A (spliced (backTo pos (starEach (e :: rest) env))) (fun vs s₁ => AtApp q l s₁.heap ∧ wpAny M A (call (.ref q) (first ++ vs)) Q E s₁) E s)
    (he : starEach (e :: rest) env = (false, eval e env) :: starEach rest env := by rfl) (hplain : (backTo pos (starEach rest env)).any (·.1) = false := by rfl) :
    wpAny M A (callWith pos (.ref q) first (backTo pos (starEach (e :: rest) env)) []) Q E s := by
  rw [he] at h ⊢
  refine callWith_fieldsA (l := l) (by show (false || (backTo pos (starEach rest env)).any (·.1)) = false; rw [hplain]; rfl) ?_
  exact evalArgs_plain h
theorem call_appN {q l : Addr} {its : Array Value} {n : Nat} {x : Value} {Q : Value → Shared → Prop} (F : Fr h₀ L s.heap m) (N : News h₀ L s.heap news) (hq : (q, appM l) ∈ news)
    (U : Upd l (listOf its n) (listOf (its.push x) (n + 1)) news news')
    (h : ∀ h', Fr h₀ L h' m → News h₀ L h' news' → Q .none { s with heap := h' }) (hsz : its.size ≤ sizeLine) : wpAny (model prog w) A (call (.ref q) [x]) Q E s := by
  obtain ⟨pre, post, rfl, rfl, a, b⟩ := U.split
  have z := N (l, listOf its n) (List.mem_append.mpr (.inr (.head _)))
  exact call_app (N _ hq).1 z.1 (fun h' hs ho' => h h' (F.change hs z.2.1 z.2.2) (news_set N a b hs ho')) hsz
end
end Mine
end

section -- part Base3
open PySem PySem.W PySem.Calls PyProof.Rows
set_option Elab.async false
set_option maxRecDepth 100000
set_option maxHeartbeats 4000000
namespace Mine
section
variable {prog : Program} {w : World} {A : Around} {E : Value → Shared → Prop} {s : Shared}

theorem mapsTo {h : Heap} {K : Frag} {a : Addr} {es : Array DictEntry} {n : Nat} (X : K.In h) (hl : K.lookup a = some ⟨.type "dict", none, .dict es n, #[]⟩)
    (hk : (es.toList.all fun e => match e.key with | .int k _ => e.hash == hashInt k | _ => false) = true) : h.MapOf (intKind prog w) a (fun k => findBy Value.isInt es k) := by
  refine ⟨_, es, n, X _ _ hl, ⟨rfl, rfl, rfl⟩, rfl, fun e he => ?_, fun _ => rfl⟩
  have := List.all_eq_true.mp hk e (Array.mem_toList_iff.mpr he)
  split at this
  · rename_i k t hkey
    exact ⟨k, by rw [hkey]; exact beq_self_eq_true _, beq_iff_eq.mp this⟩
  · cases this

theorem mapsTo_use {P : Prop} {h : Heap} {K : Frag} {a : Addr} {es : Array DictEntry} {n : Nat} (X : K.In h) (hl : K.lookup a = some ⟨.type "dict", none, .dict es n, #[]⟩)
    (hk : (es.toList.all fun e => match e.key with | .int k _ => e.hash == hashInt k | _ => false) = true) (k : h.MapOf (intKind prog w) a (fun k => findBy Value.isInt es k) → P) : P := k (mapsTo X hl hk)
/-- what the table says of one sign -/
theorem look_hit {a : Addr} {f : Int → Option Value} {c : Nat} {y : Str} {ty : Tok} {Q : Builtin.Str.Mapped → Shared → Prop} (hm : s.heap.MapOf (intKind prog w) a f) (hv : f (c : Int) = some (.str y ty))
    (h : ∀ tk, s.toks ≤ tk → Q (.text y) { s with toks := tk }) : wpAny (model prog w) A (Builtin.Str.tableLookup (.ref a) c) Q E s := by
  unfold Builtin.Str.tableLookup
  refine wpAny_bind (wpAny_attempt (wpAny_bind (wpAny_mkInt ?_)))
  refine wpAny_getItem_of (knd := intKind prog w) (k := (c : Int)) (by exact beq_self_eq_true _) (by exact hm) hv ?_
  dsimp only
  refine wpAny_bind (wpAny_of_eq (a := none) (by first | rfl | kernel_rfl) ?_)
  dsimp only
  refine wpAny_bind (wpAny_of_eq (a := some y) (by first | rfl | kernel_rfl) ?_)
  exact wpAny_pure (h _ (Nat.le_of_lt (by first | omega | (dsimp only; omega) | (exact Nat.lt_succ_of_lt (Nat.lt_succ_self _)) | exact Nat.lt_succ_self _)))
theorem look_miss {a : Addr} {f : Int → Option Value} {c : Nat} {Q : Builtin.Str.Mapped → Shared → Prop} (hd : (a == sysModules) = false) (hh : A.handled = none) (hm : s.heap.MapOf (intKind prog w) a f) (hv : f (c : Int) = none)
    (h : ∀ h' tk, (∀ b o, s.heap.get? b = some o → h'.get? b = some o) → s.toks ≤ tk → Q .keep { s with heap := h', toks := tk }) : wpAny (model prog w) A (Builtin.Str.tableLookup (.ref a) c) Q E s := by
  unfold Builtin.Str.tableLookup
  refine wpAny_bind (wpAny_attempt (wpAny_bind (wpAny_mkInt ?_)))
  refine wpAny_getItem_missing_of (knd := intKind prog w) (k := (c : Int)) (by exact beq_self_eq_true _) hd hh (by exact hm) hv fun h' e hx => ?_
  dsimp only
  obtain ⟨ob, t, he, hc, _⟩ := hx.there
  have hsub : isSubtype (.type "KeyError") (.type "LookupError") = pure true := by rw [isSubtype_type]; kernel_rfl
  refine wpAny_bind (wpAny_isInstance (T := "KeyError") ⟨ob, he, hc⟩ hsub ?_)
  rw [if_pos rfl]
  exact wpAny_bind (wpAny_rule (wpAny_pure (h _ _ hx.keeps (Nat.le_of_lt (by first | omega | (dsimp only; omega) | (exact Nat.lt_succ_of_lt (Nat.lt_succ_self _)) | exact Nat.lt_succ_self _)))))

theorem call_translate_hit {a : Addr} {f : Int → Option Value} {c : Nat} {y : Str} {t ty : Tok} {Q : Value → Shared → Prop} (hm : s.heap.MapOf (intKind prog w) a f) (hv : f (c : Int) = some (.str y ty)) (hy : 2 ≤ y.length) (hy2 : y.length ≤ 100) (hc : c < 128)
    (h : ∀ tk, s.toks ≤ tk → Q (.str y tk) { s with toks := tk + 1 }) : wpAny (model prog w) A (call (.builtin "str.translate") [.str ⟨#[c]⟩ t, .ref a]) Q E s := by
  refine wpAny_call_entry F.slot_str_translate (typeIs_str _ _ _) F.entry_str_translate ?_ (F.args_str_translate_2 _ _)
  unfold Builtin.«str.translate»
  refine wpAny_bind (wpAny_of_eq (a := (.str ⟨#[c]⟩ t, ⟨#[c]⟩, .ref a)) (by first | rfl | kernel_rfl) ?_)
  dsimp only
  rw [if_neg (show ¬ (({ cps := #[c] } : Str).length == 0) = true from Bool.false_ne_true)]
  have hfast : (#[c].all fun x => decide (x < 128)) = true := by simp [hc]
  have hlen : (y.length == 1) = false := beq_eq_false_iff_ne.mpr (by omega)
  rw [hfast]
  simp only [List.forIn_toArray, List.forIn_cons, List.forIn_nil, List.lookup_nil]
  have ht0 : Builtin.Str.tooLong 0 = false := by decide +kernel
  have ht1 : Builtin.Str.tooLong (0 + y.length) = false := by
    unfold Builtin.Str.tooLong
    rw [sizeLine_eq]
    exact decide_eq_false (by omega)
  refine wpAny_bind (wpAny_bind ?_)
  rw [if_neg (by rw [ht0]; decide)]
  rw [if_pos trivial]
  refine wpAny_bind (look_hit hm hv fun tk1 htk1 => ?_)
  dsimp only
  simp only [hlen, Bool.false_and, Bool.false_eq_true, if_false]
  refine wpAny_bind (wpAny_pure ?_)
  dsimp only
  refine wpAny_bind (wpAny_rule ?_)
  try rw [if_neg Bool.false_ne_true]
  refine wpAny_bind (look_hit (by exact hm) hv fun tk2 htk2 => ?_)
  dsimp only
  refine wpAny_pure ?_
  dsimp only
  refine wpAny_pure ?_
  rw [ht1]
  try rw [if_neg Bool.false_ne_true]
  have e : ({ cps := List.foldl (fun (acc : Array Nat) (p : Str) => acc ++ p.cps) #[] ([y], 0 + y.length, false, ([] : List (Nat × Option Nat)), false).fst.reverse } : Str) = y := by
    show (⟨#[] ++ y.cps⟩ : Str) = y
    rw [Array.empty_append]
  rw [e]
  unfold retStr
  exact wpAny_bind (wpAny_mkStr (wpAny_pure ⟨_, rfl, h _ (Nat.le_trans htk1 htk2)⟩) (by rw [sizeLine_eq]; omega))

theorem call_translate_miss {a : Addr} {f : Int → Option Value} {c : Nat} {t : Tok} {Q : Value → Shared → Prop} (hd : (a == sysModules) = false) (hh : A.handled = none) (hm : s.heap.MapOf (intKind prog w) a f) (hv : f (c : Int) = none) (hc : c < 128)
    (h : ∀ h' tk, (∀ b o, s.heap.get? b = some o → h'.get? b = some o) → s.toks ≤ tk → Q (.str ⟨#[c]⟩ tk) { s with heap := h', toks := tk + 1 }) : wpAny (model prog w) A (call (.builtin "str.translate") [.str ⟨#[c]⟩ t, .ref a]) Q E s := by
  refine wpAny_call_entry F.slot_str_translate (typeIs_str _ _ _) F.entry_str_translate ?_ (F.args_str_translate_2 _ _)
  unfold Builtin.«str.translate»
  refine wpAny_bind (wpAny_of_eq (a := (.str ⟨#[c]⟩ t, ⟨#[c]⟩, .ref a)) (by first | rfl | kernel_rfl) ?_)
  dsimp only
  rw [if_neg (show ¬ (({ cps := #[c] } : Str).length == 0) = true from Bool.false_ne_true)]
  have hfast : (#[c].all fun x => decide (x < 128)) = true := by simp [hc]
  rw [hfast]
  simp only [List.forIn_toArray, List.forIn_cons, List.forIn_nil, List.lookup_nil]
  have ht0 : Builtin.Str.tooLong 0 = false := by decide +kernel
  have ht1 : Builtin.Str.tooLong (0 + 1) = false := by decide +kernel
  refine wpAny_bind (wpAny_bind ?_)
  rw [if_neg (by rw [ht0]; decide)]
  rw [if_pos trivial]
  refine wpAny_bind (look_miss hd (by exact hh) hm hv fun h1 tk1 hk1 htk1 => ?_)
  dsimp only
  refine wpAny_bind (wpAny_pure ?_)
  dsimp only
  refine wpAny_pure ?_
  dsimp only
  refine wpAny_pure ?_
  dsimp only
  rw [ht1]
  rw [if_neg Bool.false_ne_true]
  have e : ({ cps := List.foldl (fun (acc : Array Nat) (p : Str) => acc ++ p.cps) #[] [(⟨#[c]⟩ : Str)].reverse } : Str) = ⟨#[c]⟩ := by
    show (⟨#[] ++ #[c]⟩ : Str) = _
    rw [Array.empty_append]
  rw [e]
  unfold retStr
  exact wpAny_bind (wpAny_mkStr (wpAny_pure ⟨_, rfl, h _ _ hk1 htk1⟩) (by rw [sizeLine_eq]; show 1 ≤ _; omega))

def saysText (y : Str) : Option Value → Bool
  | some (.str z _) => z == y
  | _ => false
theorem isnot_str {y z : Str} {u v : Tok} {Q : Value → Shared → Prop} (hu : u ≠ 0) (hv : v ≠ 0) (hiff : y = z ↔ u = v) (h : Q (.bool (y != z)) s) : wpAny (model prog w) A (compareOp .IsNot (.str y u) (.str z v)) Q E s := by
  have e : isSame (.str y u) (.str z v) = pure (y == z) := by
    show (if (u == 0 || v == 0) = true then _ else if (u == v) = true then pure true else if (!(y == z)) = true then pure false else _ : Sem Bool) = _
    have h0 : (u == 0 || v == 0) = false := by simp [hu, hv]
    rw [h0, if_neg Bool.false_ne_true]
    by_cases q : y = z
    · have q' := hiff.mp q
      rw [if_pos (beq_iff_eq.mpr q'), beq_iff_eq.mpr q]
    · have q' : ¬ u = v := fun x => q (hiff.mpr x)
      have hb : (y == z) = false := beq_eq_false_iff_ne.mpr q
      rw [if_neg (fun e => q' (beq_iff_eq.mp e)), hb, if_pos (by rfl)]
  unfold compareOp
  dsimp only
  rw [e]
  exact wpAny_bind (wpAny_pure (wpAny_pure h))

theorem truthy_led {h₀ : Heap} {L l : Addr} {vs : List Value} {n : Nat} {news : List (Addr × Obj)} {Q : Bool → Shared → Prop} (N : News h₀ L s.heap news) (hm : (l, listOf vs.toArray n) ∈ news) (hsz : vs.length ≤ 1000000)
    (h : Q (!vs.isEmpty) { s with toks := s.toks + 1 + 1 }) : wpAny (model prog w) A (truthy (.ref l)) Q E s := by
  refine wpAny_truthy_list (items := vs.toArray) ⟨_, (N _ hm).1, rfl, n, rfl⟩ (by rw [List.size_toArray]; omega) ?_
  rw [List.isEmpty_toArray]
  exact h
theorem last_led {h₀ : Heap} {L l : Addr} {value slice : Expr} {vi : List Value} {v : Value} {u : Tok} {n : Nat} {news : List (Addr × Obj)} {Q : Value → Shared → Prop} (N : News h₀ L s.heap news) (hm : (l, listOf (vi ++ [v]).toArray n) ∈ news) (h : Q v s)
    (hs : subscripted slice false (.ref l) (.int (-1) u) = operate [.ref l, .int (-1) u] (getItem (.ref l) (.int (-1) u)) := by with_unfolding_all rfl) (hg : ∀ r, letTemporaryGo value (.ref l) r = pure () := by intro _; with_unfolding_all rfl) :
    wpAny (model prog w) A (subscriptTail value slice (.ref l) (.int (-1) u)) Q E s :=
  item_last ⟨_, (N _ hm).1, rfl, n, rfl⟩ h hs hg
end

section
variable {prog : Program} {w : World} {A : Around} {E : Value → Shared → Prop} {Q : Flow → Shared → Prop} {s : Shared} {env : Env} {h₀ : Heap} {L : Addr}

/-- the end of a turn of a while over a state σ -/
def WPost {σ : Type} (h₀ : Heap) (L : Addr) (s : Shared) (Led : σ → List (Addr × Obj)) (ps : σ → List (Str × Value)) (stored : List Str) (m₀ : Str → Option Value) (P : σ → Prop) (μ : σ → Nat) (Q : Flow → Shared → Prop) (c : σ) (f : Flow) (s₂ : Shared) : Prop :=
  match f with
  | .ret v => Q (.ret v) s₂
  | .brk => Q .next s₂
  | _ => KswEnd h₀ L s Led ps (fun _ => True) stored m₀ P μ c s₂

theorem WPost.end {σ : Type} {Led : σ → List (Addr × Obj)} {ps : σ → List (Str × Value)} {stored : List Str} {m₀ : Str → Option Value} {P : σ → Prop} {μ : σ → Nat} {c : σ} {h' : Heap} {tk : Nat} {m' : Str → Option Value} {news' : List (Addr × Obj)} (c' : σ)
    (F : Fr h₀ L h' m') (N : News h₀ L h' news') (hn : ∀ p ∈ Led c', p ∈ news') (hk : ∀ p ∈ ps c', m' p.1 = some p.2) (hr : ∀ z, (∀ p ∈ ps c', z ≠ p.1) → stored.contains z = false → m' z = m₀ z) (hp : P c') (hm : μ c' < μ c) :
    WPost h₀ L s Led ps stored m₀ P μ Q c .next { s with heap := h', toks := tk } := ⟨c', h', tk, m', news', rfl, F, N, hn, trivial, hk, hr, hp, hm⟩
/-- a while by a state, with what the tokens are above -/
theorem while_st {σ : Type} {test : Expr} {body : List Stmt} {pos : Pos} {m₀ : Str → Option Value} (n₀ : Nat) (Led : σ → List (Addr × Obj)) (ps : σ → List (Str × Value)) (stored : List Str) (P : σ → Prop) (μ : σ → Nat) (c₀ : σ)
    (htk : n₀ ≤ s.toks) (F : Fr h₀ L s.heap m₀) (N : News h₀ L s.heap (Led c₀)) (hk : ∀ p ∈ ps c₀, m₀ p.1 = some p.2) (hp : P c₀)
    (turn : ∀ (c : σ) (u : Str → Option Value) h tk, n₀ ≤ tk → P c → Fr h₀ L h (kstB (fun z => if stored.contains z then u z else m₀ z) (ps c)) → News h₀ L h (Led c) →
      wpAny (model prog w) A (isTrue test env (eval test env)) (fun b s₂ =>
        if b = true then wpAny (model prog w) A (execs body env) (WPost h₀ L s Led ps stored m₀ P μ Q c) E s₂ else Q .next s₂) E { s with heap := h, toks := tk })
    (hE : PassesOwn (model prog w) A env E := by passes_own) :
    wpAny (model prog w) A (exec (.While test body [] pos) env) Q E s := by
  refine wpAny_While (codeAny_whileLoop (fun k s' => ∃ h₁ tk₁ m₁ c, s' = { s with heap := h₁, toks := tk₁ } ∧ n₀ ≤ tk₁ ∧ Fr h₀ L h₁ m₁ ∧ News h₀ L h₁ (Led c) ∧ μ c = k ∧ (∀ p ∈ ps c, m₁ p.1 = some p.2) ∧ (∀ z, (∀ p ∈ ps c, z ≠ p.1) → stored.contains z = false → m₁ z = m₀ z) ∧ P c) ?_ (μ c₀)
    ⟨s.heap, s.toks, m₀, c₀, rfl, htk, F, N, rfl, hk, fun _ _ _ => rfl, hp⟩)
  rintro k s' ⟨h₁, tk₁, m₁, c, rfl, htk₁, F₁, N₁, rfl, h1, h2, hp'⟩
  refine wpAny_with_toks (n := n₀) htk₁ (wpAny_mono (turn c m₁ h₁ tk₁ htk₁ hp' (ksw_fr h1 h2 F₁) N₁) (fun b s₂ h₂ htk₂ => ?_) (fun e s' x _ => hE e s' x))
  cases b with
  | false =>
    simp only [Bool.false_eq_true, if_false] at h₂ ⊢
    exact wpAny_execs_nil h₂
  | true =>
    simp only [if_true] at h₂ ⊢
    refine wpAny_with_toks (n := n₀) htk₂ (wpAny_mono h₂ (fun f s₃ h₃ htk₃ => ?_) (fun e s' x _ => hE e s' x))
    cases f with
    | next =>
      obtain ⟨c', h', tk', m', news', rfl, F', N', hn, _, hk9, hr9, hp9, hm9⟩ := h₃
      exact ⟨μ c', hm9, h', tk', m', c', rfl, htk₃, F', fun p hp => N' p (hn p hp), rfl, hk9, hr9, hp9⟩
    | cont =>
      obtain ⟨c', h', tk', m', news', rfl, F', N', hn, _, hk9, hr9, hp9, hm9⟩ := h₃
      exact ⟨μ c', hm9, h', tk', m', c', rfl, htk₃, F', fun p hp => N' p (hn p hp), rfl, hk9, hr9, hp9⟩
    | brk => exact h₃
    | ret v => exact h₃
end

/-- a pure call, met in a frame with its ledger -/
theorem use_call {M : Model} {A : Around} {E : Value → Shared → Prop} {s : Shared} {h₀ : Heap} {L : Addr} {m : Str → Option Value} {news : List (Addr × Obj)} {t : Sem Value} {Q : Value → Shared → Prop} {R : Value → Prop}
    (F : Fr h₀ L s.heap m) (N : News h₀ L s.heap news) (C : wpAny M A t (fun v s' => Keeps s s' ∧ R v) E s)
    (h : ∀ v h' tk', Fr h₀ L h' m → News h₀ L h' news → R v → Q v { s with heap := h', toks := tk' }) : wpAny M A t Q E s := by
  refine wpAny_mono C (fun v s' ⟨k, r⟩ => ?_) fun _ _ x => x
  obtain ⟨h', tk', rfl, k⟩ := k
  exact h v h' tk' (F.keeps k) (N.grown k) r

theorem type_translate : typeOf (.builtin "str.translate") = pure (.type "method_descriptor") := by show builtinType _ = _; rw [builtinType_eq_fast]; kernel_rfl
theorem method_translate {M : Model} {A : Around} {E : Value → Shared → Prop} {s : Shared} {x : Str} {t : Tok} {pl : Sem Bool} {Q : Value × List Value → Shared → Prop} (h : Q (.builtin "str.translate", [.str x t]) s) :
    wpAny M A (getMethod (.str x t) (Str.ofString "translate") pl) Q E s := GM.of (.str x t) (typeIs_str _ _ _) F.slot_str_translate type_translate GM.noRef h

theorem item_sign {A : Around} {E : Value → Shared → Prop} {prog : Program} {w : World} {s : Shared} {x : Str} {t u : Tok} {i d : Nat} {value slice : Expr} {Q : Value → Shared → Prop} (hd : x.cps[i]? = some d) (hsz : x.length ≤ 64)
    (h : Q (.str ⟨#[d]⟩ s.toks) { s with toks := s.toks + 1 })
    (hs : subscripted slice false (.str x t) (.int (i : Int) u) = operate [.str x t, .int (i : Int) u] (getItem (.str x t) (.int (i : Int) u)) := by with_unfolding_all rfl)
    (ht : ∀ r, letTemporaryGo value (.str x t) r = pure () := by intro _; with_unfolding_all rfl) :
    wpAny (model prog w) A (subscriptTail value slice (.str x t) (.int (i : Int) u)) Q E s := by
  have hi : i < x.length := (Array.getElem?_eq_some_iff.mp hd).1
  have e : Txt.item x (i : Int) = ⟨#[d]⟩ := item_meets (by omega) (by rw [Int.toNat_natCast]; exact hd)
  refine item_str (fitsSsize_of (N := 9223372036854775808) (by omega) (by omega) (Int.le_refl _)) (by omega) (by omega) (fun _ => by rw [e]; exact h) hs ht
/-- which token the last star bears -/
def LastTok (ts : Tok) (vs : List Value) : Prop := ∀ ws y t, vs = ws ++ [.str y t] → t ≠ 0 ∧ (y = Str.ofString "*" ↔ t = ts)
theorem LastTok.nil {ts : Tok} : LastTok ts [] := fun ws y t e => by cases ws <;> cases e
theorem LastTok.snoc {ts : Tok} {vs : List Value} {y : Str} {t : Tok} (h0 : t ≠ 0) (h : y = Str.ofString "*" ↔ t = ts) : LastTok ts (vs ++ [.str y t]) := fun ws y' t' e => by
  have := (List.append_inj' e rfl).2
  simp at this
  obtain ⟨rfl, rfl⟩ := this
  exact ⟨h0, h⟩
theorem LastTok.other {ts : Nat} {vs : List Value} {y : Str} {t : Nat} (hlt : ts < t) (hy : (y == Str.ofString "*") = false) : LastTok ts (vs ++ [.str y t]) :=
  LastTok.snoc (fun e => by have : t = 0 := e; omega) ⟨fun e => absurd (beq_iff_eq.mpr e) (by rw [hy]; decide), fun e => by have : t = ts := e; omega⟩
theorem LastTok.star {ts : Tok} {vs : List Value} (h0 : ts ≠ 0) : LastTok ts (vs ++ [.str (Str.ofString "*") ts]) := LastTok.snoc h0 ⟨fun _ => rfl, fun _ => rfl⟩
structure TrSt where
  i : Nat
  ti : Tok
  vs : List Value
  ep : Nat
end Mine
end

section -- part Comp2b
open PySem PySem.W PySem.Calls PyProof.Rows
set_option Elab.async false
set_option maxRecDepth 100000
set_option maxHeartbeats 4000000
namespace Mine
section
variable {prog : Program} {w : World} {A : Around} {E : Value → Shared → Prop} {env : Env}
/-- «y = [elt for x1 in i1 for x2 in i2]» in a def -/
theorem wpAny_Assign_two {s : Shared} {elt i1 i2 : Expr} {x1 x2 y : Str} {px1 px2 py : Pos} {scope : Scope} {cl : List (Str × Addr)} {pos spos : Pos} {Q : Flow → Shared → Prop}
    (hsw : swapsWith (.ListComp elt [⟨.Name x1 px1, i1, [], 0⟩, ⟨.Name x2 px2, i2, [], 0⟩] scope pos) (some (.Name y py)) spos.line env = pure true)
    (hclos : closureFor scope env = pure cl) (hcell : ∀ y ∈ scope.names, y.2 ≠ .cell) (hkind : scope.kind = .function)
    (hnames : ∀ y ∈ scope.names, y.2 = .local → scope.names.lookup y.1 = some .local) (hx1 : scope.names.lookup x1 = some .local) (hx2 : scope.names.lookup x2 = some .local) (hx12 : x1 ≠ x2)
    (hy : env.kindOf y = some .local) (hp : (env.scope.kind == .class || (env.scope.kind == .module && env.locals != env.globals)) = false)
    (h : wpAny (model prog w) A (eval i1 env) (fun xv s₁ => wpAny (model prog w) A (pyIter xv) (fun it s₂ => ∃ (I : Addr) (fp wr : List Addr) (n n2 : Nat) (P P2 : Nat → Value → Prop) (St : Nat → Heap → Prop) (J : Nat → Nat → List Value → Prop) (m : Str → Option Value), it = .ref I ∧ Walks prog w A I fp wr n P St ∧ n * n2 ≤ sizeLine ∧ St 0 s₂.heap ∧ (∀ b ∈ fp, b < s₂.heap.objs.size) ∧ J 0 0 [] ∧
      env.locals ∉ wr ∧ s₂.heap.Ns env.locals m ∧
      Turns2 prog w A env scope cl x1 x2 elt i2 wr n n2 P P2 J s₂ ∧
      (∀ D h' tk ys, s₂.heap.get? D = none → h'.PlainList D ys → J n 0 ys.toList → h'.Ns env.locals (fun z => if z = y then some (.ref D) else m z) → (∀ b o, b ≠ env.locals → b ∉ wr → s₂.heap.get? b = some o → h'.get? b = some o) → Q .next { s₂ with heap := h', toks := tk })) E s₁) E s)
    (hs : ∀ x, foldedSetIterable i1 env x = pure x := by intro _; rfl) (hfold : ∀ C x, foldedSetIterable i2 (compEnvC scope cl C env) x = pure x := by intros; rfl) :
    wpAny (model prog w) A (exec (.Assign [.Name y py] (.ListComp elt [⟨.Name x1 px1, i1, [], 0⟩, ⟨.Name x2 px2, i2, [], 0⟩] scope pos) spos) env) Q E s := by
  rw [exec_Assign_Name_used _ _ _ _ hsw]
  refine wpAny_bind (wpAny_standAt (wpAny_bind ?_))
  show wpAny _ A (do let _ ← comprehension (.ListComp elt [⟨.Name x1 px1, i1, [], 0⟩, ⟨.Name x2 px2, i2, [], 0⟩] scope pos) scope env _ (newList []) false (eval i1 env) (some (assign (.Name y py) env))) _ _ s
  refine wpAny_bind (wpAny_mono (wpAny_comprehension_free (use := some (assign (.Name y py) env)) (Q := fun _ s' => Q .next s') rfl hs hclos hkind hnames
    (wpAny_mono h (fun xv s₁ h₁ => wpAny_mono h₁ (fun it s₂ h₂ => ?_) fun _ _ e => e) fun _ _ e => e)) (fun _ s' hq => wpAny_pure (wpAny_pure hq)) fun _ _ e => e)
  obtain ⟨I, fp, wr, n, n2, P, P2, St, J, m, rfl, W, hsz, hst, hfp, hj, hLw, hn, hq, hQ⟩ := h₂
  refine comp2_block (RR := fun acc C => compPost (model prog w) A E (some (assign (.Name y py) env)) (fun _ s' => Q .next s') acc C) W J hcell hkind hx1 hx2 hx12 hst hfp hj hsz hfold hq ?_
  intro D C h' tk m' ys hD hC hDC hnC hpl hJ hk
  have hLC : env.locals ≠ C := by rintro rfl; obtain ⟨o, _, _, ho, _⟩ := hn; rw [hC] at ho; cases ho
  have hLD : env.locals ≠ D := by rintro rfl; obtain ⟨o, _, _, ho, _⟩ := hn; rw [hD] at ho; cases ho
  show wpAny _ A (assign (.Name y py) env (.ref D)) _ _ _
  refine wpAny_assign_Name (wpAny_storeName_local hy (hn.at' fun o e => hk _ o hLw e) (fun h₂ hn₂ hs₂ => ?_) hp)
  refine ⟨m', hnC.sameBut hs₂ (Ne.symm hLC), fun h₃ hs₃ => ?_⟩
  exact hQ D h₃ _ ys hD ((hpl.extBut hs₂.extBut (Ne.symm hLD)).extBut hs₃.extBut hDC) hJ (hn₂.sameBut hs₃ hLC) fun b o hbL hbf e =>
    hs₃.extBut b o (by rintro rfl; rw [hC] at e; cases e) (hs₂.extBut b o hbL (hk b o hbf e))
end
end Mine
end

section -- part LoopC
open PySem PySem.W PySem.Calls PyProof.Rows
set_option Elab.async false
set_option maxRecDepth 100000
set_option maxHeartbeats 4000000
namespace Mine
section
variable {prog : Program} {w : World} {A : Around} {E : Value → Shared → Prop} {s : Shared} {env : Env} {h₀ : Heap} {x : Str} {body : List Stmt} {Q : Flow → Shared → Prop}

/-- the end of a turn over a list, the loop's name being a cell -/
def CPost (h₀ : Heap) (L cp : Addr) (J : (Str → Option Value) → List (Addr × Obj) → Prop) (I : Addr) (oI : Obj) (s₁ : Shared) (Q : Flow → Shared → Prop) (f : Flow) (s₂ : Shared) : Prop :=
  match f with
  | .ret v => Q (.ret v) s₂
  | .brk => Q .next s₂
  | _ => ∃ h' tk m' news' oc v, s₂ = { s₁ with heap := h', toks := tk } ∧ Fr h₀ L h' m' ∧ News h₀ L h' ((I, oI) :: (cp, oc) :: news') ∧ oc.data = .cell v ∧ (∀ p ∈ news', p.1 ≠ I ∧ p.1 ≠ cp) ∧ J m' news'

theorem For_cell {l cp : Addr} {vs : Array Value} {px pos : Pos} {iter : Expr} {m₀ : Str → Option Value} {oc₀ : Obj} {v₀ : Option Value} {news : List (Addr × Obj)} (J : Nat → (Str → Option Value) → List (Addr × Obj) → Prop)
    (hh : A.handled = none) (hk : env.scope.kind = .function) (hx : env.kindOf x = some .cell) (hc : env.cells.lookup x = some cp) (hl : h₀.IsList l vs)
    (hey : ∀ Q' : Value → Shared → Prop, Q' (.ref l) s → wpAny (model prog w) A (eval iter env) Q' E s)
    (F : Fr h₀ env.locals s.heap m₀) (N : News h₀ env.locals s.heap ((cp, oc₀) :: news)) (ho : oc₀.data = .cell v₀) (hn : ∀ p ∈ news, p.1 ≠ cp) (hj : J 0 m₀ news)
    (turn : ∀ i v m₁ news₁ h tk I oI oc, vs[i]? = some v → J i m₁ news₁ → I ≠ cp → (∀ p ∈ news₁, p.1 ≠ I ∧ p.1 ≠ cp) → oc.data = .cell (some v) → Fr h₀ env.locals h m₁ → News h₀ env.locals h ((I, oI) :: (cp, oc) :: news₁) →
      wpAny (model prog w) A (execs body env) (CPost h₀ env.locals cp (J (i + 1)) I oI { s with heap := h, toks := tk } Q) E { s with heap := h, toks := tk })
    (done : ∀ m₁ news₁ h tk, J vs.size m₁ news₁ → Fr h₀ env.locals h m₁ → News h₀ env.locals h news₁ → Q .next { s with heap := h, toks := tk })
    (hs : ∀ x, foldedSetIterable iter env x = pure x := by intro _; rfl)
    (hE : PassesOwn (model prog w) A env E := by passes_own) :
    wpAny (model prog w) A (exec (.For (.Name x px) iter body [] pos) env) Q E s := by
  have hls : s.heap.IsList l vs := hl.at fun o e => F.keep l o e
  obtain ⟨ol, hol, _⟩ := id hl
  have hlt : l < h₀.objs.size := Heap.lt_size hol
  have hne : l ≠ s.heap.objs.size := Nat.ne_of_lt (Nat.lt_trans (Nat.lt_of_lt_of_le hlt F.above) F.ns.lt)
  refine wpAny_For (hey _ (wpAny_pyIter_list hls ?_)) hs
  have W := Walks.list (prog := prog) (w := w) hh s.heap.objs.size l hne vs
  have hI0 : h₀.get? s.heap.objs.size = none := next_is_new F
  have hIL : s.heap.objs.size ≠ env.locals := fun e => absurd F.ns.lt (e ▸ Nat.lt_irrefl _)
  have hcI : cp ≠ s.heap.objs.size := Nat.ne_of_lt (Heap.lt_size (N _ (.head _)).1)
  have hcl : cp ≠ l := fun e => by
    have := (N _ (.head _)).2.2
    rw [show (cp, oc₀).1 = l from e, hol] at this
    cases this
  generalize hI : s.heap.objs.size = I at *
  refine codeAny_forLoop (R := fun r s' => match r with | .ok f => Q f s' | .error e => cameBackBy (model prog w) A env E e s')
    (fun k s' => ∃ h' tk m' news' oI oc v i, s' = { s with heap := h', toks := tk } ∧ (h'.IsListIter I l i ∧ h'.IsList l vs) ∧ Fr h₀ env.locals h' m' ∧ News h₀ env.locals h' ((I, oI) :: (cp, oc) :: news') ∧ oc.data = .cell v ∧ (∀ p ∈ news', p.1 ≠ I ∧ p.1 ≠ cp) ∧ J i m' news' ∧ i ≤ vs.size ∧ k = vs.size + 1 - i) ?_ (vs.size + 1)
    ⟨_, s.toks, m₀, news, { cls := .type "list_iterator", data := .fields #[.ref l, .int 0 0] }, oc₀, v₀, 0, rfl, ⟨⟨_, hI ▸ Heap.get?_push_size _ rfl, rfl, rfl⟩, hls.at fun o e => Heap.get?_push_of_some _ e⟩, F.push _, ?_, ho, fun p hp => ⟨fun e => absurd (Heap.lt_size (N p (List.mem_cons_of_mem _ hp)).1) (by rw [hI, e]; exact Nat.lt_irrefl _), hn p hp⟩, hj, Nat.zero_le _, rfl⟩
  · rintro k s' ⟨h', tk, m', news', oI, oc, v', i, rfl, hst', F', N', hoc, hnw', hJ, hi, rfl⟩
    have next : ∀ h₁ : Heap, (∀ b o, b ∉ [I] → h'.get? b = some o → h₁.get? b = some o) → Fr h₀ env.locals h₁ m' ∧ News h₀ env.locals h₁ ((cp, oc) :: news') := fun h₁ hk₁ =>
      ⟨⟨F'.ns.at' fun o e => hk₁ _ o (fun q => hIL (List.mem_singleton.mp q).symm) e, fun b o e => hk₁ b o (fun q => by rw [List.mem_singleton.mp q, hI0] at e; cases e) (F'.keep b o e), F'.above⟩, fun p hp => ⟨hk₁ _ _ (fun q => by
        rcases List.mem_cons.mp hp with rfl | hp
        · exact hcI (List.mem_singleton.mp q)
        · exact (hnw' p hp).1 (List.mem_singleton.mp q)) (N' p (List.mem_cons_of_mem _ hp)).1, (N' p (List.mem_cons_of_mem _ hp)).2⟩⟩
    by_cases hlt' : i < vs.size
    · refine W.item i _ _ _ hlt' hst' fun v h₁ tk₁ hP hst₁ hk₁ => ?_
      obtain ⟨F₁, N₁⟩ := next h₁ hk₁
      obtain ⟨oI₁, hoI₁, hII⟩ := id hst₁.1
      refine wpAny_assign_Name (wpAny_storeName_cell hk hx hc ⟨oc, (N₁ _ (.head _)).1, hoc⟩ (fun h₂ hv hs₂ => ?_))
      obtain ⟨oc₂, hoc₂, hdc₂⟩ := hv
      have F₂ : Fr h₀ env.locals h₂ m' := ⟨F₁.ns.sameBut hs₂ (Ne.symm (N₁ _ (.head _)).2.1), fun b ob e => (hs₂.2 b (fun q => by
        have := (N₁ _ (.head _)).2.2
        rw [← q] at this
        rw [this] at e; cases e)).trans (F₁.keep b ob e), F₁.above⟩
      have N₂ : News h₀ env.locals h₂ ((I, oI₁) :: (cp, oc₂) :: news') := fun p hp => by
        rcases List.mem_cons.mp hp with rfl | hp
        · exact ⟨(hs₂.2 I (Ne.symm hcI)).trans hoI₁, hIL, hI0⟩
        · rcases List.mem_cons.mp hp with rfl | hp
          · exact ⟨hoc₂, (N₁ _ (.head _)).2⟩
          · exact ⟨(hs₂.2 _ (hnw' p hp).2).trans (N₁ p (List.mem_cons_of_mem _ hp)).1, (N₁ p (List.mem_cons_of_mem _ hp)).2⟩
      refine wpAny_mono (wpAny_passesOwn hE (turn i v m' news' h₂ _ I oI₁ oc₂ hP hJ (Ne.symm hcI) hnw' hdc₂ F₂ N₂)) (fun f s₃ h₃ => ?_) fun _ _ e => e
      have fin : (∃ h' tk m' news' oc v, s₃ = { s with heap := h', toks := tk } ∧ Fr h₀ env.locals h' m' ∧ News h₀ env.locals h' ((I, oI₁) :: (cp, oc) :: news') ∧ oc.data = .cell v ∧ (∀ p ∈ news', p.1 ≠ I ∧ p.1 ≠ cp) ∧ J (i + 1) m' news') →
          ∃ k', k' < vs.size + 1 - i ∧ ∃ h' tk m' news' oI oc v i, s₃ = { s with heap := h', toks := tk } ∧ (h'.IsListIter I l i ∧ h'.IsList l vs) ∧ Fr h₀ env.locals h' m' ∧ News h₀ env.locals h' ((I, oI) :: (cp, oc) :: news') ∧ oc.data = .cell v ∧ (∀ p ∈ news', p.1 ≠ I ∧ p.1 ≠ cp) ∧ J i m' news' ∧ i ≤ vs.size ∧ k' = vs.size + 1 - i := by
        rintro ⟨g₃, tk₃, m₃, news₃, oc₃, v₃, rfl, F₃, N₃, hoc₃, hn₃, hJ₃⟩
        refine ⟨vs.size + 1 - (i + 1), by omega, g₃, tk₃, m₃, news₃, oI₁, oc₃, v₃, i + 1, rfl, ⟨⟨oI₁, (N₃ _ (.head _)).1, hII⟩, hl.at fun o e => F₃.keep l o e⟩, F₃, N₃, hoc₃, hn₃, hJ₃, hlt', rfl⟩
      cases f with
      | ret v => exact h₃
      | brk => exact h₃
      | cont => exact fin h₃
      | next => exact fin h₃
    · have hin : i = vs.size := by omega
      subst hin
      refine W.done _ _ _ hst' fun h₁ tk₁ hk₁ => wpAny_execs_nil ?_
      obtain ⟨F₁, N₁⟩ := next h₁ hk₁
      exact done m' news' h₁ _ hJ F₁ (fun p hp => N₁ p (List.mem_cons_of_mem _ hp))
  · intro p hp
    rcases List.mem_cons.mp hp with rfl | hp
    · exact ⟨hI ▸ Heap.get?_push_size _ rfl, hIL, hI0⟩
    · exact ⟨Heap.get?_push_of_some _ (N p hp).1, (N p hp).2⟩
/-- the same, the list being one of the ledger, of which J speaks -/
theorem For_cellN {l cp : Addr} {vs : Array Value} {px pos : Pos} {iter : Expr} {m₀ : Str → Option Value} {oc₀ : Obj} {v₀ : Option Value} {news : List (Addr × Obj)} (J : Nat → (Str → Option Value) → List (Addr × Obj) → Prop)
    (hh : A.handled = none) (hk : env.scope.kind = .function) (hx : env.kindOf x = some .cell) (hc : env.cells.lookup x = some cp) 
    (hll : ∀ i m₁ news₁, J i m₁ news₁ → ∃ c, (l, listOf vs.toList.toArray c) ∈ news₁)
    (hey : ∀ Q' : Value → Shared → Prop, Q' (.ref l) s → wpAny (model prog w) A (eval iter env) Q' E s)
    (F : Fr h₀ env.locals s.heap m₀) (N : News h₀ env.locals s.heap ((cp, oc₀) :: news)) (ho : oc₀.data = .cell v₀) (hn : ∀ p ∈ news, p.1 ≠ cp) (hj : J 0 m₀ news)
    (turn : ∀ i v m₁ news₁ h tk I oI oc, vs[i]? = some v → J i m₁ news₁ → I ≠ cp → (∀ p ∈ news₁, p.1 ≠ I ∧ p.1 ≠ cp) → oc.data = .cell (some v) → Fr h₀ env.locals h m₁ → News h₀ env.locals h ((I, oI) :: (cp, oc) :: news₁) →
      wpAny (model prog w) A (execs body env) (CPost h₀ env.locals cp (J (i + 1)) I oI { s with heap := h, toks := tk } Q) E { s with heap := h, toks := tk })
    (done : ∀ m₁ news₁ h tk, J vs.size m₁ news₁ → Fr h₀ env.locals h m₁ → News h₀ env.locals h news₁ → Q .next { s with heap := h, toks := tk })
    (hs : ∀ x, foldedSetIterable iter env x = pure x := by intro _; rfl)
    (hE : PassesOwn (model prog w) A env E := by passes_own) :
    wpAny (model prog w) A (exec (.For (.Name x px) iter body [] pos) env) Q E s := by
  have isl : ∀ (h : Heap) (news₁ : List (Addr × Obj)) (i : Nat) (m₁ : Str → Option Value), News h₀ env.locals h news₁ → J i m₁ news₁ → h.IsList l vs := fun h news₁ i m₁ N₁ hj₁ => by
    obtain ⟨c, hm⟩ := hll i m₁ news₁ hj₁
    have := News.isList N₁ hm
    rwa [Array.toArray_toList] at this
  have hls : s.heap.IsList l vs := isl _ _ _ _ (fun p hp => N p (List.mem_cons_of_mem _ hp)) hj
  obtain ⟨ol, hol, _⟩ := id hls
  have hne : l ≠ s.heap.objs.size := Nat.ne_of_lt (Heap.lt_size hol)
  refine wpAny_For (hey _ (wpAny_pyIter_list hls ?_)) hs
  have W := Walks.list (prog := prog) (w := w) hh s.heap.objs.size l hne vs
  have hI0 : h₀.get? s.heap.objs.size = none := next_is_new F
  have hIL : s.heap.objs.size ≠ env.locals := fun e => absurd F.ns.lt (e ▸ Nat.lt_irrefl _)
  have hcI : cp ≠ s.heap.objs.size := Nat.ne_of_lt (Heap.lt_size (N _ (.head _)).1)
  generalize hI : s.heap.objs.size = I at *
  refine codeAny_forLoop (R := fun r s' => match r with | .ok f => Q f s' | .error e => cameBackBy (model prog w) A env E e s')
    (fun k s' => ∃ h' tk m' news' oI oc v i, s' = { s with heap := h', toks := tk } ∧ (h'.IsListIter I l i ∧ h'.IsList l vs) ∧ Fr h₀ env.locals h' m' ∧ News h₀ env.locals h' ((I, oI) :: (cp, oc) :: news') ∧ oc.data = .cell v ∧ (∀ p ∈ news', p.1 ≠ I ∧ p.1 ≠ cp) ∧ J i m' news' ∧ i ≤ vs.size ∧ k = vs.size + 1 - i) ?_ (vs.size + 1)
    ⟨_, s.toks, m₀, news, { cls := .type "list_iterator", data := .fields #[.ref l, .int 0 0] }, oc₀, v₀, 0, rfl, ⟨⟨_, hI ▸ Heap.get?_push_size _ rfl, rfl, rfl⟩, hls.at fun o e => Heap.get?_push_of_some _ e⟩, F.push _, ?_, ho, fun p hp => ⟨fun e => absurd (Heap.lt_size (N p (List.mem_cons_of_mem _ hp)).1) (by rw [hI, e]; exact Nat.lt_irrefl _), hn p hp⟩, hj, Nat.zero_le _, rfl⟩
  · rintro k s' ⟨h', tk, m', news', oI, oc, v', i, rfl, hst', F', N', hoc, hnw', hJ, hi, rfl⟩
    have next : ∀ h₁ : Heap, (∀ b o, b ∉ [I] → h'.get? b = some o → h₁.get? b = some o) → Fr h₀ env.locals h₁ m' ∧ News h₀ env.locals h₁ ((cp, oc) :: news') := fun h₁ hk₁ =>
      ⟨⟨F'.ns.at' fun o e => hk₁ _ o (fun q => hIL (List.mem_singleton.mp q).symm) e, fun b o e => hk₁ b o (fun q => by rw [List.mem_singleton.mp q, hI0] at e; cases e) (F'.keep b o e), F'.above⟩, fun p hp => ⟨hk₁ _ _ (fun q => by
        rcases List.mem_cons.mp hp with rfl | hp
        · exact hcI (List.mem_singleton.mp q)
        · exact (hnw' p hp).1 (List.mem_singleton.mp q)) (N' p (List.mem_cons_of_mem _ hp)).1, (N' p (List.mem_cons_of_mem _ hp)).2⟩⟩
    by_cases hlt' : i < vs.size
    · refine W.item i _ _ _ hlt' hst' fun v h₁ tk₁ hP hst₁ hk₁ => ?_
      obtain ⟨F₁, N₁⟩ := next h₁ hk₁
      obtain ⟨oI₁, hoI₁, hII⟩ := id hst₁.1
      refine wpAny_assign_Name (wpAny_storeName_cell hk hx hc ⟨oc, (N₁ _ (.head _)).1, hoc⟩ (fun h₂ hv hs₂ => ?_))
      obtain ⟨oc₂, hoc₂, hdc₂⟩ := hv
      have F₂ : Fr h₀ env.locals h₂ m' := ⟨F₁.ns.sameBut hs₂ (Ne.symm (N₁ _ (.head _)).2.1), fun b ob e => (hs₂.2 b (fun q => by
        have := (N₁ _ (.head _)).2.2
        rw [← q] at this
        rw [this] at e; cases e)).trans (F₁.keep b ob e), F₁.above⟩
      have N₂ : News h₀ env.locals h₂ ((I, oI₁) :: (cp, oc₂) :: news') := fun p hp => by
        rcases List.mem_cons.mp hp with rfl | hp
        · exact ⟨(hs₂.2 I (Ne.symm hcI)).trans hoI₁, hIL, hI0⟩
        · rcases List.mem_cons.mp hp with rfl | hp
          · exact ⟨hoc₂, (N₁ _ (.head _)).2⟩
          · exact ⟨(hs₂.2 _ (hnw' p hp).2).trans (N₁ p (List.mem_cons_of_mem _ hp)).1, (N₁ p (List.mem_cons_of_mem _ hp)).2⟩
      refine wpAny_mono (wpAny_passesOwn hE (turn i v m' news' h₂ _ I oI₁ oc₂ hP hJ (Ne.symm hcI) hnw' hdc₂ F₂ N₂)) (fun f s₃ h₃ => ?_) fun _ _ e => e
      have fin : (∃ h' tk m' news' oc v, s₃ = { s with heap := h', toks := tk } ∧ Fr h₀ env.locals h' m' ∧ News h₀ env.locals h' ((I, oI₁) :: (cp, oc) :: news') ∧ oc.data = .cell v ∧ (∀ p ∈ news', p.1 ≠ I ∧ p.1 ≠ cp) ∧ J (i + 1) m' news') →
          ∃ k', k' < vs.size + 1 - i ∧ ∃ h' tk m' news' oI oc v i, s₃ = { s with heap := h', toks := tk } ∧ (h'.IsListIter I l i ∧ h'.IsList l vs) ∧ Fr h₀ env.locals h' m' ∧ News h₀ env.locals h' ((I, oI) :: (cp, oc) :: news') ∧ oc.data = .cell v ∧ (∀ p ∈ news', p.1 ≠ I ∧ p.1 ≠ cp) ∧ J i m' news' ∧ i ≤ vs.size ∧ k' = vs.size + 1 - i := by
        rintro ⟨g₃, tk₃, m₃, news₃, oc₃, v₃, rfl, F₃, N₃, hoc₃, hn₃, hJ₃⟩
        refine ⟨vs.size + 1 - (i + 1), by omega, g₃, tk₃, m₃, news₃, oI₁, oc₃, v₃, i + 1, rfl, ⟨⟨oI₁, (N₃ _ (.head _)).1, hII⟩, isl _ _ _ _ (fun p hp => N₃ p (List.mem_cons_of_mem _ (List.mem_cons_of_mem _ hp))) hJ₃⟩, F₃, N₃, hoc₃, hn₃, hJ₃, hlt', rfl⟩
      cases f with
      | ret v => exact h₃
      | brk => exact h₃
      | cont => exact fin h₃
      | next => exact fin h₃
    · have hin : i = vs.size := by omega
      subst hin
      refine W.done _ _ _ hst' fun h₁ tk₁ hk₁ => wpAny_execs_nil ?_
      obtain ⟨F₁, N₁⟩ := next h₁ hk₁
      exact done m' news' h₁ _ hJ F₁ (fun p hp => N₁ p (List.mem_cons_of_mem _ hp))
  · intro p hp
    rcases List.mem_cons.mp hp with rfl | hp
    · exact ⟨hI ▸ Heap.get?_push_size _ rfl, hIL, hI0⟩
    · exact ⟨Heap.get?_push_of_some _ (N p hp).1, (N p hp).2⟩
end
end Mine
end

section -- part CompL
open PySem PySem.W PySem.Calls PyProof.Rows
set_option Elab.async false
set_option maxRecDepth 100000
set_option maxHeartbeats 4000000
namespace Mine
theorem comp_done2 {h₀ h h₁ : Heap} {L I D : Addr} {m m' : Str → Option Value} {o oD : Obj} {news : List (Addr × Obj)} (F : Fr h₀ L h m) (N : News h₀ L h news) (hI : I = h.objs.size) (hD : (h.push o).get? D = none) (hc : h₁.get? D = some oD) (hns : h₁.Ns L m')
    (hk : ∀ b o', b ≠ L → b ∉ [I] → (h.push o).get? b = some o' → h₁.get? b = some o') : Fr h₀ L h₁ m' ∧ News h₀ L h₁ ((D, oD) :: news) ∧ ∀ p ∈ news, p.1 ≠ D := by
  have hlt : ∀ b o', h.get? b = some o' → b ∉ [I] := fun b o' e hb => by
    have h1 := Heap.lt_size e
    rw [List.mem_singleton.mp hb, hI] at h1
    exact Nat.lt_irrefl _ h1
  have keep : ∀ b o', b ≠ L → h.get? b = some o' → h₁.get? b = some o' := fun b o' hb e => hk b o' hb (hlt b o' e) (Heap.get?_push_of_some _ e)
  have hDh : ∀ b o', h.get? b = some o' → b ≠ D := fun b o' e q => by
    rw [q] at e
    rw [Heap.get?_push_of_some _ e] at hD
    cases hD
  refine ⟨⟨hns, fun b o' e => keep b o' (fun q => ?_) (F.keep b o' e), F.above⟩, fun p hp => ?_, fun p hp => hDh _ _ (N p hp).1⟩
  · have h1 := Heap.lt_size e
    rw [q] at h1
    exact Nat.lt_irrefl _ (Nat.lt_of_lt_of_le h1 F.above)
  · rcases List.mem_cons.mp hp with rfl | hp
    · obtain ⟨oL, _, _, hoL, _⟩ := F.ns
      refine ⟨hc, (hDh _ _ hoL).symm, ?_⟩
      cases e : h₀.get? D with
      | none => rfl
      | some o' => exact absurd rfl (hDh D o' (F.keep D o' e))
    · exact ⟨keep _ _ (N p hp).2.1 (N p hp).1, (N p hp).2⟩
theorem comp_frame2 {h₀ h h' : Heap} {L C I : Addr} {m m₃ : Str → Option Value} {o : Obj} {news : List (Addr × Obj)} (F : Fr h₀ L h m) (N : News h₀ L h news) (hI : I = h.objs.size) (hC : (h.push o).objs.size ≤ C) (hns : h'.Ns C m₃)
    (hk : ∀ b o', b ∉ [I] → (h.push o).get? b = some o' → h'.get? b = some o') : Fr h₀ C h' m₃ ∧ News h₀ C h' news := by
  have hlt : ∀ b o', h.get? b = some o' → b ∉ [I] := fun b o' e hb => by
    have h1 := Heap.lt_size e
    rw [List.mem_singleton.mp hb, hI] at h1
    exact Nat.lt_irrefl _ h1
  have keep : ∀ b o', h.get? b = some o' → h'.get? b = some o' := fun b o' e => hk b o' (hlt b o' e) (Heap.get?_push_of_some _ e)
  rw [Heap.size_push] at hC
  refine ⟨⟨hns, fun b o' e => keep b o' (F.keep b o' e), ?_⟩, fun p hp => ⟨keep _ _ (N p hp).1, ?_, (N p hp).2.2⟩⟩
  · exact Nat.le_trans F.above (Nat.le_of_lt (Nat.lt_of_lt_of_le F.ns.lt (Nat.le_of_succ_le hC)))
  · rintro rfl
    exact Nat.lt_irrefl _ (Nat.lt_of_lt_of_le (Heap.lt_size (N p hp).1) (Nat.le_of_succ_le hC))
/-- what a walk within a comprehension's own frame gives back -/
def CBack (h₀ : Heap) (C : Addr) (m₃ : Str → Option Value) (nw : List (Addr × Obj)) (s₃ s₄ : Shared) : Prop := ∃ h' tk', s₄ = { s₃ with heap := h', toks := tk' } ∧ Fr h₀ C h' m₃ ∧ News h₀ C h' nw
theorem CBack.intro {h₀ h' : Heap} {C : Addr} {m₃ : Str → Option Value} {nw news : List (Addr × Obj)} {s₃ : Shared} {tk' : Nat} (F : Fr h₀ C h' m₃) (N : News h₀ C h' news) (hn : ∀ p ∈ nw, p ∈ news) : CBack h₀ C m₃ nw s₃ { s₃ with heap := h', toks := tk' } := ⟨h', tk', rfl, F, fun p hp => N p (hn p hp)⟩
section
variable {prog : Program} {w : World} {A : Around} {E : Value → Shared → Prop} {env : Env} {s : Shared} {h₀ : Heap} {m : Str → Option Value} {news : List (Addr × Obj)}

theorem back_of {C : Addr} {m₃ : Str → Option Value} {s₃ : Shared} (F : Fr h₀ C s₃.heap m₃) : ∃ nw, News h₀ C s₃.heap nw ∧ ∀ s₄, CBack h₀ C m₃ nw s₃ s₄ → KeepsBut C m₃ s₃ s₄ := by
  obtain ⟨nw, N, hm⟩ := all_news2 h₀ s₃.heap C
  refine ⟨nw, N, fun s₄ h => ?_⟩
  obtain ⟨h', tk', rfl, F', N'⟩ := h
  exact ⟨h', tk', rfl, fun b o hb e => all_of hm F F' N' b o hb e, F'.ns⟩

/-- «y = [elt for x in r if c]» over a list r, met in a frame with its ledger -/
theorem asg_test {elt i1 c : Expr} {x y : Str} {px py : Pos} {scope : Scope} {cl : List (Str × Addr)} {pos spos : Pos} {Q : Flow → Shared → Prop} {r : Addr} {vs : Array Value} (J : Nat → List Value → Prop) (p : Nat → Bool)
    (F : Fr h₀ env.locals s.heap m) (N : News h₀ env.locals s.heap news) (hr : s.heap.IsList r vs) (hh : A.handled = none) (hz : vs.size ≤ sizeLine)
    (hey : ∀ Q' : Value → Shared → Prop, Q' (.ref r) s → wpAny (model prog w) A (eval i1 env) Q' E s)
    (hsw : swapsWith (.ListComp elt [⟨.Name x px, i1, [c], 0⟩] scope pos) (some (.Name y py)) spos.line env = pure true)
    (hclos : closureFor scope env = pure cl) (hcell : ∀ y ∈ scope.names, y.2 ≠ .cell) (hkind : scope.kind = .function)
    (hnames : ∀ y ∈ scope.names, y.2 = .local → scope.names.lookup y.1 = some .local) (hx : scope.names.lookup x = some .local)
    (hy : env.kindOf y = some .local) (hp : (env.scope.kind == .class || (env.scope.kind == .module && env.locals != env.globals)) = false)
    (hj : J 0 []) (hskip : ∀ k ys, k < vs.size → p k = false → J k ys → J (k + 1) ys)
    (htest : ∀ C k u s₃ m₃ E' nw, k < vs.size → vs[k]? = some u → m₃ x = some u → Fr h₀ C s₃.heap m₃ → News h₀ C s₃.heap (news ++ nw) → s.toks ≤ s₃.toks →
      wpAny (model prog w) A (isTrue c (compEnvC scope cl C env) (eval c (compEnvC scope cl C env))) (fun ok s₄ => ok = p k ∧ CBack h₀ C m₃ nw s₃ s₄) E' s₃)
    (helt : ∀ C k u s₃ m₃ E' nw, k < vs.size → p k = true → vs[k]? = some u → m₃ x = some u → Fr h₀ C s₃.heap m₃ → News h₀ C s₃.heap (news ++ nw) → s.toks ≤ s₃.toks →
      wpAny (model prog w) A (eval elt (compEnvC scope cl C env)) (fun v s₄ => (∀ ys, J k ys → J (k + 1) (ys ++ [v])) ∧ CBack h₀ C m₃ nw s₃ s₄) E' s₃)
    (hQ : ∀ D h' tk ys ep, J vs.size ys → Fr h₀ env.locals h' (fun z => if z = y then some (.ref D) else m z) → News h₀ env.locals h' ((D, listOf ys.toArray ep) :: news) → (∀ q ∈ news, q.1 ≠ D) → (∀ b o, b ≠ env.locals → s.heap.get? b = some o → h'.get? b = some o) → s.heap.get? D = none → s.toks ≤ tk → Q .next { s with heap := h', toks := tk })
    (hs : ∀ x, foldedSetIterable i1 env x = pure x := by intro _; rfl) :
    wpAny (model prog w) A (exec (.Assign [.Name y py] (.ListComp elt [⟨.Name x px, i1, [c], 0⟩] scope pos) spos) env) Q E s := by
  obtain ⟨ol, hol, _⟩ := id hr
  have hrI : r ≠ s.heap.objs.size := Nat.ne_of_lt (Heap.lt_size hol)
  refine wpAny_Assign_test hsw hclos hcell hkind hnames hx hy hp (hey _ (wpAny_pyIter_list hr ?_)) hs
  refine ⟨_, [_, r], [_], vs.size, _, _, J, p, m, rfl, Walks.list hh _ r hrI vs, hz, ⟨⟨_, Heap.get?_push_size _ rfl, rfl, rfl⟩, hr.at fun o e => Heap.get?_push_of_some _ e⟩, ?y3, hj, ?y4, (F.push _).ns, hskip, ?t1, ?t2, ?y6⟩
  case y3 =>
    intro b hb
    show b < (Heap.push _ _).objs.size
    rw [Heap.size_push]
    rcases List.mem_cons.mp hb with rfl | hb
    · exact Nat.lt_succ_self _
    · rw [List.mem_singleton.mp hb]
      exact Nat.lt_succ_of_lt (Heap.lt_size hol)
  case y4 =>
    intro hb
    exact absurd F.ns.lt (by rw [List.mem_singleton.mp hb]; exact Nat.lt_irrefl _)
  case t1 =>
    rintro C k u s₃ m₃ E' hC hi hv hns hm hk htk
    obtain ⟨F3, N3⟩ := comp_frame2 F N rfl hC hns hk
    obtain ⟨nw, N3', back⟩ := back_of F3
    exact wpAny_mono (htest C k u s₃ m₃ E' nw hi hv hm F3 (N3.append N3') htk) (fun ok s₄ h => ⟨h.1, back _ h.2⟩) fun _ _ e => e
  case t2 =>
    rintro C k u s₃ m₃ E' hC hi hpk hv hns hm hk htk
    obtain ⟨F3, N3⟩ := comp_frame2 F N rfl hC hns hk
    obtain ⟨nw, N3', back⟩ := back_of F3
    exact wpAny_mono (helt C k u s₃ m₃ E' nw hi hpk hv hm F3 (N3.append N3') htk) (fun ok s₄ h => ⟨h.1, back _ h.2⟩) fun _ _ e => e
  case y6 =>
    intro D h' tk ys hD hpl hJ hns hk htk
    obtain ⟨c7, hc7⟩ := hpl
    rw [show ys = ys.toList.toArray from (Array.toArray_toList).symm] at hc7
    obtain ⟨F8, N8, hn8⟩ := comp_done2 F N rfl hD hc7 hns hk
    have hD0 : s.heap.get? D = none := by
      cases e : s.heap.get? D with
      | none => rfl
      | some o =>
        rw [show (Heap.push s.heap _).get? D = some o from Heap.get?_push_of_some _ e] at hD
        cases hD
    exact hQ D h' tk ys.toList c7 hJ F8 N8 hn8 (fun b o hb e => hk b o hb (fun q => by
      have h1 := Heap.lt_size e
      rw [List.mem_singleton.mp q] at h1
      exact Nat.lt_irrefl _ h1) (Heap.get?_push_of_some _ e)) hD0 htk
end
end Mine
end

section -- part TypeB
open PySem PySem.W PySem.Calls PyProof.Rows
set_option Elab.async false
set_option maxRecDepth 100000
set_option maxHeartbeats 4000000
namespace Mine
theorem call_type_bytes {prog : Program} {w : World} {A : Around} {E : Value → Shared → Prop} {s : Shared} {b : Array UInt8} {u : Tok} {Q : Value → Shared → Prop} (hq : Q (.type "bytes") s) : wpAny (model prog w) A (call (.type "type") [.bytes b u]) Q E s := by
  refine wpAny_call (codeAny_of_tree ?_)
  show wpAny _ _ (callAny (.type "type") ⟨[.bytes b u], []⟩) _ _ _
  simp only [callAny]
  refine wpAny_pure ⟨Code.quiet_builtin _ (by decide +kernel), codeAny_builtin entry_type_call ?_⟩
  unfold Builtin.«type.__call__»
  dsimp only
  unfold shownTypeOf
  repeat wp_step
  exact hq
end Mine
end

section -- part ClrC
open PySem PySem.W PySem.Calls PyProof.Rows
set_option Elab.async false
set_option maxRecDepth 100000
set_option maxHeartbeats 4000000
namespace Mine
section
variable {prog : Program} {w : World} {A : Around} {E : Value → Shared → Prop} {s : Shared} {K : Frag} {Q : Value → Shared → Prop}
/-- a def with cells is entered in clear contexts -/
theorem enterCC {name qual : Str} {params : Arguments} {body : List Stmt} {scope : Scope} {dV kV doc pm cdv ct oc : Value} {an od : Option Addr} {osl : Array (Option Value)} {f : Addr} {vals : List Value} {kw : List (Str × Value)} {binds : List (Str × Value)}
    (X : K.In s.heap) (hlim : s.heap.NoLimit)
    (ho : K.lookup f = some ⟨oc, od, .func (fnOf name qual params body scope dV kV doc pm an cdv ct), osl⟩) (hcd : codeIn K cdv qual = true) (hroom : A.depth < recursionLimit)
    (hbind : BindsTo s (fnOf name qual params body scope dV kV doc pm an cdv ct) ⟨vals, kw⟩ binds)
    (hkind : ∀ n, ∀ x ∈ binds, scope.names.lookup x.1 = some .local ∨ (scope.names.lookup x.1 = some .cell ∧ ((cellsFrom n scope.names []).lookup x.1).isSome = true))
    (hnd : ((cellsFrom 0 scope.names []).map (·.1)).Nodup)
    (h : ∀ L h₁ tk cells, Fr s.heap L h₁ (bindL (envOfC qual scope L f cdv).kindOf binds fun _ => none) → News s.heap L h₁ cells → CellsAre (bindC (envOfC qual scope L f cdv).kindOf binds fun _ => none) (cellsFrom (L + 1) scope.names []) cells →
      wpC (model prog w) (A.deeper (envOfC qual scope L f cdv)) (execs body (envOfC qual scope L f cdv))
        (fun fl s' => Q (match fl with | .ret v => v | _ => .none) s')
        (fun e s' => wpAny (model prog w) (A.deeper (envOfC qual scope L f cdv)) (leaving (envOfC qual scope L f cdv) e) (fun _ s'' => E e s'') (fun e' s'' => E e' s'') s')
        { s with heap := h₁, toks := tk })
    (hco : scope.isCoroutine = false) (hgen : scope.isGenerator = false) (hk : scope.kind = .function) : wpC (model prog w) A (call (.ref f) vals kw) Q E s := by
  refine wpC_call ?_
  refine codeC_call_function (fd := fnOf name qual params body scope dV kV doc pm an cdv ct) (body := body) hroom (X _ _ ho) rfl hco hgen rfl (codeRec_of X hcd) (hbind _ _ _ _ ?_)
  refine wpAny_newFunctionEnv_cells hk (hkind _) fun env' he s' x => ?_
  subst he
  refine ⟨hlim.keeps x.toInCall.keep, codeC_func ?_⟩
  obtain ⟨h₁, tk, rfl, _⟩ := x.done
  have hk₁ := x.toInCall.keep
  obtain ⟨cells, NC, Y⟩ := Cl.news (h₀ := s.heap) (Nat.le_refl _) fun n c hm => ⟨x.cell n c (lookup_of_mem_nodup (cellsFrom_names scope.names 0 (s.heap.objs.size + 1) [] [] rfl ▸ hnd) hm), x.above n c hm⟩
  exact h s.heap.objs.size h₁ tk cells ⟨x.toInCall.ns, hk₁, Nat.le_refl _⟩ NC Y
end
end Mine
end

section -- part CompM
open PySem PySem.W PySem.Calls PyProof.Rows
set_option Elab.async false
set_option maxRecDepth 100000
set_option maxHeartbeats 4000000
namespace Mine
section
variable {prog : Program} {w : World} {A : Around} {E : Value → Shared → Prop} {env : Env}
/-- what the turns of «[elt for x in .. if c]» are given, Q being what is asked of the list -/
def TestAt (prog : Program) (w : World) (A : Around) (env : Env) (scope : Scope) (cl : List (Str × Addr)) (x : Str) (c elt : Expr) (Q : Value → Shared → Prop) (it : Value) (s₂ : Shared) : Prop :=
  ∃ (I : Addr) (fp wr : List Addr) (n : Nat) (P : Nat → Value → Prop) (St : Nat → Heap → Prop) (J : Nat → List Value → Prop) (p : Nat → Bool), it = .ref I ∧ Walks prog w A I fp wr n P St ∧ n ≤ sizeLine ∧ St 0 s₂.heap ∧ (∀ b ∈ fp, b < s₂.heap.objs.size) ∧ J 0 [] ∧
      (∀ k ys, k < n → p k = false → J k ys → J (k + 1) ys) ∧
      (∀ C k u s₃ m₃ E', s₂.heap.objs.size ≤ C → k < n → P k u → s₃.heap.Ns C m₃ → m₃ x = some u → (∀ b o, b ∉ wr → s₂.heap.get? b = some o → s₃.heap.get? b = some o) → s₂.toks ≤ s₃.toks →
        wpAny (model prog w) A (isTrue c (compEnvC scope cl C env) (eval c (compEnvC scope cl C env))) (fun ok s₄ => ok = p k ∧ KeepsBut C m₃ s₃ s₄) E' s₃) ∧
      (∀ C k u s₃ m₃ E', s₂.heap.objs.size ≤ C → k < n → p k = true → P k u → s₃.heap.Ns C m₃ → m₃ x = some u → (∀ b o, b ∉ wr → s₂.heap.get? b = some o → s₃.heap.get? b = some o) → s₂.toks ≤ s₃.toks →
        wpAny (model prog w) A (eval elt (compEnvC scope cl C env)) (fun y s₄ => (∀ ys, J k ys → J (k + 1) (ys ++ [y])) ∧ KeepsBut C m₃ s₃ s₄) E' s₃) ∧
      (∀ D h' tk ys, s₂.heap.get? D = none → h'.PlainList D ys → J n ys.toList → (∀ b o, b ∉ wr → s₂.heap.get? b = some o → h'.get? b = some o) → s₂.toks ≤ tk → Q (.ref D) { s₂ with heap := h', toks := tk })
/-- the same of «y = [elt for x in .. if c]», y a local -/
def TestAs (prog : Program) (w : World) (A : Around) (env : Env) (scope : Scope) (cl : List (Str × Addr)) (x y : Str) (c elt : Expr) (Q : Flow → Shared → Prop) (it : Value) (s₂ : Shared) : Prop :=
  ∃ (I : Addr) (fp wr : List Addr) (n : Nat) (P : Nat → Value → Prop) (St : Nat → Heap → Prop) (J : Nat → List Value → Prop) (p : Nat → Bool) (m : Str → Option Value), it = .ref I ∧ Walks prog w A I fp wr n P St ∧ n ≤ sizeLine ∧ St 0 s₂.heap ∧ (∀ b ∈ fp, b < s₂.heap.objs.size) ∧ J 0 [] ∧
      env.locals ∉ wr ∧ s₂.heap.Ns env.locals m ∧
      (∀ k ys, k < n → p k = false → J k ys → J (k + 1) ys) ∧
      (∀ C k u s₃ m₃ E', s₂.heap.objs.size ≤ C → k < n → P k u → s₃.heap.Ns C m₃ → m₃ x = some u → (∀ b o, b ∉ wr → s₂.heap.get? b = some o → s₃.heap.get? b = some o) → s₂.toks ≤ s₃.toks →
        wpAny (model prog w) A (isTrue c (compEnvC scope cl C env) (eval c (compEnvC scope cl C env))) (fun ok s₄ => ok = p k ∧ KeepsBut C m₃ s₃ s₄) E' s₃) ∧
      (∀ C k u s₃ m₃ E', s₂.heap.objs.size ≤ C → k < n → p k = true → P k u → s₃.heap.Ns C m₃ → m₃ x = some u → (∀ b o, b ∉ wr → s₂.heap.get? b = some o → s₃.heap.get? b = some o) → s₂.toks ≤ s₃.toks →
        wpAny (model prog w) A (eval elt (compEnvC scope cl C env)) (fun y s₄ => (∀ ys, J k ys → J (k + 1) (ys ++ [y])) ∧ KeepsBut C m₃ s₃ s₄) E' s₃) ∧
      (∀ D h' tk ys, s₂.heap.get? D = none → h'.PlainList D ys → J n ys.toList → h'.Ns env.locals (fun z => if z = y then some (.ref D) else m z) → (∀ b o, b ≠ env.locals → b ∉ wr → s₂.heap.get? b = some o → h'.get? b = some o) → s₂.toks ≤ tk →
        Q .next { s₂ with heap := h', toks := tk })
theorem ListComp_testD {s : Shared} {elt i1 c : Expr} {x : Str} {px : Pos} {scope : Scope} {cl : List (Str × Addr)} {pos : Pos} {Q : Value → Shared → Prop}
    (hclos : closureFor scope env = pure cl) (hcell : ∀ y ∈ scope.names, y.2 ≠ .cell) (hkind : scope.kind = .function)
    (hnames : ∀ y ∈ scope.names, y.2 = .local → scope.names.lookup y.1 = some .local) (hx : scope.names.lookup x = some .local)
    (h : wpAny (model prog w) A (eval i1 env) (fun xv s₁ => wpAny (model prog w) A (pyIter xv) (fun it s₂ => TestAt prog w A env scope cl x c elt Q it s₂) E s₁) E s)
    (hs : ∀ x, foldedSetIterable i1 env x = pure x := by intro _; rfl) :
    wpAny (model prog w) A (eval (.ListComp elt [⟨.Name x px, i1, [c], 0⟩] scope pos) env) Q E s :=
  wpAny_ListComp_test hclos hcell hkind hnames hx h hs
theorem Assign_testD {s : Shared} {elt i1 c : Expr} {x y : Str} {px py : Pos} {scope : Scope} {cl : List (Str × Addr)} {pos spos : Pos} {Q : Flow → Shared → Prop}
    (hsw : swapsWith (.ListComp elt [⟨.Name x px, i1, [c], 0⟩] scope pos) (some (.Name y py)) spos.line env = pure true)
    (hclos : closureFor scope env = pure cl) (hcell : ∀ y ∈ scope.names, y.2 ≠ .cell) (hkind : scope.kind = .function)
    (hnames : ∀ y ∈ scope.names, y.2 = .local → scope.names.lookup y.1 = some .local) (hx : scope.names.lookup x = some .local)
    (hy : env.kindOf y = some .local) (hp : (env.scope.kind == .class || (env.scope.kind == .module && env.locals != env.globals)) = false)
    (h : wpAny (model prog w) A (eval i1 env) (fun xv s₁ => wpAny (model prog w) A (pyIter xv) (fun it s₂ => TestAs prog w A env scope cl x y c elt Q it s₂) E s₁) E s)
    (hs : ∀ x, foldedSetIterable i1 env x = pure x := by intro _; rfl) :
    wpAny (model prog w) A (exec (.Assign [.Name y py] (.ListComp elt [⟨.Name x px, i1, [c], 0⟩] scope pos) spos) env) Q E s :=
  wpAny_Assign_test hsw hclos hcell hkind hnames hx hy hp h hs
end
section
variable {prog : Program} {w : World} {A : Around} {E : Value → Shared → Prop} {env : Env} {s : Shared} {h₀ : Heap} {m : Str → Option Value} {news : List (Addr × Obj)}
/-- the turns of «y = [elt for x in r if c]», y a local, r a list at hand -/
theorem inner_test {elt c : Expr} {x y : Str} {scope : Scope} {cl : List (Str × Addr)} {Q : Flow → Shared → Prop} {r : Addr} {vs : Array Value} (J : Nat → List Value → Prop) (p : Nat → Bool)
    (F : Fr h₀ env.locals s.heap m) (N : News h₀ env.locals s.heap news) (hr : s.heap.IsList r vs) (hh : A.handled = none) (hz : vs.size ≤ sizeLine)
    (hj : J 0 []) (hskip : ∀ k ys, k < vs.size → p k = false → J k ys → J (k + 1) ys)
    (htest : ∀ C k u s₃ m₃ E' nw, k < vs.size → vs[k]? = some u → m₃ x = some u → Fr h₀ C s₃.heap m₃ → News h₀ C s₃.heap (news ++ nw) → s.toks ≤ s₃.toks →
      wpAny (model prog w) A (isTrue c (compEnvC scope cl C env) (eval c (compEnvC scope cl C env))) (fun ok s₄ => ok = p k ∧ CBack h₀ C m₃ nw s₃ s₄) E' s₃)
    (helt : ∀ C k u s₃ m₃ E' nw, k < vs.size → p k = true → vs[k]? = some u → m₃ x = some u → Fr h₀ C s₃.heap m₃ → News h₀ C s₃.heap (news ++ nw) → s.toks ≤ s₃.toks →
      wpAny (model prog w) A (eval elt (compEnvC scope cl C env)) (fun v s₄ => (∀ ys, J k ys → J (k + 1) (ys ++ [v])) ∧ CBack h₀ C m₃ nw s₃ s₄) E' s₃)
    (hQ : ∀ D h' tk ys ep, J vs.size ys → Fr h₀ env.locals h' (fun z => if z = y then some (.ref D) else m z) → News h₀ env.locals h' ((D, listOf ys.toArray ep) :: news) → (∀ q ∈ news, q.1 ≠ D) → (∀ b o, b ≠ env.locals → s.heap.get? b = some o → h'.get? b = some o) → s.heap.get? D = none → s.toks ≤ tk → Q .next { s with heap := h', toks := tk }) :
    wpAny (model prog w) A (pyIter (.ref r)) (fun it s₂ => TestAs prog w A env scope cl x y c elt Q it s₂) E s := by
  obtain ⟨ol, hol, _⟩ := id hr
  have hrI : r ≠ s.heap.objs.size := Nat.ne_of_lt (Heap.lt_size hol)
  refine wpAny_pyIter_list hr ?_
  refine ⟨_, [_, r], [_], vs.size, _, _, J, p, m, rfl, Walks.list hh _ r hrI vs, hz, ⟨⟨_, Heap.get?_push_size _ rfl, rfl, rfl⟩, hr.at fun o e => Heap.get?_push_of_some _ e⟩, ?y3, hj, ?y4, (F.push _).ns, hskip, ?t1, ?t2, ?y6⟩
  case y3 =>
    intro b hb
    show b < (Heap.push _ _).objs.size
    rw [Heap.size_push]
    rcases List.mem_cons.mp hb with rfl | hb
    · exact Nat.lt_succ_self _
    · rw [List.mem_singleton.mp hb]
      exact Nat.lt_succ_of_lt (Heap.lt_size hol)
  case y4 =>
    intro hb
    exact absurd F.ns.lt (by rw [List.mem_singleton.mp hb]; exact Nat.lt_irrefl _)
  case t1 =>
    rintro C k u s₃ m₃ E' hC hi hv hns hm hk htk
    obtain ⟨F3, N3⟩ := comp_frame2 F N rfl hC hns hk
    obtain ⟨nw, N3', back⟩ := back_of F3
    exact wpAny_mono (htest C k u s₃ m₃ E' nw hi hv hm F3 (N3.append N3') htk) (fun ok s₄ h => ⟨h.1, back _ h.2⟩) fun _ _ e => e
  case t2 =>
    rintro C k u s₃ m₃ E' hC hi hpk hv hns hm hk htk
    obtain ⟨F3, N3⟩ := comp_frame2 F N rfl hC hns hk
    obtain ⟨nw, N3', back⟩ := back_of F3
    exact wpAny_mono (helt C k u s₃ m₃ E' nw hi hpk hv hm F3 (N3.append N3') htk) (fun ok s₄ h => ⟨h.1, back _ h.2⟩) fun _ _ e => e
  case y6 =>
    intro D h' tk ys hD hpl hJ hns hk htk
    obtain ⟨c7, hc7⟩ := hpl
    rw [show ys = ys.toList.toArray from (Array.toArray_toList).symm] at hc7
    obtain ⟨F8, N8, hn8⟩ := comp_done2 F N rfl hD hc7 hns hk
    have hD0 : s.heap.get? D = none := by
      cases e : s.heap.get? D with
      | none => rfl
      | some o =>
        rw [show (Heap.push s.heap _).get? D = some o from Heap.get?_push_of_some _ e] at hD
        cases hD
    exact hQ D h' tk ys.toList c7 hJ F8 N8 hn8 (fun b o hb e => hk b o hb (fun q => by
      have h1 := Heap.lt_size e
      rw [List.mem_singleton.mp q] at h1
      exact Nat.lt_irrefl _ h1) (Heap.get?_push_of_some _ e)) hD0 htk
/-- the turns of «[elt for x in r if c]», a value, r a list at hand -/
theorem inner_val {elt c : Expr} {x : Str} {scope : Scope} {cl : List (Str × Addr)} {Q : Value → Shared → Prop} {r : Addr} {vs : Array Value} (J : Nat → List Value → Prop) (p : Nat → Bool)
    (F : Fr h₀ env.locals s.heap m) (N : News h₀ env.locals s.heap news) (hr : s.heap.IsList r vs) (hh : A.handled = none) (hz : vs.size ≤ sizeLine)
    (hj : J 0 []) (hskip : ∀ k ys, k < vs.size → p k = false → J k ys → J (k + 1) ys)
    (htest : ∀ C k u s₃ m₃ E' nw, k < vs.size → vs[k]? = some u → m₃ x = some u → Fr h₀ C s₃.heap m₃ → News h₀ C s₃.heap (news ++ nw) → s.toks ≤ s₃.toks →
      wpAny (model prog w) A (isTrue c (compEnvC scope cl C env) (eval c (compEnvC scope cl C env))) (fun ok s₄ => ok = p k ∧ CBack h₀ C m₃ nw s₃ s₄) E' s₃)
    (helt : ∀ C k u s₃ m₃ E' nw, k < vs.size → p k = true → vs[k]? = some u → m₃ x = some u → Fr h₀ C s₃.heap m₃ → News h₀ C s₃.heap (news ++ nw) → s.toks ≤ s₃.toks →
      wpAny (model prog w) A (eval elt (compEnvC scope cl C env)) (fun v s₄ => (∀ ys, J k ys → J (k + 1) (ys ++ [v])) ∧ CBack h₀ C m₃ nw s₃ s₄) E' s₃)
    (hQ : ∀ D h' tk ys ep, J vs.size ys → Fr h₀ env.locals h' m → News h₀ env.locals h' ((D, listOf ys.toArray ep) :: news) → (∀ q ∈ news, q.1 ≠ D) → (∀ b o, s.heap.get? b = some o → h'.get? b = some o) → s.heap.get? D = none → s.toks ≤ tk → Q (.ref D) { s with heap := h', toks := tk }) :
    wpAny (model prog w) A (pyIter (.ref r)) (fun it s₂ => TestAt prog w A env scope cl x c elt Q it s₂) E s := by
  obtain ⟨ol, hol, _⟩ := id hr
  have hrI : r ≠ s.heap.objs.size := Nat.ne_of_lt (Heap.lt_size hol)
  refine wpAny_pyIter_list hr ?_
  refine ⟨_, [_, r], [_], vs.size, _, _, J, p, rfl, Walks.list hh _ r hrI vs, hz, ⟨⟨_, Heap.get?_push_size _ rfl, rfl, rfl⟩, hr.at fun o e => Heap.get?_push_of_some _ e⟩, ?y3, hj, hskip, ?t1, ?t2, ?y6⟩
  case y3 =>
    intro b hb
    show b < (Heap.push _ _).objs.size
    rw [Heap.size_push]
    rcases List.mem_cons.mp hb with rfl | hb
    · exact Nat.lt_succ_self _
    · rw [List.mem_singleton.mp hb]
      exact Nat.lt_succ_of_lt (Heap.lt_size hol)
  case t1 =>
    rintro C k u s₃ m₃ E' hC hi hv hns hm hk htk
    obtain ⟨F3, N3⟩ := comp_frame2 F N rfl hC hns hk
    obtain ⟨nw, N3', back⟩ := back_of F3
    exact wpAny_mono (htest C k u s₃ m₃ E' nw hi hv hm F3 (N3.append N3') htk) (fun ok s₄ h => ⟨h.1, back _ h.2⟩) fun _ _ e => e
  case t2 =>
    rintro C k u s₃ m₃ E' hC hi hpk hv hns hm hk htk
    obtain ⟨F3, N3⟩ := comp_frame2 F N rfl hC hns hk
    obtain ⟨nw, N3', back⟩ := back_of F3
    exact wpAny_mono (helt C k u s₃ m₃ E' nw hi hpk hv hm F3 (N3.append N3') htk) (fun ok s₄ h => ⟨h.1, back _ h.2⟩) fun _ _ e => e
  case y6 =>
    intro D h' tk ys hD hpl hJ hk htk
    have hns : h'.Ns env.locals m := (F.push _).ns.at' fun o e => hk _ _ (fun q => by
      have h1 := F.ns.lt
      rw [List.mem_singleton.mp q] at h1
      exact Nat.lt_irrefl _ h1) e
    obtain ⟨c7, hc7⟩ := hpl
    rw [show ys = ys.toList.toArray from (Array.toArray_toList).symm] at hc7
    obtain ⟨F8, N8, hn8⟩ := comp_done2 F N rfl hD hc7 hns (fun b o' _ hb e => hk b o' hb e)
    have hD0 : s.heap.get? D = none := by
      cases e : s.heap.get? D with
      | none => rfl
      | some o =>
        rw [show (Heap.push s.heap _).get? D = some o from Heap.get?_push_of_some _ e] at hD
        cases hD
    exact hQ D h' tk ys.toList c7 hJ F8 N8 hn8 (fun b o e => hk b o (fun q => by
      have h1 := Heap.lt_size e
      rw [List.mem_singleton.mp q] at h1
      exact Nat.lt_irrefl _ h1) (Heap.get?_push_of_some _ e)) hD0 htk
end
def JF (f : Str → Bool) (S : List Str) (k : Nat) (ys : List Value) : Prop := StrsAre ys ((S.take k).filter f)
theorem JF.nil (f : Str → Bool) (S : List Str) : JF f S 0 [] := StrsAre.nil
theorem getD_of {S : List Str} {k : Nat} {x : Str} (hx : S[k]? = some x) : S.getD k ⟨#[]⟩ = x := by rw [List.getD_eq_getElem?_getD, hx]; rfl
theorem JF.skip {f : Str → Bool} {S : List Str} {k : Nat} {ys : List Value} (h : f (S.getD k ⟨#[]⟩) = false) (hk : k < S.length) (hj : JF f S k ys) : JF f S (k + 1) ys := by
  unfold JF at *
  have hx := List.getElem?_eq_getElem hk
  rw [getD_of hx] at h
  rw [List.take_add_one, hx, List.filter_append]
  simpa [h] using hj
theorem JF.push {f : Str → Bool} {S : List Str} {k : Nat} {ys : List Value} {x : Str} {t : Tok} (hx : S[k]? = some x) (h : f (S.getD k ⟨#[]⟩) = true) (hj : JF f S k ys) : JF f S (k + 1) (ys ++ [.str x t]) := by
  unfold JF at *
  rw [getD_of hx] at h
  rw [List.take_add_one, hx, List.filter_append]
  simpa [h] using strsAre_snoc hj x t
theorem JF.done {f : Str → Bool} {S : List Str} {n : Nat} {ys : List Value} (hn : n = S.length) (hj : JF f S n ys) : StrsAre ys (S.filter f) := by
  unfold JF at hj
  rwa [List.take_of_length_le (by omega)] at hj
end Mine
end

section -- part CompN
open PySem PySem.W PySem.Calls PyProof.Rows
set_option Elab.async false
set_option maxRecDepth 100000
set_option maxHeartbeats 4000000
namespace Mine
section
variable {prog : Program} {w : World} {A : Around} {E : Value → Shared → Prop} {env : Env}
/-- what the turns of «[elt for x in ..]» are given -/
def OneAt (prog : Program) (w : World) (A : Around) (env : Env) (scope : Scope) (cl : List (Str × Addr)) (x : Str) (elt : Expr) (Q : Value → Shared → Prop) (it : Value) (s₂ : Shared) : Prop :=
  ∃ (I : Addr) (fp wr : List Addr) (n : Nat) (P : Nat → Value → Prop) (St : Nat → Heap → Prop) (J : Nat → List Value → Prop), it = .ref I ∧ Walks prog w A I fp wr n P St ∧ n ≤ sizeLine ∧ St 0 s₂.heap ∧ (∀ b ∈ fp, b < s₂.heap.objs.size) ∧ J 0 [] ∧
      (∀ C k u s₃ m₃ E', s₂.heap.objs.size ≤ C → k < n → P k u → s₃.heap.Ns C m₃ → m₃ x = some u → (∀ b o, b ∉ wr → s₂.heap.get? b = some o → s₃.heap.get? b = some o) → s₂.toks ≤ s₃.toks →
        wpAny (model prog w) A (eval elt (compEnvC scope cl C env)) (fun y s₄ => (∀ ys, J k ys → J (k + 1) (ys ++ [y])) ∧ KeepsBut C m₃ s₃ s₄) E' s₃) ∧
      (∀ D h' tk ys, s₂.heap.get? D = none → h'.PlainList D ys → J n ys.toList → (∀ b o, b ∉ wr → s₂.heap.get? b = some o → h'.get? b = some o) → Q (.ref D) { s₂ with heap := h', toks := tk })
theorem ListComp_oneD {s : Shared} {elt i1 : Expr} {x : Str} {px : Pos} {scope : Scope} {cl : List (Str × Addr)} {pos : Pos} {Q : Value → Shared → Prop}
    (hclos : closureFor scope env = pure cl) (hcell : ∀ y ∈ scope.names, y.2 ≠ .cell) (hkind : scope.kind = .function)
    (hnames : ∀ y ∈ scope.names, y.2 = .local → scope.names.lookup y.1 = some .local) (hx : scope.names.lookup x = some .local)
    (h : wpAny (model prog w) A (eval i1 env) (fun xv s₁ => wpAny (model prog w) A (pyIter xv) (fun it s₂ => OneAt prog w A env scope cl x elt Q it s₂) E s₁) E s)
    (hs : ∀ x, foldedSetIterable i1 env x = pure x := by intro _; rfl) :
    wpAny (model prog w) A (eval (.ListComp elt [⟨.Name x px, i1, [], 0⟩] scope pos) env) Q E s :=
  wpAny_ListComp_one hclos hcell hkind hnames hx h hs
end
section
variable {prog : Program} {w : World} {A : Around} {E : Value → Shared → Prop} {env : Env} {s : Shared} {h₀ : Heap} {m : Str → Option Value} {news : List (Addr × Obj)}
/-- the turns of «[elt for x in r]», a value, r a list at hand -/
theorem inner_one {elt : Expr} {x : Str} {scope : Scope} {cl : List (Str × Addr)} {Q : Value → Shared → Prop} {r : Addr} {vs : Array Value} (J : Nat → List Value → Prop)
    (F : Fr h₀ env.locals s.heap m) (N : News h₀ env.locals s.heap news) (hr : s.heap.IsList r vs) (hh : A.handled = none) (hz : vs.size ≤ sizeLine)
    (hj : J 0 [])
    (helt : ∀ C k u s₃ m₃ E' nw, k < vs.size → vs[k]? = some u → m₃ x = some u → Fr h₀ C s₃.heap m₃ → News h₀ C s₃.heap (news ++ nw) → s.toks ≤ s₃.toks →
      wpAny (model prog w) A (eval elt (compEnvC scope cl C env)) (fun v s₄ => (∀ ys, J k ys → J (k + 1) (ys ++ [v])) ∧ CBack h₀ C m₃ nw s₃ s₄) E' s₃)
    (hQ : ∀ D h' tk ys ep, J vs.size ys → Fr h₀ env.locals h' m → News h₀ env.locals h' ((D, listOf ys.toArray ep) :: news) → (∀ q ∈ news, q.1 ≠ D) → (∀ b o, s.heap.get? b = some o → h'.get? b = some o) → s.heap.get? D = none → Q (.ref D) { s with heap := h', toks := tk }) :
    wpAny (model prog w) A (pyIter (.ref r)) (fun it s₂ => OneAt prog w A env scope cl x elt Q it s₂) E s := by
  obtain ⟨ol, hol, _⟩ := id hr
  have hrI : r ≠ s.heap.objs.size := Nat.ne_of_lt (Heap.lt_size hol)
  refine wpAny_pyIter_list hr ?_
  refine ⟨_, [_, r], [_], vs.size, _, _, J, rfl, Walks.list hh _ r hrI vs, hz, ⟨⟨_, Heap.get?_push_size _ rfl, rfl, rfl⟩, hr.at fun o e => Heap.get?_push_of_some _ e⟩, ?y3, hj, ?t2, ?y6⟩
  case y3 =>
    intro b hb
    show b < (Heap.push _ _).objs.size
    rw [Heap.size_push]
    rcases List.mem_cons.mp hb with rfl | hb
    · exact Nat.lt_succ_self _
    · rw [List.mem_singleton.mp hb]
      exact Nat.lt_succ_of_lt (Heap.lt_size hol)
  case t2 =>
    rintro C k u s₃ m₃ E' hC hi hv hns hm hk htk
    obtain ⟨F3, N3⟩ := comp_frame2 F N rfl hC hns hk
    obtain ⟨nw, N3', back⟩ := back_of F3
    exact wpAny_mono (helt C k u s₃ m₃ E' nw hi hv hm F3 (N3.append N3') htk) (fun ok s₄ h => ⟨h.1, back _ h.2⟩) fun _ _ e => e
  case y6 =>
    intro D h' tk ys hD hpl hJ hk
    have hns : h'.Ns env.locals m := (F.push _).ns.at' fun o e => hk _ _ (fun q => by
      have h1 := F.ns.lt
      rw [List.mem_singleton.mp q] at h1
      exact Nat.lt_irrefl _ h1) e
    obtain ⟨c7, hc7⟩ := hpl
    rw [show ys = ys.toList.toArray from (Array.toArray_toList).symm] at hc7
    obtain ⟨F8, N8, hn8⟩ := comp_done2 F N rfl hD hc7 hns (fun b o' _ hb e => hk b o' hb e)
    have hD0 : s.heap.get? D = none := by
      cases e : s.heap.get? D with
      | none => rfl
      | some o =>
        rw [show (Heap.push s.heap _).get? D = some o from Heap.get?_push_of_some _ e] at hD
        cases hD
    exact hQ D h' tk ys.toList c7 hJ F8 N8 hn8 (fun b o e => hk b o (fun q => by
      have h1 := Heap.lt_size e
      rw [List.mem_singleton.mp q] at h1
      exact Nat.lt_irrefl _ h1) (Heap.get?_push_of_some _ e)) hD0
/-- what the turns of «y = [elt for x in ..]», y a local, are given -/
def OneAs (prog : Program) (w : World) (A : Around) (env : Env) (scope : Scope) (cl : List (Str × Addr)) (x y : Str) (elt : Expr) (Q : Flow → Shared → Prop) (it : Value) (s₂ : Shared) : Prop :=
  ∃ (I : Addr) (fp wr : List Addr) (n : Nat) (P : Nat → Value → Prop) (St : Nat → Heap → Prop) (J : Nat → List Value → Heap → Prop) (m : Str → Option Value), it = .ref I ∧ Walks prog w A I fp wr n P St ∧ n ≤ sizeLine ∧ St 0 s₂.heap ∧ (∀ b ∈ fp, b < s₂.heap.objs.size) ∧ J 0 [] s₂.heap ∧
      env.locals ∉ wr ∧ s₂.heap.Ns env.locals m ∧
      (∀ k ys h h', J k ys h → (∀ b o, b ≠ env.locals → b ≠ s₂.heap.objs.size + 1 → b ∉ wr → b ≠ s₂.heap.objs.size → h.get? b = some o → h'.get? b = some o) → J k ys h') ∧
      (∀ k u s₃ m₃ E' ys, k < n → P k u → s₃.heap.Ns (s₂.heap.objs.size + 1) m₃ → m₃ x = some u → (∀ b o, b ∉ wr → s₂.heap.get? b = some o → s₃.heap.get? b = some o) → s₂.toks ≤ s₃.toks →
        J k ys s₃.heap → St (k + 1) s₃.heap → (∃ o, s₃.heap.get? s₂.heap.objs.size = some o) →
        wpAny (model prog w) A (eval elt (compEnvC scope cl (s₂.heap.objs.size + 1) env)) (fun y s₄ => J (k + 1) (ys ++ [y]) s₄.heap ∧ KeepsBut (s₂.heap.objs.size + 1) m₃ s₃ s₄) E' s₃) ∧
      (∀ h' tk ys, h'.PlainList s₂.heap.objs.size ys → J n ys.toList h' → h'.Ns env.locals (fun z => if z = y then some (.ref s₂.heap.objs.size) else m z) → (∀ b o, b ≠ env.locals → b ∉ wr → s₂.heap.get? b = some o → h'.get? b = some o) → s₂.toks ≤ tk →
        Q .next { s₂ with heap := h', toks := tk })
theorem Assign_oneD {s : Shared} {elt i1 : Expr} {x y : Str} {px py : Pos} {scope : Scope} {cl : List (Str × Addr)} {pos spos : Pos} {Q : Flow → Shared → Prop}
    (hsw : swapsWith (.ListComp elt [⟨.Name x px, i1, [], 0⟩] scope pos) (some (.Name y py)) spos.line env = pure true)
    (hclos : closureFor scope env = pure cl) (hcell : ∀ y ∈ scope.names, y.2 ≠ .cell) (hkind : scope.kind = .function)
    (hnames : ∀ y ∈ scope.names, y.2 = .local → scope.names.lookup y.1 = some .local) (hx : scope.names.lookup x = some .local)
    (hy : env.kindOf y = some .local) (hp : (env.scope.kind == .class || (env.scope.kind == .module && env.locals != env.globals)) = false)
    (h : wpAny (model prog w) A (eval i1 env) (fun xv s₁ => wpAny (model prog w) A (pyIter xv) (fun it s₂ => OneAs prog w A env scope cl x y elt Q it s₂) E s₁) E s)
    (hs : ∀ x, foldedSetIterable i1 env x = pure x := by intro _; rfl) :
    wpAny (model prog w) A (exec (.Assign [.Name y py] (.ListComp elt [⟨.Name x px, i1, [], 0⟩] scope pos) spos) env) Q E s :=
  wpAny_Assign_rows hsw hclos hcell hkind hnames hx hy hp h hs
/-- the turns of «y = [elt for x in r]», r a list at hand -/
theorem inner_asg {elt : Expr} {x y : Str} {scope : Scope} {cl : List (Str × Addr)} {Q : Flow → Shared → Prop} {r : Addr} {vs : Array Value} (J : Nat → List Value → Prop)
    (F : Fr h₀ env.locals s.heap m) (N : News h₀ env.locals s.heap news) (hr : s.heap.IsList r vs) (hh : A.handled = none) (hz : vs.size ≤ sizeLine)
    (hj : J 0 [])
    (helt : ∀ C k u s₃ m₃ E' nw, k < vs.size → vs[k]? = some u → m₃ x = some u → Fr h₀ C s₃.heap m₃ → News h₀ C s₃.heap (news ++ nw) → s.toks ≤ s₃.toks →
      wpAny (model prog w) A (eval elt (compEnvC scope cl C env)) (fun v s₄ => (∀ ys, J k ys → J (k + 1) (ys ++ [v])) ∧ CBack h₀ C m₃ nw s₃ s₄) E' s₃)
    (hQ : ∀ D h' tk ys ep, J vs.size ys → Fr h₀ env.locals h' (fun z => if z = y then some (.ref D) else m z) → News h₀ env.locals h' ((D, listOf ys.toArray ep) :: news) → (∀ q ∈ news, q.1 ≠ D) → (∀ b o, b ≠ env.locals → s.heap.get? b = some o → h'.get? b = some o) → s.heap.get? D = none → s.toks ≤ tk → Q .next { s with heap := h', toks := tk }) :
    wpAny (model prog w) A (pyIter (.ref r)) (fun it s₂ => OneAs prog w A env scope cl x y elt Q it s₂) E s := by
  obtain ⟨ol, hol, _⟩ := id hr
  have hrI : r ≠ s.heap.objs.size := Nat.ne_of_lt (Heap.lt_size hol)
  have hLlt := F.ns.lt
  refine wpAny_pyIter_list hr ?_
  have notI : ∀ b o, s.heap.get? b = some o → b ∉ [s.heap.objs.size] := fun b o e hm => by
    rw [List.mem_singleton.mp hm] at e
    exact Nat.lt_irrefl _ (Heap.lt_size e)
  refine ⟨_, [_, r], [_], vs.size, _, _, fun k ys _ => J k ys, m, rfl, Walks.list hh _ r hrI vs, hz, ⟨⟨_, Heap.get?_push_size _ rfl, rfl, rfl⟩, hr.at fun o e => Heap.get?_push_of_some _ e⟩, ?y3, hj, ?l1, (F.push _).ns, fun _ _ _ _ h _ => h, ?t2, ?y6⟩
  case y3 =>
    intro b hb
    show b < (Heap.push _ _).objs.size
    rw [Heap.size_push]
    rcases List.mem_cons.mp hb with rfl | hb
    · exact Nat.lt_succ_self _
    · rw [List.mem_singleton.mp hb]
      exact Nat.lt_succ_of_lt (Heap.lt_size hol)
  case l1 => exact fun hm => Nat.ne_of_lt hLlt (List.mem_singleton.mp hm)
  case t2 =>
    rintro k u s₃ m₃ E' ys hi hv hns hm hk htk hJ _ _
    obtain ⟨F3, N3⟩ := comp_frame2 F N rfl (Nat.le_succ _) hns hk
    obtain ⟨nw, N3', back⟩ := back_of F3
    exact wpAny_mono (helt _ k u s₃ m₃ E' nw hi hv hm F3 (N3.append N3') htk) (fun ok s₄ h => ⟨h.1 ys hJ, back _ h.2⟩) fun _ _ e => e
  case y6 =>
    intro h' tk ys hpl hJ hns hk htk
    obtain ⟨c7, hc7⟩ := hpl
    rw [show ys = ys.toList.toArray from (Array.toArray_toList).symm] at hc7
    obtain ⟨F8, N8, hn8⟩ := comp_done2 F N rfl (Heap.get?_none_of_le (Nat.le_refl _)) hc7 hns hk
    exact hQ _ h' tk ys.toList c7 hJ F8 N8 hn8 (fun b o hb e => hk b o hb (notI b o e) (Heap.get?_push_of_some _ e)) (Heap.get?_none_of_le (by rw [Heap.size_push]; exact Nat.le_succ _)) htk
end
end Mine
end

section -- part CompW
open PySem PySem.W PySem.Calls PyProof.Rows
set_option Elab.async false
set_option maxRecDepth 100000
set_option maxHeartbeats 4000000
namespace Mine
section
variable {α : Type} {M : Model} {A : Around} {E : Value → Shared → Prop} {s : Shared} {env : Env}
theorem wpC_attempt {m : Sem α} {Q : Except Value α → Shared → Prop} (h : wpC M A m (fun a => Q (.ok a)) (fun e => Q (.error e)) s) :
    wpC M A m.attempt Q E s := fun Γ p hΓ hc => by rw [Sem.wp_attempt]; exact h Γ p hΓ hc
theorem wpC_standIf {c : Prop} [Decidable c] {pos : Pos} {k : PUnit → Sem α} {Q : α → Shared → Prop} (h : wpC M A (k ()) Q E s) :
    wpC M A (if c then (standAt pos >>= k) else k ()) Q E s := by
  split
  · exact wpC_bind (wpC_standAt h)
  · exact h
theorem codeC_mono {c : Code} {R R' : Result → Shared → Prop} (h : codeC M A c R s) (hR : ∀ r s, R r s → R' r s) : codeC M A c R' s :=
  fun Γ p hc hΓ hu => wpCode_mono hR (h Γ p hc hΓ hu)
theorem wpC_run {c : Code} {h : Option Value} {Q : Flow → Shared → Prop}
    (hc : codeC M (A.mark h) c (fun r s' => match r with | .ok f => Q f s' | .error e => E e s') s) (hnb : h ≠ some byPass := by intro x; cases x) :
    wpC M A (run c h) Q E s := fun Γ p hΓ hk => by
  rw [Sem.wp_run]
  refine hc _ p rfl (hΓ.enter c h p hnb) ?_
  show ((Γ.code, p) :: Γ.below).any _ = false
  simp [hk.1, hk.2]
theorem codeC_loop {c : Code} {R : Result → Shared → Prop} (hcl : holdsOne c = false) (hq : c.quiet = true) (I : Nat → Shared → Prop)
    (turn : ∀ n s, I n s → wpC M (A.under c) (M.den c)
      (fun fin s' => match fin with | .done f => R (.ok f) s' | .again c' => c' = c ∧ ∃ m, m < n ∧ I m s') (fun e s' => R (.error e) s') s)
    (n : Nat) (h : I n s) : codeC M A c R s := by
  induction n using Nat.strongRecOn generalizing s with
  | ind n ih =>
    refine codeC_of_tree hcl (wpC_mono (turn n s h) (fun fin s' hf => ?_) fun _ _ h' => h')
    cases fin with
    | done f => exact hf
    | again c' => obtain ⟨rfl, m, hm, hI⟩ := hf; exact ⟨hq, ih m hm hI⟩
theorem wpC_noted {m : Sem α} {Q : α → Shared → Prop} (h : wpC M A m Q (notedBy M A env E) s) : wpC M A (m.onRaise fun x => do noteFrame x env; theTreesLotGoes x) Q E s :=
  wpC_onRaise (wpC_mono h (fun _ _ q => q) fun _ _ hx => wpAny_bind (wpAny_mono hx (fun _ _ e => wpAny_theTreesLotGoes e) fun _ _ e => e))
theorem wpC_notedAt {m : Sem α} {pos : Pos} {Q : α → Shared → Prop} (h : wpC M A m Q (notedBy M A env E) s) : wpC M A (m.onRaise fun x => do noteFrame x env; standAt pos) Q E s :=
  wpC_onRaise (wpC_mono h (fun _ _ q => q) fun _ _ hx => wpAny_bind (wpAny_mono hx (fun _ _ e => wpAny_standAt e) fun _ _ e => e))

theorem wpC_comprehension_free {e : Expr} {scope : Scope} {pos : Pos} {newAcc first : Sem Value} {g : Comprehension} {gs : List Comprehension} {cl : List (Str × Addr)} {use : Option (Value → Sem Unit)}
    {Q : Value → Shared → Prop}
    (hcl : clausesOf e = g :: gs) (hs : ∀ x, foldedSetIterable g.iter env x = pure x) (hclos : closureFor scope env = pure cl)
    (hkind : scope.kind = .function) (hnames : ∀ x ∈ scope.names, x.2 = .local → scope.names.lookup x.1 = some .local)
    (h : wpAny M A first (fun x s₁ => wpAny M A (pyIter x) (fun it s₂ => wpAny M A newAcc (fun acc s₃ =>
      wpAny M A (newFunctionEnv scope env.globals cl [] env.qual none .none (some env)) (fun cenv s₄ =>
        codeC M A (.compStart e 0 it acc { cenv with scope := relabel scope env }) (compPost M A E use Q acc cenv.locals) s₄) E s₃) E s₂) E s₁) E s) :
    wpC M A (comprehension e scope env pos newAcc false first use) Q E s := by
  unfold comprehension
  rw [hclos, hcl]
  refine wpC_then (wpAny_mono h (fun x s₁ h₁ => wpC_bind (wpC_standAt (wpC_then (wpAny_of_eq (hs x) (wpC_bind (wpC_holding (wpC_of_any (wpAny_mono h₁ (fun it s₂ h₂ =>
    wpC_standIf (wpC_then (wpAny_mono h₂ (fun acc s₃ h₃ => wpC_then (wpAny_pure (wpC_then (wpAny_mono h₃ (fun cenv s₄ h₄ => ?_) fun _ _ h' => h')))) fun _ _ h' => h')))
      fun _ _ h' => h')))))))) fun _ _ h' => h')
  dsimp only
  have hv : ∀ x ∈ (scope.names.filter fun x => (x.2 == .local || x.2 == .cell) && x.1 != (".0" : Str)).reverse, x.2 = .local →
      Env.kindOf { cenv with scope := relabel scope env } x.1 = some .local := fun x hx hl => lookup_relabel_local (hnames x (List.mem_filter.mp (List.mem_reverse.mp hx)).1 hl)
  have hv' : ∀ x ∈ (scope.names.filter fun x => (x.2 == .local || x.2 == .cell) && x.1 != (".0" : Str)).reverse.drop 1 ++ (scope.names.filter fun x => (x.2 == .local || x.2 == .cell) && x.1 != (".0" : Str)).reverse.take 1,
      x.2 = .local → Env.kindOf { cenv with scope := relabel scope env } x.1 = some .local := fun x hx hl => by
    rcases List.mem_append.mp hx with h1 | h1
    · exact hv x (List.mem_of_mem_drop h1) hl
    · exact hv x (List.mem_of_mem_take h1) hl
  refine wpC_holding (wpC_bind (wpC_attempt (wpC_holding (wpC_run (codeC_mono h₄ fun r s' hr => ?_)))))
  cases r with
  | ok f =>
    cases use with
    | none =>
      obtain ⟨m, hn, hr⟩ := hr
      exact wpC_of_any (wpAny_bind (wpAny_holding (wpAny_comp_letGo (cenv := { cenv with scope := relabel scope env }) hkind _ s' m hv hn fun h' m' _ hs' => wpAny_pure (hr h' hs'))))
    | some u =>
      refine wpC_of_any (wpAny_bind (wpAny_rule (wpAny_bind (wpAny_holding (wpAny_mono hr (fun _ s'' hr' => ?_) fun _ _ h' => h')))))
      obtain ⟨m, hn, hr'⟩ := hr'
      exact wpAny_bind (wpAny_comp_letGo (cenv := { cenv with scope := relabel scope env }) hkind _ s'' m hv' hn fun h' m' _ hs' => wpAny_pure (hr' h' hs'))
  | error x =>
    have hr' : ∃ m, s'.heap.Ns cenv.locals m ∧ ∀ h', Heap.SameBut cenv.locals s'.heap h' → ∀ cenv' : Env, cenv'.locals = cenv.locals → wpAny M A (passOn "comprehension.variables-let-go" x cenv' : Sem Value) (fun _ _ => False) E { s' with heap := h' } := by cases use <;> exact hr
    obtain ⟨m, hn, hr⟩ := hr'
    exact wpC_of_any (wpAny_bind (wpAny_holding (wpAny_comp_letGo (cenv := { cenv with scope := relabel scope env }) hkind _ s' m hv hn fun h' m' _ hs' => wpAny_mono (hr h' hs' _ rfl) (fun _ _ f => f.elim) fun _ _ y => y)))
end

/-- all but the namespace C and the bad stands; C holds m -/
def KeepsW (C : Addr) (bad : List Addr) (m : Str → Option Value) (s s' : Shared) : Prop := ∃ h tk, s' = { s with heap := h, toks := tk } ∧ (∀ b o, b ≠ C → b ∉ bad → s.heap.get? b = some o → h.get? b = some o) ∧ h.Ns C m

section
variable {prog : Program} {w : World} {A : Around} {R : Result → Shared → Prop} {s : Shared}
theorem codeC_compStart_list {elt target iter ifs rest scope pos it acc env}
    (h0 : codeC (model prog w) A (.compLoop (.ListComp elt (⟨target, iter, ifs, 0⟩ :: rest) scope pos) 0 it acc env) R s)
    (h : wpAny (model prog w) A (pyIter it) (fun it' s' => codeC (model prog w) A (.compLoop (.ListComp elt (⟨target, iter, ifs, 0⟩ :: rest) scope pos) 0 it' acc env) R s')
      (notedBy (model prog w) A env fun x s' => R (.error x) s') s) :
    codeC (model prog w) A (.compStart (.ListComp elt (⟨target, iter, ifs, 0⟩ :: rest) scope pos) 0 it acc env) R s := by
  refine codeC_of_tree rfl ?_
  show wpC _ _ ((compStart (.ListComp elt (⟨target, iter, ifs, 0⟩ :: rest) scope pos) 0 it acc env).onRaise (fun x => do noteFrame x env; standAt theWindowsPlace)) _ _ s
  refine wpC_notedAt ?_
  unfold compStart
  show wpC _ _ (ask >>= _) _ _ s
  refine wpC_of_any (wpAny_bind (wpAny_askSetting (wpAny_ite ?_)))
  split
  · first
      | exact wpAny_bind (wpAny_pure (wpAny_pure (And.intro rfl h0)))
      | exact wpAny_pure (And.intro rfl h0)
  · first
      | exact wpAny_bind (wpAny_rule (wpAny_bind (wpAny_standAt (wpAny_bind (wpAny_mono h (fun it' s' h' => wpAny_pure (And.intro rfl h')) fun _ _ x => x)))))
      | (refine wpAny_bind (wpAny_rule ?_); show wpAny _ _ (standAt iter.pos >>= _) _ _ s; exact wpAny_bind (wpAny_standAt (wpAny_bind (wpAny_mono h (fun it' s' h' => wpAny_pure (And.intro rfl h')) fun _ _ x => x))))

theorem compW_loop {elt i1 : Expr} {x : Str} {px : Pos} {scope : Scope} {pos : Pos} {I D : Addr} {fp wr bad : List Addr} {n : Nat} {P : Nat → Value → Prop} {St : Nat → Heap → Prop} {cenv : Env} {m : Str → Option Value}
    (W : Walks prog w A I fp wr n P St) (J : Nat → List Value → Heap → Prop)
    (hJf : ∀ k ys h h', J k ys h → (∀ b o, b ≠ cenv.locals → b ∉ wr → b ≠ D → h.get? b = some o → h'.get? b = some o) → J k ys h')
    (hbf : ∀ b ∈ bad, b ∉ fp) (hbD : D ∉ bad)
    (hx : cenv.kindOf x = some .local) (hp : (cenv.scope.kind == .class || (cenv.scope.kind == .module && cenv.locals != cenv.globals)) = false)
    (hDC : D ≠ cenv.locals) (hDf : D ∉ fp) (hCf : cenv.locals ∉ fp) (hst : St 0 s.heap) (hacc : s.heap.PlainList D #[]) (hn : s.heap.Ns cenv.locals m) (hj : J 0 [] s.heap) (hz : n ≤ sizeLine)
    (helt : ∀ k u s₂ m₂ E' ys, k < n → P k u → s₂.heap.Ns cenv.locals m₂ → m₂ x = some u → (∀ b o, b ≠ cenv.locals → b ∉ wr → b ∉ bad → b ≠ D → s.heap.get? b = some o → s₂.heap.get? b = some o) → s.toks ≤ s₂.toks →
      J k ys s₂.heap → St (k + 1) s₂.heap → (∃ o, s₂.heap.get? D = some o) →
      wpC (model prog w) A (eval elt cenv) (fun y s₃ => J (k + 1) (ys ++ [y]) s₃.heap ∧ KeepsW cenv.locals bad m₂ s₂ s₃ ∧ s.toks ≤ s₃.toks) E' s₂)
    (hR : ∀ h' tk m' ys, h'.Ns cenv.locals m' → h'.PlainList D ys → J n ys.toList h' → (∀ b o, b ≠ cenv.locals → b ∉ wr → b ∉ bad → b ≠ D → s.heap.get? b = some o → h'.get? b = some o) → s.toks ≤ tk →
      R (.ok .next) { s with heap := h', toks := tk }) :
    codeC (model prog w) A (.compLoop (.ListComp elt [⟨.Name x px, i1, [], 0⟩] scope pos) 0 (.ref I) (.ref D) cenv) R s := by
  have hCw : cenv.locals ∉ wr := fun h => hCf (W.sub _ h)
  have hDw : D ∉ wr := fun h => hDf (W.sub _ h)
  refine codeC_loop rfl rfl
    (fun k s' => ∃ h' tk m' ys i, s' = { s with heap := h', toks := tk } ∧ St i h' ∧ h'.PlainList D ys ∧ ys.size = i ∧ h'.Ns cenv.locals m' ∧ J i ys.toList h' ∧ i ≤ n ∧ k = n + 1 - i ∧
      (∀ b o, b ≠ cenv.locals → b ∉ wr → b ∉ bad → b ≠ D → s.heap.get? b = some o → h'.get? b = some o) ∧ s.toks ≤ tk) ?_ (n + 1)
    ⟨s.heap, s.toks, m, #[], 0, rfl, hst, hacc, rfl, hn, hj, Nat.zero_le _, rfl, fun _ _ _ _ _ _ e => e, Nat.le_refl _⟩
  rintro k s' ⟨H, tk, m', ys, i, rfl, hst', hacc', hsz, hn', hj', hi, rfl, hk, htk⟩
  show wpC _ _ ((compTurn (.ListComp elt [⟨.Name x px, i1, [], 0⟩] scope pos) 0 (.ref I) (.ref D) cenv).onRaise (fun x => do noteFrame x cenv; theTreesLotGoes x)) _ _ _
  refine wpC_noted ?_
  rw [compTurn_list1]
  refine wpC_bind (wpC_standAt (wpC_then ?_))
  by_cases hlt : i < n
  · refine wpAny_with_toks (n := s.toks) htk (W.item i _ _ _ hlt hst' fun v h₁ tk₁ hPv hst₁ hk₁ htk₁ => ?_)
    refine wpC_then (wpAny_of_eq (a := ()) rfl ?_)
    refine wpC_then (wpAny_assign_Name (wpAny_storeName_local hx (hn'.at' fun o e => hk₁ _ o hCw e) (fun h₂ hn₂ hs₂ => ?_) hp))
    have up₂ : ∀ b o, b ≠ cenv.locals → b ∉ wr → H.get? b = some o → h₂.get? b = some o := fun b o hbC hbw e => hs₂.extBut b o hbC (hk₁ b o hbw e)
    have hst₂ : St (i + 1) h₂ := W.frame _ _ _ hst₁ fun b hb o e => hs₂.extBut b o (fun h => hCf (h ▸ hb)) e
    have hJ₂ : J i ys.toList h₂ := hJf _ _ _ _ hj' fun b o hbC hbw _ e => up₂ b o hbC hbw e
    obtain ⟨cD, hcD⟩ := hacc'
    refine wpC_bind (wpC_bind (wpC_mono (helt i v _ _ _ ys.toList hlt hPv hn₂ (by simp) (fun b o hbC hbw hbb hbD e => up₂ b o hbC hbw (hk b o hbC hbw hbb hbD e)) (Nat.le_succ_of_le htk₁) hJ₂ hst₂ ⟨_, up₂ D _ hDC hDw hcD⟩) (fun y s₃ h₃ => wpC_of_any ?_) fun _ _ e => e))
    obtain ⟨hJ, ⟨h₃, tk₃, rfl, hk₃, hn₃⟩, htk₃⟩ := h₃
    have hacc' : H.PlainList D ys := ⟨cD, hcD⟩
    refine wpAny_bind (wpAny_list_append_plain (hsz := by omega) ((hacc'.at fun o e => up₂ D o hDC hDw e).at fun o e => hk₃ _ o hDC hbD e) fun h₄ hl₄ hs₄ => ?_)
    refine wpAny_pure (wpC_of_any (wpAny_pure ⟨rfl, n + 1 - (i + 1), by omega, h₄, tk₃, _, ys.push y, i + 1, rfl, ?_, hl₄, by simp [hsz], hn₃.sameBut hs₄ (Ne.symm hDC), ?_, hlt, rfl,
      fun b o hbC hbw hbb hbD e => hs₄.extBut b o hbD (hk₃ b o hbC hbb (up₂ b o hbC hbw (hk b o hbC hbw hbb hbD e))), htk₃⟩))
    · exact W.frame _ _ _ hst₂ fun b hb o e => hs₄.extBut b o (fun h => hDf (h ▸ hb)) (hk₃ b o (fun h => hCf (h ▸ hb)) (fun h => hbf b h hb) e)
    · rw [Array.toList_push]
      exact hJf _ _ _ _ hJ fun b o _ _ hbD e => hs₄.extBut b o hbD e
  · have hin : i = n := by omega
    subst hin
    refine wpAny_with_toks (n := s.toks) htk (W.done _ _ _ hst' fun h₁ tk₁ hk₁ htk₁ => ?_)
    exact wpC_pure (hR h₁ tk₁ m' ys (hn'.at' fun o e => hk₁ _ o hCw e) (hacc'.at fun o e => hk₁ _ o hDw e) (hJf _ _ _ _ hj' fun b o _ hbw _ e => hk₁ b o hbw e) (fun b o hbC hbw hbb hbD e => hk₁ b o hbw (hk b o hbC hbw hbb hbD e)) htk₁)
end

section
variable {prog : Program} {w : World} {A : Around} {E : Value → Shared → Prop} {env : Env}
theorem rowsW_block {s₂ : Shared} {elt i1 : Expr} {x : Str} {px : Pos} {scope : Scope} {cl : List (Str × Addr)} {pos : Pos} {RR : Value → Addr → Result → Shared → Prop} {I : Addr} {fp wr bad : List Addr} {n : Nat} {P : Nat → Value → Prop} {St : Nat → Heap → Prop}
    (W : Walks prog w A I fp wr n P St) (J : Nat → List Value → Heap → Prop) (hsz : n ≤ sizeLine) (hst : St 0 s₂.heap) (hfp : ∀ b ∈ fp, b < s₂.heap.objs.size) (hj : J 0 [] s₂.heap)
    (hbad : ∀ b ∈ bad, b ∉ fp ∧ b < s₂.heap.objs.size)
    (hcell : ∀ y ∈ scope.names, y.2 ≠ .cell) (hkind : scope.kind = .function) (hx : scope.names.lookup x = some .local)
    (hJf : ∀ k ys h h', J k ys h → (∀ b o, b ≠ s₂.heap.objs.size + 1 → b ∉ wr → b ≠ s₂.heap.objs.size → h.get? b = some o → h'.get? b = some o) → J k ys h')
    (helt : ∀ k u s₃ m₃ E' ys, k < n → P k u → s₃.heap.Ns (s₂.heap.objs.size + 1) m₃ → m₃ x = some u → (∀ b o, b ∉ wr → b ∉ bad → s₂.heap.get? b = some o → s₃.heap.get? b = some o) → s₂.toks ≤ s₃.toks →
        J k ys s₃.heap → St (k + 1) s₃.heap → (∃ o, s₃.heap.get? s₂.heap.objs.size = some o) →
        wpC (model prog w) A (eval elt (compEnvC scope cl (s₂.heap.objs.size + 1) env)) (fun y s₄ => J (k + 1) (ys ++ [y]) s₄.heap ∧ KeepsW (s₂.heap.objs.size + 1) bad m₃ s₃ s₄ ∧ s₂.toks ≤ s₄.toks) E' s₃)
    (hRR : ∀ h' tk m' ys, h'.Ns (s₂.heap.objs.size + 1) m' → h'.PlainList s₂.heap.objs.size ys → J n ys.toList h' → (∀ b o, b ∉ wr → b ∉ bad → s₂.heap.get? b = some o → h'.get? b = some o) → s₂.toks ≤ tk → RR (.ref s₂.heap.objs.size) (s₂.heap.objs.size + 1) (.ok .next) { s₂ with heap := h', toks := tk }) :
    wpAny (model prog w) A (newList []) (fun acc s₃ => wpAny (model prog w) A (newFunctionEnv scope env.globals cl [] env.qual none .none (some env)) (fun cenv s₄ =>
        codeC (model prog w) A (.compStart (.ListComp elt [⟨.Name x px, i1, [], 0⟩] scope pos) 0 (.ref I) acc { cenv with scope := relabel scope env }) (RR acc cenv.locals) s₄) E s₃) E s₂ := by
  refine wpAny_newObj_type (wpAny_newFunctionEnv hcell (by intro y hy; simp at hy) (fun h₁ hns₁ hsb₁ => ?_) hkind)
  dsimp only at hns₁ hsb₁ ⊢
  generalize hH2 : s₂.heap.push { cls := .type "list", dict := none, data := .seq ([] : List Value).toArray } = H2 at hns₁ hsb₁ ⊢
  have hC : H2.objs.size = s₂.heap.objs.size + 1 := by rw [← hH2, Heap.size_push]
  rw [hC] at hns₁ hsb₁ ⊢
  have hDC : s₂.heap.objs.size ≠ s₂.heap.objs.size + 1 := Nat.ne_of_lt (Nat.lt_succ_self _)
  have below : ∀ b, b < s₂.heap.objs.size → b ≠ s₂.heap.objs.size + 1 ∧ b ≠ s₂.heap.objs.size := fun b hb => ⟨Nat.ne_of_lt (Nat.lt_succ_of_lt hb), Nat.ne_of_lt hb⟩
  have hDf : s₂.heap.objs.size ∉ fp := fun hm => Nat.lt_irrefl _ (hfp _ hm)
  have hCf : s₂.heap.objs.size + 1 ∉ fp := fun hm => Nat.lt_irrefl _ (Nat.lt_of_succ_lt (hfp _ hm))
  have old : ∀ b o, s₂.heap.get? b = some o → h₁.get? b = some o := fun b o e => hsb₁.extBut b o (below b (Heap.lt_size e)).1 (Heap.get?_push_of_some _ (hH2 ▸ Heap.get?_push_of_some _ e))
  have hacc : h₁.PlainList s₂.heap.objs.size #[] := ⟨_, hsb₁.extBut _ _ hDC (Heap.get?_push_of_some _ (hH2 ▸ Heap.get?_push_size _ rfl))⟩
  have hst₁ : St 0 h₁ := W.frame _ _ _ hst fun b _ o e => old b o e
  have loop : ∀ s₃ : Shared, s₃ = { s₂ with heap := h₁, toks := s₂.toks + ([] : List (Str × Value)).length } →
      codeC (model prog w) A (.compLoop (.ListComp elt [⟨.Name x px, i1, [], 0⟩] scope pos) 0 (.ref I) (.ref s₂.heap.objs.size) (compEnvC scope cl (s₂.heap.objs.size + 1) env))
        (RR (.ref s₂.heap.objs.size) (s₂.heap.objs.size + 1)) s₃ := by
    rintro s₃ rfl
    exact compW_loop (bad := bad) (s := { s₂ with heap := h₁, toks := s₂.toks + ([] : List (Str × Value)).length }) (cenv := compEnvC scope cl (s₂.heap.objs.size + 1) env) W J hJf (fun b hb => (hbad b hb).1) (fun hm => Nat.lt_irrefl _ (hbad _ hm).2) (lookup_relabel_local hx) (by simp [compEnvC, relabel, hkind]) hDC hDf hCf hst₁ hacc hns₁ (hJf _ _ _ _ hj fun b o _ _ _ e => old b o e) hsz
      (fun k u s₃ m₃ E' ys hkn hv hn hm hk htk hJ hS hDo => helt k u s₃ m₃ E' ys hkn hv hn hm (fun b o hbf hbb e => hk b o (below b (Heap.lt_size e)).1 hbf hbb (below b (Heap.lt_size e)).2 (old b o e)) (Nat.le_trans (Nat.le_add_right _ _) htk) hJ hS hDo)
      fun h' tk m' ys hn hpl hJ hk htk => hRR h' tk m' ys hn hpl hJ (fun b o hbf hbb e => hk b o (below b (Heap.lt_size e)).1 hbf hbb (below b (Heap.lt_size e)).2 (old b o e)) (Nat.le_trans (Nat.le_add_right _ _) htk)
  exact codeC_compStart_list (loop _ rfl) (W.self 0 _ _ _ hst₁ (loop _ rfl))

/-- what the turns of «[elt for x in ..]» are given; its elements may write the bad -/
def RowsAt (prog : Program) (w : World) (A : Around) (env : Env) (scope : Scope) (cl : List (Str × Addr)) (x : Str) (elt : Expr) (Q : Value → Shared → Prop) (it : Value) (s₂ : Shared) : Prop :=
  ∃ (I : Addr) (fp wr bad : List Addr) (n : Nat) (P : Nat → Value → Prop) (St : Nat → Heap → Prop) (J : Nat → List Value → Heap → Prop), it = .ref I ∧ Walks prog w A I fp wr n P St ∧ n ≤ sizeLine ∧ St 0 s₂.heap ∧ (∀ b ∈ fp, b < s₂.heap.objs.size) ∧ J 0 [] s₂.heap ∧
      (∀ b ∈ bad, b ∉ fp ∧ b < s₂.heap.objs.size) ∧
      (∀ k ys h h', J k ys h → (∀ b o, b ≠ s₂.heap.objs.size + 1 → b ∉ wr → b ≠ s₂.heap.objs.size → h.get? b = some o → h'.get? b = some o) → J k ys h') ∧
      (∀ k u s₃ m₃ E' ys, k < n → P k u → s₃.heap.Ns (s₂.heap.objs.size + 1) m₃ → m₃ x = some u → (∀ b o, b ∉ wr → b ∉ bad → s₂.heap.get? b = some o → s₃.heap.get? b = some o) → s₂.toks ≤ s₃.toks →
        J k ys s₃.heap → St (k + 1) s₃.heap → (∃ o, s₃.heap.get? s₂.heap.objs.size = some o) →
        wpC (model prog w) A (eval elt (compEnvC scope cl (s₂.heap.objs.size + 1) env)) (fun y s₄ => J (k + 1) (ys ++ [y]) s₄.heap ∧ KeepsW (s₂.heap.objs.size + 1) bad m₃ s₃ s₄ ∧ s₂.toks ≤ s₄.toks) E' s₃) ∧
      (∀ h' tk ys, h'.PlainList s₂.heap.objs.size ys → J n ys.toList h' → (∀ b o, b ∉ wr → b ∉ bad → s₂.heap.get? b = some o → h'.get? b = some o) → s₂.toks ≤ tk → Q (.ref s₂.heap.objs.size) { s₂ with heap := h', toks := tk })
theorem wpC_ListComp_rows {s : Shared} {elt i1 : Expr} {x : Str} {px : Pos} {scope : Scope} {cl : List (Str × Addr)} {pos : Pos} {Q : Value → Shared → Prop}
    (hclos : closureFor scope env = pure cl) (hcell : ∀ y ∈ scope.names, y.2 ≠ .cell) (hkind : scope.kind = .function)
    (hnames : ∀ y ∈ scope.names, y.2 = .local → scope.names.lookup y.1 = some .local) (hx : scope.names.lookup x = some .local)
    (h : wpAny (model prog w) A (eval i1 env) (fun xv s₁ => wpAny (model prog w) A (pyIter xv) (fun it s₂ => RowsAt prog w A env scope cl x elt Q it s₂) E s₁) E s)
    (hs : ∀ x, foldedSetIterable i1 env x = pure x := by intro _; rfl) :
    wpC (model prog w) A (eval (.ListComp elt [⟨.Name x px, i1, [], 0⟩] scope pos) env) Q E s := by
  rw [eval_ListComp]
  refine wpC_comprehension_free (use := none) rfl hs hclos hkind hnames (wpAny_mono h (fun xv s₁ h₁ => wpAny_mono h₁ (fun it s₂ h₂ => ?_) fun _ _ e => e) fun _ _ e => e)
  obtain ⟨I, fp, wr, bad, n, P, St, J, rfl, W, hsz, hst, hfp, hj, hbad, hJf, helt, hQ⟩ := h₂
  refine rowsW_block (RR := fun acc C => compPost (model prog w) A E none Q acc C) W J hsz hst hfp hj hbad hcell hkind hx hJf helt ?_
  intro h' tk m' ys hn hpl hJ hk htk
  refine ⟨m', hn, fun h'' hs'' => hQ h'' tk ys (hpl.extBut hs''.extBut (Nat.ne_of_lt (Nat.lt_succ_self _))) (hJf _ _ _ _ hJ fun b o hbC _ _ e => hs''.extBut b o hbC e) (fun b o hbf hbb e => hs''.extBut b o ?_ (hk b o hbf hbb e)) htk⟩
  exact Nat.ne_of_lt (Nat.lt_succ_of_lt (Heap.lt_size e))

/-- the same of «y = [elt for x in ..]», y a local -/
def RowsAs (prog : Program) (w : World) (A : Around) (env : Env) (scope : Scope) (cl : List (Str × Addr)) (x y : Str) (elt : Expr) (Q : Flow → Shared → Prop) (it : Value) (s₂ : Shared) : Prop :=
  ∃ (I : Addr) (fp wr bad : List Addr) (n : Nat) (P : Nat → Value → Prop) (St : Nat → Heap → Prop) (J : Nat → List Value → Heap → Prop) (m : Str → Option Value), it = .ref I ∧ Walks prog w A I fp wr n P St ∧ n ≤ sizeLine ∧ St 0 s₂.heap ∧ (∀ b ∈ fp, b < s₂.heap.objs.size) ∧ J 0 [] s₂.heap ∧
      (∀ b ∈ bad, b ∉ fp ∧ b < s₂.heap.objs.size) ∧
      env.locals ∉ wr ∧ env.locals ∉ bad ∧ s₂.heap.Ns env.locals m ∧
      (∀ k ys h h', J k ys h → (∀ b o, b ≠ env.locals → b ≠ s₂.heap.objs.size + 1 → b ∉ wr → b ≠ s₂.heap.objs.size → h.get? b = some o → h'.get? b = some o) → J k ys h') ∧
      (∀ k u s₃ m₃ E' ys, k < n → P k u → s₃.heap.Ns (s₂.heap.objs.size + 1) m₃ → m₃ x = some u → (∀ b o, b ∉ wr → b ∉ bad → s₂.heap.get? b = some o → s₃.heap.get? b = some o) → s₂.toks ≤ s₃.toks →
        J k ys s₃.heap → St (k + 1) s₃.heap → (∃ o, s₃.heap.get? s₂.heap.objs.size = some o) →
        wpC (model prog w) A (eval elt (compEnvC scope cl (s₂.heap.objs.size + 1) env)) (fun y s₄ => J (k + 1) (ys ++ [y]) s₄.heap ∧ KeepsW (s₂.heap.objs.size + 1) bad m₃ s₃ s₄ ∧ s₂.toks ≤ s₄.toks) E' s₃) ∧
      (∀ h' tk ys, h'.PlainList s₂.heap.objs.size ys → J n ys.toList h' → h'.Ns env.locals (fun z => if z = y then some (.ref s₂.heap.objs.size) else m z) → (∀ b o, b ≠ env.locals → b ∉ wr → b ∉ bad → s₂.heap.get? b = some o → h'.get? b = some o) → s₂.toks ≤ tk →
        Q .next { s₂ with heap := h', toks := tk })
theorem wpC_Assign_rows {s : Shared} {elt i1 : Expr} {x y : Str} {px py : Pos} {scope : Scope} {cl : List (Str × Addr)} {pos spos : Pos} {Q : Flow → Shared → Prop}
    (hsw : swapsWith (.ListComp elt [⟨.Name x px, i1, [], 0⟩] scope pos) (some (.Name y py)) spos.line env = pure true)
    (hclos : closureFor scope env = pure cl) (hcell : ∀ y ∈ scope.names, y.2 ≠ .cell) (hkind : scope.kind = .function)
    (hnames : ∀ y ∈ scope.names, y.2 = .local → scope.names.lookup y.1 = some .local) (hx : scope.names.lookup x = some .local)
    (hy : env.kindOf y = some .local) (hp : (env.scope.kind == .class || (env.scope.kind == .module && env.locals != env.globals)) = false)
    (h : wpAny (model prog w) A (eval i1 env) (fun xv s₁ => wpAny (model prog w) A (pyIter xv) (fun it s₂ => RowsAs prog w A env scope cl x y elt Q it s₂) E s₁) E s)
    (hs : ∀ x, foldedSetIterable i1 env x = pure x := by intro _; rfl) :
    wpC (model prog w) A (exec (.Assign [.Name y py] (.ListComp elt [⟨.Name x px, i1, [], 0⟩] scope pos) spos) env) Q E s := by
  rw [exec_Assign_Name_used _ _ _ _ hsw]
  refine wpC_bind (wpC_standAt (wpC_bind ?_))
  show wpC _ A (do let _ ← comprehension (.ListComp elt [⟨.Name x px, i1, [], 0⟩] scope pos) scope env _ (newList []) false (eval i1 env) (some (assign (.Name y py) env))) _ _ s
  refine wpC_bind (wpC_mono (wpC_comprehension_free (use := some (assign (.Name y py) env)) (Q := fun _ s' => Q .next s') rfl hs hclos hkind hnames
    (wpAny_mono h (fun xv s₁ h₁ => wpAny_mono h₁ (fun it s₂ h₂ => ?_) fun _ _ e => e) fun _ _ e => e)) (fun _ s' hq => wpC_pure (wpC_pure hq)) fun _ _ e => e)
  obtain ⟨I, fp, wr, bad, n, P, St, J, m, rfl, W, hsz, hst, hfp, hj, hbad, hLw, hLb, hn, hJf, helt, hQ⟩ := h₂
  refine rowsW_block (RR := fun acc C => compPost (model prog w) A E (some (assign (.Name y py) env)) (fun _ s' => Q .next s') acc C) W J hsz hst hfp hj hbad hcell hkind hx (fun k ys h h' hJ hk => hJf k ys h h' hJ fun b o _ => hk b o) helt ?_
  intro h' tk m' ys hnC hpl hJ hk htk
  obtain ⟨oL, es, ep, hoL, hoR⟩ := hn
  have hLlt := Heap.lt_size hoL
  have hLC : env.locals ≠ s₂.heap.objs.size + 1 := Nat.ne_of_lt (Nat.lt_succ_of_lt hLlt)
  have hLD : env.locals ≠ s₂.heap.objs.size := Nat.ne_of_lt hLlt
  have hDC : s₂.heap.objs.size ≠ s₂.heap.objs.size + 1 := Nat.ne_of_lt (Nat.lt_succ_self _)
  show wpAny _ A (assign (.Name y py) env (.ref s₂.heap.objs.size)) _ _ _
  refine wpAny_assign_Name (wpAny_storeName_local hy (show h'.Ns env.locals m from ⟨oL, es, ep, hk _ _ hLw hLb hoL, hoR⟩) (fun h₂ hn₂ hs₂ => ?_) hp)
  refine ⟨m', hnC.sameBut hs₂ (Ne.symm hLC), fun h₃ hs₃ => ?_⟩
  exact hQ h₃ _ ys ((hpl.extBut hs₂.extBut (Ne.symm hLD)).extBut hs₃.extBut hDC) (hJf _ _ _ _ hJ fun b o hbL hbC _ _ e => hs₃.extBut b o hbC (hs₂.extBut b o hbL e)) (hn₂.sameBut hs₃ hLC)
    (fun b o hbL hbf hbb e => hs₃.extBut b o (Nat.ne_of_lt (Nat.lt_succ_of_lt (Heap.lt_size e))) (hs₂.extBut b o hbL (hk b o hbf hbb e))) (Nat.le_succ_of_le htk)
end
end Mine
end

open PySem PySem.W PySem.Calls PyProof.Rows
namespace Mine
local macro_rules | `(tactic| size_fits) => `(tactic| assumption)

section -- part P01s
set_option Elab.async false
set_option maxRecDepth 100000
set_option maxHeartbeats 8000000
theorem reset_P01s : True := by
  w_top off
  trivial

theorem news_swap {h₀ h : Heap} {L : Addr} {x y : Addr × Obj} {r : List (Addr × Obj)} (N : News h₀ L h (x :: y :: r)) : News h₀ L h (y :: x :: r) := fun p hp => N p (by
  rcases List.mem_cons.mp hp with rfl | hp
  · exact List.mem_cons_of_mem _ List.mem_cons_self
  · rcases List.mem_cons.mp hp with rfl | hp
    · exact List.mem_cons_self
    · exact List.mem_cons_of_mem _ (List.mem_cons_of_mem _ hp))
theorem sizeN {ks : List Int} {m n : Nat} (hkl : ks.length = m * n) (hn : 0 < n) : Builtin.Range.rangeSize 0 (ks.length : Int) (n : Int) = ((m : Nat) : Int) := by
  rw [rangeSize_pos (by omega) (by omega), hkl]
  have e : (((m * n : Nat) : Int) + (n : Int) - 1) = ((n : Int) - 1) + (n : Int) * (m : Int) := by rw [Int.mul_comm (n : Int)]; push_cast; omega
  rw [e, Int.add_mul_ediv_left _ _ (by omega), Int.ediv_eq_zero_of_lt (by omega) (by omega)]
  omega
theorem smallN {ks : List Int} {m n : Nat} (hkl : ks.length = m * n) (hk4 : ks.length ≤ 4096) (hn : 0 < n) (hn64 : n ≤ 64) : Builtin.Range.small 0 (ks.length : Int) (n : Int) = true := by
  unfold Builtin.Range.small
  rw [sizeN hkl hn, if_pos (by omega)]
  have hm : m ≤ m * n := Nat.le_mul_of_pos_right m hn
  rw [← hkl] at hm
  simp only [Builtin.Range.rangeFitsLong, Bool.and_eq_true, Bool.or_eq_true, decide_eq_true_eq, beq_iff_eq]
  omega

theorem swap_call {w : World} {p : Program} {loose : List Str} {mean : ExcName → Option Value} {mg mb : Str → Option Value}
  {dp un : Nat} {gd : Option (List Code)} {fr : List Env} {s : Shared} {E : Value → Shared → Prop} (X : (Mine.hd.heap_39 w.params).In s.heap) (T : Top p loose mean mg mb s.heap)
  (hd : dp + 5 < recursionLimit) (d : Array UInt8) (td tw : Tok) (m n : Nat) (hn : 0 < n) (hn64 : n ≤ 64) (ks : List Int) (hk : KBw.bInts d = ks) (hkl : ks.length = m * n) (hk4 : ks.length ≤ 4096) :
  wpC (model PySem.Challenge.rw_il0107_01.row.prog w) (Ar dp un gd fr) (call (.ref 38) [.bytes d td, .int (n : Int) tw]) (GivesBytes s (swapL n ks)) E s := by
  revert X
  k_fill
  intro X
  k_dflt (refine' enterC (binds := [(Str.ofString "data", Value.bytes d td), (Str.ofString "width", Value.int (n : Int) tw)]) X T.nolimit ?k6 ?k7 ?k8 ?k9 ?kB ?_ ?c2 ?c3 ?c4 ?c5; (case k6 => k_is); (case k7 => k_is); (case k8 => (show dp < recursionLimit; omega)); (case k9 => exact BindsTo.of_eq rfl); (case kB => exact locs rfl); (case c5 => decide); (case c2 => exact rfl); (case c3 => exact rfl); (case c4 => exact rfl); k_whole; intro L' h' F'; (try dsimp only [List.reverse_cons, List.reverse_nil, List.nil_append, List.cons_append, List.length_cons, List.length_nil] at F' ⊢); (try k_fold))
  have N' := News.nil (h₀ := s.heap) (h := h') (L := L')
  refine wpC_execs_cons ?_
  refine wpC_Assign_Name ?_
  refine wpC_Call_Name ?_
  (repeat' (first | ((fail_if_success (with_reducible show wpC _ _ _ _ _ _)); (first | (k_unfold; (try dsimp only)) | ((with_reducible refine wpAny_execs_cons ?_); (try dsimp only)) | walk1 | (dsimp only; walk1) | (leave1; walk_say "STEP leave1"; try dsimp only) | (dsimp only; k_unfold; (try dsimp only))))))
  refine wpC_callType1 ?_
  (repeat' (first | ((fail_if_success (with_reducible show wpC _ _ _ _ _ _)); (first | (k_unfold; (try dsimp only)) | ((with_reducible refine wpAny_execs_cons ?_); (try dsimp only)) | walk1 | (dsimp only; walk1) | (leave1; walk_say "STEP leave1"; try dsimp only) | (dsimp only; k_unfold; (try dsimp only))))))
  (rename Fr _ _ _ _ => F')
  (refine wpC_bytearray hk4 ?_)
  intro B hb hnone hB hkeep
  obtain ⟨F₁, N₁⟩ := take_new F' N' hnone hB hkeep
  clear F' N' hnone hkeep
  (repeat' (first | ((fail_if_success (with_reducible show wpC _ _ _ _ _ _)); (first | (k_unfold; (try dsimp only)) | ((with_reducible refine wpAny_execs_cons ?_); (try dsimp only)) | walk1 | (dsimp only; walk1) | (leave1; walk_say "STEP leave1"; try dsimp only) | (dsimp only; k_unfold; (try dsimp only))))))
  refine wpC_of_any ?_
  (repeat' (first | ((fail_if_success (with_reducible show wpAny _ _ (exec (Stmt.For _ _ _ _ _) _) _ _ _)); (first | (k_unfold; (try dsimp only)) | ((with_reducible refine wpAny_execs_cons ?_); (try dsimp only)) | walk1 | (dsimp only; walk1) | (leave1; walk_say "STEP leave1"; try dsimp only) | (dsimp only; k_unfold; (try dsimp only))))))
  (rename Fr _ _ _ _ => lF')
  (with_unfolding_all refine' For_invVF lF' ?k1 ?k2 ?_; (case k1 => exact rfl); (case k2 => exact rfl))
  (repeat' (first | ((fail_if_success (with_reducible show wpAny _ _ (pyIter _) _ _ _)); (first | (k_unfold; (try dsimp only)) | ((with_reducible refine wpAny_execs_cons ?_); (try dsimp only)) | walk1 | (dsimp only; walk1) | (leave1; walk_say "STEP leave1"; try dsimp only) | (dsimp only; k_unfold; (try dsimp only))))))
  (rename Fr _ _ _ _ => lF)
  (rename News _ _ _ _ => lN)
  (rename IsRange _ _ _ _ _ _ _ _ => lR)
  (with_unfolding_all refine' loop_range2 (Str.ofString "j") m (fun i o => Swapped n ks (fun p => p < i * n) o) ?k1 lR ?k2 ?k3 lF lN ?k4 ?k5 ?k6)
  (case k1 => exact rfl)
  (case k2 => exact smallN hkl hk4 hn hn64)
  (case k3 => exact sizeN hkl hn)
  (case k4 => exact Swapped.start n ks)
  case k5 =>
    intro i tk o h' tk' I oI u hi hJ hI _ F' N'
    (try k_fold)
    obtain ⟨b, rfl, hbz, hbS⟩ := hJ
    have hJ' := Swapped.open ⟨b, rfl, hbz, hbS⟩
    clear hbz hbS
    (repeat' (first | ((fail_if_success (with_reducible show wpAny _ _ (exec (Stmt.For _ _ _ _ _) _) _ _ _)); (first | (k_unfold; (try dsimp only)) | ((with_reducible refine wpAny_execs_cons ?_); (try dsimp only)) | walk1 | (dsimp only; walk1) | (leave1; walk_say "STEP leave1"; try dsimp only) | (dsimp only; k_unfold; (try dsimp only))))))
    (rename Fr _ _ _ _ => lF')
    (with_unfolding_all refine' For_invVF lF' ?q1 ?q2 ?_; (case q1 => exact rfl); (case q2 => exact rfl))
    (repeat' (first | ((fail_if_success (with_reducible show wpAny _ _ (pyIter _) _ _ _)); (first | (k_unfold; (try dsimp only)) | ((with_reducible refine wpAny_execs_cons ?_); (try dsimp only)) | walk1 | (dsimp only; walk1) | (leave1; walk_say "STEP leave1"; try dsimp only) | (dsimp only; k_unfold; (try dsimp only))))))
    (rename Fr _ _ _ _ => lF2)
    (rename News _ _ _ _ => lN2)
    (rename IsRange _ _ _ _ _ _ _ _ => lR2)
    have lN3 := news_swap lN2
    clear lN2
    (with_unfolding_all refine' loop_range1 n (fun j o => Swapped n ks (fun p => p < i * n ∨ (i * n + n - j ≤ p ∧ p < i * n + n)) o) ?q1 lR2 ?q2 ?q3 lF2 lN3 ?q4 ?q5 ?q6)
    (case q1 => exact rfl)
    (case q2 => exact small_one (by omega) (by omega) (by omega) (by omega))
    (case q3 => rw [rangeSize_one]; split <;> omega)
    (case q4 => exact hJ')
    case q5 =>
      clear lF lN lR lF2 lN3 lR2 hJ'
      intro j tk2 o2 h2 tk2' I2 oI2 hj hJ2 hI2 hI3 F2 N2
      obtain ⟨b2, rfl, hbz, hbS⟩ := hJ2
      have hin : (i : Int) * (n : Int) + (n : Int) ≤ ((ks.length : Nat) : Int) := by
        have h1 : (i + 1) * n ≤ m * n := Nat.mul_le_mul_right _ hi
        rw [Nat.add_mul, Nat.one_mul, ← hkl] at h1
        have h2 : ((i * n + n : Nat) : Int) ≤ (ks.length : Nat) := by exact_mod_cast h1
        push_cast at h2
        exact h2
      have h0 : 0 ≤ (i : Int) * (n : Int) := Int.mul_nonneg (by omega) (by omega)
      (try k_fold)
      (repeat' (first | ((fail_if_success (with_reducible show wpAny _ _ (setItem _ _ _) _ _ _)); (fail_if_success (with_reducible show UPost _ _ _ _ _ _ _ _ _ _ _ _ _ _)); (fail_if_success (with_reducible show TPost _ _ _ _ _ _ _ _ _ _ _ _ _)); (first | (k_unfold; (try dsimp only)) | ((with_reducible refine wpAny_execs_cons ?_); (try dsimp only)) | walk1 | (dsimp only; walk1) | (leave1; walk_say "STEP leave1"; try dsimp only) | (dsimp only; k_unfold; (try dsimp only))))))
      (rename Fr _ _ _ _ => F3)
      (rename News _ _ _ _ => N3)
      have hB2 := (N3 (B, baObj b2) (List.mem_cons_of_mem _ List.mem_cons_self)).1
      refine ba_setI hB2 (by omega) (by rw [hbz]; omega) (by omega) (by assumption) (by assumption) ?_
      intro h3 hB3 hk3
      have hrest : ∀ p ∈ [(I2, oI2), (I, oI)], p.1 ≠ B := by
        intro p hp
        rcases List.mem_cons.mp hp with rfl | hp
        · exact hI2
        · rcases List.mem_cons.mp hp with rfl | hp
          · exact hI
          · cases hp
      obtain ⟨F4, N4⟩ := turn_new F3 (news_swap N3) hB3 hk3 hrest
      clear F3 N3 hB2 hk3
      have hset := Swapped.set hj ⟨b2, rfl, hbz, hbS⟩
      have e1 : (0 + (i : Int) * (n : Int) + (n : Int) - 1 - (0 + (j : Int) * 1)).toNat = i * n + n - 1 - j := by
        have : ((i * n : Nat) : Int) = (i : Int) * (n : Int) := by push_cast; rfl
        omega
      have e2 : (0 + (i : Int) * (n : Int) + (0 + (j : Int) * 1)).toNat = i * n + j := by
        have : ((i * n : Nat) : Int) = (i : Int) * (n : Int) := by push_cast; rfl
        omega
      rw [e1, e2] at N4
      have N5 := news_swap N4
      clear N4 hB3
      (repeat' (first | ((fail_if_success (with_reducible show wpAny _ _ (setItem _ _ _) _ _ _)); (fail_if_success (with_reducible show UPost _ _ _ _ _ _ _ _ _ _ _ _ _ _)); (fail_if_success (with_reducible show TPost _ _ _ _ _ _ _ _ _ _ _ _ _)); (first | (k_unfold; (try dsimp only)) | ((with_reducible refine wpAny_execs_cons ?_); (try dsimp only)) | walk1 | (dsimp only; walk1) | (leave1; walk_say "STEP leave1"; try dsimp only) | (dsimp only; k_unfold; (try dsimp only))))))
      exact TPost.end (by assumption) (by assumption) (fun z hz => by simp [hz]) hset
    case q6 =>
      intro u2 o2 h2 tk2 hJ2 F2 N2
      have hcl := Swapped.close hJ2
      have N3 := news_swap N2
      clear N2 hJ2 lF lN lR lF2 lN3 lR2 hJ'
      (repeat' (first | ((fail_if_success (with_reducible show wpAny _ _ (setItem _ _ _) _ _ _)); (fail_if_success (with_reducible show UPost _ _ _ _ _ _ _ _ _ _ _ _ _ _)); (fail_if_success (with_reducible show TPost _ _ _ _ _ _ _ _ _ _ _ _ _)); (first | (k_unfold; (try dsimp only)) | ((with_reducible refine wpAny_execs_cons ?_); (try dsimp only)) | walk1 | (dsimp only; walk1) | (leave1; walk_say "STEP leave1"; try dsimp only) | (dsimp only; k_unfold; (try dsimp only))))))
      exact UPost.end (by assumption) (by assumption) (fun z hz hz2 => by simp [hz, hz2]) hcl
  case k6 =>
    intro u u' o h2 tk2 hJ F2 N2
    obtain ⟨b, rfl, hbz, hbI⟩ := Swapped.whole hkl hn (fun k hk' => KBw.ints_in (b := d) (by rw [hk]; exact hk')) hJ
    (repeat' (first | ((fail_if_success (with_reducible show wpAny _ _ (setItem _ _ _) _ _ _)); (fail_if_success (with_reducible show UPost _ _ _ _ _ _ _ _ _ _ _ _ _ _)); (fail_if_success (with_reducible show TPost _ _ _ _ _ _ _ _ _ _ _ _ _)); (first | (k_unfold; (try dsimp only)) | ((with_reducible refine wpAny_execs_cons ?_); (try dsimp only)) | walk1 | (dsimp only; walk1) | (leave1; walk_say "STEP leave1"; try dsimp only) | (dsimp only; k_unfold; (try dsimp only))))))
    (rename Fr _ _ _ _ => F3)
    (rename News _ _ _ _ => N3)
    have hB2 := (N3 (B, baObj b) List.mem_cons_self).1
    refine call_bytes_ba hB2 (by omega) ?_
    intro t k
    (repeat' (first | ((fail_if_success (with_reducible show wpAny _ _ (setItem _ _ _) _ _ _)); (fail_if_success (with_reducible show UPost _ _ _ _ _ _ _ _ _ _ _ _ _ _)); (fail_if_success (with_reducible show TPost _ _ _ _ _ _ _ _ _ _ _ _ _)); (first | (k_unfold; (try dsimp only)) | ((with_reducible refine wpAny_execs_cons ?_); (try dsimp only)) | walk1 | (dsimp only; walk1) | (leave1; walk_say "STEP leave1"; try dsimp only) | (dsimp only; k_unfold; (try dsimp only))))))
    exact ⟨⟨_, _, rfl, F3.keep⟩, b, t, rfl, hbI⟩
end

section -- part P01m
set_option Elab.async false
set_option maxRecDepth 100000
set_option maxHeartbeats 8000000
theorem reset_P01m : True := by
  w_top off
  trivial

/-- the frame of a comprehension's own names, over the frame of the def -/
theorem comp_frame {h₀ h h' : Heap} {L C I : Addr} {m m₃ : Str → Option Value} {o : Obj} {news : List (Addr × Obj)} (F : Fr h₀ L h m) (N : News h₀ L h news) (hI : I = h.objs.size) (hC : (h.push o).objs.size ≤ C) (hns : h'.Ns C m₃)
    (hk : ∀ b o', b ∉ [I] → (h.push o).get? b = some o' → h'.get? b = some o') : Fr h₀ C h' m₃ ∧ News h₀ C h' news := by
  have hlt : ∀ b o', h.get? b = some o' → b ∉ [I] := fun b o' e hb => by
    have h1 := Heap.lt_size e
    rw [List.mem_singleton.mp hb, hI] at h1
    exact Nat.lt_irrefl _ h1
  have keep : ∀ b o', h.get? b = some o' → h'.get? b = some o' := fun b o' e => hk b o' (hlt b o' e) (Heap.get?_push_of_some _ e)
  rw [Heap.size_push] at hC
  refine ⟨⟨hns, fun b o' e => keep b o' (F.keep b o' e), ?_⟩, fun p hp => ⟨keep _ _ (N p hp).1, ?_, (N p hp).2.2⟩⟩
  · exact Nat.le_trans F.above (Nat.le_of_lt (Nat.lt_of_lt_of_le F.ns.lt (Nat.le_of_succ_le hC)))
  · rintro rfl
    exact Nat.lt_irrefl _ (Nat.lt_of_lt_of_le (Heap.lt_size (N p hp).1) (Nat.le_of_succ_le hC))
def JI (pk : Array UInt8) (k : Nat) (ys : List Value) : Prop := StrsAre ys ((pk.toList.map fun c => (⟨#[c.toNat]⟩ : Str)).take k)
theorem JI.push {pk : Array UInt8} {k : Nat} {c : UInt8} {ys : List Value} {t : Tok} (hc : pk[k]? = some c) (h : JI pk k ys) : JI pk (k + 1) (ys ++ [.str ⟨#[(c.toNat : Int).toNat]⟩ t]) := by
  unfold JI at h ⊢
  rw [List.take_add_one, List.getElem?_map, Array.getElem?_toList, hc]
  exact strsAre_snoc h _ t
def JC (n : Nat) (ks : List Int) (i : Nat) (ys : List Value) : Prop := StrsAre ys (cuts n i ks)
theorem JC.push {n : Nat} {ks : List Int} {i : Nat} {ys : List Value} {t : Tok} (h : JC n ks i ys) : JC n ks (i + 1) (ys ++ [.str (textOf (cutAt n ks i)) t]) := by
  unfold JC cuts at h ⊢
  rw [List.range_succ, List.map_append]
  exact strsAre_snoc h _ t
theorem comp_done {h₀ h h₁ : Heap} {L I D : Addr} {m : Str → Option Value} {o oD : Obj} {news : List (Addr × Obj)} (F : Fr h₀ L h m) (N : News h₀ L h news) (hI : I = h.objs.size) (hD : (h.push o).get? D = none) (hc : h₁.get? D = some oD)
    (hk : ∀ b o', b ∉ [I] → (h.push o).get? b = some o' → h₁.get? b = some o') : Fr h₀ L h₁ m ∧ News h₀ L h₁ ((D, oD) :: news) := by
  refine take_new F N ?_ hc fun b o' e => hk b o' (fun hb => ?_) (Heap.get?_push_of_some _ e)
  · cases e : h.get? D with
    | none => rfl
    | some o' => rw [Heap.get?_push_of_some _ e] at hD; cases hD
  · have h1 := Heap.lt_size e
    rw [List.mem_singleton.mp hb, hI] at h1
    exact Nat.lt_irrefl _ h1
theorem textOf_len2 (ks : List Int) : (textOf ks).length = ks.length := by simp [textOf, Str.length]
theorem sum_signs (x : Str) : ((signs x).map (·.length)).sum = x.length := by
  simp only [signs, List.map_map, Str.length]
  rw [show x.cps.size = x.cps.toList.length by simp]
  generalize x.cps.toList = l
  induction l with
  | nil => rfl
  | cons c l ih => rw [List.map_cons, List.sum_cons, ih, List.length_cons]; simp; omega
theorem join_signs (x : Str) : Txt.join (Str.ofString "") (signs x) = x := by
  show Builtin.Str.glued _ _ = _
  rw [StrLaws.glued_eq_join]
  exact join_nil_signs _
theorem signs_ints (b : Array UInt8) : signs (textOf (KBw.bInts b)) = b.toList.map fun c => (⟨#[c.toNat]⟩ : Str) := by
  simp only [signs, textOf, KBw.bInts, List.map_map]
  rfl
theorem cut_is {n i : Nat} {ks : List Int} : (ks.drop (clipAt ks.length (0 + (i : Int) * (n : Int)))).take (clipAt ks.length (0 + (i : Int) * (n : Int) + (n : Int)) - clipAt ks.length (0 + (i : Int) * (n : Int))) = cutAt n ks i := by
  have hc : ∀ q : Nat, clipAt ks.length (q : Int) = min q ks.length := fun q => by
    unfold clipAt
    rw [if_neg (by omega)]
    omega
  have e1 : (0 + (i : Int) * (n : Int)) = ((i * n : Nat) : Int) := by push_cast; omega
  have e2 : (((i * n : Nat) : Int) + (n : Int)) = ((i * n + n : Nat) : Int) := by push_cast; omega
  rw [e1, e2]
  rw [hc, hc, cutAt]
  by_cases h : i * n ≤ ks.length
  · rw [Nat.min_eq_left h]
    by_cases h2 : i * n + n ≤ ks.length
    · rw [Nat.min_eq_left h2, Nat.add_sub_cancel_left]
    · rw [Nat.min_eq_right (by omega), List.take_of_length_le (by rw [List.length_drop]; omega), List.take_of_length_le (by rw [List.length_drop]; omega)]
  · rw [Nat.min_eq_right (show ks.length ≤ i * n + n by omega), Nat.min_eq_right (show ks.length ≤ i * n by omega), List.drop_of_length_le (Nat.le_refl _), List.drop_of_length_le (by omega), List.take_nil, List.take_nil]
theorem samples_call {w : World} {p : Program} {loose : List Str} {mean : ExcName → Option Value} {mg mb : Str → Option Value}
  {dp un : Nat} {gd : Option (List Code)} {fr : List Env} {s : Shared} {E : Value → Shared → Prop} (X : (Mine.hd.heap_39 w.params).In s.heap) (T : Top p loose mean mg mb s.heap)
  (hd : dp + 5 < recursionLimit) (d : Array UInt8) (td tw : Tok) (m n : Nat) (hn : 0 < n) (hn64 : n ≤ 64) (ks : List Int) (hk : KBw.bInts d = ks) (hkl : ks.length = m * n) (hk4 : ks.length ≤ 4096) (hin : ∀ c ∈ ks, 0 ≤ c ∧ c < 128) :
  wpAny (model PySem.Challenge.rw_il0107_01.row.prog w) (Ar dp un gd fr) (call (.ref 79) [.bytes d td, .int (n : Int) tw]) (GivesStrs s (cuts n m ks)) E s := by
  revert X
  k_fill
  intro X
  k_dflt (refine' enterCells (binds := [(Str.ofString "octets", Value.bytes d td), (Str.ofString "width", Value.int (n : Int) tw)]) X T.nolimit ?k6 ?k7 ?k8 ?k9 ?kB ?kC ?_ ?c2 ?c3 ?c4; (case k6 => k_is); (case k7 => k_is); (case k8 => (show dp < recursionLimit; omega)); (case k9 => exact BindsTo.of_eq rfl); (case kB => exact kindsX rfl); (case kC => decide); (case c2 => exact rfl); (case c3 => exact rfl); (case c4 => exact rfl); k_whole; intro L' h' tk' cells F' N' Y')
  k_cells Y'
  (try k_fold)
  (repeat' (first | ((fail_if_success (with_reducible show wpAny _ _ (eval (Expr.ListComp _ _ _ _) _) _ _ _)); (first | (k_unfold; (try dsimp only)) | ((with_reducible refine wpAny_execs_cons ?_); (try dsimp only)) | walk1 | (dsimp only; walk1) | (leave1; walk_say "STEP leave1"; try dsimp only) | (dsimp only; k_unfold; (try dsimp only))))))
  refine wpAny_ListComp_one (cl := [(Str.ofString "width", L' + 1 + 1), (Str.ofString "octets", L' + 1)]) rfl (by decide) rfl (by decide) rfl ?_
  (repeat' (first | ((with_reducible show wpAny _ _ _ _ _ _); (fail_if_success (with_reducible show wpAny _ _ (pyIter _) _ _ _)); (fail_if_success (with_reducible show wpAny _ _ (eval (Expr.ListComp _ _ _ _) _) _ _ _)); (first | (k_unfold; (try dsimp only)) | ((with_reducible refine wpAny_execs_cons ?_); (try dsimp only)) | walk1 | (dsimp only; walk1) | (leave1; walk_say "STEP leave1"; try dsimp only) | (dsimp only; k_unfold; (try dsimp only))))))
  (rename IsRange _ _ _ _ _ _ _ _ => lR)
  (rename Fr _ _ _ _ => lF)
  (rename News _ _ _ _ => lN)
  refine wpAny_pyIter_range lR (smallN hkl hk4 hn hn64) ?_
  have hml : m ≤ m * n := Nat.le_mul_of_pos_right m hn
  refine ⟨_, [_], [_], m, _, _, JC n ks, rfl, Walks.range rfl _ 0 n m, by rw [sizeLine_eq]; omega, ?z1, ?z2, .nil, ?z3, ?z4⟩
  case z1 =>
    show IsRangeIter _ _ _ _ _
    rw [sizeN hkl hn]
    simpa using Heap.get?_push_size _ rfl
  case z2 =>
    intro b hb
    rw [List.mem_singleton.mp hb]
    show _ < (Heap.push _ _).objs.size
    rw [Heap.size_push]
    exact Nat.lt_succ_self _
  case z3 =>
    rintro C i v s₃ m₃ E' hC hi ⟨ti, rfl⟩ hns hm hk _
    obtain ⟨F3, N3⟩ := comp_frame lF lN rfl hC hns hk
    obtain ⟨news3, N3', hall⟩ := all_news s.heap s₃.heap C
    have N3a : News s.heap C s₃.heap (_ :: _ :: news3) := fun p hp => by
      rcases List.mem_cons.mp hp with rfl | hp
      · exact N3 _ List.mem_cons_self
      · rcases List.mem_cons.mp hp with rfl | hp
        · exact N3 _ (List.mem_cons_of_mem _ List.mem_cons_self)
        · exact N3' p hp
    have hall' := fun h' => hall h' F3.keep
    clear lF lN lR hC hk hns N3 N3' hall
    (repeat' (first | ((with_reducible show wpAny _ _ _ _ _ _); (fail_if_success (with_reducible show wpAny _ _ (pyIter _) _ _ _)); (fail_if_success (with_reducible show wpAny _ _ (eval (Expr.ListComp _ _ _ _) _) _ _ _)); (first | (k_unfold; (try dsimp only)) | ((with_reducible refine wpAny_execs_cons ?_); (try dsimp only)) | walk1 | (dsimp only; walk1) | (leave1; walk_say "STEP leave1"; try dsimp only) | (dsimp only; k_unfold; (try dsimp only))))))
    refine wpAny_ListComp_one (cl := []) (closureFor_none (by decide)) (by decide) rfl (by decide) rfl ?_
    (repeat' (first | ((with_reducible show wpAny _ _ _ _ _ _); (fail_if_success (with_reducible show wpAny _ _ (pyIter _) _ _ _)); (fail_if_success (with_reducible show wpAny _ _ (eval (Expr.ListComp _ _ _ _) _) _ _ _)); (first | (k_unfold; (try dsimp only)) | ((with_reducible refine wpAny_execs_cons ?_); (try dsimp only)) | walk1 | (dsimp only; walk1) | (leave1; walk_say "STEP leave1"; try dsimp only) | (dsimp only; k_unfold; (try dsimp only))))))
    (rename Fr _ _ _ _ => F4)
    refine wpAny_Name (wpAny_loadName_local rfl rfl F4.ns hm ?_) (by decide)
    (repeat' (first | ((with_reducible show wpAny _ _ _ _ _ _); (fail_if_success (with_reducible show wpAny _ _ (pyIter _) _ _ _)); (fail_if_success (with_reducible show wpAny _ _ (eval (Expr.ListComp _ _ _ _) _) _ _ _)); (first | (k_unfold; (try dsimp only)) | ((with_reducible refine wpAny_execs_cons ?_); (try dsimp only)) | walk1 | (dsimp only; walk1) | (leave1; walk_say "STEP leave1"; try dsimp only) | (dsimp only; k_unfold; (try dsimp only))))))
    (rename Fr _ _ _ _ => F5)
    refine wpAny_Name (wpAny_loadName_local rfl rfl F5.ns hm ?_) (by decide)
    (repeat' (first | ((with_reducible show wpAny _ _ _ _ _ _); (fail_if_success (with_reducible show wpAny _ _ (pyIter _) _ _ _)); (fail_if_success (with_reducible show wpAny _ _ (eval (Expr.ListComp _ _ _ _) _) _ _ _)); (first | (k_unfold; (try dsimp only)) | ((with_reducible refine wpAny_execs_cons ?_); (try dsimp only)) | walk1 | (dsimp only; walk1) | (leave1; walk_say "STEP leave1"; try dsimp only) | (dsimp only; k_unfold; (try dsimp only))))))
    (rename Fr _ _ _ _ => F6)
    (rename News _ _ _ _ => N6)
    (rename KBw.bInts _ = _ => hcut)
    rw [cut_is] at hcut
    generalize KBy.picked d (some (0 + (i : Int) * (n : Int))) (some (0 + (i : Int) * (n : Int) + (n : Int))) = pk at hcut
    have hpz : pk.size ≤ 4096 := by
      rw [← KBw.ints_length, hcut, cutAt, List.length_take, List.length_drop]
      omega
    refine KBw.pyIter_bytes ?_
    refine ⟨_, [_], [_], _, _, _, JI pk, rfl, KBw.walks rfl _ pk _, by rw [sizeLine_eq]; omega, ⟨_, Heap.get?_push_size _ rfl, rfl, rfl⟩, ?y2, .nil, ?y3, ?y4⟩
    case y2 =>
      intro b hb
      rw [List.mem_singleton.mp hb]
      show _ < (Heap.push _ _).objs.size
      rw [Heap.size_push]
      exact Nat.lt_succ_self _
    case y3 =>
      rintro C2 i2 v2 s5 m5 E2 hC2 _ ⟨c, u, hbc, rfl⟩ hns2 hm2 hk2 _
      obtain ⟨F7, N7⟩ := comp_frame F6 N6 rfl hC2 hns2 hk2
      clear F6 N6 hC2 hk2
      have hc256 := c.toNat_lt
      (repeat' (first | ((with_reducible show wpAny _ _ _ _ _ _); (fail_if_success (with_reducible show wpAny _ _ (pyIter _) _ _ _)); (fail_if_success (with_reducible show wpAny _ _ (eval (Expr.ListComp _ _ _ _) _) _ _ _)); (first | (k_unfold; (try dsimp only)) | ((with_reducible refine wpAny_execs_cons ?_); (try dsimp only)) | walk1 | (dsimp only; walk1) | (leave1; walk_say "STEP leave1"; try dsimp only) | (dsimp only; k_unfold; (try dsimp only))))))
      exact ⟨fun ys hJ => JI.push hbc hJ, _, _, rfl, fun b o _ e => e, hns2⟩
    case y4 =>
      intro D h7 tk7 ys hD hpl hJ hk7
      obtain ⟨c7, hc7⟩ := hpl
      obtain ⟨F8, N8⟩ := comp_done F6 N6 rfl hD hc7 hk7
      unfold JI at hJ
      rw [List.take_of_length_le (by simp), ← signs_ints, hcut] at hJ
      rw [show ys = ys.toList.toArray from (Array.toArray_toList).symm] at N8
      generalize ys.toList = zs at hJ N8
      clear F6 N6 hk7 hc7 hD
      (repeat' (first | ((with_reducible show wpAny _ _ _ _ _ _); (fail_if_success (with_reducible show wpAny _ _ (pyIter _) _ _ _)); (fail_if_success (with_reducible show wpAny _ _ (eval (Expr.ListComp _ _ _ _) _) _ _ _)); (first | (k_unfold; (try dsimp only)) | ((with_reducible refine wpAny_execs_cons ?_); (try dsimp only)) | walk1 | (dsimp only; walk1) | (leave1; walk_say "STEP leave1"; try dsimp only) | (dsimp only; k_unfold; (try dsimp only))))))
      have hD2 := News.isList N8 List.mem_cons_self
      (with_reducible refine join_listC hD2 hJ (by decide) (by rw [sum_signs, signs_length, textOf_len2, cutAt, List.length_take, List.length_drop]; omega) ?_)
      intro tj kj
      rw [join_signs]
      (repeat' (first | ((with_reducible show wpAny _ _ _ _ _ _); (fail_if_success (with_reducible show wpAny _ _ (pyIter _) _ _ _)); (fail_if_success (with_reducible show wpAny _ _ (eval (Expr.ListComp _ _ _ _) _) _ _ _)); (first | (k_unfold; (try dsimp only)) | ((with_reducible refine wpAny_execs_cons ?_); (try dsimp only)) | walk1 | (dsimp only; walk1) | (leave1; walk_say "STEP leave1"; try dsimp only) | (dsimp only; k_unfold; (try dsimp only))))))
      (rename Fr _ _ _ _ => F9)
      (rename News _ _ _ _ => N9)
      refine ⟨fun zs hZ => JC.push hZ, _, _, rfl, hall' _ F9.keep (fun p hp => N9 p (List.mem_cons_of_mem _ (List.mem_cons_of_mem _ (List.mem_cons_of_mem _ hp)))), F9.ns⟩
  case z4 =>
    intro D h7 tk7 ys hD hpl hJ hk7
    obtain ⟨c7, hc7⟩ := hpl
    obtain ⟨F8, N8⟩ := comp_done lF lN rfl hD hc7 hk7
    unfold JC at hJ
    rw [show ys = ys.toList.toArray from (Array.toArray_toList).symm] at N8
    generalize ys.toList = zs at hJ N8
    clear lF lN lR hk7 hc7 hD
    (repeat' (first | ((with_reducible show wpAny _ _ _ _ _ _); (fail_if_success (with_reducible show wpAny _ _ (pyIter _) _ _ _)); (fail_if_success (with_reducible show wpAny _ _ (eval (Expr.ListComp _ _ _ _) _) _ _ _)); (first | (k_unfold; (try dsimp only)) | ((with_reducible refine wpAny_execs_cons ?_); (try dsimp only)) | walk1 | (dsimp only; walk1) | (leave1; walk_say "STEP leave1"; try dsimp only) | (dsimp only; k_unfold; (try dsimp only))))))
    exact GivesStrs.intro (by assumption) (by assumption) (.head _) hJ
end

section -- part P01f
set_option Elab.async false
set_option maxRecDepth 100000
set_option maxHeartbeats 8000000
theorem reset_P01f : True := by
  w_top off
  trivial

/-- does the row of signs take the name? all ways are tried -/
def fitsL : List Nat → List Nat → Bool
  | [], n => n.isEmpty
  | c :: r, n => if c = 42 then (List.range (n.length + 1)).any fun k => fitsL r (n.drop k) else match n with
    | [] => false
    | d :: n' => (c == 63 || c == d) && fitsL r n'
theorem fits_cons (c : Nat) (r n : List Nat) : fitsL (c :: r) n = if c = 42 then (List.range (n.length + 1)).any fun k => fitsL r (n.drop k) else match n with
    | [] => false
    | d :: n' => (c == 63 || c == d) && fitsL r n' := by rw [fitsL.eq_def]
theorem sign_in (c d : Nat) : ([Str.ofString "?", (⟨#[d]⟩ : Str)].any fun x => x == ⟨#[c]⟩) = (c == 63 || c == d) := by
  rw [show Str.ofString "?" = ⟨#[63]⟩ from by decide +kernel]
  have h : ∀ a b : Nat, ((⟨#[a]⟩ : Str) == ⟨#[b]⟩) = (b == a) := fun a b => by
    by_cases e : b = a
    · subst e; simp
    · rw [beq_eq_false_iff_ne.mpr e, beq_eq_false_iff_ne]
      exact fun q => e (by simpa using (congrArg (fun s : Str => s.cps) q).symm)
  simp [h]
theorem nil_is : ((⟨([] : List Nat).toArray⟩ : Str) == Str.ofString "") = true := by decide +kernel
theorem cons_isnt (c : Nat) (cs : List Nat) : ((⟨(c :: cs).toArray⟩ : Str) == Str.ofString "") = false := by
  rw [beq_eq_false_iff_ne]
  rw [show Str.ofString "" = ⟨#[]⟩ from by decide +kernel]
  intro e
  have : (c :: cs).toArray = #[] := by simpa using congrArg (fun s : Str => s.cps) e
  simp at this
theorem text_is (ds : List Nat) : ((⟨ds.toArray⟩ : Str) == Str.ofString "") = ds.isEmpty := by
  cases ds with
  | nil => exact nil_is
  | cons c cs => exact cons_isnt c cs
theorem text_isnt (ds : List Nat) : ((⟨ds.toArray⟩ : Str) != Str.ofString "") = !ds.isEmpty := by rw [bne, text_is]
theorem item_head (c : Nat) (cs : List Nat) : Txt.item (⟨(c :: cs).toArray⟩ : Str) 0 = ⟨#[c]⟩ := by
  refine item_meets ⟨by decide, ?_⟩
  show (0 : Int) < ((c :: cs).toArray.size : Nat)
  simp
theorem slice_drop (l : List Nat) (k : Nat) : Txt.slice ⟨l.toArray⟩ (some (k : Int)) none = ⟨(l.drop k).toArray⟩ := by
  by_cases h : k ≤ l.length
  · rw [slice_from_eq (b := (l.length : Int)) (by omega) (by simp [Str.length]; omega) (by simp [Str.length])]
    simp only [Int.toNat_natCast, List.toList_toArray]
    rw [List.take_of_length_le (by rw [List.length_drop]; omega)]
  · rw [slice_from_beyond (by simp [Str.length]; omega), List.drop_of_length_le (by omega)]
theorem slice_dropZ (l : List Nat) (z : Int) (k : Nat) (hz : z = k) : Txt.slice ⟨l.toArray⟩ (some z) none = ⟨(l.drop k).toArray⟩ := by
  rw [hz]; exact slice_drop l k
/-- the numbers that a test let through: some, or none -/
def JN (p : Nat → Bool) (k : Nat) (ys : List Value) : Prop := ∃ ms : List Int, IntsAre ys ms ∧ ms.isEmpty = !(List.range k).any p
theorem JN.nil (p : Nat → Bool) : JN p 0 [] := ⟨[], .nil, rfl⟩
theorem JN.skip {p : Nat → Bool} {k : Nat} {ys : List Value} (h : p k = false) (hj : JN p k ys) : JN p (k + 1) ys := by
  obtain ⟨ms, h1, h2⟩ := hj
  exact ⟨ms, h1, by rw [h2, List.range_succ, List.any_append]; simp [h]⟩
theorem JN.push {p : Nat → Bool} {k : Nat} {ys : List Value} {z : Int} {t : Tok} (h : p k = true) (hj : JN p k ys) : JN p (k + 1) (ys ++ [.int z t]) := by
  obtain ⟨ms, h1, h2⟩ := hj
  exact ⟨ms ++ [z], h1.append (.cons z t .nil), by rw [List.range_succ, List.any_append]; simp [h]⟩
theorem star_isnt {c : Nat} (h : c ≠ 42) : ((⟨#[c]⟩ : Str) == Str.ofString "*") = false := by
  rw [show Str.ofString "*" = ⟨#[42]⟩ from by decide +kernel, beq_eq_false_iff_ne]
  exact fun e => h (by simpa using congrArg (fun s : Str => s.cps) e)
theorem fits_call {w : World} {p : Program} {loose : List Str} {mean : ExcName → Option Value} {mg mb : Str → Option Value}
  {un : Nat} {gd : Option (List Code)} (hu : un + 100 < cLine) : ∀ (cs ds : List Nat) (dp : Nat) (un' : Nat) (gd : Option (List Code)) (fr : List Env) (s : Shared) (E : Value → Shared → Prop) (t u : Tok), (Mine.hd.heap_39 w.params).In s.heap → Top p loose mean mg mb s.heap →
  dp + 4 * cs.length + 5 < recursionLimit → un' + 8 * cs.length + 100 < cLine → cs.length ≤ 64 → ds.length ≤ 64 →
  wpAny (model PySem.Challenge.rw_il0107_01.row.prog w) (Ar dp un' gd fr) (call (.ref 89) [.str ⟨cs.toArray⟩ t, .str ⟨ds.toArray⟩ u]) (fun v s' => Keeps s s' ∧ v = .bool (fitsL cs ds)) E s := by
  intro cs
  induction cs with
  | nil =>
    intro ds dp un' gd fr s E t u X T hd hu' hc hl
    revert X
    k_fill
    intro X
    k_dflt (refine' enterCells (binds := [(Str.ofString "signs", Value.str ⟨([] : List Nat).toArray⟩ t), (Str.ofString "name", Value.str ⟨ds.toArray⟩ u)]) X T.nolimit ?k6 ?k7 ?k8 ?k9 ?kB ?kC ?_ ?c2 ?c3 ?c4; (case k6 => k_is); (case k7 => k_is); (case k8 => (show dp < recursionLimit; omega)); (case k9 => exact BindsTo.of_eq rfl); (case kB => exact kindsX rfl); (case kC => decide); (case c2 => exact rfl); (case c3 => exact rfl); (case c4 => exact rfl); k_whole; intro L' h' tk' cells F' N' Y')
    k_cells Y'
    (try k_fold)
    (repeat' (first | ((with_reducible show wpAny _ _ _ _ _ _); (fail_if_success (with_reducible show wpAny _ _ (eval (Expr.ListComp _ _ _ _) _) _ _ _)); (fail_if_success (with_reducible show wpAny _ _ (call (Value.ref _) _) _ _ _)); (first | (k_unfold; (try dsimp only)) | ((with_reducible refine wpAny_execs_cons ?_); (try dsimp only)) | walk1 | (dsimp only; walk1) | (leave1; walk_say "STEP leave1"; try dsimp only) | (dsimp only; k_unfold; (try dsimp only))))))
    rw [if_pos nil_is]
    (repeat' (first | ((with_reducible show wpAny _ _ _ _ _ _); (fail_if_success (with_reducible show wpAny _ _ (eval (Expr.ListComp _ _ _ _) _) _ _ _)); (fail_if_success (with_reducible show wpAny _ _ (call (Value.ref _) _) _ _ _)); (first | (k_unfold; (try dsimp only)) | ((with_reducible refine wpAny_execs_cons ?_); (try dsimp only)) | walk1 | (dsimp only; walk1) | (leave1; walk_say "STEP leave1"; try dsimp only) | (dsimp only; k_unfold; (try dsimp only))))))
    (rename Fr _ _ _ _ => F9)
    dsimp only
    (try k_unfold)
    exact ⟨⟨_, _, rfl, F9.keep⟩, by rw [text_is]; rfl⟩
  | cons c cs ih =>
    intro ds dp un' gd fr s E t u X T hd hu' hc hl
    have hdl : (⟨ds.toArray⟩ : Str).length ≤ 64 := by simpa [Str.length] using hl
    have hdl2 : (⟨ds.toArray⟩ : Str).length = ds.length := by simp [Str.length]
    have hcl : (⟨(c :: cs).toArray⟩ : Str).length ≤ 64 := by simpa [Str.length] using hc
    revert X
    k_fill
    intro X
    k_dflt (refine' enterCells (binds := [(Str.ofString "signs", Value.str ⟨(c :: cs).toArray⟩ t), (Str.ofString "name", Value.str ⟨ds.toArray⟩ u)]) X T.nolimit ?k6 ?k7 ?k8 ?k9 ?kB ?kC ?_ ?c2 ?c3 ?c4; (case k6 => k_is); (case k7 => k_is); (case k8 => (show dp < recursionLimit; omega)); (case k9 => exact BindsTo.of_eq rfl); (case kB => exact kindsX rfl); (case kC => decide); (case c2 => exact rfl); (case c3 => exact rfl); (case c4 => exact rfl); k_whole; intro L' h' tk' cells F' N' Y')
    k_cells Y'
    (try k_fold)
    (repeat' (first | ((with_reducible show wpAny _ _ _ _ _ _); (fail_if_success (with_reducible show wpAny _ _ (eval (Expr.ListComp _ _ _ _) _) _ _ _)); (fail_if_success (with_reducible show wpAny _ _ (call (Value.ref _) _) _ _ _)); (first | (k_unfold; (try dsimp only)) | ((with_reducible refine wpAny_execs_cons ?_); (try dsimp only)) | walk1 | (dsimp only; walk1) | (leave1; walk_say "STEP leave1"; try dsimp only) | (dsimp only; k_unfold; (try dsimp only))))))
    rw [if_neg (by rw [cons_isnt]; decide)]
    (repeat' (first | ((with_reducible show wpAny _ _ _ _ _ _); (fail_if_success (with_reducible show wpAny _ _ (eval (Expr.ListComp _ _ _ _) _) _ _ _)); (fail_if_success (with_reducible show wpAny _ _ (call (Value.ref _) _) _ _ _)); (first | (k_unfold; (try dsimp only)) | ((with_reducible refine wpAny_execs_cons ?_); (try dsimp only)) | walk1 | (dsimp only; walk1) | (leave1; walk_say "STEP leave1"; try dsimp only) | (dsimp only; k_unfold; (try dsimp only))))))
    rw [item_head]
    by_cases hc42 : c = 42
    · subst hc42
      rw [if_pos (by decide +kernel)]
      (repeat' (first | ((with_reducible show wpAny _ _ _ _ _ _); (fail_if_success (with_reducible show wpAny _ _ (eval (Expr.ListComp _ _ _ _) _) _ _ _)); (fail_if_success (with_reducible show wpAny _ _ (call (Value.ref _) _) _ _ _)); (first | (k_unfold; (try dsimp only)) | ((with_reducible refine wpAny_execs_cons ?_); (try dsimp only)) | walk1 | (dsimp only; walk1) | (leave1; walk_say "STEP leave1"; try dsimp only) | (dsimp only; k_unfold; (try dsimp only))))))
      refine wpAny_ListComp_test (cl := [(Str.ofString "signs", L' + 1), (Str.ofString "name", L' + 1 + 1)]) rfl (by decide) rfl (by decide) rfl ?_
      (repeat' (first | ((with_reducible show wpAny _ _ _ _ _ _); (fail_if_success (with_reducible show wpAny _ _ (pyIter _) _ _ _)); (fail_if_success (with_reducible show wpAny _ _ (eval (Expr.ListComp _ _ _ _) _) _ _ _)); (fail_if_success (with_reducible show wpAny _ _ (call (Value.ref _) _) _ _ _)); (first | (k_unfold; (try dsimp only)) | ((with_reducible refine wpAny_execs_cons ?_); (try dsimp only)) | walk1 | (dsimp only; walk1) | (leave1; walk_say "STEP leave1"; try dsimp only) | (dsimp only; k_unfold; (try dsimp only))))))
      (rename IsRange _ _ _ _ _ _ _ _ => lR)
      (rename Fr _ _ _ _ => lF)
      (rename News _ _ _ _ => lN)
      refine wpAny_pyIter_range lR (small_one (by omega) (by omega) (by omega) (by omega)) ?_
      refine ⟨_, [_], [_], ds.length + 1, _, _, JN (fun k => fitsL cs (ds.drop k)), fun k => fitsL cs (ds.drop k), rfl, Walks.range rfl _ 0 1 (ds.length + 1), by rw [sizeLine_eq]; omega, ?z1, ?z2, .nil _, fun k ys _ h hj => JN.skip h hj, ?t1, ?t2, ?z4⟩
      case z1 =>
        show IsRangeIter _ _ _ _ _
        rw [show ∀ z : Int, z = ((ds.length + 1 : Nat) : Int) → Builtin.Range.rangeSize 0 z 1 = ((ds.length + 1 : Nat) : Int) from fun z hz => by rw [hz, rangeSize_one]; split <;> omega]
        · simpa using Heap.get?_push_size _ rfl
        · rw [hdl2]; rfl
      case z2 =>
        intro b hb
        rw [List.mem_singleton.mp hb]
        show _ < (Heap.push _ _).objs.size
        rw [Heap.size_push]
        exact Nat.lt_succ_self _
      case t1 =>
        rintro C i v s₃ m₃ E' hC hi ⟨ti, rfl⟩ hns hm hk _
        obtain ⟨F3, N3⟩ := comp_frame lF lN rfl hC hns hk
        obtain ⟨news3, N3', hall⟩ := all_news s.heap s₃.heap C
        have N3a : News s.heap C s₃.heap (_ :: _ :: news3) := fun p hp => by
          rcases List.mem_cons.mp hp with rfl | hp
          · exact N3 _ List.mem_cons_self
          · rcases List.mem_cons.mp hp with rfl | hp
            · exact N3 _ (List.mem_cons_of_mem _ List.mem_cons_self)
            · exact N3' p hp
        have hall' := fun h' => hall h' F3.keep
        clear lF lN lR hC hk hns N3 N3' hall
        (repeat' (first | ((with_reducible show wpAny _ _ _ _ _ _); (fail_if_success (with_reducible show wpAny _ _ (eval (Expr.ListComp _ _ _ _) _) _ _ _)); (fail_if_success (with_reducible show wpAny _ _ (call (Value.ref _) _) _ _ _)); (first | (k_unfold; (try dsimp only)) | ((with_reducible refine wpAny_execs_cons ?_); (try dsimp only)) | walk1 | (dsimp only; walk1) | (leave1; walk_say "STEP leave1"; try dsimp only) | (dsimp only; k_unfold; (try dsimp only))))))
        (rename Fr _ _ _ _ => F4)
        refine wpAny_Name (wpAny_loadName_local rfl rfl F4.ns hm ?_) (by decide)
        (repeat' (first | ((with_reducible show wpAny _ _ _ _ _ _); (fail_if_success (with_reducible show wpAny _ _ (eval (Expr.ListComp _ _ _ _) _) _ _ _)); (fail_if_success (with_reducible show wpAny _ _ (call (Value.ref _) _) _ _ _)); (first | (k_unfold; (try dsimp only)) | ((with_reducible refine wpAny_execs_cons ?_); (try dsimp only)) | walk1 | (dsimp only; walk1) | (leave1; walk_say "STEP leave1"; try dsimp only) | (dsimp only; k_unfold; (try dsimp only))))))
        (rename Fr _ _ _ _ => F5)
        (rename News _ _ _ _ => N5)
        refine ⟨X.keeps F5.keep, ?_⟩
        rw [slice_dropZ ds _ i (by omega), slice_dropZ (42 :: cs) 1 1 rfl]
        refine use_call F5 N5 (ih (ds.drop i) (dp + 1) (un' + 3) _ _ _ _ _ _ (X.keeps F5.keep) (T.keeps F5.keep) (by simp at hd; omega) (by simp at hu'; omega) (by simp at hc; omega) (by rw [List.length_drop]; omega)) ?_
        rintro v h6 tk6 F6 N6 rfl
        refine wpAny_truthy_bool ?_
        k_unfold
        exact ⟨rfl, _, _, rfl, hall' _ F6.keep (fun p hp => N6 p (List.mem_cons_of_mem _ (List.mem_cons_of_mem _ hp))), F6.ns⟩
      case t2 =>
        rintro C i v s₃ m₃ E' hC hi hp ⟨ti, rfl⟩ hns hm hk _
        refine wpAny_Name (wpAny_loadName_local rfl rfl hns hm ?_) (by decide)
        exact ⟨fun ys hJ => JN.push hp hJ, _, _, rfl, fun b o _ e => e, hns⟩
      case z4 =>
        intro D h7 tk7 ys hD hpl hJ hk7 _
        obtain ⟨c7, hc7⟩ := hpl
        obtain ⟨F8, N8⟩ := comp_done lF lN rfl hD hc7 hk7
        obtain ⟨ms, hms, hml⟩ := hJ
        rw [show ys = ys.toList.toArray from (Array.toArray_toList).symm] at N8
        generalize ys.toList = zs at hms N8
        clear lF lN lR hk7 hc7 hD
        (repeat' (first | ((with_reducible show wpAny _ _ _ _ _ _); (fail_if_success (with_reducible show wpAny _ _ (compareOp CmpOp.NotEq (Value.ref _) _) _ _ _)); (first | (k_unfold; (try dsimp only)) | ((with_reducible refine wpAny_execs_cons ?_); (try dsimp only)) | walk1 | (dsimp only; walk1) | (leave1; walk_say "STEP leave1"; try dsimp only) | (dsimp only; k_unfold; (try dsimp only))))))
        (rename Fr _ _ _ _ => F9)
        (rename News _ _ _ _ => N9)
        have hL1 := News.isList N9 (.head _)
        have hL2 := News.isList N9 (.tail _ (.head _))
        refine ke_ne_ints hL2 hL1 hms .nil (by show un' + 3 + 64 < _; omega) ?_
        refine ⟨⟨_, _, rfl, F9.keep⟩, ?_⟩
        congr 1
        rw [fits_cons, if_pos rfl, ← Bool.not_not (b := List.any _ _), ← hml]
        cases ms <;> simp
    · rw [if_neg (by simpa using star_isnt hc42)]
      cases ds with
      | nil =>
        (repeat' (first | ((with_reducible show wpAny _ _ _ _ _ _); (fail_if_success (with_reducible show wpAny _ _ (eval (Expr.ListComp _ _ _ _) _) _ _ _)); (fail_if_success (with_reducible show wpAny _ _ (call (Value.ref _) _) _ _ _)); (first | (k_unfold; (try dsimp only)) | ((with_reducible refine wpAny_execs_cons ?_); (try dsimp only)) | walk1 | (dsimp only; walk1) | (leave1; walk_say "STEP leave1"; try dsimp only) | (dsimp only; k_unfold; (try dsimp only))))))
        rw [if_neg (by decide +kernel)]
        (repeat' (first | ((with_reducible show wpAny _ _ _ _ _ _); (fail_if_success (with_reducible show wpAny _ _ (eval (Expr.ListComp _ _ _ _) _) _ _ _)); (fail_if_success (with_reducible show wpAny _ _ (call (Value.ref _) _) _ _ _)); (first | (k_unfold; (try dsimp only)) | ((with_reducible refine wpAny_execs_cons ?_); (try dsimp only)) | walk1 | (dsimp only; walk1) | (leave1; walk_say "STEP leave1"; try dsimp only) | (dsimp only; k_unfold; (try dsimp only))))))
        (rename Fr _ _ _ _ => F9)
        dsimp only
        (try k_unfold)
        exact ⟨⟨_, _, rfl, F9.keep⟩, by rw [fits_cons, if_neg hc42]; exact congrArg _ (by decide +kernel : _ = false)⟩
      | cons d ds =>
        (repeat' (first | ((with_reducible show wpAny _ _ _ _ _ _); (fail_if_success (with_reducible show wpAny _ _ (eval (Expr.ListComp _ _ _ _) _) _ _ _)); (fail_if_success (with_reducible show wpAny _ _ (call (Value.ref _) _) _ _ _)); (first | (k_unfold; (try dsimp only)) | ((with_reducible refine wpAny_execs_cons ?_); (try dsimp only)) | walk1 | (dsimp only; walk1) | (leave1; walk_say "STEP leave1"; try dsimp only) | (dsimp only; k_unfold; (try dsimp only))))))
        rw [if_pos (by rw [text_isnt]; rfl)]
        (repeat' (first | ((with_reducible show wpAny _ _ _ _ _ _); (fail_if_success (with_reducible show wpAny _ _ (eval (Expr.ListComp _ _ _ _) _) _ _ _)); (fail_if_success (with_reducible show wpAny _ _ (call (Value.ref _) _) _ _ _)); (first | (k_unfold; (try dsimp only)) | ((with_reducible refine wpAny_execs_cons ?_); (try dsimp only)) | walk1 | (dsimp only; walk1) | (leave1; walk_say "STEP leave1"; try dsimp only) | (dsimp only; k_unfold; (try dsimp only))))))
        rw [item_head, item_head, sign_in]
        by_cases hm : (c == 63 || c == d) = true
        · rw [if_pos hm]
          (repeat' (first | ((with_reducible show wpAny _ _ _ _ _ _); (fail_if_success (with_reducible show wpAny _ _ (eval (Expr.ListComp _ _ _ _) _) _ _ _)); (fail_if_success (with_reducible show wpAny _ _ (call (Value.ref _) _) _ _ _)); (first | (k_unfold; (try dsimp only)) | ((with_reducible refine wpAny_execs_cons ?_); (try dsimp only)) | walk1 | (dsimp only; walk1) | (leave1; walk_say "STEP leave1"; try dsimp only) | (dsimp only; k_unfold; (try dsimp only))))))
          (rename Fr _ _ _ _ => F5)
          (rename News _ _ _ _ => N5)
          refine ⟨X.keeps F5.keep, ?_⟩
          rw [slice_dropZ (d :: ds) 1 1 rfl, slice_dropZ (c :: cs) 1 1 rfl]
          refine use_call F5 N5 (ih ds (dp + 1) (un' + 3) _ _ _ _ _ _ (X.keeps F5.keep) (T.keeps F5.keep) (by simp at hd; omega) (by simp at hu'; omega) (by simp at hc; omega) (by simp at hl; omega)) ?_
          rintro v h6 tk6 F6 N6 rfl
          refine ⟨⟨_, _, rfl, F6.keep⟩, ?_⟩
          rw [fits_cons, if_neg hc42]
          dsimp only
          rw [hm, Bool.true_and]
        · rw [if_neg hm]
          (repeat' (first | ((with_reducible show wpAny _ _ _ _ _ _); (fail_if_success (with_reducible show wpAny _ _ (eval (Expr.ListComp _ _ _ _) _) _ _ _)); (fail_if_success (with_reducible show wpAny _ _ (call (Value.ref _) _) _ _ _)); (first | (k_unfold; (try dsimp only)) | ((with_reducible refine wpAny_execs_cons ?_); (try dsimp only)) | walk1 | (dsimp only; walk1) | (leave1; walk_say "STEP leave1"; try dsimp only) | (dsimp only; k_unfold; (try dsimp only))))))
          (rename Fr _ _ _ _ => F9)
          dsimp only
          (try k_unfold)
          exact ⟨⟨_, _, rfl, F9.keep⟩, by rw [fits_cons, if_neg hc42]; simp at hm; simp [hm]⟩
end

section -- part P01o
set_option Elab.async false
set_option maxRecDepth 100000
set_option maxHeartbeats 8000000
theorem reset_P01o : True := by
  w_top off
  trivial
local macro_rules | `(tactic| walk_at "call builtin:len") => `(tactic| (k_here; (with_reducible show wpAny _ _ (call (Value.builtin _) [Value.ref _]) _ _ _); refine PyProof.Rows.len_list (News.isList (by assumption) (.head _)) (by assumption) ?_))

/-- a letter: the last ten binary places of a number -/
def bit (n : Int) (k : Nat) : Int := 97 + (n.fdiv (2 ^ k)).fmod 2
def rowB (n : Int) : List Int := (List.range 10).map (bit n)
def rowI (ns : List Int) : List Int := ns.flatMap rowB
def octB (ns : List Int) (w : Nat) : List Int := (rowI ns).take ((rowI ns).length - (rowI ns).length % w)
def JB (ns : List Int) (i k : Nat) (ys : List Value) : Prop := IntsAre ys (rowI (ns.take i) ++ (rowB (ns.getD i 0)).take k)
theorem intsAre_snoc {vs : List Value} {ns : List Int} (h : IntsAre vs ns) (n : Int) (t : Tok) : IntsAre (vs ++ [.int n t]) (ns ++ [n]) := by
  induction h with
  | nil => exact .cons n t .nil
  | cons m u _ ih => exact .cons m u ih
theorem JB.next {ns : List Int} {i : Nat} {ys : List Value} (hi : i < ns.length) (h : JB ns i 10 ys) : JB ns (i + 1) 0 ys := by
  unfold JB at h ⊢
  rw [show (rowB (ns.getD i 0)).take 10 = rowB (ns.getD i 0) from List.take_of_length_le (by simp [rowB])] at h
  rw [List.take_zero, List.append_nil, List.take_add_one]
  have e : ns[i]? = some (ns.getD i 0) := by rw [List.getD_eq_getElem?_getD, List.getElem?_eq_getElem hi]; rfl
  rw [e]
  simpa [rowI] using h
theorem JB.push {ns : List Int} {i k : Nat} {ys : List Value} {x n : Int} {t : Tok} (hk : k < 10) (hn : ns[i]? = some n) (hx : x = bit n k) (h : JB ns i k ys) : JB ns i (k + 1) (ys ++ [.int x t]) := by
  unfold JB at h ⊢
  rw [List.take_add_one, ← List.append_assoc]
  have e : (rowB (ns.getD i 0))[k]? = some x := by
    rw [rowB, List.getElem?_map, List.getElem?_range hk, hx, List.getD_eq_getElem?_getD, hn]; rfl
  rw [e]
  exact intsAre_snoc h x t
theorem bit_mem (n : Int) (k : Nat) : bit n k ∈ [97, 98] := by
  unfold bit
  have h0 : 0 ≤ (n.fdiv (2 ^ k)).fmod 2 := Int.fmod_nonneg_of_pos _ (by decide)
  have h1 : (n.fdiv (2 ^ k)).fmod 2 < 2 := Int.fmod_lt_of_pos _ (by decide)
  generalize (n.fdiv (2 ^ k)).fmod 2 = r at *
  rcases (by omega : r = 0 ∨ r = 1) with rfl | rfl <;> decide
theorem rowI_mem {ns : List Int} {c : Int} (h : c ∈ rowI ns) : c ∈ [97, 98] := by
  obtain ⟨n, _, h⟩ := List.mem_flatMap.mp h
  obtain ⟨k, _, rfl⟩ := List.mem_map.mp h
  exact bit_mem n k
theorem octB_mem {ns : List Int} {w : Nat} {c : Int} (h : c ∈ octB ns w) : c ∈ [97, 98] := rowI_mem (List.mem_of_mem_take h)
theorem rowI_length (ns : List Int) : (rowI ns).length = 10 * ns.length := by
  induction ns with
  | nil => rfl
  | cons n ns ih =>
    have e : rowI (n :: ns) = rowB n ++ rowI ns := rfl
    rw [e, List.length_append, ih]
    simp [rowB]
    omega
theorem byteArr_ints {ks : List Int} (h : ∀ c ∈ ks, 0 ≤ c ∧ c < 256) : KBw.bInts (byteArr ks) = ks := by
  simp only [KBw.bInts, byteArr, List.map_map]
  conv => rhs; rw [← List.map_id ks]
  refine List.map_congr_left fun c hc => ?_
  have := h c hc
  simp only [Function.comp, id]
  rw [show (c.toNat.toUInt8).toNat = c.toNat by simp; omega]
  omega
theorem range_walk {prog : Program} {w : World} {A : Around} {E : Value → Shared → Prop} {r : Addr} {b : Int} {n : Nat} {t u v : Tok} {s₃ s₄ : Shared} (hh : A.handled = none) (hr : IsRange s₄.heap r 0 b 1 t u v)
    (hsmall : Builtin.Range.small 0 b 1 = true) (hsz : Builtin.Range.rangeSize 0 b 1 = (n : Int)) (hk : Keeps s₃ s₄) :
    wpAny (model prog w) A (pyIter (.ref r)) (fun it s₅ => ∃ I2 St2, it = .ref I2 ∧ Walks prog w A I2 [I2] [I2] n (fun k u => ∃ t, u = .int (0 + (k : Int) * 1) t) St2 ∧ St2 0 s₅.heap ∧ s₃.heap.get? I2 = none ∧ Keeps s₃ s₅) E s₄ := by
  refine wpAny_pyIter_range hr hsmall ?_
  obtain ⟨h, tk, rfl, hkk⟩ := hk
  refine ⟨_, _, rfl, Walks.range hh _ 0 1 n, ?_, ?_, ⟨_, _, rfl, fun b o e => Heap.get?_push_of_some _ (hkk b o e)⟩⟩
  · show IsRangeIter _ _ _ _ _
    rw [hsz]
    simpa using Heap.get?_push_size _ rfl
  · cases e : s₃.heap.get? h.objs.size with
    | none => rfl
    | some o => exact absurd (Heap.lt_size (hkk _ _ e)) (Nat.lt_irrefl _)
theorem cut_end (n : Nat) {w : Nat} (hw : 0 < w) : (n : Int) - (n : Int).fmod (w : Int) = ((n - n % w : Nat) : Int) := by
  rw [Int.fmod_eq_emod_of_nonneg _ (Int.natCast_nonneg w)]
  have h1 : n % w ≤ n := Nat.mod_le _ _
  have h2 : ((n : Int) % (w : Int)) = ((n % w : Nat) : Int) := (Int.natCast_emod n w).symm
  rw [h2]
  omega
theorem octets_call {w : World} {p : Program} {loose : List Str} {mean : ExcName → Option Value} {mg mb : Str → Option Value}
  {dp un : Nat} {gd : Option (List Code)} {fr : List Env} {s : Shared} {E : Value → Shared → Prop} (X : (Mine.hd.heap_39 w.params).In s.heap) (T : Top p loose mean mg mb s.heap)
  (hd : dp + 5 < recursionLimit) (hu : un + 100 < cLine) (a : Addr) (vs : List Value) (ns : List Int) (hl : s.heap.IsList a vs.toArray) (hi : IntsAre vs ns) (hlen : ns.length ≤ 5) (wd : Nat) (tw : Tok) (hwd : 0 < wd) (hwd2 : wd ≤ 64) :
  wpAny (model PySem.Challenge.rw_il0107_01.row.prog w) (Ar dp un gd fr) (call (.ref 74) [.ref a, .int (wd : Int) tw]) (GivesBytes s (octB ns wd)) E s := by
  revert X
  k_fill
  intro X
  k_dflt (refine' enter (binds := [(Str.ofString "numbers", Value.ref a), (Str.ofString "width", Value.int (wd : Int) tw)]) X T.nolimit ?k6 ?k7 ?k8 ?k9 ?kB ?_ ?c2 ?c3 ?c4 ?c5; (case k6 => k_is); (case k7 => k_is); (case k8 => (show dp < recursionLimit; omega)); (case k9 => exact BindsTo.of_eq rfl); (case kB => exact locs rfl); (case c5 => decide); (case c2 => exact rfl); (case c3 => exact rfl); (case c4 => exact rfl); k_whole; intro L' h' F'; (try dsimp only [List.reverse_cons, List.reverse_nil, List.nil_append, List.cons_append, List.length_cons, List.length_nil] at F' ⊢); (try k_fold))
  have N' := News.nil (h₀ := s.heap) (h := h') (L := L')
  refine wpAny_execs_cons ?_
  refine wpAny_Assign_two (cl := []) rfl (closureFor_none (by decide)) (by decide) rfl (by decide) rfl rfl (by decide) rfl rfl ?_
  (repeat' (first | ((fail_if_success (with_reducible show wpAny _ _ (pyIter _) _ _ _)); (first | (k_unfold; (try dsimp only)) | ((with_reducible refine wpAny_execs_cons ?_); (try dsimp only)) | walk1 | (dsimp only; walk1) | (leave1; walk_say "STEP leave1"; try dsimp only) | (dsimp only; k_unfold; (try dsimp only))))))
  (rename Fr _ _ _ _ => lF)
  have hl' : Heap.IsList _ a vs.toArray := hl.at fun o e => lF.keep _ o e
  refine wpAny_pyIter_list hl' ?_
  have hvl : vs.toArray.size = ns.length := by rw [List.size_toArray]; exact hi.length
  have hne : a ≠ h'.objs.size := by obtain ⟨o, ho, _⟩ := hl'; exact Nat.ne_of_lt (Heap.lt_size ho)
  have hlt : a < h'.objs.size := by obtain ⟨o, ho, _⟩ := hl'; exact Heap.lt_size ho
  have hLlt : L' < h'.objs.size := by obtain ⟨o, _, _, ho, _⟩ := lF.ns; exact Heap.lt_size ho
  refine ⟨_, [h'.objs.size, a], [h'.objs.size], vs.toArray.size, 10, fun i v => vs.toArray[i]? = some v, fun k u => ∃ t, u = .int (0 + (k : Int) * 1) t, _, JB ns, (fun y => List.lookup y [(Str.ofString "numbers", Value.ref a), (Str.ofString "width", Value.int (wd : Int) tw)].reverse), rfl, Walks.list rfl _ a hne vs.toArray, ?z1, ⟨⟨_, Heap.get?_push_size _ rfl, rfl, rfl⟩, hl'.push _⟩, ?z2, ?z3, ?z8, ?z9, ⟨?z4, ?z5, ?z6⟩, ?z7⟩
  case z1 => rw [hvl, sizeLine_eq]; omega
  case z2 =>
    intro b hb
    show b < (Heap.push h' _).objs.size
    rw [Heap.size_push]
    rcases List.mem_cons.mp hb with rfl | hb
    · exact Nat.lt_succ_self _
    · rw [List.mem_singleton.mp hb]; exact Nat.lt_succ_of_lt hlt
  case z3 => exact .nil
  case z8 => exact fun hm => Nat.ne_of_lt hLlt (List.mem_singleton.mp hm)
  case z9 => exact lF.ns.keeps fun b o e => Heap.get?_push_of_some _ e
  case z6 => exact fun i ys hi' hJ => JB.next (by rw [← hvl]; exact hi') hJ
  case z4 =>
    rintro C i v s₃ m₃ E' hC hi' hv hns hm hk
    have F3 : Fr s.heap C s₃.heap m₃ := ⟨hns, fun b o e => hk b o (fun hb => by
      have h1 := Heap.lt_size (lF.keep b o e)
      rw [List.mem_singleton.mp hb] at h1
      exact Nat.lt_irrefl _ h1) (Heap.get?_push_of_some _ (lF.keep b o e)), by
        have h1 : (Heap.push h' _).objs.size ≤ C := hC
        rw [Heap.size_push] at h1
        exact Nat.le_trans lF.above (Nat.le_of_lt (Nat.lt_of_lt_of_le hLlt (Nat.le_of_succ_le h1)))⟩
    have N3 := News.nil (h₀ := s.heap) (h := s₃.heap) (L := C)
    clear N' hl' hne hlt hLlt hk lF
    (repeat' (first | ((fail_if_success (with_reducible show wpAny _ _ (pyIter _) _ _ _)); (first | (k_unfold; (try dsimp only)) | ((with_reducible refine wpAny_execs_cons ?_); (try dsimp only)) | walk1 | (dsimp only; walk1) | (leave1; walk_say "STEP leave1"; try dsimp only) | (dsimp only; k_unfold; (try dsimp only))))))
    (rename IsRange _ _ _ _ _ _ _ _ => lR)
    (rename Fr _ _ _ _ => lF3)
    exact range_walk rfl lR (small_one (by omega) (by omega) (by omega) (by omega)) rfl ⟨_, _, rfl, by assumption⟩
  case z5 =>
    rintro C i k v u s₃ m₃ E' hC hi' hk10 hv ⟨tu, rfl⟩ hns hm hm2 hk
    obtain ⟨n, tv, rfl, hnv⟩ := IntsAre.at hi i v (by simpa using hv)
    have F3 : Fr s.heap C s₃.heap m₃ := ⟨hns, fun b o e => hk b o (fun hb => by
      have h1 := Heap.lt_size (lF.keep b o e)
      rw [List.mem_singleton.mp hb] at h1
      exact Nat.lt_irrefl _ h1) (Heap.get?_push_of_some _ (lF.keep b o e)), by
        have h1 : (Heap.push h' _).objs.size ≤ C := hC
        rw [Heap.size_push] at h1
        exact Nat.le_trans lF.above (Nat.le_of_lt (Nat.lt_of_lt_of_le hLlt (Nat.le_of_succ_le h1)))⟩
    have N3 := News.nil (h₀ := s.heap) (h := s₃.heap) (L := C)
    clear N' hl' hne hlt hLlt hk lF
    (repeat' (first | ((fail_if_success (with_reducible show wpAny _ _ (pyIter _) _ _ _)); (first | (k_unfold; (try dsimp only)) | ((with_reducible refine wpAny_execs_cons ?_); (try dsimp only)) | walk1 | (dsimp only; walk1) | (leave1; walk_say "STEP leave1"; try dsimp only) | (dsimp only; k_unfold; (try dsimp only))))))
    · refine JB.push hk10 hnv ?_ (by assumption)
      rw [show (0 + (k : Int) * 1).toNat = k by omega]
      rfl
    · exact ⟨_, _, rfl, fun b o e => e⟩
  case z7 =>
    intro D h2 tk2 ys hD hpl hJ hns2 hk
    obtain ⟨c, hc⟩ := hpl
    have hI : ∀ b o, h'.get? b = some o → b ∉ [h'.objs.size] := fun b o e hb => by
      have h1 := Heap.lt_size e
      rw [List.mem_singleton.mp hb] at h1
      exact Nat.lt_irrefl _ h1
    have hDn : h'.get? D = none := by
      cases e : h'.get? D with
      | none => rfl
      | some o => have h3 := Heap.get?_push_of_some { cls := Value.type "list_iterator", data := Data.fields #[Value.ref a, Value.int 0 0] } e; rw [show Heap.get? _ D = none from hD] at h3; cases h3
    have F2 : Fr s.heap L' h2 _ := ⟨hns2, fun b o e => hk b o (fun q => by
      rw [q] at e
      exact Nat.lt_irrefl _ (Nat.lt_of_lt_of_le (Heap.lt_size e) lF.above)) (hI b o (lF.keep b o e)) (Heap.get?_push_of_some _ (lF.keep b o e)), lF.above⟩
    have N2 : News s.heap L' h2 [(D, listOf ys.toList.toArray c)] := fun q hq => by
      obtain rfl := List.mem_singleton.mp hq
      refine ⟨by rw [Array.toArray_toList]; exact hc, fun e => ?_, ?_⟩
      · obtain ⟨o, _, _, ho, _⟩ := lF.ns
        have e' : D = L' := e
        rw [← e', hDn] at ho
        cases ho
      · cases e : s.heap.get? D with
        | none => rfl
        | some o => rw [lF.keep D o e] at hDn; cases hDn
    unfold JB at hJ
    rw [List.take_zero, List.append_nil, List.take_of_length_le (by rw [hvl]; exact Nat.le_refl _)] at hJ
    generalize ys.toList = zs at hJ N2
    have hzl : zs.length = 10 * ns.length := by rw [hJ.length, rowI_length]
    have hzz : zs.toArray.size ≤ sizeLine := by rw [List.size_toArray, hzl, sizeLine_eq]; omega
    have hzf : ((zs.toArray.size : Nat) : Int) < 2 ^ 63 := by rw [List.size_toArray, hzl]; omega
    clear N' hl' hne hlt hLlt hk lF hc hD hI hDn hns2
    dsimp only
    (repeat' (first | ((with_reducible show wpAny _ _ _ _ _ _); (fail_if_success (with_reducible show wpAny _ _ (pyIter _) _ _ _)); (fail_if_success (with_reducible show wpAny _ _ (subscriptTail _ _ (Value.ref _) (Value.ref _)) _ _ _)); (fail_if_success (with_reducible show wpAny _ _ (call (Value.type "bytes") _) _ _ _)); (first | (k_unfold; (try dsimp only)) | ((with_reducible refine wpAny_execs_cons ?_); (try dsimp only)) | walk1 | (dsimp only; walk1) | (leave1; walk_say "STEP leave1"; try dsimp only) | (dsimp only; k_unfold; (try dsimp only))))))
    have hz1 : zs.toArray.size = (rowI ns).length := by rw [List.size_toArray, hJ.length]
    have hY := cut_end (rowI ns).length hwd
    rw [← hz1] at hY
    refine kmk_slice_ints F2 N2 (News.isList N2 (.head _)) IsPart.none (IsPart.int _ _) hJ (kmk_upto hJ (by rw [hY]; exact Int.natCast_nonneg _)) rfl (fun D3 ws h3 F3 N3 l3 hI3 _ _ => ?_) (by with_unfolding_all rfl) (fun _ => rfl) hzz
    have hI4 : IntsAre ws (octB ns wd) := by
      rw [hY, Int.toNat_natCast, hz1] at hI3
      exact hI3
    clear hI3 F2 N2
    (repeat' (first | ((with_reducible show wpAny _ _ _ _ _ _); (fail_if_success (with_reducible show wpAny _ _ (pyIter _) _ _ _)); (fail_if_success (with_reducible show wpAny _ _ (subscriptTail _ _ (Value.ref _) (Value.ref _)) _ _ _)); (fail_if_success (with_reducible show wpAny _ _ (call (Value.type "bytes") _) _ _ _)); (first | (k_unfold; (try dsimp only)) | ((with_reducible refine wpAny_execs_cons ?_); (try dsimp only)) | walk1 | (dsimp only; walk1) | (leave1; walk_say "STEP leave1"; try dsimp only) | (dsimp only; k_unfold; (try dsimp only))))))
    refine call_bytes_ints (News.isList N3 (.head _)) hI4 (fun c hc => (by decide : ∀ c ∈ ([97, 98] : List Int), 0 ≤ c ∧ c < 256) c (octB_mem hc)) ?_ rfl fun h5 t5 k5 hk5 => ?_
    · rw [hI4.length, sizeLine_eq, octB, List.length_take, rowI_length]
      omega
    · have F5 := F3.keeps hk5
      clear F3 N3
      (repeat' (first | ((with_reducible show wpAny _ _ _ _ _ _); (fail_if_success (with_reducible show wpAny _ _ (pyIter _) _ _ _)); (fail_if_success (with_reducible show wpAny _ _ (subscriptTail _ _ (Value.ref _) (Value.ref _)) _ _ _)); (fail_if_success (with_reducible show wpAny _ _ (call (Value.type "bytes") _) _ _ _)); (first | (k_unfold; (try dsimp only)) | ((with_reducible refine wpAny_execs_cons ?_); (try dsimp only)) | walk1 | (dsimp only; walk1) | (leave1; walk_say "STEP leave1"; try dsimp only) | (dsimp only; k_unfold; (try dsimp only))))))
      (rename Fr _ _ _ _ => F9)
      show GivesBytes s (octB ns wd) (.bytes _ t5) _
      exact ⟨⟨_, _, rfl, F9.keep⟩, _, _, rfl, byteArr_ints fun c hc => (by decide : ∀ c ∈ ([97, 98] : List Int), 0 ≤ c ∧ c < 256) c (octB_mem hc)⟩
end

section -- part P01e
set_option Elab.async false
set_option maxRecDepth 100000
set_option maxHeartbeats 8000000
theorem reset_P01e : True := by
  w_top off
  trivial


theorem esc_call {w : World} {p : Program} {loose : List Str} {mean : ExcName → Option Value} {mg mb : Str → Option Value}
  {dp un : Nat} {gd : Option (List Code)} {fr : List Env} {s : Shared} {E : Value → Shared → Prop} (X : (Mine.hd.heap_39 w.params).In s.heap) (T : Top p loose mean mg mb s.heap)
  (hd : dp + 5 < recursionLimit) (c : Nat) (t : Tok) (hc : c ∈ [97, 98]) :
  wpAny (model PySem.Challenge.rw_il0107_01.row.prog w) (Ar dp un gd fr) (call (.ref 55) [.str ⟨#[c]⟩ t]) (fun v s' => Keeps s s' ∧ ∃ t', s.toks ≤ t' ∧ v = .str (escC c) t') E s := by
  revert X
  k_fill
  intro X
  k_dflt (refine' enter (binds := [(Str.ofString "pattern", Value.str ⟨#[c]⟩ t)]) X T.nolimit ?k6 ?k7 ?k8 ?k9 ?kB ?_ ?c2 ?c3 ?c4 ?c5; (case k6 => k_is); (case k7 => k_is); (case k8 => (show dp < recursionLimit; omega)); (case k9 => exact BindsTo.of_eq rfl); (case kB => exact locs rfl); (case c5 => decide); (case c2 => exact rfl); (case c3 => exact rfl); (case c4 => exact rfl); k_whole; intro L' h' F'; (try dsimp only [List.reverse_cons, List.reverse_nil, List.nil_append, List.cons_append, List.length_cons, List.length_nil] at F' ⊢); (try k_fold))
  have N' := News.nil (h₀ := s.heap) (h := h') (L := L')
  repeat' (first | ((fail_if_success (with_reducible show wpAny _ _ (call (Value.builtin "str.translate") _) _ _ _)); (first | (k_unfold; (try dsimp only)) | ((with_reducible refine wpAny_execs_cons ?_); (try dsimp only)) | walk1 | (dsimp only; walk1) | (leave1; walk_say "STEP leave1"; try dsimp only) | (dsimp only; k_unfold; (try dsimp only)))))
  refine method_translate ?_
  repeat' (first | ((fail_if_success (with_reducible show wpAny _ _ (call (Value.builtin "str.translate") _) _ _ _)); (first | (k_unfold; (try dsimp only)) | ((with_reducible refine wpAny_execs_cons ?_); (try dsimp only)) | walk1 | (dsimp only; walk1) | (leave1; walk_say "STEP leave1"; try dsimp only) | (dsimp only; k_unfold; (try dsimp only)))))
  k_dflt (refine' mapsTo_use (prog := PySem.Challenge.rw_il0107_01.row.prog) (w := w) (h := h') (a := 45) ?k1 ?k2 ?k3 ?_; (case k1 => exact X.keeps F'.keep); (case k2 => k_is); (case k3 => decide +kernel))
  intro hm
  simp only [List.mem_cons, List.not_mem_nil, or_false] at hc
  rcases hc with rfl | rfl
  · refine call_translate_miss (by decide) rfl hm (by decide +kernel) (by decide) fun h1 tk hk htk => ?_
    k_unfold
    exact ⟨⟨_, _, rfl, fun b o e => hk _ _ (F'.keep _ _ e)⟩, _, Nat.le_trans (Nat.le_add_right _ _) htk, rfl⟩
  · refine call_translate_miss (by decide) rfl hm (by decide +kernel) (by decide) fun h1 tk hk htk => ?_
    k_unfold
    exact ⟨⟨_, _, rfl, fun b o e => hk _ _ (F'.keep _ _ e)⟩, _, Nat.le_trans (Nat.le_add_right _ _) htk, rfl⟩
end

section -- part P01t
set_option Elab.async false
set_option maxRecDepth 100000
set_option maxHeartbeats 8000000
theorem reset_P01t : True := by
  w_top off
  trivial

local macro_rules | `(tactic| walk_at "getAttr ref") => `(tactic| (k_here; (with_reducible show wpAny _ _ (getAttr (Value.ref _) (PySem.Str.ofString "append") true) _ _ _); k_dflt (refine' getAttr_appN ?k1 ?k2 ?k3 ?_; (case k1 => k_asm); (case k2 => k_asm); (case k3 => k_mem); k_whole); intro q' h' tk' htk' F' N' l1; (try dsimp only at htk'); (try k_lt l1); (try k_sweep)))
local macro_rules | `(tactic| walk_at "callWith ref") => `(tactic| (k_here; (with_reducible show wpAny _ _ (callWith _ (Value.ref _) _ (backTo _ (starEach (_ :: _) _)) []) _ _ _); k_dflt (refine' callWith_app ?k1 ?k2 ?_; (case k1 => k_asm); (case k2 => k_mem); k_whole)))
local macro_rules | `(tactic| walk_at "And") => `(tactic| ((with_reducible show AtApp _ _ _ ∧ _); k_dflt (refine ⟨AtApp.of (by k_asm) (by k_mem), ?_⟩); (try dsimp only [List.nil_append, List.cons_append])))
local macro_rules | `(tactic| walk_at "call ref") => `(tactic| (k_here; (with_reducible show wpAny _ _ (call (Value.ref _) [_]) _ _ _); k_dflt (refine' call_appN ?k1 ?k2 ?k3 ?k4 ?_ ?z; (case k1 => k_asm); (case k2 => k_asm); (case k3 => k_mem); (case k4 => k_upd); (case z => assumption); k_whole); intro h' F' N'; (try k_sweep)))
local macro_rules | `(tactic| walk_at "subscriptTail Name Name str int") => `(tactic| (k_here; k_dflt (refine' item_sign (by assumption) (by assumption) ?_)))
local macro_rules | `(tactic| walk_at "truthy ref") => `(tactic| (k_here; k_dflt (refine' truthy_led ?k1 ?k2 ?k3 ?_; (case k1 => k_asm); (case k2 => k_mem); (case k3 => assumption); k_whole)))
local macro_rules | `(tactic| walk_at "compareOp IsNot str str") => `(tactic| (k_here; k_dflt (refine' isnot_str ?k1 ?k2 ?k3 ?_; (case k1 => assumption); (case k2 => assumption); (case k3 => assumption); k_whole)))
local macro_rules | `(tactic| walk_at "subscriptTail") => `(tactic| (k_here; (with_reducible show wpAny _ _ (subscriptTail _ _ (Value.ref _) (Value.int (-1) _)) _ _ _); k_dflt (refine' last_led ?k1 ?k2 ?_; (case k1 => k_asm); (case k2 => k_mem); k_whole)))
theorem esc_use {w : World} {p : Program} {loose : List Str} {mean : ExcName → Option Value} {mg mb : Str → Option Value}
  {dp un : Nat} {gd : Option (List Code)} {fr : List Env} {s : Shared} {E : Value → Shared → Prop} {x y : Str} {i c : Nat} {t : Tok} (_hd : x.cps[i]? = some c) (hy : y = ⟨#[c]⟩) (X : (Mine.hd.heap_39 w.params).In s.heap) (T : Top p loose mean mg mb s.heap)
  (hd : dp + 5 < recursionLimit) (hc : c ∈ [97, 98]) :
  wpAny (model PySem.Challenge.rw_il0107_01.row.prog w) (Ar dp un gd fr) (call (.ref 55) [.str y t]) (fun v s' => Keeps s s' ∧ ∃ t', s.toks ≤ t' ∧ v = .str (escC c) t') E s := by
  subst hy
  exact esc_call X T hd c t hc
local macro_rules | `(tactic| walk_at "call ref") => `(tactic| (k_here; (with_reducible show wpAny _ _ (call (Value.ref 55) [Value.str _ _]) _ _ _); k_dflt (refine' use_call ?k1 ?k2 (esc_use ?k0 ?ky ?k3 ?k4 ?k5 ?k6) ?_; (case k0 => assumption); (case ky => decide +kernel); (case k1 => k_asm); (case k2 => k_asm); (case k3 => exact Frag.In.keeps (by assumption) (Fr.keep (by assumption))); (case k4 => exact Top.keeps (by assumption) (Fr.keep (by assumption))); (case k5 => first | omega | (dsimp only; omega)); (case k6 => decide)); rintro v' h' tk' F' N' ⟨t', ht', e'⟩; subst e'; (try k_sweep)))
theorem trans_call {w : World} {p : Program} {loose : List Str} {mean : ExcName → Option Value} {mg mb : Str → Option Value}
  {dp un : Nat} {gd : Option (List Code)} {fr : List Env} {s : Shared} {E : Value → Shared → Prop} (X : (Mine.hd.heap_39 w.params).In s.heap) (T : Top p loose mean mg mb s.heap)
  (hd : dp + 10 < recursionLimit) (x : Str) (t ts tq : Nat) (hx : x.length ≤ 64) (hsg : ∀ (i d : Nat), x.cps[i]? = some d → d ∈ [42, 63, 97, 98]) (ht0 : ts ≠ 0) (hq0 : tq ≠ 0) (htq : tq ≠ ts) (hts : ts < s.toks) :
  wpAny (model PySem.Challenge.rw_il0107_01.row.prog w) (Ar dp un gd fr) (call (.ref 62) [.str x t, .str (Str.ofString "*") ts, .str (Str.ofString "?") tq]) (GivesStrs s (partsL none x.cps.toList)) E s := by
  revert X
  k_fill
  intro X
  k_dflt (refine' enter (binds := [(Str.ofString "pat", Value.str x t), (Str.ofString "STAR", Value.str (Str.ofString "*") ts), (Str.ofString "QUESTION_MARK", Value.str (Str.ofString "?") tq)]) X T.nolimit ?k6 ?k7 ?k8 ?k9 ?kB ?_ ?c2 ?c3 ?c4 ?c5; (case k6 => k_is); (case k7 => k_is); (case k8 => (show dp < recursionLimit; omega)); (case k9 => exact BindsTo.of_eq rfl); (case kB => exact locs rfl); (case c5 => decide); (case c2 => exact rfl); (case c3 => exact rfl); (case c4 => exact rfl); k_whole; intro L' h' F'; (try dsimp only [List.reverse_cons, List.reverse_nil, List.nil_append, List.cons_append, List.length_cons, List.length_nil] at F' ⊢); (try k_fold))
  have N' := News.nil (h₀ := s.heap) (h := h') (L := L')
  (repeat' (first | ((fail_if_success (with_reducible show wpAny _ _ (exec (Stmt.While _ _ _ _) _) _ _ _)); (first | (k_unfold; (try dsimp only)) | ((with_reducible refine wpAny_execs_cons ?_); (try dsimp only)) | ((with_reducible refine wpAny_execs_nil ?_); (try dsimp only)) | walk1 | (dsimp only; walk1) | (leave1; walk_say "STEP leave1"; try dsimp only) | (dsimp only; k_unfold; (try dsimp only))))))
  (rename Fr _ _ _ _ => lF)
  (rename News _ _ _ _ => lN)
  (with_unfolding_all refine' while_st s.toks (fun c : TrSt => [(_, appM _), (_, listOf c.vs.toArray c.ep)]) (fun c => [(Str.ofString "i", Value.int (c.i : Int) c.ti)]) [Str.ofString "c"] (fun c => c.i ≤ x.length ∧ StrsAre c.vs (partsL none (x.cps.toList.take c.i)) ∧ LastTok ts c.vs) (fun c => x.length - c.i) ⟨0, _, [], 0⟩ ?k0 lF (fun p hp => lN p (List.mem_cons_of_mem _ hp)) ?k1 ?k2 ?k3)
  (case k1 => intro p hp; rw [List.mem_singleton.mp hp]; rfl)
  (case k0 => (dsimp only; omega))
  (case k2 => exact ⟨Nat.zero_le _, .nil, LastTok.nil⟩)
  case k3 =>
    intro c u h' tk htk hP F' N'
    obtain ⟨hi, hS, hLast⟩ := hP
    obtain ⟨i, ti, vs, ep⟩ := c
    dsimp only at hi hS hLast F' N' ⊢
    have hvl : vs.length ≤ 64 := by
      rw [StrsAre.length hS]
      have := partsL_len (x.cps.toList.take i) none
      rw [List.length_take] at this
      omega
    have hvs : vs.toArray.size ≤ sizeLine := by rw [List.size_toArray, sizeLine_eq]; omega
    have hvm : vs.length ≤ 1000000 := by omega
    by_cases hlt : i < x.length
    · obtain ⟨d, hd'⟩ := sign_at hlt
      have hdm := hsg i d hd'
      simp only [List.mem_cons, List.not_mem_nil, or_false] at hdm
      rcases hdm with rfl | rfl | rfl | rfl
      · rcases strsAre_split hS with hv | ⟨ws, y, t9, hv⟩
        · subst hv
          have hem : (!([] : List Value).isEmpty) = false := rfl
          (try k_fold)
          (repeat' (first | ((fail_if_success (with_reducible show WPost _ _ _ _ _ _ _ _ _ _ _ _ _)); (fail_if_success (with_reducible show GivesStrs _ _ _ _)); (first | (k_unfold; (try dsimp only)) | ((with_reducible refine wpAny_execs_cons ?_); (try dsimp only)) | ((with_reducible refine wpAny_execs_nil ?_); (try dsimp only)) | walk1 | (dsimp only; walk1) | (leave1; walk_say "STEP leave1"; try dsimp only) | (dsimp only; k_unfold; (try dsimp only))))))
          (rename News _ _ _ _ => nE)
          (try simp only [List.push_toArray, List.nil_append] at nE)
          exact WPost.end ⟨i + 1, _, [_], ep + 1⟩ (by assumption) nE (fun p hp => hp) (by intro p hp; rw [List.mem_singleton.mp hp]; rfl) (by intro z h2 h3; simp only [List.forall_mem_cons, List.not_mem_nil, false_implies, implies_true, and_true, ne_eq] at h2; simp only [List.contains_cons, List.contains_nil, Bool.or_false, beq_eq_false_iff_ne, ne_eq] at h3; simp [kstB, h2, h3]) ⟨hlt, parts_star0 hS hd' _, LastTok.star (vs := []) ht0⟩ (by dsimp only; omega)
        · subst hv
          have hem : (!(ws ++ [Value.str y t9]).isEmpty) = true := by simp
          obtain ⟨h90, h9⟩ := hLast ws y t9 rfl
          (try k_fold)
          (repeat' (first | ((fail_if_success (with_reducible show WPost _ _ _ _ _ _ _ _ _ _ _ _ _)); (fail_if_success (with_reducible show GivesStrs _ _ _ _)); (first | (k_unfold; (try dsimp only)) | ((with_reducible refine wpAny_execs_cons ?_); (try dsimp only)) | ((with_reducible refine wpAny_execs_nil ?_); (try dsimp only)) | walk1 | (dsimp only; walk1) | (leave1; walk_say "STEP leave1"; try dsimp only) | (dsimp only; k_unfold; (try dsimp only))))))
          · (rename News _ _ _ _ => nE)
            (try simp only [List.push_toArray] at nE)
            exact WPost.end ⟨i + 1, _, (ws ++ [Value.str y t9]) ++ [_], ep + 1⟩ (by assumption) nE (fun p hp => hp) (by intro p hp; rw [List.mem_singleton.mp hp]; rfl) (by intro z h2 h3; simp only [List.forall_mem_cons, List.not_mem_nil, false_implies, implies_true, and_true, ne_eq] at h2; simp only [List.contains_cons, List.contains_nil, Bool.or_false, beq_eq_false_iff_ne, ne_eq] at h3; simp [kstB, h2, h3]) ⟨hlt, parts_star1 hS hd' (by assumption) _, LastTok.star ht0⟩ (by dsimp only; omega)
          · (rename News _ _ _ _ => nE)
            exact WPost.end ⟨i + 1, _, ws ++ [Value.str y t9], ep⟩ (by assumption) nE (fun p hp => hp) (by intro p hp; rw [List.mem_singleton.mp hp]; rfl) (by intro z h2 h3; simp only [List.forall_mem_cons, List.not_mem_nil, false_implies, implies_true, and_true, ne_eq] at h2; simp only [List.contains_cons, List.contains_nil, Bool.or_false, beq_eq_false_iff_ne, ne_eq] at h3; simp [kstB, h2, h3]) ⟨hlt, parts_star2 hS hd' (by assumption), hLast⟩ (by dsimp only; omega)
      · (try k_fold)
        (repeat' (first | ((fail_if_success (with_reducible show WPost _ _ _ _ _ _ _ _ _ _ _ _ _)); (fail_if_success (with_reducible show GivesStrs _ _ _ _)); (first | (k_unfold; (try dsimp only)) | ((with_reducible refine wpAny_execs_cons ?_); (try dsimp only)) | ((with_reducible refine wpAny_execs_nil ?_); (try dsimp only)) | walk1 | (dsimp only; walk1) | (leave1; walk_say "STEP leave1"; try dsimp only) | (dsimp only; k_unfold; (try dsimp only))))))
        (rename News _ _ _ _ => nE)
        (try simp only [List.push_toArray] at nE)
        exact WPost.end ⟨i + 1, _, vs ++ [_], ep + 1⟩ (by assumption) nE (fun p hp => hp) (by intro p hp; rw [List.mem_singleton.mp hp]; rfl) (by intro z h2 h3; simp only [List.forall_mem_cons, List.not_mem_nil, false_implies, implies_true, and_true, ne_eq] at h2; simp only [List.contains_cons, List.contains_nil, Bool.or_false, beq_eq_false_iff_ne, ne_eq] at h3; simp [kstB, h2, h3]) ⟨hlt, parts_more hS hd' (by decide) (by decide +kernel) _, LastTok.snoc hq0 ⟨fun e => absurd e (by decide +kernel), fun e => absurd e htq⟩⟩ (by dsimp only; omega)
      all_goals
        (try k_fold)
        (repeat' (first | ((fail_if_success (with_reducible show WPost _ _ _ _ _ _ _ _ _ _ _ _ _)); (fail_if_success (with_reducible show GivesStrs _ _ _ _)); (first | (k_unfold; (try dsimp only)) | ((with_reducible refine wpAny_execs_cons ?_); (try dsimp only)) | ((with_reducible refine wpAny_execs_nil ?_); (try dsimp only)) | walk1 | (dsimp only; walk1) | (leave1; walk_say "STEP leave1"; try dsimp only) | (dsimp only; k_unfold; (try dsimp only))))))
        (rename News _ _ _ _ => nE)
        (rename (_ ≤ _) => ht')
        (dsimp only at ht')
        (try simp only [List.push_toArray] at nE)
        exact WPost.end ⟨i + 1, _, vs ++ [_], ep + 1⟩ (by assumption) nE (fun p hp => hp) (by intro p hp; rw [List.mem_singleton.mp hp]; rfl) (by intro z h2 h3; simp only [List.forall_mem_cons, List.not_mem_nil, false_implies, implies_true, and_true, ne_eq] at h2; simp only [List.contains_cons, List.contains_nil, Bool.or_false, beq_eq_false_iff_ne, ne_eq] at h3; simp [kstB, h2, h3]) ⟨hlt, parts_more hS hd' (by decide) rfl _, LastTok.other (by omega) (by decide +kernel)⟩ (by dsimp only; omega)
    · have hin : i = x.length := by omega
      have hbe : ((i : Int) == (x.length : Int)) = true := by rw [hin]; exact beq_self_eq_true _
      have hdl : decide ((i : Int) < (x.length : Int)) = false := decide_eq_false (by omega)
      (try k_fold)
      (repeat' (first | ((fail_if_success (with_reducible show WPost _ _ _ _ _ _ _ _ _ _ _ _ _)); (fail_if_success (with_reducible show GivesStrs _ _ _ _)); (first | (k_unfold; (try dsimp only)) | ((with_reducible refine wpAny_execs_cons ?_); (try dsimp only)) | ((with_reducible refine wpAny_execs_nil ?_); (try dsimp only)) | walk1 | (dsimp only; walk1) | (leave1; walk_say "STEP leave1"; try dsimp only) | (dsimp only; k_unfold; (try dsimp only))))))
      (try dsimp only)
      (try k_unfold)
      (rename News _ _ _ _ => nE)
      (rename Fr _ _ _ _ => fE)
      rw [hin, List.take_of_length_le (Nat.le_refl x.length)] at hS
      exact GivesStrs.intro fE nE (.tail _ (.head _)) hS
end

section -- part P01d
set_option Elab.async false
set_option maxRecDepth 100000
set_option maxHeartbeats 8000000
theorem reset_P01d : True := by
  w_top off
  trivial
local macro_rules | `(tactic| walk_at "truthy ref") => `(tactic| (k_here; k_dflt (refine' truthy_led ?k1 ?k2 ?k3 ?_; (case k1 => k_asm); (case k2 => k_mem); (case k3 => assumption); k_whole)))

theorem allLt_mem {d : Addr} : ∀ {l : List (Addr × Obj)}, AllLt d l → ∀ p ∈ l, p.1 < d
  | [], _, _, h => nomatch h
  | _ :: _, x, p, h => by
    rcases List.mem_cons.mp h with rfl | h
    · exact x.1
    · exact allLt_mem x.2 p h
theorem last_append : ∀ (fs : List Value) (x : Value), kl_last (fs ++ [x]) = some (fs, x)
  | [], x => rfl
  | f :: fs, x => by
    show (match kl_last (fs ++ [x]) with | some (p, y) => some (f :: p, y) | none => some ([], f)) = _
    rw [last_append fs x]
theorem last_concat (fs : List Value) (x : Value) : kl_last (fs.concat x).toArray.toList = some (fs, x) := by
  rw [List.concat_eq_append]
  exact last_append fs x
/-- where the while stands: what is left of expected, of actual -/
structure D1St where
  es : List Value
  ec : Nat
  as : List Value
  ac : Nat
/-- what is left when the texts xs are taken out, the last one first -/
def leftOf (xs ys : List Str) : List Str := xs.reverse.foldl List.erase ys
theorem leftOf_snoc (xs ys : List Str) (x : Str) : leftOf (xs ++ [x]) ys = leftOf xs (ys.erase x) := by
  unfold leftOf
  rw [List.reverse_append]
  rfl
def D1Inv (xs ys : List Str) (c : D1St) : Prop :=
  ∃ (us ds : List Str), StrsAre c.es us ∧ c.es.length ≤ 64 ∧ StrsAre c.as ds ∧ ds.length ≤ 64 ∧ (∀ v, us.count v ≤ ds.count v) ∧ leftOf us ds = leftOf xs ys
def isStr (x : Str) : Value → Bool
  | .str y _ => y == x
  | _ => false
theorem erase_at {x : Str} : ∀ {vs : List Value} {ds : List Str}, StrsAre vs ds → x ∈ ds → ∃ j, ∃ hj : j < vs.length, isStr x vs[j] = true ∧ (∀ m (hm : m < vs.length), m < j → isStr x vs[m] = false) ∧ StrsAre (vs.eraseIdx j) (ds.erase x)
  | _, _, .nil, h => by cases h
  | _, _, .cons (vs := vs) (ys := ys) y t r, h => by
    by_cases e : y = x
    · subst e
      exact ⟨0, by simp, by simp [isStr], fun m _ hm => absurd hm (Nat.not_lt_zero m), by simpa using r⟩
    · have h' : x ∈ ys := by
        rcases List.mem_cons.mp h with q | q
        · exact absurd q.symm e
        · exact q
      obtain ⟨j, hj, h1, h2, h3⟩ := erase_at r h'
      refine ⟨j + 1, by simp; omega, by simpa using h1, fun m hm hlt => ?_, ?_⟩
      · cases m with
        | zero => simp [isStr, e]
        | succ m => simpa using h2 m (by simpa using hm) (by omega)
      · rw [List.erase_cons_tail (by simpa using e), List.eraseIdx_cons_succ]
        exact .cons y t h3
theorem strs_split {vs : List Value} {xs : List Str} (h : StrsAre vs xs) {fs : List Value} {x : Value} (e : vs = fs.concat x) : ∃ us y t, xs = us ++ [y] ∧ x = .str y t ∧ StrsAre fs us := by
  subst e
  have hl := h.length
  rcases List.eq_nil_or_concat xs with rfl | ⟨us, y, rfl⟩
  · simp at hl
  · refine ⟨us, y, ?_⟩
    have hlen : fs.length = us.length := by simpa using hl
    obtain ⟨t, ht⟩ := h.get us.length y (by simp)
    have hx : x = .str y t := by
      rw [← hlen] at ht
      simpa using ht
    refine ⟨t, by simp, hx, ?_⟩
    have h3 := h.take' us.length
    rw [← hlen] at h3
    simpa [hlen] using h3
theorem eq_cps (z y : Str) : (z.cps.toList == y.cps.toList) = (z == y) := by
  by_cases h : z = y
  · subst h; simp
  · have : z.cps.toList ≠ y.cps.toList := fun e => h (by cases z; cases y; simpa [Array.toList_inj] using e)
    rw [beq_eq_false_iff_ne.mpr this, beq_eq_false_iff_ne.mpr h]
def D1Post (s : Shared) (e a : Addr) (xs ys : List Str) (v : Value) (s' : Shared) : Prop :=
  ∃ h tk t r o n mc ac' vs', s' = { s with heap := h, toks := tk } ∧ v = .ref t ∧ h.get? t = some o ∧ o.cls = .type "tuple" ∧ o.data = .seq #[Value.ref r, Value.ref a] n ∧
    h.get? r = some (listOf [].toArray mc) ∧ h.get? a = some (listOf vs'.toArray ac') ∧ StrsAre vs' (leftOf xs ys) ∧ s.heap.get? t = none ∧ s.heap.get? r = none ∧ t ≠ r ∧
    ∀ b o, b ≠ e → b ≠ a → s.heap.get? b = some o → h.get? b = some o
/-- the ledger of all_but holds every such object -/
theorem all_but2 (h₀ h : Heap) (L : Addr) (xs : List Addr) (hL : h.get? L = none) : ∃ news, (∀ h' : Heap, (∀ b o, h.get? b = some o → h'.get? b = some o) → News h₀ L h' news) ∧ (∀ p ∈ news, p.1 ∉ xs ∧ p.1 < h.objs.size) ∧
    (∀ h' : Heap, (∀ b o, h₀.get? b = some o → h.get? b = some o) → (∀ b o, h₀.get? b = some o → h'.get? b = some o) → (∀ p ∈ news, h'.get? p.1 = some p.2) → ∀ b o, b ∉ xs → h.get? b = some o → h'.get? b = some o) ∧
    ∀ d : Addr, h₀.get? d = none → d ∉ xs → (∀ p ∈ news, p.1 ≠ d) → h.get? d = none := by
  have full : ∀ b o, b ∉ xs → h₀.get? b = none → h.get? b = some o → (b, o) ∈ (List.range h.objs.size).filterMap fun b => if b ∈ xs ∨ h₀.get? b ≠ none then none else (h.get? b).map fun o => (b, o) := by
    intro b o hbx hb e
    refine List.mem_filterMap.mpr ⟨b, List.mem_range.mpr (Heap.lt_size e), ?_⟩
    rw [if_neg (fun z => z.elim hbx fun z => z hb), e]
    rfl
  refine ⟨(List.range h.objs.size).filterMap fun b => if b ∈ xs ∨ h₀.get? b ≠ none then none else (h.get? b).map fun o => (b, o), ?_, ?_, ?_, ?_⟩
  · intro h' hk p hp
    obtain ⟨b, _, e⟩ := List.mem_filterMap.mp hp
    by_cases hb : b ∈ xs ∨ h₀.get? b ≠ none
    · rw [if_pos hb] at e; cases e
    · rw [if_neg hb] at e
      obtain ⟨o, ho, rfl⟩ := Option.map_eq_some_iff.mp e
      refine ⟨hk _ _ ho, (fun (z : b = L) => by subst z; rw [hL] at ho; cases ho), ?_⟩
      cases q : h₀.get? b with
      | none => rfl
      | some o' => exact absurd (.inr (by rw [q]; exact fun z => by cases z)) hb
  · intro p hp
    obtain ⟨b, hb', e⟩ := List.mem_filterMap.mp hp
    by_cases hb : b ∈ xs ∨ h₀.get? b ≠ none
    · rw [if_pos hb] at e; cases e
    · rw [if_neg hb] at e
      obtain ⟨o, ho, rfl⟩ := Option.map_eq_some_iff.mp e
      exact ⟨fun h => hb (.inl h), List.mem_range.mp hb'⟩
  · intro h' k0 k1 N b o hbx e
    by_cases hb : h₀.get? b = none
    · exact N _ (full b o hbx hb e)
    · obtain ⟨o', ho'⟩ := Option.ne_none_iff_exists'.mp hb
      have := k0 b o' ho'
      rw [e] at this
      cases this
      exact k1 b o ho'
  · intro d h1 h2 h3
    cases e : h.get? d with
    | none => rfl
    | some o => exact absurd rfl (h3 _ (full d o h2 h1 e))
theorem diff1_call {w : World} {p : Program} {loose : List Str} {mean : ExcName → Option Value} {mg mb : Str → Option Value}
  {dp un : Nat} {gd : Option (List Code)} {fr : List Env} {s : Shared} {h₀ : Heap} {E : Value → Shared → Prop} (X : (Mine.hd.heap_39 w.params).In h₀) (T : Top p loose mean mg mb h₀)
  (hk0 : ∀ b o, h₀.get? b = some o → s.heap.get? b = some o) (hz0 : h₀.objs.size ≤ s.heap.objs.size)
  (hd : dp + 5 < recursionLimit) (hu : un + 100 < cLine) (e a : Addr) (es as : List Value) (ec ac : Nat) (he : s.heap.get? e = some (listOf es.toArray ec)) (ha : s.heap.get? a = some (listOf as.toArray ac)) (he0 : h₀.get? e = none) (ha0 : h₀.get? a = none) (hea : e ≠ a)
  (xs ys : List Str) (hx : xs.length ≤ 64) (hy : ys.length ≤ 64) (hE : StrsAre es xs) (hA : StrsAre as ys) (hcnt : ∀ v, xs.count v ≤ ys.count v) :
  wpAny (model PySem.Challenge.rw_il0107_01.row.prog w) (Ar dp un gd fr) (call (.ref 69) [.ref e, .ref a]) (D1Post s e a xs ys) E s := by
  have X1 := X.keeps hk0
  have T1 := T.keeps hk0
  revert X X1
  k_fill
  intro X X1
  k_dflt (refine' enter (binds := [(Str.ofString "expected", Value.ref e), (Str.ofString "actual", Value.ref a)]) X1 T1.nolimit ?k6 ?k7 ?k8 ?k9 ?kB ?_ ?c2 ?c3 ?c4 ?c5; (case k6 => k_is); (case k7 => k_is); (case k8 => (show dp < recursionLimit; omega)); (case k9 => exact BindsTo.of_eq rfl); (case kB => exact locs rfl); (case c5 => decide); (case c2 => exact rfl); (case c3 => exact rfl); (case c4 => exact rfl); k_whole; intro L' h' F0; (try k_fold))
  have F' : Fr h₀ L' h' _ := ⟨F0.ns, fun b o q => F0.keep b o (hk0 b o q), Nat.le_trans hz0 F0.above⟩
  have hLe : ∀ b o, s.heap.get? b = some o → b ≠ L' := fun b o q hb => Nat.lt_irrefl _ (Nat.lt_of_lt_of_le (hb ▸ Heap.lt_size q) F0.above)
  obtain ⟨rest, r1, r2, r3, r4⟩ := all_but2 h₀ s.heap L' (e :: a :: []) (Heap.get?_none_of_le F0.above)
  have N' : News h₀ L' h' ((e, listOf es.toArray ec) :: (a, listOf as.toArray ac) :: rest) := fun q hq => by
    rcases List.mem_cons.mp hq with rfl | hq
    · exact ⟨F0.keep _ _ he, hLe _ _ he, he0⟩
    · rcases List.mem_cons.mp hq with rfl | hq
      · exact ⟨F0.keep _ _ ha, hLe _ _ ha, ha0⟩
      · exact r1 h' F0.keep q hq
  have hr2 : ∀ q ∈ rest, q.1 ≠ e ∧ q.1 ≠ a := fun q hq => ⟨fun z => (r2 q hq).1 (by rw [z]; exact List.mem_cons_self), fun z => (r2 q hq).1 (by rw [z]; exact List.mem_cons_of_mem _ List.mem_cons_self)⟩
  clear X1 T1 r1
  (repeat' (first | ((fail_if_success (with_reducible show wpAny _ _ (exec (Stmt.While _ _ _ _) _) _ _ _)); (first | (k_unfold; (try dsimp only)) | ((with_reducible refine wpAny_execs_cons ?_); (try dsimp only)) | ((with_reducible refine wpAny_execs_nil ?_); (try dsimp only)) | walk1 | (dsimp only; walk1) | (leave1; walk_say "STEP leave1"; try dsimp only) | (dsimp only; k_unfold; (try dsimp only))))))
  (rename Fr _ _ _ _ => lF)
  (rename News _ _ _ _ => lN)
  (rename _ ∧ _ ∧ AllLt _ _ => l1a)
  (with_unfolding_all refine' while_st s.toks (fun c : D1St => (_, listOf ([] : List Value).toArray 0) :: (_, listOf c.es.toArray c.ec) :: (_, listOf c.as.toArray c.ac) :: rest) (fun c => []) [Str.ofString "item"] (D1Inv xs ys) (fun c => c.es.length) ⟨es, ec, as, ac⟩ ?k0 lF lN ?k1 ?k2 ?k3)
  (case k1 => intro p hp; cases hp)
  (case k0 => (dsimp only; omega))
  (case k2 => exact ⟨xs, ys, hE, by rw [hE.length]; exact hx, hA, hy, hcnt, rfl⟩)
  case k3 =>
    intro c u h' tk htk hP F' N'
    obtain ⟨es', ec', as', ac'⟩ := c
    obtain ⟨us, ds, hSE, hle, hSA, hld, hct, hfin⟩ := hP
    dsimp only at hSE hle hSA hfin F' N' ⊢
    have hvs : es'.toArray.size ≤ sizeLine := by rw [List.size_toArray, sizeLine_eq]; omega
    have hvm : es'.length ≤ 1000000 := by omega
    rcases List.eq_nil_or_concat es' with rfl | ⟨fs, x, rfl⟩
    · have hem : (!([] : List Value).isEmpty) = false := rfl
      (try k_fold)
      (repeat' (first | ((fail_if_success (with_reducible show WPost _ _ _ _ _ _ _ _ _ _ _ _ _)); (first | (k_unfold; (try dsimp only)) | ((with_reducible refine wpAny_execs_cons ?_); (try dsimp only)) | ((with_reducible refine wpAny_execs_nil ?_); (try dsimp only)) | walk1 | (dsimp only; walk1) | (leave1; walk_say "STEP leave1"; try dsimp only) | (dsimp only; k_unfold; (try dsimp only))))))
      (rename News _ _ _ _ => EN)
      (rename Fr _ _ _ _ => EF)
      (rename _ ∧ _ ∧ _ ∧ AllLt _ _ => l2a)
      have hus : us = [] := by cases hSE; rfl
      subst hus
      have hl : ds = leftOf xs ys := hfin
      refine ⟨_, _, _, _, _, _, 0, ac', as', rfl, rfl, (EN _ List.mem_cons_self).1, rfl, rfl, (EN _ (List.mem_cons_of_mem _ List.mem_cons_self)).1, (EN _ (List.mem_cons_of_mem _ (List.mem_cons_of_mem _ (List.mem_cons_of_mem _ List.mem_cons_self)))).1, by rw [← hl]; exact hSA, ?_, ?_, ?_, fun b o hb1 hb2 hbo => ?_⟩
      · refine r4 _ (EN _ List.mem_cons_self).2.2 ?_ fun p hp => Nat.ne_of_lt (allLt_mem l2a.2.2.2 p hp)
        simp only [List.mem_cons, List.not_mem_nil, or_false, not_or]
        exact ⟨Nat.ne_of_gt l2a.2.1, Nat.ne_of_gt l2a.2.2.1⟩
      · refine r4 _ (EN _ (List.mem_cons_of_mem _ List.mem_cons_self)).2.2 ?_ fun p hp => Nat.ne_of_lt (allLt_mem l1a.2.2 p hp)
        simp only [List.mem_cons, List.not_mem_nil, or_false, not_or]
        exact ⟨Nat.ne_of_gt l1a.1, Nat.ne_of_gt l1a.2.1⟩
      · exact Nat.ne_of_gt l2a.1
      exact r3 _ hk0 EF.keep (fun q hq => (EN q (List.mem_cons_of_mem _ (List.mem_cons_of_mem _ (List.mem_cons_of_mem _ (List.mem_cons_of_mem _ hq))))).1) b o (by simp only [List.mem_cons, List.not_mem_nil, or_false, not_or]; exact ⟨hb1, hb2⟩) hbo
    · have hem : (!(fs.concat x).isEmpty) = true := by simp
      have hpz : (fs.concat x).toArray.toList.length ≤ sizeLine := by rw [sizeLine_eq]; simpa using (by omega : (fs.concat x).length ≤ 16777216)
      (try k_fold)
      (repeat' (first | ((fail_if_success (with_reducible show WPost _ _ _ _ _ _ _ _ _ _ _ _ _)); (first | (k_unfold; (try dsimp only)) | ((with_reducible refine wpAny_execs_cons ?_); (try dsimp only)) | ((with_reducible refine wpAny_execs_nil ?_); (try dsimp only)) | walk1 | (dsimp only; walk1) | (leave1; walk_say "STEP leave1"; try dsimp only) | (dsimp only; k_unfold; (try dsimp only))))))
      dsimp only
      (rename Fr _ _ _ _ => PF)
      (rename News _ _ _ _ => PN)
      (with_unfolding_all refine' kl_pop PF PN (last_concat fs x) ?pU hpz ?_)
      (case pU => exact Upd.tail (Nat.ne_of_gt l1a.1) (Upd.head (fun q hq => by
        rcases List.mem_cons.mp hq with rfl | hq
        · exact hea.symm
        · exact (hr2 q hq).1)))
      clear PF PN
      intro h2 F2 N2
      obtain ⟨us', y, ty, rfl, rfl, hSf⟩ := strs_split hSE rfl
      (repeat' (first | ((fail_if_success (with_reducible show WPost _ _ _ _ _ _ _ _ _ _ _ _ _)); (first | (k_unfold; (try dsimp only)) | ((with_reducible refine wpAny_execs_cons ?_); (try dsimp only)) | ((with_reducible refine wpAny_execs_nil ?_); (try dsimp only)) | walk1 | (dsimp only; walk1) | (leave1; walk_say "STEP leave1"; try dsimp only) | (dsimp only; k_unfold; (try dsimp only))))))
      (rename Fr _ _ _ _ => RF)
      (rename News _ _ _ _ => RN)
      have hym : y ∈ ds := List.count_pos_iff.mp (Nat.lt_of_lt_of_le (List.count_pos_iff.mpr (by simp)) (hct y))
      obtain ⟨j, hj, h1, h2', h3⟩ := erase_at hSA hym
      have haN := (RN (a, listOf as'.toArray ac') (List.mem_cons_of_mem _ (List.mem_cons_of_mem _ List.mem_cons_self))).1
      have hsz : as'.toArray.size ≤ sizeLine := by rw [List.size_toArray, hSA.length, sizeLine_eq]; omega
      refine call_meets PySem.F.slot_list_remove ⟨_, haN, rfl⟩ PySem.F.entry_list_remove (PySem.F.args_list_remove_2 _ _) (PySem.MeetsSeq.list_remove a as'.toArray ac' (.str y ty) (isStr y) (fun v hv => ?_) j (by simpa using hj) (by simpa using h1) (fun m hm hlt => by simpa using h2' m (by simpa using hm) hlt) hsz) ⟨haN, ?_⟩
      · obtain ⟨i, hi⟩ := List.getElem?_of_mem (by simpa using hv : v ∈ as')
        obtain ⟨z, tz, rfl, _⟩ := hSA.item i v hi
        have q := PySem.SeqRoads2.EqGives.str z y tz ty
        rwa [show (z.cps.toList == y.cps.toList) = isStr y (.str z tz) from eq_cps z y] at q
      · have hl4 := Heap.get?_update_self (Obj.mapSeq fun xs => xs.eraseIdxIfInBounds j) haN rfl
        have RN2 : News h₀ L' _ ((a, listOf as'.toArray ac') :: (_, listOf ([] : List Value).toArray 0) :: (e, listOf fs.toArray (ec' + 1)) :: rest) := fun q hq => by
          rcases List.mem_cons.mp hq with rfl | hq
          · exact RN _ (List.mem_cons_of_mem _ (List.mem_cons_of_mem _ List.mem_cons_self))
          · rcases List.mem_cons.mp hq with rfl | hq
            · exact RN _ List.mem_cons_self
            · rcases List.mem_cons.mp hq with rfl | hq
              · exact RN _ (List.mem_cons_of_mem _ List.mem_cons_self)
              · exact RN _ (List.mem_cons_of_mem _ (List.mem_cons_of_mem _ (List.mem_cons_of_mem _ hq)))
        obtain ⟨F5, N5⟩ := turn_new RF RN2 hl4 (fun b o hb q => (Heap.get?_update_other _ _ (Ne.symm hb)).trans q) (by
          intro q hq
          rcases List.mem_cons.mp hq with rfl | hq
          · exact Nat.ne_of_gt l1a.2.1
          · rcases List.mem_cons.mp hq with rfl | hq
            · exact hea
            · exact (hr2 q hq).2)
        have er : as'.toArray.eraseIdxIfInBounds j = (as'.eraseIdx j).toArray := by rw [List.eraseIdxIfInBounds_toArray]
        have N6 : ∃ c4, News h₀ L' _ ((_, listOf ([] : List Value).toArray 0) :: (e, listOf fs.toArray (ec' + 1)) :: (a, listOf (as'.eraseIdx j).toArray c4) :: rest) := ⟨_, fun q hq => by
          rcases List.mem_cons.mp hq with rfl | hq
          · exact N5 _ (List.mem_cons_of_mem _ List.mem_cons_self)
          · rcases List.mem_cons.mp hq with rfl | hq
            · exact N5 _ (List.mem_cons_of_mem _ (List.mem_cons_of_mem _ List.mem_cons_self))
            · rcases List.mem_cons.mp hq with rfl | hq
              · rw [← er]
                exact N5 _ List.mem_cons_self
              · exact N5 _ (List.mem_cons_of_mem _ (List.mem_cons_of_mem _ (List.mem_cons_of_mem _ hq)))⟩
        obtain ⟨c4, N6⟩ := N6
        have hld' : (ds.erase y).length ≤ 64 := Nat.le_trans (List.length_erase_le) hld
        clear RF RN RN2 N5 hl4 haN
        (repeat' (first | ((fail_if_success (with_reducible show WPost _ _ _ _ _ _ _ _ _ _ _ _ _)); (first | (k_unfold; (try dsimp only)) | ((with_reducible refine wpAny_execs_cons ?_); (try dsimp only)) | ((with_reducible refine wpAny_execs_nil ?_); (try dsimp only)) | walk1 | (dsimp only; walk1) | (leave1; walk_say "STEP leave1"; try dsimp only) | (dsimp only; k_unfold; (try dsimp only))))))
        (rename News _ _ _ _ => N9)
        exact WPost.end ⟨fs, ec' + 1, as'.eraseIdx j, c4⟩ (by assumption) N9 (fun p hp => hp) (fun p hp => by cases hp)
          (by intro z h2 h3; simp only [List.contains_cons, List.contains_nil, Bool.or_false, beq_eq_false_iff_ne, ne_eq] at h3; simp [kstB, h3])
          ⟨us', ds.erase y, hSf, by show fs.length ≤ 64; simp at hle; omega, h3, hld', fun v => by
            have q := hct v
            rw [List.count_append, List.count_singleton] at q
            rw [List.count_erase]
            by_cases hv : y = v
            · subst hv; simp at q ⊢; omega
            · have hv' : (y == v) = false := by simpa using hv
              have hv2 : (v == y) = false := by simpa using Ne.symm hv
              simp [hv'] at q
              simp [hv', hv2]
              omega, by rw [← hfin, leftOf_snoc]⟩ (by simp)
end

section -- part P01k
set_option Elab.async false
set_option maxRecDepth 100000
set_option maxHeartbeats 8000000
theorem reset_P01k : True := by
  w_top off
  trivial


/-- where the name may stand after one part -/
def reachL (p : Str) (ds reach : List Nat) : List Nat :=
  if p == Str.ofString "*" then (match reach with | [] => [] | r :: _ => (List.range (ds.length + 1 - r)).map (r + ·))
  else (reach.filter fun j => decide (j < ds.length) && [Str.ofString "?", (⟨#[ds.getD j 0]⟩ : Str)].any fun x => x == p).map (· + 1)
def takesL (ps : List Str) (ds : List Nat) : Bool := (ps.foldl (fun r p => reachL p ds r) [0]).contains ds.length
def JRch (L : Addr) (on : Obj) (m₀ : Str → Option Value) (ps : List Str) (ds : List Nat) (i : Nat) (m : Str → Option Value) (news : List (Addr × Obj)) : Prop :=
  ∃ r vs c, news = [(r, listOf vs.toArray c), (L + 1, on)] ∧ (∀ z, z ≠ Str.ofString "reach" → m z = m₀ z) ∧ m (Str.ofString "reach") = some (.ref r) ∧ IntsAre vs (((ps.take i).foldl (fun r p => reachL p ds r) [0]).map fun k : Nat => (k : Int))
def selL (f : Nat → Bool) (R : List Nat) (k : Nat) : List Nat := ((R.take k).filter f).map (· + 1)
def JS (f : Nat → Bool) (R : List Nat) (k : Nat) (ys : List Value) : Prop := IntsAre ys ((selL f R k).map fun k : Nat => (k : Int))
theorem selL_succ {f : Nat → Bool} {R : List Nat} {k : Nat} (hk : k < R.length) : selL f R (k + 1) = selL f R k ++ if f (R.getD k 0) then [R.getD k 0 + 1] else [] := by
  have e : R.getD k 0 = R[k] := by rw [List.getD_eq_getElem?_getD, List.getElem?_eq_getElem hk]; rfl
  rw [e, selL, selL, List.take_add_one, List.getElem?_eq_getElem hk, List.filter_append, List.map_append]
  cases hf : f R[k] <;> simp [hf]
theorem JS.skip {f : Nat → Bool} {R : List Nat} {k : Nat} {ys : List Value} (hk : k < R.length) (h : f (R.getD k 0) = false) (hj : JS f R k ys) : JS f R (k + 1) ys := by
  unfold JS at *
  rw [selL_succ hk, h]
  simpa using hj
theorem JS.push {f : Nat → Bool} {R : List Nat} {k : Nat} {ys : List Value} {z : Int} {t : Tok} (hk : k < R.length) (h : f (R.getD k 0) = true) (hz : z = (R.getD k 0 : Int) + 1) (hj : JS f R k ys) : JS f R (k + 1) (ys ++ [.int z t]) := by
  unfold JS at *
  rw [selL_succ hk, h, List.map_append]
  subst hz
  exact hj.append (.cons _ t .nil)
theorem ints_at {vs : List Value} {R : List Nat} (h : IntsAre vs (R.map fun k : Nat => (k : Int))) {k : Nat} {v : Value} (hv : vs[k]? = some v) : k < R.length ∧ ∃ t, v = .int (R.getD k 0 : Nat) t := by
  induction R generalizing vs k with
  | nil => cases h; simp at hv
  | cons r R ih =>
    cases h with | cons _ t h => ?_
    cases k with
    | zero => simp at hv; subst hv; exact ⟨by simp, t, rfl⟩
    | succ k =>
      obtain ⟨h1, t', h2⟩ := ih h (by simpa using hv)
      exact ⟨by simpa using h1, t', by rw [h2]; simp⟩
theorem any_cast (n : Nat) : ∀ l : List Nat, ((l.map fun k : Nat => (k : Int)).any fun x => x == (n : Int)) = l.contains n
  | [] => rfl
  | k :: l => by
    rw [List.map_cons, List.any_cons, any_cast n l, List.contains_cons]
    congr 1
    by_cases h : k = n
    · subst h; simp
    · rw [beq_eq_false_iff_ne.mpr (fun e => h (by omega)), beq_eq_false_iff_ne.mpr (fun e => h e.symm)]
theorem ints_of_get : ∀ (l : List Value) (ns : List Int), l.length = ns.length → (∀ i v, l[i]? = some v → ∃ t, v = Value.int (ns.getD i 0) t) → IntsAre l ns
  | [], [], _, _ => .nil
  | [], _ :: _, h, _ => by simp at h
  | _ :: _, [], h, _ => by simp at h
  | v :: l, n :: ns, h, hg => by
    obtain ⟨t, rfl⟩ := hg 0 v rfl
    exact .cons _ t (ints_of_get l ns (by simpa using h) fun i v e => hg (i + 1) v (by simpa using e))
theorem items_ints {acc : Array Value} {n k : Nat} (h : ItemsOf (fun i v => ∃ t, v = Value.int ((k : Int) + (i : Int) * 1) t) acc n) : IntsAre acc.toList (((List.range n).map (k + ·)).map fun j : Nat => (j : Int)) := by
  refine ints_of_get _ _ (by simp [h.1]) fun i v e => ?_
  have e' : acc[i]? = some v := by simpa using e
  obtain ⟨t, rfl⟩ := h.2 i v e'
  have hi : i < n := by rw [← h.1]; exact (Array.getElem?_eq_some_iff.mp e').1
  refine ⟨t, ?_⟩
  congr 1
  rw [List.getD_eq_getElem?_getD, List.getElem?_map, List.getElem?_map, List.getElem?_range hi]
  simp
theorem reachL_ok {q : Str} {ds R : List Nat} (h : R.length ≤ ds.length + 1 ∧ ∀ k ∈ R, k ≤ ds.length) : (reachL q ds R).length ≤ ds.length + 1 ∧ ∀ k ∈ reachL q ds R, k ≤ ds.length := by
  unfold reachL
  split
  · cases R with
    | nil => simp
    | cons r R =>
      have := h.2 r List.mem_cons_self
      refine ⟨by simp, fun k hk => ?_⟩
      obtain ⟨j, hj, rfl⟩ := List.mem_map.mp hk
      have := List.mem_range.mp hj
      omega
  · refine ⟨by rw [List.length_map]; exact Nat.le_trans (List.length_filter_le _ _) h.1, fun k hk => ?_⟩
    obtain ⟨j, hj, rfl⟩ := List.mem_map.mp hk
    have := (List.mem_filter.mp hj).2
    simp only [Bool.and_eq_true, decide_eq_true_eq] at this
    exact this.1
theorem reach_ok (ds : List Nat) : ∀ (ps : List Str) (R : List Nat), (R.length ≤ ds.length + 1 ∧ ∀ k ∈ R, k ≤ ds.length) → (ps.foldl (fun r p => reachL p ds r) R).length ≤ ds.length + 1 ∧ ∀ k ∈ ps.foldl (fun r p => reachL p ds r) R, k ≤ ds.length
  | [], _, h => h
  | _ :: ps, _, h => reach_ok ds ps _ (reachL_ok h)
theorem reach_step {ps : List Str} {ds R : List Nat} {i : Nat} {q : Str} (hq : ps[i]? = some q) (hR : (ps.take i).foldl (fun r p => reachL p ds r) [0] = R) : (ps.take (i + 1)).foldl (fun r p => reachL p ds r) [0] = reachL q ds R := by
  rw [List.take_add_one, hq, List.foldl_append, hR]
  rfl
theorem JRch.end {h₀ h' : Heap} {L I : Addr} {oI oc on : Obj} {m₀ m' : Str → Option Value} {ps : List Str} {ds : List Nat} {i : Nat} {v : Option Value} {s₁ : Shared} {tk : Nat} {Q : Flow → Shared → Prop} {news : List (Addr × Obj)} (r : Addr) (vs : List Value) (c : Nat)
    (F : Fr h₀ L h' m') (N : News h₀ L h' news) (h1 : (I, oI) ∈ news) (h2 : (L + 1 + 1, oc) ∈ news) (h3 : (r, listOf vs.toArray c) ∈ news) (h4 : (L + 1, on) ∈ news) (hoc : oc.data = .cell v) (hrI : r ≠ I) (hrc : r ≠ L + 1 + 1) (hLI : L + 1 ≠ I)
    (hm : ∀ z, z ≠ Str.ofString "reach" → m' z = m₀ z) (hr : m' (Str.ofString "reach") = some (.ref r)) (hI : IntsAre vs (((ps.take (i + 1)).foldl (fun r p => reachL p ds r) [0]).map fun k : Nat => (k : Int))) :
    CPost h₀ L (L + 1 + 1) (JRch L on m₀ ps ds (i + 1)) I oI s₁ Q .next { s₁ with heap := h', toks := tk } := by
  refine ⟨h', tk, m', [(r, listOf vs.toArray c), (L + 1, on)], oc, v, rfl, F, fun p hp => ?_, hoc, fun p hp => ?_, r, vs, c, rfl, hm, hr, hI⟩
  · simp only [List.mem_cons, List.not_mem_nil, or_false] at hp
    rcases hp with rfl | rfl | rfl | rfl
    exact N _ h1
    exact N _ h2
    exact N _ h3
    exact N _ h4
  · simp only [List.mem_cons, List.not_mem_nil, or_false] at hp
    rcases hp with rfl | rfl
    · exact ⟨hrI, hrc⟩
    · exact ⟨hLI, Nat.ne_of_lt (Nat.lt_succ_self _)⟩
theorem item_getD {ds : List Nat} {j : Nat} (hj : j < ds.length) : Txt.item (⟨ds.toArray⟩ : Str) (j : Int) = ⟨#[ds.getD j 0]⟩ := by
  have e : ds.getD j 0 = ds[j] := by rw [List.getD_eq_getElem?_getD, List.getElem?_eq_getElem hj]; rfl
  rw [e]
  refine (item_meets ⟨by omega, ?_⟩).trans ?_
  · show (j : Int) < (ds.toArray.size : Nat)
    rw [List.size_toArray]; omega
  · simp [hj]
theorem getD_le {R : List Nat} {n k : Nat} (h : ∀ k ∈ R, k ≤ n) (hk : k < R.length) : R.getD k 0 ≤ n := by
  rw [List.getD_eq_getElem?_getD, List.getElem?_eq_getElem hk]
  exact h _ (List.getElem_mem hk)
theorem reach_star {q : Str} {ds R : List Nat} {k : Nat} (hq : (q == Str.ofString "*") = true) : reachL q ds (k :: R) = (List.range (ds.length + 1 - k)).map (k + ·) := by
  unfold reachL; rw [if_pos hq]
theorem reach_nil {q : Str} {ds : List Nat} : reachL q ds [] = [] := by
  unfold reachL; split <;> rfl
theorem reach_sel {q : Str} {ds R : List Nat} {n : Nat} (hq : ¬ (q == Str.ofString "*") = true) (hn : n = R.length) : reachL q ds R = selL (fun j => decide (j < ds.length) && [Str.ofString "?", (⟨#[ds.getD j 0]⟩ : Str)].any fun x => x == q) R n := by
  subst hn
  unfold reachL selL; rw [if_neg hq, List.take_of_length_le (Nat.le_refl _)]
theorem use_m {h₀ h : Heap} {L : Addr} {m : Str → Option Value} {P : Prop} (F : Fr h₀ L h m) (k : ∀ m', Fr h₀ L h m' → m' = m → P) : P := k m F rfl
theorem takes_call {w : World} {p : Program} {loose : List Str} {mean : ExcName → Option Value} {mg mb : Str → Option Value}
  {dp un : Nat} {gd : Option (List Code)} {fr : List Env} {s : Shared} {E : Value → Shared → Prop} (X : (Mine.hd.heap_39 w.params).In s.heap) (T : Top p loose mean mg mb s.heap)
  (hd : dp + 5 < recursionLimit) (hu : un + 100 < cLine) (l : Addr) (vs : List Value) (ps : List Str) (ds : List Nat) (u : Tok) (hlv : s.heap.IsList l vs.toArray) (hS : StrsAre vs ps) (hps : ps.length ≤ 64) (hl : ds.length ≤ 64) :
  wpAny (model PySem.Challenge.rw_il0107_01.row.prog w) (Ar dp un gd fr) (call (.ref 84) [.ref l, .str ⟨ds.toArray⟩ u]) (fun v s' => Keeps s s' ∧ v = .bool (takesL ps ds)) E s := by
  have hdl : (⟨ds.toArray⟩ : Str).length ≤ 64 := by simpa [Str.length] using hl
  have hdl2 : (⟨ds.toArray⟩ : Str).length = ds.length := by simp [Str.length]
  revert X
  k_fill
  intro X
  k_dflt (refine' enterCells (binds := [(Str.ofString "parts", Value.ref l), (Str.ofString "name", Value.str ⟨ds.toArray⟩ u)]) X T.nolimit ?k6 ?k7 ?k8 ?k9 ?kB ?kC ?_ ?c2 ?c3 ?c4; (case k6 => k_is); (case k7 => k_is); (case k8 => (show dp < recursionLimit; omega)); (case k9 => exact BindsTo.of_eq rfl); (case kB => exact kindsX rfl); (case kC => decide); (case c2 => exact rfl); (case c3 => exact rfl); (case c4 => exact rfl); k_whole; intro L' h' tk' cells F' N' Y')
  k_cells Y'
  (try k_fold)
  (repeat' (first | ((with_reducible show wpAny _ _ _ _ _ _); (fail_if_success (with_reducible show wpAny _ _ (exec (Stmt.For _ _ _ _ _) _) _ _ _)); (fail_if_success (with_reducible show wpAny _ _ (eval (Expr.ListComp _ _ _ _) _) _ _ _)); (fail_if_success (with_reducible show wpAny _ _ (call (Value.ref _) _) _ _ _)); (first | (k_unfold; (try dsimp only)) | ((with_reducible refine wpAny_execs_cons ?_); (try dsimp only)) | walk1 | (dsimp only; walk1) | (leave1; walk_say "STEP leave1"; try dsimp only) | (dsimp only; k_unfold; (try dsimp only))))))
  rename_i oP oN dP dN lr h1 l1 h2 F1 N1
  have N1' : News s.heap L' h2 [(L' + 1 + 1, oP), (lr, W.listOf #[Value.int 0 tk'] 0), (L' + 1, oN)] := fun p hp => N1 p (by
    simp only [List.mem_cons, List.not_mem_nil, or_false] at hp ⊢
    rcases hp with h | h | h
    · exact .inr (.inl h)
    · exact .inl h
    · exact .inr (.inr h))
  refine use_m F1 fun m' F1' hm' => ?_
  refine For_cell (J := JRch L' oN m' ps ds) (vs := vs.toArray) (l := l) rfl rfl rfl rfl hlv (fun Q' q => wpAny_Name (wpAny_loadName_local rfl rfl F1.ns rfl q) (by decide)) F1' N1' dP ?n1 ?n2 ?n3 ?n4
  case n1 =>
    intro p hp
    simp only [List.mem_cons, List.not_mem_nil, or_false] at hp
    rcases hp with rfl | rfl
    · exact Nat.ne_of_gt l1.1
    · exact Nat.ne_of_lt (Nat.lt_succ_self _)
  case n2 => exact ⟨lr, [.int 0 tk'], 0, rfl, fun _ _ => rfl, by rw [hm']; rfl, .cons 0 _ .nil⟩
  case n3 =>
    rintro i v m₁ news₁ h tk I oI oc hv ⟨r, rs, c, rfl, hm, hmr, hI⟩ hIc hnw hoc F2 N2
    have e : m₁ = fun y => if y = Str.ofString "reach" then some (Value.ref r) else m' y := by
      funext y
      by_cases h1 : y = Str.ofString "reach"
      · simp only [h1, if_true]; exact hmr
      · simp only [h1, if_false]; exact hm y h1
    subst hm'
    subst e
    clear F1 N1 N1' F1' hm hmr
    obtain ⟨q, tq, rfl, hpq⟩ := hS.item i v (by simpa using hv)
    have hLI : L' + 1 ≠ I := (hnw _ (.tail _ (.head _))).1
    generalize hR : List.foldl (fun r p => reachL p ds r) [0] (List.take i ps) = R at hI
    (repeat' (first | ((with_reducible show wpAny _ _ _ _ _ _); (fail_if_success (with_reducible show wpAny _ _ (exec (Stmt.Assign _ (Expr.ListComp _ _ _ _) _) _) _ _ _)); (fail_if_success (with_reducible show wpAny _ _ (compareOp CmpOp.NotEq (Value.ref _) _) _ _ _)); (first | (k_unfold; (try dsimp only)) | ((with_reducible refine wpAny_execs_cons ?_); (try dsimp only)) | walk1 | (dsimp only; walk1) | (leave1; walk_say "STEP leave1"; try dsimp only) | (dsimp only; k_unfold; (try dsimp only))))))
    have hR64 : R.length ≤ ds.length + 1 ∧ ∀ k ∈ R, k ≤ ds.length := hR ▸ reach_ok ds _ _ ⟨by simp, by simp⟩
    have hstep := reach_step hpq hR
    by_cases hq : (q == Str.ofString "*") = true
    · rw [if_pos hq]
      (repeat' (first | ((with_reducible show wpAny _ _ _ _ _ _); (fail_if_success (with_reducible show wpAny _ _ (exec (Stmt.Assign _ (Expr.ListComp _ _ _ _) _) _) _ _ _)); (fail_if_success (with_reducible show wpAny _ _ (compareOp CmpOp.NotEq (Value.ref _) _) _ _ _)); (first | (k_unfold; (try dsimp only)) | ((with_reducible refine wpAny_execs_cons ?_); (try dsimp only)) | walk1 | (dsimp only; walk1) | (leave1; walk_say "STEP leave1"; try dsimp only) | (dsimp only; k_unfold; (try dsimp only))))))
      (rename Fr _ _ _ _ => F3)
      (rename News _ _ _ _ => N3)
      refine ke_ne_ints (News.isList N3 (.tail _ (.tail _ (.tail _ (.head _))))) (News.isList N3 (.head _)) hI .nil (by show un + 3 + 64 < _; omega) ?_
      cases R with
      | nil =>
        cases hI
        (repeat' (first | ((with_reducible show wpAny _ _ _ _ _ _); (fail_if_success (with_reducible show wpAny _ _ (exec (Stmt.Assign _ (Expr.ListComp _ _ _ _) _) _) _ _ _)); (fail_if_success (with_reducible show wpAny _ _ (compareOp CmpOp.NotEq (Value.ref _) _) _ _ _)); (first | (k_unfold; (try dsimp only)) | ((with_reducible refine wpAny_execs_cons ?_); (try dsimp only)) | walk1 | (dsimp only; walk1) | (leave1; walk_say "STEP leave1"; try dsimp only) | (dsimp only; k_unfold; (try dsimp only))))))
        rw [if_neg (by simp)]
        (repeat' (first | ((with_reducible show wpAny _ _ _ _ _ _); (fail_if_success (with_reducible show wpAny _ _ (exec (Stmt.Assign _ (Expr.ListComp _ _ _ _) _) _) _ _ _)); (fail_if_success (with_reducible show wpAny _ _ (compareOp CmpOp.NotEq (Value.ref _) _) _ _ _)); (first | (k_unfold; (try dsimp only)) | ((with_reducible refine wpAny_execs_cons ?_); (try dsimp only)) | walk1 | (dsimp only; walk1) | (leave1; walk_say "STEP leave1"; try dsimp only) | (dsimp only; k_unfold; (try dsimp only))))))
        (rename Fr _ _ _ _ => F9)
        (rename News _ _ _ _ => N9)
        (rename _ < _ ∧ _ => l9)
        refine JRch.end _ [] _ F9 N9 (by repeat (first | exact List.mem_cons_self | apply List.mem_cons_of_mem)) (by repeat (first | exact List.mem_cons_self | apply List.mem_cons_of_mem)) (.head _) (by repeat (first | exact List.mem_cons_self | apply List.mem_cons_of_mem)) hoc (Nat.ne_of_gt l9.2.1) (Nat.ne_of_gt l9.2.2.1) hLI (fun z hz => by simp only [hz, if_false]) (by rfl) ?_
        rw [hstep, reach_nil]
        exact .nil
      | cons k R =>
        cases hI with | cons _ tk hI => ?_
        (repeat' (first | ((with_reducible show wpAny _ _ _ _ _ _); (fail_if_success (with_reducible show wpAny _ _ (exec (Stmt.Assign _ (Expr.ListComp _ _ _ _) _) _) _ _ _)); (fail_if_success (with_reducible show wpAny _ _ (compareOp CmpOp.NotEq (Value.ref _) _) _ _ _)); (first | (k_unfold; (try dsimp only)) | ((with_reducible refine wpAny_execs_cons ?_); (try dsimp only)) | walk1 | (dsimp only; walk1) | (leave1; walk_say "STEP leave1"; try dsimp only) | (dsimp only; k_unfold; (try dsimp only))))))
        rw [if_pos (by simp)]
        (repeat' (first | ((with_reducible show wpAny _ _ _ _ _ _); (fail_if_success (with_reducible show wpAny _ _ (exec (Stmt.Assign _ (Expr.ListComp _ _ _ _) _) _) _ _ _)); (fail_if_success (with_reducible show wpAny _ _ (compareOp CmpOp.NotEq (Value.ref _) _) _ _ _)); (first | (k_unfold; (try dsimp only)) | ((with_reducible refine wpAny_execs_cons ?_); (try dsimp only)) | walk1 | (dsimp only; walk1) | (leave1; walk_say "STEP leave1"; try dsimp only) | (dsimp only; k_unfold; (try dsimp only))))))
        (rename Fr _ _ _ _ => F5)
        (rename News _ _ _ _ => N5)
        (rename IsRange _ _ _ _ _ _ _ _ => R5)
        have hk := hR64.2 k List.mem_cons_self
        refine call_list_range (a := (k : Int)) (n := ds.length + 1 - k) rfl R5 (small_one (by omega) (by omega) (by omega) (by omega)) (by rw [rangeSize_one, hdl2]; split <;> omega) (by omega) fun h6 tk6 acc c6 k6 g6 hacc => ?_
        have hn6 : ∀ b o, (b, o) ∈ _ → b ≠ _ := fun b o hp => Nat.ne_of_lt (Heap.lt_size (N5 (b, o) hp).1)
        obtain ⟨F6, N6⟩ := take_new F5 N5 (Heap.get?_none_of_le (Nat.le_refl _)) g6 k6
        dsimp only at F6 N6 hn6 ⊢
        clear F5 N5 R5
        rw [show acc = acc.toList.toArray from (Array.toArray_toList).symm] at N6
        have hacc' := items_ints hacc
        generalize acc.toList = zs at N6 hacc'
        (repeat' (first | ((with_reducible show wpAny _ _ _ _ _ _); (fail_if_success (with_reducible show wpAny _ _ (exec (Stmt.Assign _ (Expr.ListComp _ _ _ _) _) _) _ _ _)); (fail_if_success (with_reducible show wpAny _ _ (compareOp CmpOp.NotEq (Value.ref _) _) _ _ _)); (first | (k_unfold; (try dsimp only)) | ((with_reducible refine wpAny_execs_cons ?_); (try dsimp only)) | walk1 | (dsimp only; walk1) | (leave1; walk_say "STEP leave1"; try dsimp only) | (dsimp only; k_unfold; (try dsimp only))))))
        (rename Fr _ _ _ _ => F9)
        (rename News _ _ _ _ => N9)
        refine JRch.end _ zs _ F9 N9 (by repeat (first | exact List.mem_cons_self | apply List.mem_cons_of_mem)) (by repeat (first | exact List.mem_cons_self | apply List.mem_cons_of_mem)) (.head _) (by repeat (first | exact List.mem_cons_self | apply List.mem_cons_of_mem)) hoc (hn6 _ _ (by repeat (first | exact List.mem_cons_self | apply List.mem_cons_of_mem))).symm (hn6 _ _ (by repeat (first | exact List.mem_cons_self | apply List.mem_cons_of_mem))).symm hLI (fun z hz => by simp only [hz, if_false]) (by rfl) ?_
        rw [hstep, reach_star hq]
        exact hacc'
    · rw [if_neg hq]
      (repeat' (first | ((with_reducible show wpAny _ _ _ _ _ _); (fail_if_success (with_reducible show wpAny _ _ (exec (Stmt.Assign _ (Expr.ListComp _ _ _ _) _) _) _ _ _)); (fail_if_success (with_reducible show wpAny _ _ (compareOp CmpOp.NotEq (Value.ref _) _) _ _ _)); (first | (k_unfold; (try dsimp only)) | ((with_reducible refine wpAny_execs_cons ?_); (try dsimp only)) | walk1 | (dsimp only; walk1) | (leave1; walk_say "STEP leave1"; try dsimp only) | (dsimp only; k_unfold; (try dsimp only))))))
      (rename Fr _ _ _ _ => F3)
      (rename News _ _ _ _ => N3)
      have hrl : rs.length = R.length := by rw [hI.length, List.length_map]
      refine asg_test (cl := [(Str.ofString "part", L' + 1 + 1), (Str.ofString "name", L' + 1)]) (JS (fun j => decide (j < ds.length) && [Str.ofString "?", (⟨#[ds.getD j 0]⟩ : Str)].any fun x => x == q) R) (fun k => decide (R.getD k 0 < ds.length) && [Str.ofString "?", (⟨#[ds.getD (R.getD k 0) 0]⟩ : Str)].any fun x => x == q) F3 N3 (News.isList N3 (.tail _ (.tail _ (.head _)))) rfl (by rw [List.size_toArray, sizeLine_eq]; omega) (fun Q' g => wpAny_Name (wpAny_loadName_local rfl rfl F3.ns rfl g) (by decide)) rfl rfl (by decide) rfl (by decide) rfl rfl rfl .nil (fun k ys hk h hj => JS.skip (by simpa [hrl] using hk) h hj) ?t1 ?t2 ?y6
      case t1 =>
        rintro C i₁ v₁ s₃ m₃ E' nw hi₁ hv₁ hmj F4 N4 _
        clear F3 N3
        obtain ⟨hi₂, tj, rfl⟩ := ints_at hI (by simpa using hv₁)
        have hj64 : R.getD i₁ 0 ≤ ds.length := getD_le hR64.2 hi₂
        generalize R.getD i₁ 0 = j at hj64 hmj ⊢
        (repeat' (first | ((with_reducible show wpAny _ _ _ _ _ _); (fail_if_success (with_reducible show wpAny _ _ (exec (Stmt.Assign _ (Expr.ListComp _ _ _ _) _) _) _ _ _)); (fail_if_success (with_reducible show wpAny _ _ (compareOp CmpOp.NotEq (Value.ref _) _) _ _ _)); (first | (k_unfold; (try dsimp only)) | ((with_reducible refine wpAny_execs_cons ?_); (try dsimp only)) | walk1 | (dsimp only; walk1) | (leave1; walk_say "STEP leave1"; try dsimp only) | (dsimp only; k_unfold; (try dsimp only))))))
        refine wpAny_Name (wpAny_loadName_local rfl rfl F4.ns hmj ?_) (by decide)
        (repeat' (first | ((with_reducible show wpAny _ _ _ _ _ _); (fail_if_success (with_reducible show wpAny _ _ (exec (Stmt.Assign _ (Expr.ListComp _ _ _ _) _) _) _ _ _)); (fail_if_success (with_reducible show wpAny _ _ (compareOp CmpOp.NotEq (Value.ref _) _) _ _ _)); (first | (k_unfold; (try dsimp only)) | ((with_reducible refine wpAny_execs_cons ?_); (try dsimp only)) | walk1 | (dsimp only; walk1) | (leave1; walk_say "STEP leave1"; try dsimp only) | (dsimp only; k_unfold; (try dsimp only))))))
        by_cases hjl : j < ds.length
        · rw [if_pos (by rw [hdl2]; exact decide_eq_true (by omega))]
          (repeat' (first | ((with_reducible show wpAny _ _ _ _ _ _); (fail_if_success (with_reducible show wpAny _ _ (exec (Stmt.Assign _ (Expr.ListComp _ _ _ _) _) _) _ _ _)); (fail_if_success (with_reducible show wpAny _ _ (compareOp CmpOp.NotEq (Value.ref _) _) _ _ _)); (first | (k_unfold; (try dsimp only)) | ((with_reducible refine wpAny_execs_cons ?_); (try dsimp only)) | walk1 | (dsimp only; walk1) | (leave1; walk_say "STEP leave1"; try dsimp only) | (dsimp only; k_unfold; (try dsimp only))))))
          (rename Fr _ _ _ _ => F5)
          refine wpAny_Name (wpAny_loadName_local rfl rfl F5.ns hmj ?_) (by decide)
          (repeat' (first | ((with_reducible show wpAny _ _ _ _ _ _); (fail_if_success (with_reducible show wpAny _ _ (exec (Stmt.Assign _ (Expr.ListComp _ _ _ _) _) _) _ _ _)); (fail_if_success (with_reducible show wpAny _ _ (compareOp CmpOp.NotEq (Value.ref _) _) _ _ _)); (first | (k_unfold; (try dsimp only)) | ((with_reducible refine wpAny_execs_cons ?_); (try dsimp only)) | walk1 | (dsimp only; walk1) | (leave1; walk_say "STEP leave1"; try dsimp only) | (dsimp only; k_unfold; (try dsimp only))))))
          (rename Fr _ _ _ _ => F9)
          (rename News _ _ _ _ => N9)
          rw [item_getD hjl]
          by_cases hin : ([Str.ofString "?", (⟨#[ds.getD j 0]⟩ : Str)].any fun x => x == q) = true
          · rw [if_pos hin]
            (repeat' (first | ((with_reducible show wpAny _ _ _ _ _ _); (fail_if_success (with_reducible show wpAny _ _ (exec (Stmt.Assign _ (Expr.ListComp _ _ _ _) _) _) _ _ _)); (fail_if_success (with_reducible show wpAny _ _ (compareOp CmpOp.NotEq (Value.ref _) _) _ _ _)); (first | (k_unfold; (try dsimp only)) | ((with_reducible refine wpAny_execs_cons ?_); (try dsimp only)) | walk1 | (dsimp only; walk1) | (leave1; walk_say "STEP leave1"; try dsimp only) | (dsimp only; k_unfold; (try dsimp only))))))
            (try k_unfold)
            exact ⟨by rw [hin, decide_eq_true hjl]; rfl, CBack.intro F9 N9 (fun p hp => List.mem_cons_of_mem _ (List.mem_append_right _ hp))⟩
          · rw [if_neg hin]
            (repeat' (first | ((with_reducible show wpAny _ _ _ _ _ _); (fail_if_success (with_reducible show wpAny _ _ (exec (Stmt.Assign _ (Expr.ListComp _ _ _ _) _) _) _ _ _)); (fail_if_success (with_reducible show wpAny _ _ (compareOp CmpOp.NotEq (Value.ref _) _) _ _ _)); (first | (k_unfold; (try dsimp only)) | ((with_reducible refine wpAny_execs_cons ?_); (try dsimp only)) | walk1 | (dsimp only; walk1) | (leave1; walk_say "STEP leave1"; try dsimp only) | (dsimp only; k_unfold; (try dsimp only))))))
            (try k_unfold)
            exact ⟨by rw [Bool.eq_false_iff.mpr hin, Bool.and_false], CBack.intro F9 N9 (fun p hp => List.mem_cons_of_mem _ (List.mem_append_right _ hp))⟩
        · rw [if_neg (by rw [hdl2, decide_eq_true_eq]; omega)]
          (repeat' (first | ((with_reducible show wpAny _ _ _ _ _ _); (fail_if_success (with_reducible show wpAny _ _ (exec (Stmt.Assign _ (Expr.ListComp _ _ _ _) _) _) _ _ _)); (fail_if_success (with_reducible show wpAny _ _ (compareOp CmpOp.NotEq (Value.ref _) _) _ _ _)); (first | (k_unfold; (try dsimp only)) | ((with_reducible refine wpAny_execs_cons ?_); (try dsimp only)) | walk1 | (dsimp only; walk1) | (leave1; walk_say "STEP leave1"; try dsimp only) | (dsimp only; k_unfold; (try dsimp only))))))
          (rename Fr _ _ _ _ => F9)
          (rename News _ _ _ _ => N9)
          exact ⟨by rw [decide_eq_false hjl]; rfl, CBack.intro F9 N9 (fun p hp => List.mem_append_right _ hp)⟩
      case t2 =>
        rintro C i₁ v₁ s₃ m₃ E' nw hi₁ hp₁ hv₁ hmj F4 N4 _
        clear F3 N3
        obtain ⟨hi₂, tj, rfl⟩ := ints_at hI (by simpa using hv₁)
        have hj64 : R.getD i₁ 0 ≤ ds.length := getD_le hR64.2 hi₂
        (repeat' (first | ((with_reducible show wpAny _ _ _ _ _ _); (fail_if_success (with_reducible show wpAny _ _ (exec (Stmt.Assign _ (Expr.ListComp _ _ _ _) _) _) _ _ _)); (fail_if_success (with_reducible show wpAny _ _ (compareOp CmpOp.NotEq (Value.ref _) _) _ _ _)); (first | (k_unfold; (try dsimp only)) | ((with_reducible refine wpAny_execs_cons ?_); (try dsimp only)) | walk1 | (dsimp only; walk1) | (leave1; walk_say "STEP leave1"; try dsimp only) | (dsimp only; k_unfold; (try dsimp only))))))
        refine wpAny_Name (wpAny_loadName_local rfl rfl F4.ns hmj ?_) (by decide)
        (repeat' (first | ((with_reducible show wpAny _ _ _ _ _ _); (fail_if_success (with_reducible show wpAny _ _ (exec (Stmt.Assign _ (Expr.ListComp _ _ _ _) _) _) _ _ _)); (fail_if_success (with_reducible show wpAny _ _ (compareOp CmpOp.NotEq (Value.ref _) _) _ _ _)); (first | (k_unfold; (try dsimp only)) | ((with_reducible refine wpAny_execs_cons ?_); (try dsimp only)) | walk1 | (dsimp only; walk1) | (leave1; walk_say "STEP leave1"; try dsimp only) | (dsimp only; k_unfold; (try dsimp only))))))
        (rename Fr _ _ _ _ => F9)
        (rename News _ _ _ _ => N9)
        exact ⟨fun ys hJ => JS.push hi₂ hp₁ rfl hJ, CBack.intro F9 N9 (fun p hp => List.mem_append_right _ hp)⟩
      case y6 =>
        rintro D h9 tk9 ys ep hJ F9 N9 hn9 hk9 _ _
        clear F3 N3
        (repeat' (first | ((with_reducible show wpAny _ _ _ _ _ _); (fail_if_success (with_reducible show wpAny _ _ (exec (Stmt.Assign _ (Expr.ListComp _ _ _ _) _) _) _ _ _)); (fail_if_success (with_reducible show wpAny _ _ (compareOp CmpOp.NotEq (Value.ref _) _) _ _ _)); (first | (k_unfold; (try dsimp only)) | ((with_reducible refine wpAny_execs_cons ?_); (try dsimp only)) | walk1 | (dsimp only; walk1) | (leave1; walk_say "STEP leave1"; try dsimp only) | (dsimp only; k_unfold; (try dsimp only))))))
        refine JRch.end D ys ep F9 N9 (.tail _ (.head _)) (.tail _ (.tail _ (.head _))) (.head _) (.tail _ (.tail _ (.tail _ (.tail _ (.head _))))) hoc (Ne.symm (hn9 _ (.head _))) (Ne.symm (hn9 _ (.tail _ (.head _)))) hLI (fun z hz => by simp only [hz, if_false]) (by rfl) ?_
        rw [hstep, reach_sel (n := rs.toArray.size) hq (by rw [List.size_toArray, hrl])]
        exact hJ
  case n4 =>
    rintro m₁ news₁ h tk ⟨r, rs, c, rfl, hm, hmr, hI⟩ F2 N2
    have e : m₁ = fun y => if y = Str.ofString "reach" then some (Value.ref r) else m' y := by
      funext y
      by_cases h1 : y = Str.ofString "reach"
      · simp only [h1, if_true]; exact hmr
      · simp only [h1, if_false]; exact hm y h1
    subst hm'
    subst e
    clear F1 N1 N1' F1' hm hmr
    dsimp only
    (repeat' (first | ((with_reducible show wpAny _ _ _ _ _ _); (fail_if_success (with_reducible show wpAny _ _ (exec (Stmt.Assign _ (Expr.ListComp _ _ _ _) _) _) _ _ _)); (fail_if_success (with_reducible show wpAny _ _ (compareOp CmpOp.NotEq (Value.ref _) _) _ _ _)); (first | (k_unfold; (try dsimp only)) | ((with_reducible refine wpAny_execs_cons ?_); (try dsimp only)) | walk1 | (dsimp only; walk1) | (leave1; walk_say "STEP leave1"; try dsimp only) | (dsimp only; k_unfold; (try dsimp only))))))
    refine ⟨⟨_, _, rfl, F2.keep⟩, ?_⟩
    rw [hdl2, any_cast, List.take_of_length_le (by rw [List.size_toArray, StrsAre.length hS]; exact Nat.le_refl _)]
    rfl
end

section -- part P01h
set_option Elab.async false
set_option maxRecDepth 100000
set_option maxHeartbeats 4000000
theorem reset_P01h : True := by
  w_top off
  trivial
/-- y is the tuple ([], a), a a list of the texts left -/
def BagIs (h : Heap) (y : Value) (a : Addr) (left : List Str) (P : Addr → Prop) : Prop :=
  ∃ t r o n mc ac vs', y = .ref t ∧ h.get? t = some o ∧ o.cls = .type "tuple" ∧ o.data = .seq #[Value.ref r, Value.ref a] n ∧
    h.get? r = some (listOf ([] : List Value).toArray mc) ∧ h.get? a = some (listOf vs'.toArray ac) ∧ StrsAre vs' left ∧ P t ∧ P r
theorem BagIs.on {h h' : Heap} {y : Value} {a : Addr} {left : List Str} {P P' : Addr → Prop} (x : BagIs h y a left P) (hP : ∀ z, P z → P' z) (k : ∀ b o, P b ∨ b = a → h.get? b = some o → h'.get? b = some o) : BagIs h' y a left P' := by
  obtain ⟨t, r, o, n, mc, ac, vs', h1, h2, h3, h4, h5, h6, h7, h8, h9⟩ := x
  exact ⟨t, r, o, n, mc, ac, vs', h1, k _ _ (.inl h8) h2, h3, h4, k _ _ (.inl h9) h5, k _ _ (.inr rfl) h6, h7, hP _ h8, hP _ h9⟩
structure BagIt where
  a : Addr
  vs : List Value
  c : Nat
  left : List Str
def BagIt.obj (it : BagIt) : Addr × Obj := (it.a, listOf it.vs.toArray it.c)
def JBg (items : List BagIt) (P : Addr → Prop) (k : Nat) (ys : List Value) (h : Heap) : Prop :=
  ys.length = k ∧ ∀ j it, items[j]? = some it → (k ≤ j → h.get? it.a = some (listOf it.vs.toArray it.c)) ∧ (j < k → ∃ y, ys[j]? = some y ∧ BagIs h y it.a it.left P)
section
variable {prog : Program} {w : World} {A : Around} {E : Value → Shared → Prop} {env : Env} {s : Shared} {h₀ : Heap} {m : Str → Option Value} {news : List (Addr × Obj)}
theorem bags_rule {elt : Expr} {x y : Str} {scope : Scope} {cl : List (Str × Addr)} {Q : Flow → Shared → Prop} {r : Addr} (items : List BagIt)
    (F : Fr h₀ env.locals s.heap m) (N : News h₀ env.locals s.heap (items.map BagIt.obj ++ news)) (hr : s.heap.IsList r (items.map fun it => Value.ref it.a).toArray) (hh : A.handled = none) (hz : items.length ≤ sizeLine)
    (hra : ∀ it ∈ items, it.a ≠ r) (hnd : ∀ (i j : Nat) (x y : BagIt), items[i]? = some x → items[j]? = some y → x.a = y.a → i = j) (hnews : ∀ q ∈ news, ∀ it ∈ items, q.1 ≠ it.a)
    (helt : ∀ (C : Addr) (k : Nat) (it : BagIt) (s₃ : Shared) (m₃ : Str → Option Value) (E' : Value → Shared → Prop), items[k]? = some it → m₃ x = some (.ref it.a) → Fr h₀ C s₃.heap m₃ → News h₀ C s₃.heap (it.obj :: news) → s.toks ≤ s₃.toks →
      wpAny (model prog w) A (eval elt (compEnvC scope cl C env)) (fun v s₄ => BagIs s₄.heap v it.a it.left (fun z => s₃.heap.get? z = none) ∧ (∃ h tk, s₄ = { s₃ with heap := h, toks := tk } ∧ (∀ b o, b ≠ C → b ≠ it.a → s₃.heap.get? b = some o → h.get? b = some o) ∧ h.Ns C m₃)) E' s₃)
    (hQ : ∀ (D : Addr) (h' : Heap) (tk : Nat) (ys : List Value) (ep : Nat), ys.length = items.length → (∀ (j : Nat) (it : BagIt), items[j]? = some it → ∃ y, ys[j]? = some y ∧ BagIs h' y it.a it.left (fun z => h₀.get? z = none ∧ z ≠ env.locals)) → Fr h₀ env.locals h' (fun z => if z = y then some (.ref D) else m z) →
      News h₀ env.locals h' ((D, listOf ys.toArray ep) :: news) → s.toks ≤ tk → Q .next { s with heap := h', toks := tk }) :
    wpAny (model prog w) A (pyIter (.ref r)) (fun it s₂ => RowsAs prog w A env scope cl x y elt Q it s₂) E s := by
  obtain ⟨ol, hol, _⟩ := id hr
  have hlt : r < s.heap.objs.size := Heap.lt_size hol
  have hrI : r ≠ s.heap.objs.size := Nat.ne_of_lt hlt
  have hitN : ∀ it ∈ items, s.heap.get? it.a = some (listOf it.vs.toArray it.c) ∧ it.a ≠ env.locals ∧ h₀.get? it.a = none := fun it h => N it.obj (List.mem_append_left _ (List.mem_map_of_mem h))
  have hLlt := F.ns.lt
  refine wpAny_pyIter_list hr ?_
  have up : ∀ b o, s.heap.get? b = some o → (s.heap.push { cls := .type "list_iterator", data := .fields #[.ref r, .int 0 0] }).get? b = some o := fun b o e => Heap.get?_push_of_some _ e
  have hI : (s.heap.push { cls := .type "list_iterator", data := .fields #[.ref r, .int 0 0] }).get? s.heap.objs.size = some { cls := .type "list_iterator", data := .fields #[.ref r, .int 0 0] } := Heap.get?_push_size _ rfl
  generalize hH : s.heap.push { cls := .type "list_iterator", data := .fields #[.ref r, .int 0 0] } = H at up hI
  have hHs : H.objs.size = s.heap.objs.size + 1 := by rw [← hH, Heap.size_push]
  have notI : ∀ b o, s.heap.get? b = some o → b ∉ [s.heap.objs.size] := fun b o e hm => by
    rw [List.mem_singleton.mp hm] at e
    exact Nat.lt_irrefl _ (Heap.lt_size e)
  have hbadm : ∀ b, b ∈ items.map (·.a) → ∃ it ∈ items, it.a = b := fun b hb => List.mem_map.mp hb
  have h0bad : ∀ b o, h₀.get? b = some o → b ∉ items.map (·.a) := fun b o e hb => by
    obtain ⟨it, hi, rfl⟩ := hbadm b hb
    rw [(hitN it hi).2.2] at e
    cases e
  have hLbad : env.locals ∉ items.map (·.a) := fun hb => by
    obtain ⟨it, hi, e⟩ := hbadm _ hb
    exact (hitN it hi).2.1 e
  let P : Addr → Prop := fun z => h₀.get? z = none ∧ z ≠ env.locals ∧ z ≠ H.objs.size + 1 ∧ z ≠ H.objs.size ∧ z ≠ s.heap.objs.size ∧ z ∉ items.map (·.a)
  have hita : ∀ it ∈ items, it.a ≠ env.locals ∧ it.a ≠ H.objs.size + 1 ∧ it.a ∉ [s.heap.objs.size] ∧ it.a ≠ H.objs.size := fun it h => by
    have h1 := Heap.lt_size (hitN it h).1
    refine ⟨(hitN it h).2.1, ?_, notI _ _ (hitN it h).1, ?_⟩
    · intro q
      rw [q, hHs] at h1
      exact Nat.lt_irrefl _ (Nat.lt_of_succ_lt (Nat.lt_of_succ_lt h1))
    · intro q
      rw [q, hHs] at h1
      exact Nat.lt_irrefl _ (Nat.lt_of_succ_lt h1)
  have W := Walks.list (prog := prog) (w := w) hh s.heap.objs.size r hrI (items.map fun it => Value.ref it.a).toArray
  rw [show (items.map fun it => Value.ref it.a).toArray.size = items.length by simp] at W
  refine ⟨_, [_, r], [_], items.map (·.a), items.length, _, _, JBg items P, m, rfl, W, hz, ⟨⟨_, hI, rfl, rfl⟩, hr.at fun o e => up _ _ e⟩, ?y3, ?j0, ?b1, ?l1, hLbad, F.ns.keeps up, ?jf, ?e1, ?q1⟩
  case y3 =>
    intro b hb
    show b < H.objs.size
    rw [hHs]
    rcases List.mem_cons.mp hb with rfl | hb
    · exact Nat.lt_succ_self _
    · rw [List.mem_singleton.mp hb]
      exact Nat.lt_succ_of_lt hlt
  case j0 =>
    refine ⟨rfl, fun j it hj => ⟨fun _ => ?_, fun h => absurd h (Nat.not_lt_zero _)⟩⟩
    exact up _ _ (hitN it (List.mem_of_getElem? hj)).1
  case b1 =>
    intro b hb
    obtain ⟨it, hi, rfl⟩ := hbadm b hb
    refine ⟨fun hm => ?_, Heap.lt_size (up _ _ (hitN it hi).1)⟩
    rcases List.mem_cons.mp hm with hm | hm
    · exact (hita it hi).2.2.1 (by rw [hm]; exact List.mem_cons_self)
    · exact hra it hi (List.mem_singleton.mp hm)
  case l1 => exact fun hm => Nat.ne_of_lt hLlt (List.mem_singleton.mp hm)
  case jf =>
    rintro k ys h h' ⟨hl, hJ⟩ hk
    refine ⟨hl, fun j it hj => ⟨fun q => ?_, fun q => ?_⟩⟩
    · obtain ⟨a1, a2, a3, a4⟩ := hita it (List.mem_of_getElem? hj)
      exact hk _ _ a1 a2 a3 a4 ((hJ j it hj).1 q)
    · obtain ⟨y, hy, hB⟩ := (hJ j it hj).2 q
      obtain ⟨a1, a2, a3, a4⟩ := hita it (List.mem_of_getElem? hj)
      refine ⟨y, hy, hB.on (fun _ z => z) fun b o hb e => ?_⟩
      rcases hb with hb | rfl
      · exact hk _ _ hb.2.1 hb.2.2.1 (fun q => hb.2.2.2.2.1 (List.mem_singleton.mp q)) hb.2.2.2.1 e
      · exact hk _ _ a1 a2 a3 a4 e
  case e1 =>
    rintro k u s₃ m₃ E' ys hk hu hns hm hkp htk ⟨hl, hJ⟩ hS ⟨oD, hoD⟩
    have hit : items[k]? = some items[k] := List.getElem?_eq_getElem hk
    generalize items[k] = it at hit
    have hitm := List.mem_of_getElem? hit
    have hu' : u = .ref it.a := by
      have h1 : (items.map fun it => Value.ref it.a).toArray[k]? = some u := hu
      simp only [List.getElem?_toArray, List.getElem?_map, hit, Option.map_some, Option.some.injEq] at h1
      exact h1.symm
    subst hu'
    have keep : ∀ b o, b ∉ items.map (·.a) → s.heap.get? b = some o → s₃.heap.get? b = some o := fun b o hb e => hkp b o (notI b o e) hb (up b o e)
    have F3 : Fr h₀ (H.objs.size + 1) s₃.heap m₃ := ⟨hns, fun b o e => keep b o (h0bad b o e) (F.keep b o e), by
      rw [hHs]
      exact Nat.le_trans F.above (Nat.le_of_lt (Nat.lt_succ_of_lt (Nat.lt_succ_of_lt hLlt)))⟩
    have hC : ∀ b o, s.heap.get? b = some o → b ≠ H.objs.size + 1 := fun b o e q => by
      have h1 := Heap.lt_size e
      rw [q, hHs] at h1
      exact Nat.lt_irrefl _ (Nat.lt_of_succ_lt (Nat.lt_of_succ_lt h1))
    have N3 : News h₀ (H.objs.size + 1) s₃.heap (it.obj :: news) := fun q hq => by
      rcases List.mem_cons.mp hq with rfl | hq
      · exact ⟨(hJ k it hit).1 (Nat.le_refl _), (hita it hitm).2.1, (hitN it hitm).2.2⟩
      · have h1 := N q (List.mem_append_right _ hq)
        refine ⟨keep _ _ (fun hb => ?_) h1.1, hC _ _ h1.1, h1.2.2⟩
        obtain ⟨it', hi', e⟩ := hbadm _ hb
        exact hnews q hq it' hi' e.symm
    refine wpC_of_any (wpAny_mono (wpAny_toks_of (n := s₃.toks) (Nat.le_refl _) (helt _ k it s₃ m₃ E' hit hm F3 N3 htk)) (fun v s₄ g => ?_) fun _ _ e => e.2)
    obtain ⟨ht4, hB, h4, t4, rfl, hk4, hn4⟩ := g
    have fresh : ∀ z, s₃.heap.get? z = none → P z := by
      intro z hz
      have ex : ∀ b o, s₃.heap.get? b = some o → z ≠ b := fun b o e q => by rw [← q, hz] at e; cases e
      obtain ⟨oL, esL, epL, hoL, _⟩ := F.ns
      refine ⟨?_, ex _ _ (keep _ _ hLbad hoL), ?_, ex _ _ hoD, ?_, fun hb => ?_⟩
      · cases e : h₀.get? z with
        | none => rfl
        | some o => rw [F3.keep _ _ e] at hz; cases hz
      · obtain ⟨oC, esC, epC, hoC, _⟩ := hns
        exact ex _ _ hoC
      · obtain ⟨oI, hoI, _⟩ := hS.1
        exact ex _ _ hoI
      · obtain ⟨it', hi', e⟩ := hbadm _ hb
        obtain ⟨j, hj⟩ := List.getElem?_of_mem hi'
        rcases Nat.lt_or_ge j k with q | q
        · obtain ⟨y, hy, hB'⟩ := (hJ j it' hj).2 q
          obtain ⟨_, _, _, _, _, _, _, _, _, _, _, _, h6, _⟩ := hB'
          exact ex _ _ h6 e.symm
        · exact ex _ _ ((hJ j it' hj).1 q) e.symm
    refine ⟨⟨by simp [hl], fun j it' hj => ⟨fun q => ?_, fun q => ?_⟩⟩, ⟨h4, t4, rfl, fun b o hbC hbb e => hk4 b o hbC (fun q => hbb (q ▸ List.mem_map_of_mem hitm)) e, hn4⟩, Nat.le_trans htk ht4⟩
    · refine hk4 _ _ (hita it' (List.mem_of_getElem? hj)).2.1 (fun e => ?_) ((hJ j it' hj).1 (Nat.le_of_succ_le q))
      have := hnd j k it' it hj hit e
      omega
    · rcases Nat.lt_or_ge j k with q' | q'
      · obtain ⟨y, hy, hB'⟩ := (hJ j it' hj).2 q'
        refine ⟨y, by rw [List.getElem?_append_left (by omega)]; exact hy, hB'.on (fun _ z => z) fun b o hb e => ?_⟩
        rcases hb with hb | rfl
        · exact hk4 b o hb.2.2.1 (fun q => hb.2.2.2.2.2 (q ▸ List.mem_map_of_mem hitm)) e
        · refine hk4 _ _ (hita it' (List.mem_of_getElem? hj)).2.1 (fun e => ?_) e
          have := hnd j k it' it hj hit e
          omega
      · have : j = k := by omega
        subst this
        rw [hit] at hj
        cases hj
        refine ⟨v, by rw [List.getElem?_append_right (by omega), hl, Nat.sub_self]; rfl, hB.on fresh fun _ _ _ e => e⟩
  case q1 =>
    rintro h' tk ys hpl ⟨hl, hJ⟩ hns hkp htk
    obtain ⟨cD, hcD⟩ := hpl
    have keep : ∀ b o, b ≠ env.locals → b ∉ items.map (·.a) → s.heap.get? b = some o → h'.get? b = some o := fun b o hbL hb e => hkp b o hbL (notI b o e) hb (up b o e)
    have h0L : ∀ b o, h₀.get? b = some o → b ≠ env.locals := fun b o e q => by
      rw [q] at e
      exact Nat.lt_irrefl _ (Nat.lt_of_lt_of_le (Heap.lt_size e) F.above)
    refine hQ _ h' tk ys.toList cD hl (fun j it hj => ?_) ⟨hns, fun b o e => keep b o (h0L b o e) (h0bad b o e) (F.keep b o e), F.above⟩ (fun q hq => ?_) htk
    · obtain ⟨y, hy, hB⟩ := (hJ j it hj).2 (List.getElem?_eq_some_iff.mp hj).1
      exact ⟨y, hy, hB.on (fun z h => ⟨h.1, h.2.1⟩) fun _ _ _ e => e⟩
    · rcases List.mem_cons.mp hq with rfl | hq
      · refine ⟨by rw [Array.toArray_toList]; exact hcD, ?_, ?_⟩
        · intro q
          have q' : H.objs.size = env.locals := q
          rw [hHs] at q'
          exact Nat.lt_irrefl _ (Nat.lt_of_succ_lt (q' ▸ hLlt))
        · cases e : h₀.get? H.objs.size with
          | none => rfl
          | some o =>
            have := Heap.lt_size (F.keep _ _ e)
            rw [hHs] at this
            exact absurd this (Nat.not_lt.mpr (Nat.le_succ _))
      · have h1 := N q (List.mem_append_right _ hq)
        refine ⟨keep _ _ h1.2.1 (fun hb => ?_) h1.1, h1.2⟩
        obtain ⟨it', hi', e⟩ := hbadm _ hb
        exact hnews q hq it' hi' e.symm
end
end

section -- part P01b
set_option Elab.async false
set_option maxRecDepth 100000
set_option maxHeartbeats 4000000
theorem reset_P01b : True := by
  w_top off
  trivial
/-- the text from its end -/
def revS (x : Str) : Str := ⟨x.cps.reverse⟩
theorem revS_revS (x : Str) : revS (revS x) = x := by
  obtain ⟨a⟩ := x
  simp [revS]
theorem revS_toList (x : Str) : (revS x).cps.toList = x.cps.toList.reverse := by simp [revS]
theorem cuts_swap {n m : Nat} {ks : List Int} (hn : 0 < n) (hk : ks.length = m * n) : cuts n m (swapL n ks) = (cuts n m ks).map revS := by
  simp only [cuts, List.map_map]
  refine List.map_congr_left fun j hj => ?_
  rw [cutAt_swap hn hk (List.mem_range.mp hj)]
  simp [textOf, revS]
theorem erase_past {z : Str} : ∀ {zs ys : List Str}, z ∉ zs → zs.foldl List.erase (z :: ys) = z :: zs.foldl List.erase ys
  | [], _, _ => rfl
  | a :: zs, ys, h => by
    have h1 : a ≠ z := fun e => h (e ▸ List.mem_cons_self)
    have h2 : z ∉ zs := fun e => h (List.mem_cons_of_mem _ e)
    rw [List.foldl_cons, List.foldl_cons, List.erase_cons_tail (by simpa using h1.symm), erase_past h2]
theorem erase_at_head {z : Str} : ∀ {zs ys : List Str}, z ∈ zs → zs.foldl List.erase (z :: ys) = (zs.erase z).foldl List.erase ys
  | a :: zs, ys, h => by
    by_cases e : a = z
    · subst e
      rw [List.foldl_cons, List.erase_cons_head, List.erase_cons_head]
    · have h2 : z ∈ zs := by
        rcases List.mem_cons.mp h with h | h
        · exact absurd h.symm e
        · exact h
      rw [List.foldl_cons, List.erase_cons_tail (by simpa using fun q : z = a => e q.symm), erase_at_head h2, List.erase_cons_tail (by simpa using e), List.foldl_cons]
theorem foldl_erase {g : Str → Bool} : ∀ {ys zs : List Str}, (∀ v, zs.count v = if g v = true then ys.count v else 0) → zs.foldl List.erase ys = ys.filter (fun v => !g v)
  | [], zs, h => by
    have : zs = [] := by
      refine List.eq_nil_iff_forall_not_mem.mpr fun v hv => ?_
      have := h v
      rw [List.count_nil, ite_self] at this
      exact List.count_eq_zero.mp this hv
    subst this
    rfl
  | y :: ys, zs, h => by
    cases hg : g y with
    | true =>
      have hy : y ∈ zs := by
        refine List.count_pos_iff.mp ?_
        rw [h y, if_pos hg, List.count_cons_self]
        exact Nat.succ_pos _
      rw [erase_at_head hy, foldl_erase (g := g) fun v => ?_, List.filter_cons_of_neg (by simp [hg])]
      rw [List.count_erase, h v, List.count_cons]
      by_cases e : y = v
      · subst e
        simp [hg]
      · have e1 : (v == y) = false := by simpa using fun q : v = y => e q.symm
        have e2 : (y == v) = false := by simpa using e
        simp [e2]
    | false =>
      have hy : y ∉ zs := by
        refine List.count_eq_zero.mp ?_
        rw [h y, hg]
        rfl
      rw [erase_past hy, foldl_erase (g := g) fun v => ?_, List.filter_cons_of_pos (by simp [hg])]
      rw [h v, List.count_cons]
      by_cases e : y = v
      · subst e
        simp [hg]
      · have e2 : (y == v) = false := by simpa using e
        simp [e2]
theorem leftOf_filter (g : Str → Bool) (ys : List Str) : leftOf (ys.filter g) ys = ys.filter (fun v => !g v) := by
  unfold leftOf
  refine foldl_erase fun v => ?_
  rw [List.count_reverse]
  cases hg : g v with
  | true => rw [if_pos rfl, List.count_filter hg]
  | false =>
    rw [if_neg (by decide)]
    exact List.count_eq_zero.mpr fun h => by rw [(List.mem_filter.mp h).2] at hg; cases hg
/-- all is taken out -/
theorem leftOf_self (ys : List Str) : leftOf ys ys = [] := by
  have h := leftOf_filter (fun _ => true) ys
  rw [show ys.filter (fun _ => true) = ys from List.filter_eq_self.mpr (by simp)] at h
  rw [h]
  simp
theorem map_filter_rev (f : Str → Bool) (S : List Str) : (S.filter f).map revS = (S.map revS).filter (fun v => f (revS v)) := by
  rw [List.filter_map]
  congr 1
  refine List.filter_congr fun x _ => ?_
  simp [Function.comp, revS_revS]
/-- the bag of swapped samples, less the mirrors of the taken -/
theorem left_swapped (f : Str → Bool) (S : List Str) : leftOf ((S.filter f).map revS) (S.map revS) = (S.filter (fun x => !f x)).map revS := by
  rw [map_filter_rev, leftOf_filter, map_filter_rev (fun x => !f x)]
theorem kept_eq {f g : Str → Bool} {S : List Str} (h : ∀ x ∈ S, g (revS x) = f x) : (S.map revS).filter g = (S.filter f).map revS := by
  rw [List.filter_map]
  congr 1
  exact List.filter_congr h
def JM (f : Str → Str) (S : List Str) (k : Nat) (ys : List Value) : Prop := StrsAre ys ((S.take k).map f)
theorem JM.nil (f : Str → Str) (S : List Str) : JM f S 0 [] := StrsAre.nil
theorem JM.push {f : Str → Str} {S : List Str} {k : Nat} {ys : List Value} {x : Str} {t : Tok} (hx : S[k]? = some x) (hj : JM f S k ys) : JM f S (k + 1) (ys ++ [.str (f x) t]) := by
  unfold JM at *
  rw [List.take_add_one, hx, List.map_append]
  exact strsAre_snoc hj _ t
theorem JM.done {f : Str → Str} {S : List Str} {n : Nat} {ys : List Value} (hn : n = S.length) (hj : JM f S n ys) : StrsAre ys (S.map f) := by
  unfold JM at hj
  rwa [List.take_of_length_le (by omega)] at hj
end

section -- part P01c
set_option Elab.async false
set_option maxRecDepth 100000
set_option maxHeartbeats 4000000
theorem reset_P01c : True := by
  w_top off
  trivial
theorem rev_picked (x : Str) : (⟨((Builtin.Str.strSliceIndices none none (-1) x.length).filterMap (x.cps[·]?)).toArray⟩ : Str) = revS x := by
  show (⟨((sliceRange ((x.length : Int) - 1) (-1) (-1)).filterMap (x.cps[·]?)).toArray⟩ : Str) = _
  rw [krv_sliceRange, krv_range, List.filterMap_reverse, show x.length = x.cps.size from rfl, krv_all]
  obtain ⟨a⟩ := x
  show (⟨a.toList.reverse.toArray⟩ : Str) = ⟨a.reverse⟩
  congr 1
  rw [List.reverse_toArray.symm]
section
variable {prog : Program} {w : World} {A : Around} {E : Value → Shared → Prop} {s : Shared} {value slice : Expr} {x : Str} {t uk : Tok} {h₀ : Heap} {L : Addr} {m : Str → Option Value} {news : List (Addr × Obj)} {Q : Value → Shared → Prop}
/-- x[::-1], x a text -/
theorem slice_rev (F : Fr h₀ L s.heap m) (N : News h₀ L s.heap news) (h : ∀ h' t' k, Fr h₀ L h' m → News h₀ L h' news → Q (.str (revS x) t') { s with heap := h', toks := k })
    (hsz : x.length ≤ 64)
    (hs : subscripted slice false (.str x t) (.ref s.heap.objs.size) = operate [.ref s.heap.objs.size, .str x t] (getItem (.str x t) (.ref s.heap.objs.size)) := by with_unfolding_all rfl)
    (ht : ∀ r, letTemporaryGo value (.str x t) r = pure () := by intro _; with_unfolding_all rfl) :
    wpAny (model prog w) A (subscriptTail value slice (.str x t) (.ref s.heap.objs.size)) Q E { s with heap := s.heap.push { cls := .type "slice", data := .fields #[.none, .none, .int (-1) uk] } } := by
  refine tail_of_ItemOn ⟨"str", _, PySem.F.slot_str_getitem.lookup, typeIs_str _ _ _, wpAny_getItem_str_slice (l := none) (u := none) (st := some (-1, uk)) ⟨_, Heap.get?_push_size _ rfl, rfl, rfl⟩ rfl ?_⟩ hs ht
  have e : sliceMade x t none none (some (-1, uk)) = .str (revS x) := by
    unfold sliceMade slicePicked
    rw [if_neg (by simp)]
    rw [← rev_picked]
    rfl
  rw [e]
  refine ⟨?_, h _ _ _ (F.push _) (N.grown fun _ _ e => Heap.get?_push_of_some _ e)⟩
  show (revS x).length ≤ sizeLine
  have : (revS x).length = x.length := by simp [revS, Str.length]
  rw [this, sizeLine_eq]
  omega
end
end

section -- part P01g
set_option Elab.async false
set_option maxRecDepth 100000
set_option maxHeartbeats 8000000
theorem reset_P01g : True := by
  w_top off
  trivial
theorem news_sub {h₀ h : Heap} {L : Addr} {a b : List (Addr × Obj)} (N : News h₀ L h a) (hs : ∀ p ∈ b, p ∈ a) : News h₀ L h b := fun p hp => N p (hs p hp)
theorem use_strs {M : Model} {A : Around} {E : Value → Shared → Prop} {s : Shared} {h₀ : Heap} {L : Addr} {m : Str → Option Value} {news : List (Addr × Obj)} {t : Sem Value} {Q : Value → Shared → Prop} {ss : List Str}
    (F : Fr h₀ L s.heap m) (N : News h₀ L s.heap news) (C : wpAny M A t (GivesStrs s ss) E s)
    (h : ∀ r vs c h' tk', s.toks ≤ tk' → Fr h₀ L h' m → News h₀ L h' ((r, listOf vs.toArray c) :: news) → StrsAre vs ss → (∀ p ∈ news, p.1 ≠ r) → (∀ b o, s.heap.get? b = some o → h'.get? b = some o) → s.heap.get? r = none → Q (.ref r) { s with heap := h', toks := tk' }) : wpAny M A t Q E s := by
  refine wpAny_mono (wpAny_toks_of (n := s.toks) (Nat.le_refl _) C) (fun v s' h1 => ?_) fun _ _ x => x.2
  obtain ⟨htk, ⟨h', tk', rfl, k⟩, r, vs, c, rfl, hr0, hr1, hS⟩ := h1
  obtain ⟨F', N'⟩ := take_new F N hr0 hr1 k
  exact h r vs c h' tk' htk F' N' hS (fun p hp e => by
    have := (N p hp).1
    rw [e, hr0] at this
    cases this) k hr0
theorem cut_len {n m : Nat} {ks : List Int} {k : Nat} {x : Str} (hx : (cuts n m ks)[k]? = some x) (hn64 : n ≤ 64) : x.cps.size ≤ 64 := by
  obtain ⟨hlt, rfl⟩ := List.getElem?_eq_some_iff.mp hx
  simp only [cuts, List.getElem_map, List.getElem_range]
  show (textOf _).length ≤ 64
  rw [textOf_len2, cutAt, List.length_take]
  omega
theorem swapL_mem {n m : Nat} {ks : List Int} (hk : ks.length = m * n) (hn : 0 < n) {c : Int} (h : c ∈ swapL n ks) : c ∈ ks := by
  obtain ⟨p, hp, rfl⟩ := List.mem_map.mp h
  rw [List.mem_range] at hp
  unfold swapAt
  have h1 : p / n < m := by rw [Nat.div_lt_iff_lt_mul hn]; omega
  have h2 : p % n < n := Nat.mod_lt _ hn
  have h3 : p / n * n + n ≤ m * n := by
    have := Nat.mul_le_mul_right n (Nat.succ_le_of_lt h1)
    rwa [Nat.succ_mul] at this
  have h4 : p / n * n + (n - 1 - p % n) < ks.length := by omega
  rw [List.getD_eq_getElem?_getD, List.getElem?_eq_getElem h4]
  exact List.getElem_mem h4
/-- [True, taken, ([], []), ([], left)], of new objects -/
def ToldIs (h₀ h : Heap) (v : Value) (T L : List Str) : Prop :=
  ∃ (R : Addr) (cR : Nat) (D : Addr) (vD : List Value) (cD : Nat) (tA : Addr) (oA : Obj) (nA : Nat) (rA : Addr) (mA : Nat) (kA : Addr) (cA : Nat) (vA : List Value) (tB : Addr) (oB : Obj) (nB : Nat) (rB : Addr) (mB : Nat) (kB : Addr) (cB : Nat) (vB : List Value),
    v = .ref R ∧ h.get? R = some (listOf [Value.bool true, Value.ref D, Value.ref tA, Value.ref tB].toArray cR) ∧ h.get? D = some (listOf vD.toArray cD) ∧ StrsAre vD T ∧
    h.get? tA = some oA ∧ oA.cls = .type "tuple" ∧ oA.data = .seq #[Value.ref rA, Value.ref kA] nA ∧ h.get? rA = some (listOf ([] : List Value).toArray mA) ∧ h.get? kA = some (listOf vA.toArray cA) ∧ StrsAre vA [] ∧
    h.get? tB = some oB ∧ oB.cls = .type "tuple" ∧ oB.data = .seq #[Value.ref rB, Value.ref kB] nB ∧ h.get? rB = some (listOf ([] : List Value).toArray mB) ∧ h.get? kB = some (listOf vB.toArray cB) ∧ StrsAre vB L ∧
    ∀ z ∈ [R, D, tA, rA, kA, tB, rB, kB], h₀.get? z = none
theorem told_call {w : World} {p : Program} {loose : List Str} {mean : ExcName → Option Value} {mg mb : Str → Option Value}
  {dp un : Nat} {gd : Option (List Code)} {fr : List Env} {s : Shared} {E : Value → Shared → Prop} (X : (Mine.hd.heap_39 w.params).In s.heap) (T : Top p loose mean mg mb s.heap)
  (hd : dp + 20 < recursionLimit) (hu : un + 200 < cLine) (d : Array UInt8) (td tn tx : Tok) (m n : Nat) (hn : 0 < n) (hn64 : n ≤ 64) (ks : List Int) (hk : KBw.bInts d = ks) (hkl : ks.length = m * n) (hk4 : ks.length ≤ 64) (hin : ∀ c ∈ ks, c ∈ [97, 98])
  (xl : List Nat) (hx0 : 0 < xl.length) (hx64 : xl.length ≤ 64) (hxs : ∀ c ∈ xl, c ∈ [42, 63, 97, 98]) (hsym : ∀ x ∈ cuts n m ks, takesL (partsL none xl.reverse) (revS x).cps.toList = takesL (partsL none xl) x.cps.toList) :
  wpC (model PySem.Challenge.rw_il0107_01.row.prog w) (Ar dp un gd fr) (call (.ref 94) [.bytes d td, .int (n : Int) tn, .str ⟨xl.toArray⟩ tx]) (fun v s' => Keeps s s' ∧ ToldIs s.heap s'.heap v ((cuts n m ks).filter (fun x => takesL (partsL none xl) x.cps.toList)) (((cuts n m ks).filter (fun x => !takesL (partsL none xl) x.cps.toList)).map revS)) E s := by
  have hxl : (⟨xl.toArray⟩ : Str).length ≤ 64 := by simpa [Str.length] using hx64
  have hxl2 : ((⟨xl.toArray⟩ : Str).length : Int) = (xl.length : Int) := by simp [Str.length]
  revert X
  k_fill
  intro X
  k_dflt (refine' enterCC (binds := [(Str.ofString "octets", Value.bytes d td), (Str.ofString "width", Value.int (n : Int) tn), (Str.ofString "pattern", Value.str ⟨xl.toArray⟩ tx)]) X T.nolimit ?k6 ?k7 ?k8 ?k9 ?kB ?kC ?_ ?c2 ?c3 ?c4; (case k6 => k_is); (case k7 => k_is); (case k8 => (show dp < recursionLimit; omega)); (case k9 => exact BindsTo.of_eq rfl); (case kB => exact kindsX rfl); (case kC => decide); (case c2 => exact rfl); (case c3 => exact rfl); (case c4 => exact rfl); k_whole; intro L' h' tk' cells F' N' Y')
  k_cells Y'
  rename_i oT oO oP dT dO dP
  (try k_fold)
  obtain ⟨o38, fd38, h38, hf38⟩ : ∃ o fd, (Mine.hd.heap_39 w.params).lookup 38 = some o ∧ o.data = .func fd := ⟨_, _, (by k_is), rfl⟩
  refine wpC_execs_cons (wpC_Assign_Name (wpC_Call_Name ?_) ?g1)
  case g1 => rfl
  (first | (k_unfold; (try dsimp only)) | ((with_reducible refine wpAny_execs_cons ?_); (try dsimp only)) | walk1 | (dsimp only; walk1) | (leave1; walk_say "STEP leave1"; try dsimp only) | (dsimp only; k_unfold; (try dsimp only)))
  refine wpC_callFn2 hf38 ?_
  (repeat' (first | ((with_reducible show wpAny _ _ _ _ _ _); (fail_if_success (with_reducible show wpAny _ _ (exec (Stmt.Assign _ (Expr.ListComp _ _ _ _) _) _) _ _ _)); (fail_if_success (with_reducible show wpAny _ _ (pyIter _) _ _ _)); (fail_if_success (with_reducible show wpAny _ _ (getMethod _ _ _) _ _ _)); (fail_if_success (with_reducible show wpAny _ _ (call (Value.builtin "str.encode") _) _ _ _)); (fail_if_success (with_reducible show wpAny _ _ (call (Value.ref _) _) _ _ _)); (fail_if_success (with_reducible show wpAny _ _ (eval (Expr.ListComp _ _ _ _) _) _ _ _)); (first | (k_unfold; (try dsimp only)) | ((with_reducible refine wpAny_execs_cons ?_); (try dsimp only)) | walk1 | (dsimp only; walk1) | (leave1; walk_say "STEP leave1"; try dsimp only) | (dsimp only; k_unfold; (try dsimp only))))))
  refine method_encode ?_
  (repeat' (first | ((with_reducible show wpAny _ _ _ _ _ _); (fail_if_success (with_reducible show wpAny _ _ (exec (Stmt.Assign _ (Expr.ListComp _ _ _ _) _) _) _ _ _)); (fail_if_success (with_reducible show wpAny _ _ (pyIter _) _ _ _)); (fail_if_success (with_reducible show wpAny _ _ (getMethod _ _ _) _ _ _)); (fail_if_success (with_reducible show wpAny _ _ (call (Value.builtin "str.encode") _) _ _ _)); (fail_if_success (with_reducible show wpAny _ _ (call (Value.ref _) _) _ _ _)); (fail_if_success (with_reducible show wpAny _ _ (eval (Expr.ListComp _ _ _ _) _) _ _ _)); (first | (k_unfold; (try dsimp only)) | ((with_reducible refine wpAny_execs_cons ?_); (try dsimp only)) | walk1 | (dsimp only; walk1) | (leave1; walk_say "STEP leave1"; try dsimp only) | (dsimp only; k_unfold; (try dsimp only))))))
  refine call_encode (by simpa using fun c hc => (by decide : ∀ c ∈ ([42, 63, 97, 98] : List Nat), c < 128) c (hxs c hc)) (by show xl.toArray.size ≤ 4096; rw [List.size_toArray]; omega) fun te ke => ?_
  (repeat' (first | ((with_reducible show wpAny _ _ _ _ _ _); (fail_if_success (with_reducible show wpAny _ _ (exec (Stmt.Assign _ (Expr.ListComp _ _ _ _) _) _) _ _ _)); (fail_if_success (with_reducible show wpAny _ _ (pyIter _) _ _ _)); (fail_if_success (with_reducible show wpAny _ _ (getMethod _ _ _) _ _ _)); (fail_if_success (with_reducible show wpAny _ _ (call (Value.builtin "str.encode") _) _ _ _)); (fail_if_success (with_reducible show wpAny _ _ (call (Value.ref _) _) _ _ _)); (fail_if_success (with_reducible show wpAny _ _ (eval (Expr.ListComp _ _ _ _) _) _ _ _)); (first | (k_unfold; (try dsimp only)) | ((with_reducible refine wpAny_execs_cons ?_); (try dsimp only)) | walk1 | (dsimp only; walk1) | (leave1; walk_say "STEP leave1"; try dsimp only) | (dsimp only; k_unfold; (try dsimp only))))))
  (rename Fr _ _ _ _ => F1)
  (rename News _ _ _ _ => N1)
  have X1 := X.keeps F1.keep
  have T1 := T.keeps F1.keep
  refine ⟨X1 _ _ h38, ?_⟩
  have hbi : KBw.bInts (xl.map (·.toUInt8)).toArray = xl.map fun c : Nat => (c : Int) := by
    simp only [KBw.bInts, List.map_map]
    refine List.map_congr_left fun c hc => ?_
    have := (by decide : ∀ c ∈ ([42, 63, 97, 98] : List Nat), ((fun c : UInt8 => (c.toNat : Int)) ∘ (·.toUInt8)) c = (c : Int)) c (hxs c hc)
    exact this
  refine wpC_mono (swap_call X1 T1 (by show dp + 1 + 5 < _; omega) _ _ _ 1 xl.length hx0 hx64 (xl.map fun c : Nat => (c : Int)) hbi (by simp) (by simp; omega)) (fun v s4 g => ?_) (fun _ _ e => e)
  obtain ⟨⟨h4, t4, rfl, k4⟩, d4, td4, rfl, hd4⟩ := g
  have F4 := fr_on F1 k4
  have N4 := N1.grown k4
  have hsw1 : swapL xl.length (xl.map fun c : Nat => (c : Int)) = (xl.reverse).map fun c : Nat => (c : Int) := by
    have h1 := cutAt_swap (n := xl.length) (m := 1) (ks := xl.map fun c : Nat => (c : Int)) hx0 (by simp) (j := 0) (by decide)
    rw [cutAt, cutAt] at h1
    simp only [Nat.zero_mul, List.drop_zero] at h1
    rw [List.take_of_length_le (by simp [swapL]), List.take_of_length_le (by simp)] at h1
    rw [h1, List.map_reverse]
  rw [hsw1] at hd4
  clear F1 N1 X1 T1 k4 hsw1 hbi
  (repeat' (first | ((with_reducible show wpAny _ _ _ _ _ _); (fail_if_success (with_reducible show wpAny _ _ (exec (Stmt.Assign _ (Expr.ListComp _ _ _ _) _) _) _ _ _)); (fail_if_success (with_reducible show wpAny _ _ (pyIter _) _ _ _)); (fail_if_success (with_reducible show wpAny _ _ (getMethod _ _ _) _ _ _)); (fail_if_success (with_reducible show wpAny _ _ (call (Value.builtin "str.encode") _) _ _ _)); (fail_if_success (with_reducible show wpAny _ _ (call (Value.ref _) _) _ _ _)); (fail_if_success (with_reducible show wpAny _ _ (eval (Expr.ListComp _ _ _ _) _) _ _ _)); (first | (k_unfold; (try dsimp only)) | ((with_reducible refine wpAny_execs_cons ?_); (try dsimp only)) | walk1 | (dsimp only; walk1) | (leave1; walk_say "STEP leave1"; try dsimp only) | (dsimp only; k_unfold; (try dsimp only))))))
  dsimp only
  refine wpC_execs_cons (wpC_of_any ?_)
  (repeat' (first | ((with_reducible show wpAny _ _ _ _ _ _); (fail_if_success (with_reducible show wpAny _ _ (exec (Stmt.Assign _ (Expr.ListComp _ _ _ _) _) _) _ _ _)); (fail_if_success (with_reducible show wpAny _ _ (pyIter _) _ _ _)); (fail_if_success (with_reducible show wpAny _ _ (call (Value.ref _) _) _ _ _)); (fail_if_success (with_reducible show wpAny _ _ (eval (Expr.ListComp _ _ _ _) _) _ _ _)); (first | (k_unfold; (try dsimp only)) | ((with_reducible refine wpAny_execs_cons ?_); (try dsimp only)) | walk1 | (dsimp only; walk1) | (leave1; walk_say "STEP leave1"; try dsimp only) | (dsimp only; k_unfold; (try dsimp only))))))
  refine wpAny_ListComp_one (cl := []) (closureFor_none (by decide)) (by decide) rfl (by decide) rfl ?_
  (repeat' (first | ((with_reducible show wpAny _ _ _ _ _ _); (fail_if_success (with_reducible show wpAny _ _ (exec (Stmt.Assign _ (Expr.ListComp _ _ _ _) _) _) _ _ _)); (fail_if_success (with_reducible show wpAny _ _ (pyIter _) _ _ _)); (fail_if_success (with_reducible show wpAny _ _ (call (Value.ref _) _) _ _ _)); (fail_if_success (with_reducible show wpAny _ _ (eval (Expr.ListComp _ _ _ _) _) _ _ _)); (first | (k_unfold; (try dsimp only)) | ((with_reducible refine wpAny_execs_cons ?_); (try dsimp only)) | walk1 | (dsimp only; walk1) | (leave1; walk_say "STEP leave1"; try dsimp only) | (dsimp only; k_unfold; (try dsimp only))))))
  (rename Fr _ _ _ _ => F6)
  (rename News _ _ _ _ => N6)
  have hpz : d4.size ≤ 4096 := by
    rw [← KBw.ints_length, hd4]
    simp; omega
  refine KBw.pyIter_bytes ?_
  refine ⟨_, [_], [_], _, _, _, JI d4, rfl, KBw.walks rfl _ d4 _, by rw [sizeLine_eq]; omega, ⟨_, Heap.get?_push_size _ rfl, rfl, rfl⟩, ?y2, .nil, ?y3, ?y4⟩
  case y2 =>
    intro b hb
    rw [List.mem_singleton.mp hb]
    show _ < (Heap.push _ _).objs.size
    rw [Heap.size_push]
    exact Nat.lt_succ_self _
  case y3 =>
    rintro C2 i2 v2 s5 m5 E2 hC2 _ ⟨c, u, hbc, rfl⟩ hns2 hm2 hk2 _
    obtain ⟨F7, N7⟩ := comp_frame F6 N6 rfl hC2 hns2 hk2
    clear F6 N6 hC2 hk2
    have hc256 := c.toNat_lt
    (repeat' (first | ((with_reducible show wpAny _ _ _ _ _ _); (fail_if_success (with_reducible show wpAny _ _ (exec (Stmt.Assign _ (Expr.ListComp _ _ _ _) _) _) _ _ _)); (fail_if_success (with_reducible show wpAny _ _ (pyIter _) _ _ _)); (fail_if_success (with_reducible show wpAny _ _ (call (Value.ref _) _) _ _ _)); (fail_if_success (with_reducible show wpAny _ _ (eval (Expr.ListComp _ _ _ _) _) _ _ _)); (first | (k_unfold; (try dsimp only)) | ((with_reducible refine wpAny_execs_cons ?_); (try dsimp only)) | walk1 | (dsimp only; walk1) | (leave1; walk_say "STEP leave1"; try dsimp only) | (dsimp only; k_unfold; (try dsimp only))))))
    exact ⟨fun ys hJ => JI.push hbc hJ, _, _, rfl, fun b o _ e => e, hns2⟩
  case y4 =>
    intro D h7 tk7 ys hD hpl hJ hk7
    obtain ⟨c7, hc7⟩ := hpl
    obtain ⟨F8, N8⟩ := comp_done F6 N6 rfl hD hc7 hk7
    unfold JI at hJ
    rw [List.take_of_length_le (by simp), ← signs_ints, hd4] at hJ
    rw [show ys = ys.toList.toArray from (Array.toArray_toList).symm] at N8
    generalize ys.toList = zs at hJ N8
    clear F6 N6 hk7 hc7 hD
    (repeat' (first | ((with_reducible show wpAny _ _ _ _ _ _); (fail_if_success (with_reducible show wpAny _ _ (exec (Stmt.Assign _ (Expr.ListComp _ _ _ _) _) _) _ _ _)); (fail_if_success (with_reducible show wpAny _ _ (pyIter _) _ _ _)); (fail_if_success (with_reducible show wpAny _ _ (call (Value.ref _) _) _ _ _)); (fail_if_success (with_reducible show wpAny _ _ (eval (Expr.ListComp _ _ _ _) _) _ _ _)); (first | (k_unfold; (try dsimp only)) | ((with_reducible refine wpAny_execs_cons ?_); (try dsimp only)) | walk1 | (dsimp only; walk1) | (leave1; walk_say "STEP leave1"; try dsimp only) | (dsimp only; k_unfold; (try dsimp only))))))
    have hD2 := News.isList N8 List.mem_cons_self
    (with_reducible refine join_listC hD2 hJ (by decide) (by rw [sum_signs, signs_length, textOf_len2]; simp; omega) ?_)
    intro tj kj
    rw [join_signs]
    have htx : textOf ((xl.reverse).map fun c : Nat => (c : Int)) = ⟨xl.reverse.toArray⟩ := by
      simp only [textOf, List.map_map]
      congr 2
      exact (List.map_congr_left fun c _ => rfl).trans (List.map_id _)
    rw [htx]
    (repeat' (first | ((with_reducible show wpAny _ _ _ _ _ _); (fail_if_success (with_reducible show wpAny _ _ (exec (Stmt.Assign _ (Expr.ListComp _ _ _ _) _) _) _ _ _)); (fail_if_success (with_reducible show wpAny _ _ (pyIter _) _ _ _)); (fail_if_success (with_reducible show wpAny _ _ (call (Value.ref _) _) _ _ _)); (fail_if_success (with_reducible show wpAny _ _ (eval (Expr.ListComp _ _ _ _) _) _ _ _)); (first | (k_unfold; (try dsimp only)) | ((with_reducible refine wpAny_execs_cons ?_); (try dsimp only)) | walk1 | (dsimp only; walk1) | (leave1; walk_say "STEP leave1"; try dsimp only) | (dsimp only; k_unfold; (try dsimp only))))))
    clear hJ
    refine wpC_execs_cons (wpC_of_any ?_)
    (repeat' (first | ((with_reducible show wpAny _ _ _ _ _ _); (fail_if_success (with_reducible show wpAny _ _ (exec (Stmt.Assign _ (Expr.ListComp _ _ _ _) _) _) _ _ _)); (fail_if_success (with_reducible show wpAny _ _ (pyIter _) _ _ _)); (fail_if_success (with_reducible show wpAny _ _ (call (Value.ref _) _) _ _ _)); (fail_if_success (with_reducible show wpAny _ _ (eval (Expr.ListComp _ _ _ _) _) _ _ _)); (first | (k_unfold; (try dsimp only)) | ((with_reducible refine wpAny_execs_cons ?_); (try dsimp only)) | walk1 | (dsimp only; walk1) | (leave1; walk_say "STEP leave1"; try dsimp only) | (dsimp only; k_unfold; (try dsimp only))))))
    (rename Fr _ _ _ _ => F6)
    (rename News _ _ _ _ => N6)
    refine ⟨X.keeps F6.keep, ?_⟩
    have hsg : ∀ (l : List Nat), (∀ c ∈ l, c ∈ [42, 63, 97, 98]) → ∀ (i d : Nat), (⟨l.toArray⟩ : Str).cps[i]? = some d → d ∈ [42, 63, 97, 98] := fun l hl i d e => hl d (by
      rw [List.getElem?_toArray] at e
      exact List.mem_of_getElem? e)
    refine use_strs F6 N6 (trans_call (s := { heap := _, gens := s.gens, drawn := s.drawn, toks := kj + 1 + 1 + 1, os := s.os }) (X.keeps F6.keep) (T.keeps F6.keep) (by show dp + 1 + 10 < _; omega) _ _ _ _ hxl (hsg xl hxs) (Nat.succ_ne_zero _) (Nat.succ_ne_zero _) (Nat.succ_ne_self _) (Nat.lt_succ_of_lt (Nat.lt_succ_self _))) ?_
    intro rP vP cP hP tP htP FP NP hSP hrP kP hrP0
    clear F6 N6
    dsimp only at hrP htP
    have hrP1 : rP ≠ L' + 1 := Ne.symm (hrP (L' + 1, oP) (by repeat (first | exact List.mem_cons_self | apply List.mem_cons_of_mem)))
    have hrP2 : rP ≠ L' + 1 + 1 := Ne.symm (hrP (L' + 1 + 1, oO) (by repeat (first | exact List.mem_cons_self | apply List.mem_cons_of_mem)))
    have hrP3 : rP ≠ L' + 1 + 1 + 1 := Ne.symm (hrP (L' + 1 + 1 + 1, oT) (by repeat (first | exact List.mem_cons_self | apply List.mem_cons_of_mem)))
    have NP' : News s.heap L' hP ([(L' + 1 + 1 + 1, oT), (L' + 1 + 1, oO)] ++ (L' + 1, oP) :: [(rP, listOf vP.toArray cP)]) := news_sub NP (by
      intro p hp
      simp only [List.cons_append, List.nil_append, List.mem_cons, List.not_mem_nil, or_false] at hp ⊢
      rcases hp with h | h | h | h <;> simp [h])
    have c12 : L' + 1 ≠ L' + 1 + 1 := Nat.ne_of_lt (Nat.lt_succ_self _)
    have c23 : L' + 1 + 1 ≠ L' + 1 + 1 + 1 := Nat.ne_of_lt (Nat.lt_succ_self _)
    have c13 : L' + 1 ≠ L' + 1 + 1 + 1 := Nat.ne_of_lt (Nat.lt_succ_of_lt (Nat.lt_succ_self _))
    refine stCN FP NP' (by rfl) dP (by intro p hp; rcases List.mem_cons.mp hp with rfl | hp; exact c13.symm; rcases List.mem_cons.mp hp with rfl | hp; exact c12.symm; cases hp) (by intro p hp; rw [List.mem_singleton.mp hp]; exact hrP1) (fun hP2 oP2 FP2 NP2 dP2 => ?_)
    simp only [List.cons_append, List.nil_append] at NP2
    clear NP NP' FP dP
    dsimp only
    refine wpC_execs_cons (wpC_of_any ?_)
    (repeat' (first | ((with_reducible show wpAny _ _ _ _ _ _); (fail_if_success (with_reducible show wpAny _ _ (exec (Stmt.Assign _ (Expr.ListComp _ _ _ _) _) _) _ _ _)); (fail_if_success (with_reducible show wpAny _ _ (pyIter _) _ _ _)); (fail_if_success (with_reducible show wpAny _ _ (call (Value.ref _) _) _ _ _)); (fail_if_success (with_reducible show wpAny _ _ (eval (Expr.ListComp _ _ _ _) _) _ _ _)); (first | (k_unfold; (try dsimp only)) | ((with_reducible refine wpAny_execs_cons ?_); (try dsimp only)) | walk1 | (dsimp only; walk1) | (leave1; walk_say "STEP leave1"; try dsimp only) | (dsimp only; k_unfold; (try dsimp only))))))
    (rename Fr _ _ _ _ => F6)
    (rename News _ _ _ _ => N6)
    refine ⟨X.keeps F6.keep, ?_⟩
    have hxr : (⟨xl.reverse.toArray⟩ : Str).length ≤ 64 := by simpa [Str.length] using hx64
    have htP0 : tP ≠ 0 := by omega
    refine use_strs F6 N6 (trans_call (s := { heap := _, gens := s.gens, drawn := s.drawn, toks := tP + 1 + 1, os := s.os }) (X.keeps F6.keep) (T.keeps F6.keep) (by show dp + 1 + 10 < _; omega) _ _ _ _ hxr (hsg xl.reverse (fun c hc => hxs c (List.mem_reverse.mp hc))) htP0 (Nat.succ_ne_zero _) (Nat.succ_ne_self _) (Nat.lt_succ_of_lt (Nat.lt_succ_self _))) ?_
    intro rO vO cO hO tO htO FO NO hSO hrO kO hrO0
    clear F6 N6
    dsimp only at hrO htO
    have hrO1 : rO ≠ L' + 1 := Ne.symm (hrO (L' + 1, oP2) (by repeat (first | exact List.mem_cons_self | apply List.mem_cons_of_mem)))
    have hrO2 : rO ≠ L' + 1 + 1 := Ne.symm (hrO (L' + 1 + 1, oO) (by repeat (first | exact List.mem_cons_self | apply List.mem_cons_of_mem)))
    have hrO3 : rO ≠ L' + 1 + 1 + 1 := Ne.symm (hrO (L' + 1 + 1 + 1, oT) (by repeat (first | exact List.mem_cons_self | apply List.mem_cons_of_mem)))
    have NO' : News s.heap L' hO ([(L' + 1 + 1 + 1, oT)] ++ (L' + 1 + 1, oO) :: [(L' + 1, oP2), (rP, listOf vP.toArray cP), (rO, listOf vO.toArray cO)]) := news_sub NO (by
      intro p hp
      simp only [List.cons_append, List.nil_append, List.mem_cons, List.not_mem_nil, or_false] at hp ⊢
      rcases hp with h | h | h | h | h <;> simp [h])
    refine stCN FO NO' (by rfl) dO (by intro p hp; rw [List.mem_singleton.mp hp]; exact c23.symm) (by intro p hp; rcases List.mem_cons.mp hp with rfl | hp; exact c12; rcases List.mem_cons.mp hp with rfl | hp; exact hrP2; rw [List.mem_singleton.mp hp]; exact hrO2) (fun hO2 oO2 FO2 NO2 dO2 => ?_)
    simp only [List.cons_append, List.nil_append] at NO2
    clear NO NO' FO dO
    dsimp only
    have hin128 : ∀ c ∈ ks, 0 ≤ c ∧ c < 128 := fun c hc => (by decide : ∀ c ∈ ([97, 98] : List Int), 0 ≤ c ∧ c < 128) c (hin c hc)
    have hm64 : m ≤ 64 := Nat.le_trans (Nat.le_mul_of_pos_right m hn) (hkl ▸ hk4)
    have hcl64 : (cuts n m ks).length = m := by simp [cuts]
    have hpl : ∀ l : List Nat, l.length ≤ 64 → (partsL none l).length ≤ 64 := fun l hl => Nat.le_trans (partsL_len l none) hl
    refine wpC_execs_cons (wpC_Assign_Name (wpC_of_any ?_) ?g1)
    case g1 => rfl
    refine ListComp_testD (cl := [(Str.ofString "parts", L' + 1)]) rfl (by decide) rfl (by decide) rfl ?_
    (repeat' (first | ((with_reducible show wpAny _ _ _ _ _ _); (fail_if_success (with_reducible show wpAny _ _ (exec (Stmt.Assign _ (Expr.ListComp _ _ _ _) _) _) _ _ _)); (fail_if_success (with_reducible show wpAny _ _ (pyIter _) _ _ _)); (fail_if_success (with_reducible show wpAny _ _ (call (Value.ref _) _) _ _ _)); (fail_if_success (with_reducible show wpAny _ _ (eval (Expr.ListComp _ _ _ _) _) _ _ _)); (first | (k_unfold; (try dsimp only)) | ((with_reducible refine wpAny_execs_cons ?_); (try dsimp only)) | walk1 | (dsimp only; walk1) | (leave1; walk_say "STEP leave1"; try dsimp only) | (dsimp only; k_unfold; (try dsimp only))))))
    (rename Fr _ _ _ _ => F6)
    (rename News _ _ _ _ => N6)
    refine ⟨X.keeps F6.keep, ?_⟩
    refine use_strs F6 N6 (samples_call (X.keeps F6.keep) (T.keeps F6.keep) (by show dp + 1 + 5 < _; omega) d _ _ m n hn hn64 ks hk hkl (by omega) hin128) ?_
    intro rS vS cS hS tS htS FS NS hSS hrS kS hrS0
    clear F6 N6
    dsimp only at hrS htS
    have hvS : vS.length = m := by rw [hSS.length, hcl64]
    have NS' := news_sub (b := (L' + 1 + 1 + 1, oT) :: (L' + 1 + 1, oO2) :: (L' + 1, oP2) :: (rP, listOf vP.toArray cP) :: (rO, listOf vO.toArray cO) :: [(rS, listOf vS.toArray cS)]) NS (by
      intro p hp
      simp only [List.mem_cons, List.not_mem_nil, or_false] at hp ⊢
      rcases hp with h | h | h | h | h | h <;> simp [h])
    have hrS3 : rS ≠ L' + 1 + 1 + 1 := Ne.symm (hrS (L' + 1 + 1 + 1, oT) (by repeat (first | exact List.mem_cons_self | apply List.mem_cons_of_mem)))
    refine inner_val (vs := vS.toArray) (r := rS) (JF (fun x => takesL (partsL none xl) x.cps.toList) (cuts n m ks)) (fun k => (fun x : Str => takesL (partsL none xl) x.cps.toList) ((cuts n m ks).getD k ⟨#[]⟩)) FS NS' ?hl ?hh ?hz (JF.nil _ _) ?hs ?t1 ?t2 ?y6
    case hl => exact News.isList NS List.mem_cons_self
    case hs => exact fun k ys hk h hj => JF.skip h (by rw [hcl64]; simpa [hvS] using hk) hj
    case hh => rfl
    case hz => rw [List.size_toArray, hvS, sizeLine_eq]; omega
    case t1 =>
      rintro C i₁ v₁ s₃ m₃ E' nw hi₁ hv₁ hmj F4 N4 _
      obtain ⟨x, ux, rfl, hx⟩ := hSS.item i₁ v₁ (by simpa using hv₁)
      clear FS NS NS'
      (repeat' (first | ((with_reducible show wpAny _ _ _ _ _ _); (fail_if_success (with_reducible show wpAny _ _ (exec (Stmt.Assign _ (Expr.ListComp _ _ _ _) _) _) _ _ _)); (fail_if_success (with_reducible show wpAny _ _ (pyIter _) _ _ _)); (fail_if_success (with_reducible show wpAny _ _ (call (Value.ref _) _) _ _ _)); (fail_if_success (with_reducible show wpAny _ _ (eval (Expr.ListComp _ _ _ _) _) _ _ _)); (first | (k_unfold; (try dsimp only)) | ((with_reducible refine wpAny_execs_cons ?_); (try dsimp only)) | walk1 | (dsimp only; walk1) | (leave1; walk_say "STEP leave1"; try dsimp only) | (dsimp only; k_unfold; (try dsimp only))))))
      refine wpAny_Name (wpAny_loadName_local rfl rfl F4.ns hmj ?_) (by decide)
      (repeat' (first | ((with_reducible show wpAny _ _ _ _ _ _); (fail_if_success (with_reducible show wpAny _ _ (exec (Stmt.Assign _ (Expr.ListComp _ _ _ _) _) _) _ _ _)); (fail_if_success (with_reducible show wpAny _ _ (pyIter _) _ _ _)); (fail_if_success (with_reducible show wpAny _ _ (call (Value.ref _) _) _ _ _)); (fail_if_success (with_reducible show wpAny _ _ (eval (Expr.ListComp _ _ _ _) _) _ _ _)); (first | (k_unfold; (try dsimp only)) | ((with_reducible refine wpAny_execs_cons ?_); (try dsimp only)) | walk1 | (dsimp only; walk1) | (leave1; walk_say "STEP leave1"; try dsimp only) | (dsimp only; k_unfold; (try dsimp only))))))
      (rename Fr _ _ _ _ => F5)
      (rename News _ _ _ _ => N5)
      refine ⟨X.keeps F5.keep, ?_⟩
      refine use_call F5 N5 (takes_call (X.keeps F5.keep) (T.keeps F5.keep) (by show dp + 1 + 5 < _; omega) (by show un + 3 + 100 < _; omega) rP vP (partsL none xl) x.cps.toList _ (News.isList N5 (by repeat (first | exact List.mem_cons_self | apply List.mem_cons_of_mem))) hSP (hpl xl hx64) (by rw [Array.length_toList]; exact cut_len hx hn64)) ?_
      rintro v h9 tk9 F9 N9 rfl
      refine wpAny_truthy_bool ?_
      k_unfold
      exact ⟨by rw [getD_of hx], CBack.intro F9 N9 (fun p hp => List.mem_append_right _ hp)⟩
    case t2 =>
      rintro C i₁ v₁ s₃ m₃ E' nw hi₁ hp₁ hv₁ hmj F4 N4 _
      obtain ⟨x, ux, rfl, hx⟩ := hSS.item i₁ v₁ (by simpa using hv₁)
      refine wpAny_Name (wpAny_loadName_local rfl rfl F4.ns hmj ?_) (by decide)
      exact ⟨fun ys hJ => JF.push hx hp₁ hJ, CBack.intro F4 N4 (fun p hp => List.mem_append_right _ hp)⟩
    case y6 =>
      rintro D h9 tk9 ys ep hJ F9 N9 hn9 hk9 _ htk9
      have hJ1 := JF.done (by rw [hcl64, List.size_toArray, hvS]) hJ
      dsimp only at htk9
      have hD3 : D ≠ L' + 1 + 1 + 1 := Ne.symm (hn9 (L' + 1 + 1 + 1, oT) List.mem_cons_self)
      have N9' : News s.heap L' h9 ([(D, listOf ys.toArray ep)] ++ (L' + 1 + 1 + 1, oT) :: [(L' + 1 + 1, oO2), (L' + 1, oP2), (rP, listOf vP.toArray cP), (rO, listOf vO.toArray cO), (rS, listOf vS.toArray cS)]) := N9
      refine stCN F9 N9' (by rfl) dT (by intro p hp; rw [List.mem_singleton.mp hp]; exact hD3) (by
        intro p hp
        simp only [List.mem_cons, List.not_mem_nil, or_false] at hp
        rcases hp with rfl | rfl | rfl | rfl | rfl
        · exact c23
        · exact c13
        · exact hrP3
        · exact hrO3
        · exact hrS3) (fun hT2 oT2 FT2 NT2 dT2 => ?_)
      simp only [List.cons_append, List.nil_append] at NT2
      clear N9 N9' F9 FS NS NS' dT hJ hk9 kS kO kP
      dsimp only
      obtain ⟨o79, fd79, h79, hf79⟩ : ∃ o fd, (Mine.hd.heap_39 w.params).lookup 79 = some o ∧ o.data = .func fd := ⟨_, _, (by k_is), rfl⟩
      refine wpC_execs_cons (wpC_Assign_Name (wpC_Call_Name ?_) ?g1)
      case g1 => rfl
      (first | (k_unfold; (try dsimp only)) | ((with_reducible refine wpAny_execs_cons ?_); (try dsimp only)) | walk1 | (dsimp only; walk1) | (leave1; walk_say "STEP leave1"; try dsimp only) | (dsimp only; k_unfold; (try dsimp only)))
      refine wpC_callFn2C hf79 ?_
      refine wpC_Call_Name ?_
      (first | (k_unfold; (try dsimp only)) | ((with_reducible refine wpAny_execs_cons ?_); (try dsimp only)) | walk1 | (dsimp only; walk1) | (leave1; walk_say "STEP leave1"; try dsimp only) | (dsimp only; k_unfold; (try dsimp only)))
      refine wpC_callFn2 hf38 ?_
      (first | (k_unfold; (try dsimp only)) | ((with_reducible refine wpAny_execs_cons ?_); (try dsimp only)) | walk1 | (dsimp only; walk1) | (leave1; walk_say "STEP leave1"; try dsimp only) | (dsimp only; k_unfold; (try dsimp only)))
      (first | (k_unfold; (try dsimp only)) | ((with_reducible refine wpAny_execs_cons ?_); (try dsimp only)) | walk1 | (dsimp only; walk1) | (leave1; walk_say "STEP leave1"; try dsimp only) | (dsimp only; k_unfold; (try dsimp only)))
      refine ⟨X.keeps FT2.keep _ _ h38, ?_⟩
      refine wpC_mono (swap_call (X.keeps FT2.keep) (T.keeps FT2.keep) (by show dp + 1 + 5 < _; omega) _ _ _ m n hn hn64 ks hk hkl (by omega)) (fun v s10 g => ?_) (fun _ _ e => e)
      obtain ⟨⟨h10, t10, rfl, k10⟩, d10, td10, rfl, hd10⟩ := g
      have F10 := fr_on FT2 k10
      have N10 := NT2.grown k10
      clear FT2 NT2 k10
      (first | (k_unfold; (try dsimp only)) | ((with_reducible refine wpAny_execs_cons ?_); (try dsimp only)) | walk1 | (dsimp only; walk1) | (leave1; walk_say "STEP leave1"; try dsimp only) | (dsimp only; k_unfold; (try dsimp only)))
      refine ⟨X.keeps F10.keep _ _ h79, ?_⟩
      have hsl : (swapL n ks).length = m * n := by simp [swapL, hkl]
      refine use_strs F10 N10 (samples_call (X.keeps F10.keep) (T.keeps F10.keep) (by show dp + 1 + 5 < _; omega) d10 _ _ m n hn hn64 (swapL n ks) hd10 hsl (by omega) (fun c hc => hin128 c (swapL_mem hkl hn hc))) ?_
      intro rW vW cW hW tW htW FW NW hSW hrW kW hrW0
      clear F10 N10
      (repeat' (first | ((with_reducible show wpAny _ _ _ _ _ _); (fail_if_success (with_reducible show wpAny _ _ (exec (Stmt.Assign _ (Expr.ListComp _ _ _ _) _) _) _ _ _)); (fail_if_success (with_reducible show wpAny _ _ (pyIter _) _ _ _)); (fail_if_success (with_reducible show wpAny _ _ (call (Value.ref _) _) _ _ _)); (fail_if_success (with_reducible show wpAny _ _ (eval (Expr.ListComp _ _ _ _) _) _ _ _)); (first | (k_unfold; (try dsimp only)) | ((with_reducible refine wpAny_execs_cons ?_); (try dsimp only)) | walk1 | (dsimp only; walk1) | (leave1; walk_say "STEP leave1"; try dsimp only) | (dsimp only; k_unfold; (try dsimp only))))))
      dsimp only
      (rename Fr _ _ _ _ => F11)
      (rename News _ _ _ _ => N11)
      have hclW : (cuts n m (swapL n ks)).length = m := by simp [cuts]
      have hvW : vW.length = m := by rw [hSW.length, hclW]
      refine wpC_execs_cons (wpC_of_any ?_)
      refine Assign_testD (cl := [(Str.ofString "others", L' + 1 + 1)]) rfl rfl (by decide) rfl (by decide) rfl rfl rfl ?_
      (repeat' (first | ((with_reducible show wpAny _ _ _ _ _ _); (fail_if_success (with_reducible show wpAny _ _ (exec (Stmt.Assign _ (Expr.ListComp _ _ _ _) _) _) _ _ _)); (fail_if_success (with_reducible show wpAny _ _ (pyIter _) _ _ _)); (fail_if_success (with_reducible show wpAny _ _ (call (Value.ref _) _) _ _ _)); (fail_if_success (with_reducible show wpAny _ _ (eval (Expr.ListComp _ _ _ _) _) _ _ _)); (first | (k_unfold; (try dsimp only)) | ((with_reducible refine wpAny_execs_cons ?_); (try dsimp only)) | walk1 | (dsimp only; walk1) | (leave1; walk_say "STEP leave1"; try dsimp only) | (dsimp only; k_unfold; (try dsimp only))))))
      refine inner_test (vs := vW.toArray) (r := rW) (JF (fun x => takesL (partsL none xl.reverse) x.cps.toList) (cuts n m (swapL n ks))) (fun k => (fun x : Str => takesL (partsL none xl.reverse) x.cps.toList) ((cuts n m (swapL n ks)).getD k ⟨#[]⟩)) F11 N11 ?hl ?hh ?hz (JF.nil _ _) ?hs ?t1 ?t2 ?y6
      case hl => exact News.isList N11 List.mem_cons_self
      case hs => exact fun k ys hk h hj => JF.skip h (by rw [hclW]; simpa [hvW] using hk) hj
      case hh => rfl
      case hz => rw [List.size_toArray, hvW, sizeLine_eq]; omega
      case t1 =>
        rintro C i₁ v₁ s₃ m₃ E' nw hi₁ hv₁ hmj F4 N4 _
        obtain ⟨x, ux, rfl, hx⟩ := hSW.item i₁ v₁ (by simpa using hv₁)
        clear F11 N11
        (repeat' (first | ((with_reducible show wpAny _ _ _ _ _ _); (fail_if_success (with_reducible show wpAny _ _ (exec (Stmt.Assign _ (Expr.ListComp _ _ _ _) _) _) _ _ _)); (fail_if_success (with_reducible show wpAny _ _ (pyIter _) _ _ _)); (fail_if_success (with_reducible show wpAny _ _ (call (Value.ref _) _) _ _ _)); (fail_if_success (with_reducible show wpAny _ _ (eval (Expr.ListComp _ _ _ _) _) _ _ _)); (first | (k_unfold; (try dsimp only)) | ((with_reducible refine wpAny_execs_cons ?_); (try dsimp only)) | walk1 | (dsimp only; walk1) | (leave1; walk_say "STEP leave1"; try dsimp only) | (dsimp only; k_unfold; (try dsimp only))))))
        refine wpAny_Name (wpAny_loadName_local rfl rfl F4.ns hmj ?_) (by decide)
        (repeat' (first | ((with_reducible show wpAny _ _ _ _ _ _); (fail_if_success (with_reducible show wpAny _ _ (exec (Stmt.Assign _ (Expr.ListComp _ _ _ _) _) _) _ _ _)); (fail_if_success (with_reducible show wpAny _ _ (pyIter _) _ _ _)); (fail_if_success (with_reducible show wpAny _ _ (call (Value.ref _) _) _ _ _)); (fail_if_success (with_reducible show wpAny _ _ (eval (Expr.ListComp _ _ _ _) _) _ _ _)); (first | (k_unfold; (try dsimp only)) | ((with_reducible refine wpAny_execs_cons ?_); (try dsimp only)) | walk1 | (dsimp only; walk1) | (leave1; walk_say "STEP leave1"; try dsimp only) | (dsimp only; k_unfold; (try dsimp only))))))
        (rename Fr _ _ _ _ => F5)
        (rename News _ _ _ _ => N5)
        refine ⟨X.keeps F5.keep, ?_⟩
        refine use_call F5 N5 (takes_call (X.keeps F5.keep) (T.keeps F5.keep) (by show dp + 1 + 5 < _; omega) (by show un + 3 + 100 < _; omega) rO vO (partsL none xl.reverse) x.cps.toList _ (News.isList N5 (by repeat (first | exact List.mem_cons_self | apply List.mem_cons_of_mem))) hSO (hpl xl.reverse (by simpa using hx64)) (by rw [Array.length_toList]; exact cut_len hx hn64)) ?_
        rintro v h9 tk9 F9 N9 rfl
        refine wpAny_truthy_bool ?_
        k_unfold
        exact ⟨by rw [getD_of hx], CBack.intro F9 N9 (fun p hp => List.mem_append_right _ hp)⟩
      case t2 =>
        rintro C i₁ v₁ s₃ m₃ E' nw hi₁ hp₁ hv₁ hmj F4 N4 _
        obtain ⟨x, ux, rfl, hx⟩ := hSW.item i₁ v₁ (by simpa using hv₁)
        refine wpAny_Name (wpAny_loadName_local rfl rfl F4.ns hmj ?_) (by decide)
        exact ⟨fun ys hJ => JF.push hx hp₁ hJ, CBack.intro F4 N4 (fun p hp => List.mem_append_right _ hp)⟩
      case y6 =>
        rintro rK h12 tk12 vK cK hJ F12 N12 hn12 hk12 hrK0 htk12
        have hJ2 := JF.done (by rw [hclW, List.size_toArray, hvW]) hJ
        clear hJ F11 N11 hk12
        dsimp only
        refine wpC_execs_cons ?_
        refine wpC_Assign_rows (cl := [(Str.ofString "taken", L' + 1 + 1 + 1)]) rfl rfl (by decide) rfl (by decide) rfl rfl rfl ?_
        (repeat' (first | ((with_reducible show wpAny _ _ _ _ _ _); (fail_if_success (with_reducible show wpAny _ _ (exec (Stmt.Assign _ (Expr.ListComp _ _ _ _) _) _) _ _ _)); (fail_if_success (with_reducible show wpAny _ _ (pyIter _) _ _ _)); (fail_if_success (with_reducible show wpAny _ _ (call (Value.ref _) _) _ _ _)); (fail_if_success (with_reducible show wpAny _ _ (eval (Expr.ListComp _ _ _ _) _) _ _ _)); (first | (k_unfold; (try dsimp only)) | ((with_reducible refine wpAny_execs_cons ?_); (try dsimp only)) | walk1 | (dsimp only; walk1) | (leave1; walk_say "STEP leave1"; try dsimp only) | (dsimp only; k_unfold; (try dsimp only))))))
        (rename Fr _ _ _ _ => F13)
        (rename News _ _ _ _ => N13)
        (rename _ ∧ _ ∧ _ ∧ _ ∧ _ ∧ _ ∧ _ ∧ _ ∧ _ => l13)
        have hT64 : ((cuts n m ks).filter (fun x => takesL (partsL none xl) x.cps.toList)).length ≤ 64 := Nat.le_trans (List.length_filter_le _ _) (by omega)
        rw [cuts_swap hn hkl] at hJ2 hSW
        rw [kept_eq (f := fun x => takesL (partsL none xl) x.cps.toList) hsym] at hJ2
        have hS64 : (cuts n m ks).length ≤ 64 := by omega
        generalize hSe : cuts n m ks = S at hJ1 hJ2 hSW hT64 hS64 hcl64
        generalize hfe : (fun x : Str => takesL (partsL none xl) x.cps.toList) = f at hJ1 hJ2 hT64
        have hKW : rW ≠ rK := hn12 (rW, listOf vW.toArray cW) List.mem_cons_self
        have hKD : D ≠ rK := hn12 (D, listOf ys.toArray ep) (by repeat (first | exact List.mem_cons_self | apply List.mem_cons_of_mem))
        have hK3 : L' + 1 + 1 + 1 ≠ rK := hn12 (L' + 1 + 1 + 1, oT2) (by repeat (first | exact List.mem_cons_self | apply List.mem_cons_of_mem))
        have hWD : D ≠ rW := hrW (D, listOf ys.toArray ep) (by repeat (first | exact List.mem_cons_self | apply List.mem_cons_of_mem))
        have hW3 : L' + 1 + 1 + 1 ≠ rW := hrW (L' + 1 + 1 + 1, oT2) (by repeat (first | exact List.mem_cons_self | apply List.mem_cons_of_mem))
        refine bags_rule (news := [(L' + 1 + 1 + 1, oT2), (D, listOf ys.toArray ep)]) [⟨rK, vK, cK, []⟩, ⟨rW, vW, cW, (S.filter (fun x => !f x)).map revS⟩] F13 (news_sub N13 (by
          intro p hp
          simp only [List.map_cons, List.map_nil, BagIt.obj, List.cons_append, List.nil_append, List.mem_cons, List.not_mem_nil, or_false] at hp ⊢
          rcases hp with h | h | h | h <;> simp [h])) (News.isList N13 List.mem_cons_self) rfl (by show 2 ≤ sizeLine; rw [sizeLine_eq]; omega) ?b1 ?b2 ?b3 ?be ?bq
        case b1 =>
          intro it hit
          simp only [List.mem_cons, List.not_mem_nil, or_false] at hit
          rcases hit with rfl | rfl
          · exact Nat.ne_of_lt l13.1
          · exact Nat.ne_of_lt l13.2.1
        case b2 =>
          intro i j x y hx hy e
          rcases i with _ | _ | i <;> rcases j with _ | _ | j <;> simp only [List.getElem?_cons_zero, List.getElem?_cons_succ, List.getElem?_nil, Option.some.injEq, reduceCtorEq] at hx hy <;> subst hx <;> subst hy
          · rfl
          · exact absurd e hKW.symm
          · exact absurd e hKW
          · rfl
        case b3 =>
          intro q hq it hit
          simp only [List.mem_cons, List.not_mem_nil, or_false] at hq hit
          rcases hq with rfl | rfl <;> rcases hit with rfl | rfl
          · exact hK3
          · exact hW3
          · exact hKD
          · exact hWD
        case be =>
          rintro C k it s₃ m₃ E' hit hm F14 N14 htk14
          obtain ⟨dsY, hA, hdl, hcnt, hleft⟩ : ∃ dsY, StrsAre it.vs dsY ∧ dsY.length ≤ 64 ∧ (∀ v, ((S.filter f).map revS).count v ≤ dsY.count v) ∧ leftOf ((S.filter f).map revS) dsY = it.left := by
            rcases k with _ | _ | k <;> simp only [List.getElem?_cons_zero, List.getElem?_cons_succ, List.getElem?_nil, Option.some.injEq, reduceCtorEq] at hit <;> subst hit
            · exact ⟨_, hJ2, by rw [List.length_map]; exact hT64, fun v => Nat.le_refl _, leftOf_self _⟩
            · exact ⟨_, hSW, by rw [List.length_map]; exact hS64, fun v => (List.Sublist.map revS List.filter_sublist).count_le v, left_swapped f S⟩
          clear F13 N13 hit
          (repeat' (first | ((with_reducible show wpAny _ _ _ _ _ _); (fail_if_success (with_reducible show wpAny _ _ (exec (Stmt.Assign _ (Expr.ListComp _ _ _ _) _) _) _ _ _)); (fail_if_success (with_reducible show wpAny _ _ (pyIter _) _ _ _)); (fail_if_success (with_reducible show wpAny _ _ (call (Value.ref _) _) _ _ _)); (fail_if_success (with_reducible show wpAny _ _ (eval (Expr.ListComp _ _ _ _) _) _ _ _)); (first | (k_unfold; (try dsimp only)) | ((with_reducible refine wpAny_execs_cons ?_); (try dsimp only)) | walk1 | (dsimp only; walk1) | (leave1; walk_say "STEP leave1"; try dsimp only) | (dsimp only; k_unfold; (try dsimp only))))))
          refine ListComp_oneD (cl := []) (closureFor_none (by decide)) (by decide) rfl (by decide) rfl ?_
          (repeat' (first | ((with_reducible show wpAny _ _ _ _ _ _); (fail_if_success (with_reducible show wpAny _ _ (exec (Stmt.Assign _ (Expr.ListComp _ _ _ _) _) _) _ _ _)); (fail_if_success (with_reducible show wpAny _ _ (pyIter _) _ _ _)); (fail_if_success (with_reducible show wpAny _ _ (call (Value.ref _) _) _ _ _)); (fail_if_success (with_reducible show wpAny _ _ (eval (Expr.ListComp _ _ _ _) _) _ _ _)); (first | (k_unfold; (try dsimp only)) | ((with_reducible refine wpAny_execs_cons ?_); (try dsimp only)) | walk1 | (dsimp only; walk1) | (leave1; walk_say "STEP leave1"; try dsimp only) | (dsimp only; k_unfold; (try dsimp only))))))
          refine inner_one (vs := ys.toArray) (r := D) (JM revS (S.filter f)) F14 N14 ?hl ?hh ?hz (JM.nil _ _) ?t2 ?y6
          case hl => exact News.isList N14 (by repeat (first | exact List.mem_cons_self | apply List.mem_cons_of_mem))
          case hh => rfl
          case hz => rw [List.size_toArray, hJ1.length, sizeLine_eq]; omega
          case t2 =>
            rintro C2 i₂ v₂ s₅ m₅ E2 nw hi₂ hv₂ hmj F15 N15 _
            obtain ⟨x, ux, rfl, hx⟩ := hJ1.item i₂ v₂ (by simpa using hv₂)
            clear F14 N14
            (repeat' (first | ((with_reducible show wpAny _ _ _ _ _ _); (fail_if_success (with_reducible show wpAny _ _ (exec (Stmt.Assign _ (Expr.ListComp _ _ _ _) _) _) _ _ _)); (fail_if_success (with_reducible show wpAny _ _ (pyIter _) _ _ _)); (fail_if_success (with_reducible show wpAny _ _ (call (Value.ref _) _) _ _ _)); (fail_if_success (with_reducible show wpAny _ _ (eval (Expr.ListComp _ _ _ _) _) _ _ _)); (first | (k_unfold; (try dsimp only)) | ((with_reducible refine wpAny_execs_cons ?_); (try dsimp only)) | walk1 | (dsimp only; walk1) | (leave1; walk_say "STEP leave1"; try dsimp only) | (dsimp only; k_unfold; (try dsimp only))))))
            refine wpAny_Name (wpAny_loadName_local rfl rfl F15.ns hmj ?_) (by decide)
            (repeat' (first | ((with_reducible show wpAny _ _ _ _ _ _); (fail_if_success (with_reducible show wpAny _ _ (exec (Stmt.Assign _ (Expr.ListComp _ _ _ _) _) _) _ _ _)); (fail_if_success (with_reducible show wpAny _ _ (pyIter _) _ _ _)); (fail_if_success (with_reducible show wpAny _ _ (call (Value.ref _) _) _ _ _)); (fail_if_success (with_reducible show wpAny _ _ (eval (Expr.ListComp _ _ _ _) _) _ _ _)); (first | (k_unfold; (try dsimp only)) | ((with_reducible refine wpAny_execs_cons ?_); (try dsimp only)) | walk1 | (dsimp only; walk1) | (leave1; walk_say "STEP leave1"; try dsimp only) | (dsimp only; k_unfold; (try dsimp only))))))
            dsimp only
            have hxl3 : x.length ≤ 64 := by
              have h1 := List.mem_of_getElem? hx
              have h2 := (List.mem_filter.mp h1).1
              rw [← hSe] at h2
              obtain ⟨j, hj⟩ := List.getElem?_of_mem h2
              exact cut_len hj hn64
            refine slice_rev (s := { heap := s₅.heap, gens := s₅.gens, drawn := s₅.drawn, toks := s₅.toks + 1 + 1, os := s₅.os }) F15 N15 (fun h9 t9 k9 F9 N9 => ?_) hxl3
            exact ⟨fun ys hJ => JM.push hx hJ, CBack.intro F9 N9 (fun p hp => List.mem_append_right _ hp)⟩
          case y6 =>
            rintro rE h16 tk16 vE cE hJ F16 N16 hn16 hk16 hrE0
            have hJ3 := JM.done (by rw [List.size_toArray, hJ1.length]) hJ
            clear F14 N14 hJ
            (repeat' (first | ((with_reducible show wpAny _ _ _ _ _ _); (fail_if_success (with_reducible show wpAny _ _ (exec (Stmt.Assign _ (Expr.ListComp _ _ _ _) _) _) _ _ _)); (fail_if_success (with_reducible show wpAny _ _ (pyIter _) _ _ _)); (fail_if_success (with_reducible show wpAny _ _ (call (Value.ref _) _) _ _ _)); (fail_if_success (with_reducible show wpAny _ _ (eval (Expr.ListComp _ _ _ _) _) _ _ _)); (first | (k_unfold; (try dsimp only)) | ((with_reducible refine wpAny_execs_cons ?_); (try dsimp only)) | walk1 | (dsimp only; walk1) | (leave1; walk_say "STEP leave1"; try dsimp only) | (dsimp only; k_unfold; (try dsimp only))))))
            refine wpAny_Name (wpAny_loadName_local rfl rfl F16.ns hm ?_) (by decide)
            (repeat' (first | ((with_reducible show wpAny _ _ _ _ _ _); (fail_if_success (with_reducible show wpAny _ _ (exec (Stmt.Assign _ (Expr.ListComp _ _ _ _) _) _) _ _ _)); (fail_if_success (with_reducible show wpAny _ _ (pyIter _) _ _ _)); (fail_if_success (with_reducible show wpAny _ _ (call (Value.ref _) _) _ _ _)); (fail_if_success (with_reducible show wpAny _ _ (eval (Expr.ListComp _ _ _ _) _) _ _ _)); (first | (k_unfold; (try dsimp only)) | ((with_reducible refine wpAny_execs_cons ?_); (try dsimp only)) | walk1 | (dsimp only; walk1) | (leave1; walk_say "STEP leave1"; try dsimp only) | (dsimp only; k_unfold; (try dsimp only))))))
            refine ⟨X.keeps F16.keep, ?_⟩
            refine wpAny_mono (diff1_call (h₀ := s.heap) X T F16.keep (Nat.le_trans F16.above (Nat.le_of_lt F16.ns.lt)) (by show dp + 1 + 5 < _; omega) (by show un + 3 + 100 < _; omega) rE it.a vE it.vs cE it.c (N16 _ List.mem_cons_self).1 (N16 it.obj (List.mem_cons_of_mem _ List.mem_cons_self)).1 (N16 _ List.mem_cons_self).2.2 (N16 it.obj (List.mem_cons_of_mem _ List.mem_cons_self)).2.2 (Ne.symm (hn16 it.obj List.mem_cons_self)) ((S.filter f).map revS) dsY (by rw [List.length_map]; exact hT64) hdl hJ3 hA hcnt) (fun v s17 g => ?_) fun _ _ e => e
            obtain ⟨h17, t17, tt, rr, oo, nn, mc, ac', vs', rfl, rfl, g1, g2, g3, g4, g5, g6, g7, g8, g9, g10⟩ := g
            have up16 : ∀ b o, s₃.heap.get? b = some o → b ≠ rE := fun b o e q => by rw [q, hrE0] at e; cases e
            have back : ∀ z, h16.get? z = none → s₃.heap.get? z = none := fun z hz => by
              cases e : s₃.heap.get? z with
              | none => rfl
              | some o => rw [hk16 _ _ e] at hz; cases hz
            refine ⟨⟨tt, rr, oo, nn, mc, ac', vs', rfl, g1, g2, g3, g4, g5, by rw [← hleft]; exact g6, back _ g7, back _ g8⟩, h17, t17, rfl, fun b o hbC hba e => g10 b o (up16 b o e) hba (hk16 b o e), ?_⟩
            refine F16.ns.at' fun o e => g10 _ _ (Ne.symm (N16 _ List.mem_cons_self).2.1) (Ne.symm (N16 it.obj (List.mem_cons_of_mem _ List.mem_cons_self)).2.1) e
        case bq =>
          rintro D8 h18 tk18 zs ep18 hzl hzs F18 N18 htk18
          obtain ⟨y0, hy0, B0⟩ := hzs 0 _ rfl
          obtain ⟨y1, hy1, B1⟩ := hzs 1 _ rfl
          have hzs' : zs = [y0, y1] := by
            rcases zs with _ | ⟨a, _ | ⟨b, _ | ⟨c, zs⟩⟩⟩
            · cases hy0
            · cases hy1
            · simp only [List.getElem?_cons_zero, List.getElem?_cons_succ, Option.some.injEq] at hy0 hy1
              rw [hy0, hy1]
            · simp at hzl
          subst hzs'
          clear hzs hzl hy0 hy1
          dsimp only
          have hK2 := (N13 (rK, listOf vK.toArray cK) (by repeat (first | exact List.mem_cons_self | apply List.mem_cons_of_mem))).2
          have hW2 := (N13 (rW, listOf vW.toArray cW) (by repeat (first | exact List.mem_cons_self | apply List.mem_cons_of_mem))).2
          obtain ⟨tA, rA, oA, nA, mA, cA, vA, rfl, a1, a2, a3, a4, a5, a6, a7, a8⟩ := B0
          obtain ⟨tB, rB, oB, nB, mB, cB, vB, rfl, b1, b2, b3, b4, b5, b6, b7, b8⟩ := B1
          have N19 : News s.heap L' h18 [(D8, listOf [Value.ref tA, Value.ref tB].toArray ep18), (L' + 1 + 1 + 1, oT2), (D, listOf ys.toArray ep), (tA, oA), (rA, listOf ([] : List Value).toArray mA), (rK, listOf vA.toArray cA), (tB, oB), (rB, listOf ([] : List Value).toArray mB), (rW, listOf vB.toArray cB)] := by
            intro p hp
            simp only [List.mem_cons, List.not_mem_nil, or_false] at hp
            rcases hp with rfl | rfl | rfl | rfl | rfl | rfl | rfl | rfl | rfl
            · exact N18 _ List.mem_cons_self
            · exact N18 _ (List.mem_cons_of_mem _ List.mem_cons_self)
            · exact N18 _ (List.mem_cons_of_mem _ (List.mem_cons_of_mem _ List.mem_cons_self))
            · exact ⟨a1, a7.2, a7.1⟩
            · exact ⟨a4, a8.2, a8.1⟩
            · exact ⟨a5, hK2⟩
            · exact ⟨b1, b7.2, b7.1⟩
            · exact ⟨b4, b8.2, b8.1⟩
            · exact ⟨b5, hW2⟩
          clear N18 N13 F13 a1 a4 a5 b1 b4 b5 hK2 hW2 a7 a8 b7 b8
          refine wpC_execs_cons (wpC_of_any ?_)
          (repeat' (first | ((with_reducible show wpAny _ _ _ _ _ _); (fail_if_success (with_reducible show wpAny _ _ (call (Value.type "type") _) _ _ _)); (fail_if_success (with_reducible show wpAny _ _ (binaryOp Operator.Add _ _) _ _ _)); (first | (k_unfold; (try dsimp only)) | ((with_reducible refine wpAny_execs_cons ?_); (try dsimp only)) | walk1 | (dsimp only; walk1) | (leave1; walk_say "STEP leave1"; try dsimp only) | (dsimp only; k_unfold; (try dsimp only))))))
          refine call_type_bytes ?_
          (repeat' (first | ((with_reducible show wpAny _ _ _ _ _ _); (fail_if_success (with_reducible show wpAny _ _ (call (Value.type "type") _) _ _ _)); (fail_if_success (with_reducible show wpAny _ _ (binaryOp Operator.Add _ _) _ _ _)); (first | (k_unfold; (try dsimp only)) | ((with_reducible refine wpAny_execs_cons ?_); (try dsimp only)) | walk1 | (dsimp only; walk1) | (leave1; walk_say "STEP leave1"; try dsimp only) | (dsimp only; k_unfold; (try dsimp only))))))
          (rename Fr _ _ _ _ => F20)
          (rename News _ _ _ _ => N20)
          refine kmk_add_lit F20 N20 (News.isList N20 List.mem_cons_self) (News.isList N20 (List.mem_cons_of_mem _ List.mem_cons_self)) rfl ?_ (by show 4 ≤ sizeLine; rw [sizeLine_eq]; omega)
          intro R h21 F21 N21 _
          subst hSe hfe
          have nn := fun (p : Addr × Obj) hp => (N21 p hp)
          clear N20 F20 N19
          have gR := nn (R, _) List.mem_cons_self
          have gD := nn (D, listOf ys.toArray ep) (by repeat (first | exact List.mem_cons_self | apply List.mem_cons_of_mem))
          have gtA := nn (tA, oA) (by repeat (first | exact List.mem_cons_self | apply List.mem_cons_of_mem))
          have grA := nn (rA, listOf ([] : List Value).toArray mA) (by repeat (first | exact List.mem_cons_self | apply List.mem_cons_of_mem))
          have gkA := nn (rK, listOf vA.toArray cA) (by repeat (first | exact List.mem_cons_self | apply List.mem_cons_of_mem))
          have gtB := nn (tB, oB) (by repeat (first | exact List.mem_cons_self | apply List.mem_cons_of_mem))
          have grB := nn (rB, listOf ([] : List Value).toArray mB) (by repeat (first | exact List.mem_cons_self | apply List.mem_cons_of_mem))
          have gkB := nn (rW, listOf vB.toArray cB) (by repeat (first | exact List.mem_cons_self | apply List.mem_cons_of_mem))
          refine ⟨⟨h21, _, rfl, F21.keep⟩, R, 0, D, ys, ep, tA, oA, nA, rA, mA, rK, cA, vA, tB, oB, nB, rB, mB, rW, cB, vB, rfl, gR.1, gD.1, hJ1, gtA.1, a2, a3, grA.1, gkA.1, a6, gtB.1, b2, b3, grB.1, gkB.1, b6, ?_⟩
          intro z hz
          simp only [List.mem_cons, List.not_mem_nil, or_false] at hz
          rcases hz with rfl | rfl | rfl | rfl | rfl | rfl | rfl | rfl
          · exact gR.2.2
          · exact gD.2.2
          · exact gtA.2.2
          · exact grA.2.2
          · exact gkA.2.2
          · exact gtB.2.2
          · exact grB.2.2
          · exact gkB.2.2
end

section -- part P01q
set_option Elab.async false
set_option maxRecDepth 100000
set_option maxHeartbeats 8000000
theorem reset_P01q : True := by
  w_top off
  trivial
/-- one sign of a pattern -/
def sg (n : Int) : Nat := [97, 98, 63, 42].getD (n.fmod 4).toNat 0
def patL (n : Int) : List Nat := [sg n, sg (n.fdiv 4), sg (n.fdiv 16)]
theorem sg_item (n : Int) : Txt.item (Str.ofString "ab?*") (n.fmod 4) = ⟨#[sg n]⟩ := by
  unfold sg
  have h0 : 0 ≤ n.fmod 4 := Int.fmod_nonneg_of_pos _ (by decide)
  have h1 : n.fmod 4 < 4 := Int.fmod_lt_of_pos _ (by decide)
  generalize n.fmod 4 = r at *
  rcases (by omega : r = 0 ∨ r = 1 ∨ r = 2 ∨ r = 3) with rfl | rfl | rfl | rfl <;> decide +kernel
theorem sg_mem (n : Int) : sg n ∈ [97, 98, 63, 42] := by
  unfold sg
  have h0 : 0 ≤ n.fmod 4 := Int.fmod_nonneg_of_pos _ (by decide)
  have h1 : n.fmod 4 < 4 := Int.fmod_lt_of_pos _ (by decide)
  generalize n.fmod 4 = r at *
  rcases (by omega : r = 0 ∨ r = 1 ∨ r = 2 ∨ r = 3) with rfl | rfl | rfl | rfl <;> decide
def patS (n : Int) : Str := ⟨(patL n).toArray⟩
theorem pat_join (n : Int) : Txt.item (Str.ofString "ab?*") (n.fmod 4) ++ Txt.item (Str.ofString "ab?*") ((n.fdiv 4).fmod 4) ++ Txt.item (Str.ofString "ab?*") ((n.fdiv 16).fmod 4) = patS n := by
  rw [sg_item, sg_item, sg_item]
  rfl
def JM2 (f : Int → Str) (S : List Int) (k : Nat) (ys : List Value) : Prop := StrsAre ys ((S.take k).map f)
theorem JM2.nil (f : Int → Str) (S : List Int) : JM2 f S 0 [] := StrsAre.nil
theorem JM2.push {f : Int → Str} {S : List Int} {k : Nat} {ys : List Value} {x : Int} {y : Str} {t : Tok} (hx : S[k]? = some x) (hy : y = f x) (hj : JM2 f S k ys) : JM2 f S (k + 1) (ys ++ [.str y t]) := by
  unfold JM2 at *
  subst hy
  rw [List.take_add_one, hx, List.map_append]
  exact strsAre_snoc hj _ t
theorem JM2.done {f : Int → Str} {S : List Int} {n : Nat} {ys : List Value} (hn : n = S.length) (hj : JM2 f S n ys) : StrsAre ys (S.map f) := by
  unfold JM2 at hj
  rwa [List.take_of_length_le (by omega)] at hj
theorem head_name {h₀ h : Heap} {L a : Addr} {o : Obj} {rest : List (Addr × Obj)} (_N : News h₀ L h ((a, o) :: rest)) : ∃ a', a' = a := ⟨a, rfl⟩
theorem fr_name {h₀ h : Heap} {L : Addr} {m : Str → Option Value} (F : Fr h₀ L h m) : ∃ m', m' = m ∧ Fr h₀ L h m' := ⟨m, rfl, F⟩
/-- [True, taken, ([], []), ([], left)] in a ledger -/
def ToldN (news : List (Addr × Obj)) (v : Value) (T L : List Str) : Prop :=
  ∃ (R : Addr) (cR : Nat) (D : Addr) (vD : List Value) (cD : Nat) (tA : Addr) (oA : Obj) (nA : Nat) (rA : Addr) (mA : Nat) (kA : Addr) (cA : Nat) (vA : List Value) (tB : Addr) (oB : Obj) (nB : Nat) (rB : Addr) (mB : Nat) (kB : Addr) (cB : Nat) (vB : List Value),
    v = .ref R ∧ (R, listOf [Value.bool true, Value.ref D, Value.ref tA, Value.ref tB].toArray cR) ∈ news ∧ (D, listOf vD.toArray cD) ∈ news ∧ StrsAre vD T ∧
    (tA, oA) ∈ news ∧ oA.cls = .type "tuple" ∧ oA.data = .seq #[Value.ref rA, Value.ref kA] nA ∧ (rA, listOf ([] : List Value).toArray mA) ∈ news ∧ (kA, listOf vA.toArray cA) ∈ news ∧ StrsAre vA [] ∧
    (tB, oB) ∈ news ∧ oB.cls = .type "tuple" ∧ oB.data = .seq #[Value.ref rB, Value.ref kB] nB ∧ (rB, listOf ([] : List Value).toArray mB) ∈ news ∧ (kB, listOf vB.toArray cB) ∈ news ∧ StrsAre vB L
theorem ToldN.mono {a b : List (Addr × Obj)} {v : Value} {T L : List Str} (x : ToldN a v T L) (h : ∀ p ∈ a, p ∈ b) : ToldN b v T L := by
  obtain ⟨R, cR, D, vD, cD, tA, oA, nA, rA, mA, kA, cA, vA, tB, oB, nB, rB, mB, kB, cB, vB, h1, h2, h3, h4, h5, h6, h7, h8, h9, h10, h11, h12, h13, h14, h15, h16⟩ := x
  exact ⟨R, cR, D, vD, cD, tA, oA, nA, rA, mA, kA, cA, vA, tB, oB, nB, rB, mB, kB, cB, vB, h1, h _ h2, h _ h3, h4, h _ h5, h6, h7, h _ h8, h _ h9, h10, h _ h11, h12, h13, h _ h14, h _ h15, h16⟩
theorem ToldN.is {h₀ h : Heap} {A : Addr} {news : List (Addr × Obj)} {v : Value} {T L : List Str} (x : ToldN news v T L) (N : News h₀ A h news) : ToldIs h₀ h v T L := by
  obtain ⟨R, cR, D, vD, cD, tA, oA, nA, rA, mA, kA, cA, vA, tB, oB, nB, rB, mB, kB, cB, vB, h1, h2, h3, h4, h5, h6, h7, h8, h9, h10, h11, h12, h13, h14, h15, h16⟩ := x
  refine ⟨R, cR, D, vD, cD, tA, oA, nA, rA, mA, kA, cA, vA, tB, oB, nB, rB, mB, kB, cB, vB, h1, (N _ h2).1, (N _ h3).1, h4, (N _ h5).1, h6, h7, (N _ h8).1, (N _ h9).1, h10, (N _ h11).1, h12, h13, (N _ h14).1, (N _ h15).1, h16, fun z hz => ?_⟩
  simp only [List.mem_cons, List.not_mem_nil, or_false] at hz
  rcases hz with rfl | rfl | rfl | rfl | rfl | rfl | rfl | rfl
  · exact (N _ h2).2.2
  · exact (N _ h3).2.2
  · exact (N _ h5).2.2
  · exact (N _ h8).2.2
  · exact (N _ h9).2.2
  · exact (N _ h11).2.2
  · exact (N _ h14).2.2
  · exact (N _ h15).2.2
/-- what stands after i turns of the law's loop -/
def JL (due cT : Addr) (fixed : List (Addr × Obj)) (Tf Lf : Int → List Str) (P : List Int) (m10 : Str → Option Value) (i : Nat) (m₁ : Str → Option Value) (news : List (Addr × Obj)) : Prop :=
  m₁ = m10 ∧ ∃ (ys : List Value) (ep : Nat) (oT : Obj) (vT : Option Value) (rest : List (Addr × Obj)), news = (due, listOf (List.toArray ys) ep) :: (cT, oT) :: (fixed ++ rest) ∧ oT.data = .cell vT ∧ ys.length = i ∧ (∀ (j : Nat) (y : Value), ys[j]? = some y → ∃ n : Int, P[j]? = some n ∧ ToldN rest y (Tf n) (Lf n)) ∧ ∀ p ∈ fixed ++ rest, p.1 ≠ due ∧ p.1 ≠ cT
def JFR (f : Str → Bool) (g : Str → Str) (S : List Str) (k : Nat) (ys : List Value) : Prop := StrsAre ys (((S.take k).filter f).map g)
theorem JFR.nil (f : Str → Bool) (g : Str → Str) (S : List Str) : JFR f g S 0 [] := StrsAre.nil
theorem JFR.skip {f : Str → Bool} {g : Str → Str} {S : List Str} {k : Nat} {ys : List Value} (h : f (S.getD k ⟨#[]⟩) = false) (hk : k < S.length) (hj : JFR f g S k ys) : JFR f g S (k + 1) ys := by
  unfold JFR at *
  have hx := List.getElem?_eq_getElem hk
  rw [getD_of hx] at h
  rw [List.take_add_one, hx, List.filter_append]
  simpa [h] using hj
theorem JFR.push {f : Str → Bool} {g : Str → Str} {S : List Str} {k : Nat} {ys : List Value} {x : Str} {t : Tok} (hx : S[k]? = some x) (h : f (S.getD k ⟨#[]⟩) = true) (hj : JFR f g S k ys) : JFR f g S (k + 1) (ys ++ [.str (g x) t]) := by
  unfold JFR at *
  rw [getD_of hx] at h
  rw [List.take_add_one, hx, List.filter_append]
  simpa [h] using strsAre_snoc hj (g x) t
theorem JFR.done {f : Str → Bool} {g : Str → Str} {S : List Str} {n : Nat} {ys : List Value} (hn : n = S.length) (hj : JFR f g S n ys) : StrsAre ys ((S.filter f).map g) := by
  unfold JFR at hj
  rwa [List.take_of_length_le (by omega)] at hj
theorem any_filter {f : Str → Bool} {S : List Str} {i : Nat} {x : Str} (hx : S[i]? = some x) : ((S.filter f).any fun y => y == x) = f x := by
  cases hf : f x with
  | true => exact List.any_eq_true.mpr ⟨x, List.mem_filter.mpr ⟨List.mem_of_getElem? hx, hf⟩, beq_self_eq_true x⟩
  | false =>
    refine List.any_eq_false.mpr fun y hy e => ?_
    rw [beq_iff_eq.mp e] at hy
    rw [(List.mem_filter.mp hy).2] at hf
    cases hf
theorem turn_end {h₀ h : Heap} {L I cx due cT rQ cO cW R t2 DL rU e3 t1 e2 e1 D : Addr} {oI oc oT1 oT2 oQ oO oW oD : Obj} {vT : Option Value} {rest : List (Addr × Obj)} {ys vL vU ysD : List Value} {c17 ep9 cL cU : Nat}
    {Tf Lf : Int → List Str} {P : List Int} {m10 : Str → Option Value} {i : Nat} {n : Int}
    (N : News h₀ L h ((R, listOf #[Value.bool true, Value.ref D, Value.ref t1, Value.ref t2] 0) :: (t2, { cls := .type "tuple", data := .seq #[Value.ref e3, Value.ref DL] }) :: (DL, listOf vL.toArray cL) :: (rU, listOf vU.toArray cU) :: (e3, listOf #[] 0) ::
      (t1, { cls := .type "tuple", data := .seq #[Value.ref e1, Value.ref e2] }) :: (e2, listOf #[] 0) :: (e1, listOf #[] 0) :: (D, listOf ysD.toArray ep9) :: (I, oI) :: (cx, oc) :: (due, { cls := .type "list", data := .seq (ys.toArray.push (.ref R)) c17 }) :: (cT, oT2) :: (rQ, oQ) :: (cO, oO) :: (cW, oW) :: rest))
    (hne : ∀ z ∈ [R, t2, DL, e3, t1, e2, e1, D], z ≠ I ∧ z ≠ cx ∧ z ≠ due ∧ z ≠ cT)
    (hfix : ∀ p ∈ (rQ, oQ) :: (cO, oO) :: (cW, oW) :: rest, p.1 ≠ due ∧ p.1 ≠ cT)
    (hnw : ∀ p ∈ (due, oD) :: (cT, oT1) :: (rQ, oQ) :: (cO, oO) :: (cW, oW) :: rest, p.1 ≠ I ∧ p.1 ≠ cx)
    (hT : oT2.data = .cell vT) (hyl : ys.length = i) (hys : ∀ (j : Nat) (y : Value), ys[j]? = some y → ∃ n : Int, P[j]? = some n ∧ ToldN rest y (Tf n) (Lf n)) (hn : P[i]? = some n) (hD : StrsAre ysD (Tf n)) (hL : StrsAre vL (Lf n)) :
    ∃ news', News h₀ L h ((I, oI) :: (cx, oc) :: news') ∧ (∀ p ∈ news', p.1 ≠ I ∧ p.1 ≠ cx) ∧ JL due cT [(rQ, oQ), (cO, oO), (cW, oW)] Tf Lf P m10 (i + 1) m10 news' := by
  let mine : List (Addr × Obj) := [(R, listOf #[Value.bool true, Value.ref D, Value.ref t1, Value.ref t2] 0), (t2, { cls := .type "tuple", data := .seq #[Value.ref e3, Value.ref DL] }), (DL, listOf vL.toArray cL), (e3, listOf #[] 0), (t1, { cls := .type "tuple", data := .seq #[Value.ref e1, Value.ref e2] }), (e2, listOf #[] 0), (e1, listOf #[] 0), (D, listOf ysD.toArray ep9)]
  have hmine : ∀ p ∈ mine, p.1 ∈ [R, t2, DL, e3, t1, e2, e1, D] := by
    intro p hp
    simp only [mine, List.mem_cons, List.not_mem_nil, or_false] at hp ⊢
    rcases hp with rfl | rfl | rfl | rfl | rfl | rfl | rfl | rfl <;> simp
  refine ⟨(due, listOf (List.toArray (ys ++ [Value.ref R])) c17) :: (cT, oT2) :: ([(rQ, oQ), (cO, oO), (cW, oW)] ++ (mine ++ rest)), ?n1, ?n2, rfl, ys ++ [Value.ref R], c17, oT2, vT, mine ++ rest, rfl, hT, by rw [List.length_append, hyl]; rfl, ?n3, ?n4⟩
  case n1 =>
    intro p hp
    have e : (listOf (List.toArray (ys ++ [Value.ref R])) c17) = { cls := .type "list", data := .seq (ys.toArray.push (.ref R)) c17 } := by
      rw [List.push_toArray]
    rw [e] at hp
    refine N p ?_
    simp only [mine, List.cons_append, List.nil_append, List.mem_cons] at hp ⊢
    rcases hp with h | h | h | h | h | h | h | h | h | h | h | h | h | h | h | h <;> simp [h]
  case n2 =>
    intro p hp
    simp only [List.cons_append, List.nil_append] at hp
    rcases List.mem_cons.mp hp with rfl | hp
    · exact hnw (due, oD) List.mem_cons_self
    rcases List.mem_cons.mp hp with rfl | hp
    · exact hnw (cT, oT1) (List.mem_cons_of_mem _ List.mem_cons_self)
    rcases List.mem_cons.mp hp with rfl | hp
    · exact hnw (rQ, oQ) (List.mem_cons_of_mem _ (List.mem_cons_of_mem _ List.mem_cons_self))
    rcases List.mem_cons.mp hp with rfl | hp
    · exact hnw (cO, oO) (List.mem_cons_of_mem _ (List.mem_cons_of_mem _ (List.mem_cons_of_mem _ List.mem_cons_self)))
    rcases List.mem_cons.mp hp with rfl | hp
    · exact hnw (cW, oW) (List.mem_cons_of_mem _ (List.mem_cons_of_mem _ (List.mem_cons_of_mem _ (List.mem_cons_of_mem _ List.mem_cons_self))))
    rcases List.mem_append.mp hp with hp | hp
    · exact ⟨(hne _ (hmine p hp)).1, (hne _ (hmine p hp)).2.1⟩
    · exact hnw p (List.mem_cons_of_mem _ (List.mem_cons_of_mem _ (List.mem_cons_of_mem _ (List.mem_cons_of_mem _ (List.mem_cons_of_mem _ hp)))))
  case n3 =>
    intro j y hy
    rcases Nat.lt_or_ge j ys.length with q | q
    · rw [List.getElem?_append_left q] at hy
      obtain ⟨n', h1, h2⟩ := hys j y hy
      exact ⟨n', h1, h2.mono fun p hp => List.mem_append_right _ hp⟩
    · rw [List.getElem?_append_right q] at hy
      have : j - ys.length = 0 := by
        rcases h : j - ys.length with _ | k
        · rfl
        · rw [h] at hy; cases hy
      rw [this] at hy
      cases hy
      have hj : j = i := by omega
      subst hj
      refine ⟨n, hn, R, 0, D, ysD, ep9, t1, { cls := .type "tuple", data := .seq #[Value.ref e1, Value.ref e2] }, 0, e1, 0, e2, 0, [], t2, { cls := .type "tuple", data := .seq #[Value.ref e3, Value.ref DL] }, 0, e3, 0, DL, cL, vL, rfl, ?_, ?_, hD, ?_, rfl, rfl, ?_, ?_, .nil, ?_, rfl, rfl, ?_, ?_, hL⟩ <;> refine List.mem_append_left _ ?_ <;> simp [mine]
  case n4 =>
    intro p hp
    simp only [List.cons_append, List.nil_append] at hp
    rcases List.mem_cons.mp hp with rfl | hp
    · exact hfix (rQ, oQ) List.mem_cons_self
    rcases List.mem_cons.mp hp with rfl | hp
    · exact hfix (cO, oO) (List.mem_cons_of_mem _ List.mem_cons_self)
    rcases List.mem_cons.mp hp with rfl | hp
    · exact hfix (cW, oW) (List.mem_cons_of_mem _ (List.mem_cons_of_mem _ List.mem_cons_self))
    rcases List.mem_append.mp hp with hp | hp
    · exact ⟨(hne _ (hmine p hp)).2.2.1, (hne _ (hmine p hp)).2.2.2⟩
    · exact hfix p (List.mem_cons_of_mem _ (List.mem_cons_of_mem _ (List.mem_cons_of_mem _ hp)))
end

section -- part P01r
set_option Elab.async false
set_option maxRecDepth 100000
set_option maxHeartbeats 4000000
theorem reset_P01r : True := by
  w_top off
  trivial
section
variable {M : Model} {A : Around} {E : Value → Shared → Prop} {s : Shared} {env : Env}
/-- f(e, e', e''), f a def -/
theorem wpC_callFn3 {a : Addr} {o : Obj} {fd : FuncData} {pos : Pos} {e e' e'' : Expr} {Q : Value → Shared → Prop} (hd : o.data = .func fd)
    (h : wpAny M A (eval e env) (fun v s₁ => wpAny M A (eval e' env) (fun v' s₂ => wpAny M A (eval e'' env) (fun v'' s₃ => s₃.heap.get? a = some o ∧ wpC M A (call (.ref a) [v, v', v'']) Q E s₃) E s₂) E s₁) E s)
    (he : backTo pos (starEach [e, e', e''] env) = [(false, eval e env), (false, eval e' env), (false, eval e'' env)] := by rfl) (hk : backToKw pos (keywordEach [] env) = [] := by rfl) :
    wpC M A (callWith pos (.ref a) [] (backTo pos (starEach [e, e', e''] env)) (backToKw pos (keywordEach [] env))) Q E s := by
  rw [he, hk]
  exact wpC_callWith_function (wpC_of_any (evalArgs_plain (spliced_cons (wpAny_mono h (fun v s₁ h₁ => spliced_cons (wpAny_mono h₁ (fun v' s₂ h₂ => spliced_cons (wpAny_mono h₂ (fun v'' s₃ h₃ => spliced_nil ⟨⟨h₃.1, hd⟩, h₃.2⟩) fun _ _ x => x)) fun _ _ x => x)) fun _ _ x => x))))
end
section
variable {prog : Program} {w : World} {A : Around} {E : Value → Shared → Prop} {env : Env} {s : Shared} {h₀ : Heap} {m : Str → Option Value} {news : List (Addr × Obj)}
/-- the turns of «[elt for x in r]», a value, r a list at hand; the elements are met in clear contexts, may be new objects of which G speaks -/
theorem inner_rowsC {elt : Expr} {x : Str} {scope : Scope} {cl : List (Str × Addr)} {Q : Value → Shared → Prop} {r : Addr} {vs : Array Value} (G : Nat → Value → (Addr → Prop) → Heap → Prop)
    (hG : ∀ (k : Nat) (y : Value) (P P' : Addr → Prop) (h h' : Heap), G k y P h → (∀ z, P z → P' z) → (∀ b o, P b → h.get? b = some o → h'.get? b = some o) → G k y P' h')
    (F : Fr h₀ env.locals s.heap m) (N : News h₀ env.locals s.heap news) (hr : s.heap.IsList r vs) (hh : A.handled = none) (hz : vs.size ≤ sizeLine)
    (helt : ∀ (C : Addr) (k : Nat) (u : Value) (s₃ : Shared) (m₃ : Str → Option Value) (E' : Value → Shared → Prop), vs[k]? = some u → m₃ x = some u → Fr h₀ C s₃.heap m₃ → News h₀ C s₃.heap news → s.toks ≤ s₃.toks →
      wpC (model prog w) A (eval elt (compEnvC scope cl C env)) (fun v s₄ => G k v (fun z => s₃.heap.get? z = none) s₄.heap ∧ Keeps s₃ s₄) E' s₃)
    (hQ : ∀ (D : Addr) (h' : Heap) (tk : Nat) (ys : List Value) (ep : Nat), ys.length = vs.size → (∀ (j : Nat) (y : Value), ys[j]? = some y → G j y (fun z => s.heap.get? z = none) h') → Fr h₀ env.locals h' m →
      News h₀ env.locals h' ((D, listOf ys.toArray ep) :: news) → (∀ b o, s.heap.get? b = some o → h'.get? b = some o) → s.heap.get? D = none → s.toks ≤ tk → Q (.ref D) { s with heap := h', toks := tk }) :
    wpAny (model prog w) A (pyIter (.ref r)) (fun it s₂ => RowsAt prog w A env scope cl x elt Q it s₂) E s := by
  obtain ⟨ol, hol, _⟩ := id hr
  have hlt : r < s.heap.objs.size := Heap.lt_size hol
  have hrI : r ≠ s.heap.objs.size := Nat.ne_of_lt hlt
  have hLlt := F.ns.lt
  refine wpAny_pyIter_list hr ?_
  have up : ∀ b o, s.heap.get? b = some o → (s.heap.push { cls := .type "list_iterator", data := .fields #[.ref r, .int 0 0] }).get? b = some o := fun b o e => Heap.get?_push_of_some _ e
  have hI : (s.heap.push { cls := .type "list_iterator", data := .fields #[.ref r, .int 0 0] }).get? s.heap.objs.size = some { cls := .type "list_iterator", data := .fields #[.ref r, .int 0 0] } := Heap.get?_push_size _ rfl
  generalize hH : s.heap.push { cls := .type "list_iterator", data := .fields #[.ref r, .int 0 0] } = H at up hI
  have hHs : H.objs.size = s.heap.objs.size + 1 := by rw [← hH, Heap.size_push]
  have notI : ∀ b o, s.heap.get? b = some o → b ∉ [s.heap.objs.size] := fun b o e hm => by
    rw [List.mem_singleton.mp hm] at e
    exact Nat.lt_irrefl _ (Heap.lt_size e)
  let P : Addr → Prop := fun z => s.heap.get? z = none ∧ z ≠ H.objs.size + 1 ∧ z ≠ H.objs.size ∧ z ≠ s.heap.objs.size
  let J : Nat → List Value → Heap → Prop := fun k ys h => ys.length = k ∧ ∀ (j : Nat) (y : Value), ys[j]? = some y → G j y P h
  have hJf : ∀ k ys h h', J k ys h → (∀ b o, b ≠ H.objs.size + 1 → b ∉ [s.heap.objs.size] → b ≠ H.objs.size → h.get? b = some o → h'.get? b = some o) → J k ys h' := by
    rintro k ys h h' ⟨hl, hJ⟩ hk
    exact ⟨hl, fun j y hj => hG j y P P h h' (hJ j y hj) (fun _ z => z) fun b o hb e => hk b o hb.2.1 (fun q => hb.2.2.2 (List.mem_singleton.mp q)) hb.2.2.1 e⟩
  refine ⟨_, [_, r], [_], [], vs.size, _, _, J, rfl, Walks.list hh s.heap.objs.size r hrI vs, hz, ⟨⟨_, hI, rfl, rfl⟩, hr.at fun o e => up _ _ e⟩, ?y3, ⟨rfl, fun j y e => by simp at e⟩, ?b1, hJf, ?e1, ?q1⟩
  case y3 =>
    intro b hb
    show b < H.objs.size
    rw [hHs]
    rcases List.mem_cons.mp hb with rfl | hb
    · exact Nat.lt_succ_self _
    · rw [List.mem_singleton.mp hb]
      exact Nat.lt_succ_of_lt hlt
  case b1 => intro b hb; cases hb
  case e1 =>
    rintro k u s₃ m₃ E' ys hk hu hns hm hkp htk ⟨hl, hJ⟩ hS ⟨oD, hoD⟩
    have keep : ∀ b o, s.heap.get? b = some o → s₃.heap.get? b = some o := fun b o e => hkp b o (notI b o e) (fun q => by cases q) (up b o e)
    have F3 : Fr h₀ (H.objs.size + 1) s₃.heap m₃ := ⟨hns, fun b o e => keep b o (F.keep b o e), by
      rw [hHs]
      exact Nat.le_trans F.above (Nat.le_of_lt (Nat.lt_succ_of_lt (Nat.lt_succ_of_lt hLlt)))⟩
    have N3 : News h₀ (H.objs.size + 1) s₃.heap news := fun q hq => by
      have h1 := N q hq
      refine ⟨keep _ _ h1.1, fun e => ?_, h1.2.2⟩
      have h2 := Heap.lt_size h1.1
      rw [e, hHs] at h2
      exact Nat.lt_irrefl _ (Nat.lt_of_succ_lt (Nat.lt_of_succ_lt h2))
    refine wpC_mono (wpC_toks (helt _ k u s₃ m₃ E' hu hm F3 N3 htk)) (fun v s₄ g => ?_) fun _ _ e => e.2
    obtain ⟨ht4, hGv, h4, t4, rfl, hk4⟩ := g
    have fresh : ∀ z, s₃.heap.get? z = none → P z := by
      intro z hz
      have ex : ∀ b o, s₃.heap.get? b = some o → z ≠ b := fun b o e q => by rw [← q, hz] at e; cases e
      refine ⟨?_, ?_, ex _ _ hoD, ?_⟩
      · cases e : s.heap.get? z with
        | none => rfl
        | some o => rw [keep _ _ e] at hz; cases hz
      · obtain ⟨oC, esC, epC, hoC, _⟩ := hns
        exact ex _ _ hoC
      · obtain ⟨oI, hoI, _⟩ := hS.1
        exact ex _ _ hoI
    refine ⟨⟨by simp [hl], fun j y hj => ?_⟩, ⟨h4, t4, rfl, fun b o _ _ e => hk4 b o e, hns.keeps hk4⟩, Nat.le_trans htk ht4⟩
    rcases Nat.lt_or_ge j k with q | q
    · rw [List.getElem?_append_left (by omega)] at hj
      exact hG j y P P _ _ (hJ j y hj) (fun _ z => z) fun b o _ e => hk4 b o e
    · rw [List.getElem?_append_right (by omega)] at hj
      have h0 : j - ys.length = 0 := by
        rcases h : j - ys.length with _ | z
        · rfl
        · rw [h] at hj; cases hj
      rw [h0] at hj
      cases hj
      have : j = k := by omega
      subst this
      exact hG j v _ P _ _ hGv fresh fun _ _ _ e => e
  case q1 =>
    rintro h' tk ys hpl ⟨hl, hJ⟩ hkp htk
    obtain ⟨cD, hcD⟩ := hpl
    have keep : ∀ b o, s.heap.get? b = some o → h'.get? b = some o := fun b o e => hkp b o (notI b o e) (fun q => by cases q) (up b o e)
    have hDn : s.heap.get? H.objs.size = none := Heap.get?_none_of_le (by rw [hHs]; exact Nat.le_succ _)
    refine hQ _ h' tk ys.toList cD hl (fun j y hj => hG j y P _ _ _ (hJ j y hj) (fun z h => h.1) fun _ _ _ e => e) (fr_on F keep) (fun q hq => ?_) keep hDn htk
    rcases List.mem_cons.mp hq with rfl | hq
    · refine ⟨by rw [Array.toArray_toList]; exact hcD, ?_, ?_⟩
      · intro q
        have q' : H.objs.size = env.locals := q
        rw [hHs] at q'
        exact Nat.lt_irrefl _ (Nat.lt_of_succ_lt (q' ▸ hLlt))
      · cases e : h₀.get? H.objs.size with
        | none => rfl
        | some o =>
          have := F.keep _ _ e
          rw [hDn] at this
          cases this
    · exact ⟨keep _ _ (N q hq).1, (N q hq).2⟩
end
end

section -- part P01v
set_option maxRecDepth 100000
set_option maxHeartbeats 4000000
theorem reset_P01v : True := by
  w_top off
  trivial
/-- the names of n letters a, b -/
def namesL : Nat → List (List Nat)
  | 0 => [[]]
  | n + 1 => (namesL n).flatMap fun r => [97 :: r, 98 :: r]
def signs4 : List Nat := [97, 98, 63, 42]
def pats64 : List (List Nat) := signs4.flatMap fun a => signs4.flatMap fun b => signs4.map fun c => [a, b, c]
def goodP (p x : List Nat) : Bool := takesL (partsL none p) x == fitsL p x && takesL (partsL none p.reverse) x.reverse == takesL (partsL none p) x
theorem plain2 : (pats64.all fun p => (namesL 2).all (goodP p)) = true := by decide +kernel
theorem plain3 : (pats64.all fun p => (namesL 3).all (goodP p)) = true := by decide +kernel
theorem plain4 : (pats64.all fun p => (namesL 4).all (goodP p)) = true := by decide +kernel
theorem mem_names : ∀ {n : Nat} {x : List Nat}, x.length = n → (∀ c ∈ x, c ∈ [97, 98]) → x ∈ namesL n
  | 0, [], _, _ => List.mem_singleton.mpr rfl
  | n + 1, c :: r, hl, h => by
    refine List.mem_flatMap.mpr ⟨r, mem_names (by simpa using hl) fun d hd => h d (List.mem_cons_of_mem _ hd), ?_⟩
    have := h c List.mem_cons_self
    simp only [List.mem_cons, List.not_mem_nil, or_false] at this
    rcases this with rfl | rfl <;> simp
theorem plain {p x : List Nat} {wd : Nat} (hw : 2 ≤ wd ∧ wd ≤ 4) (hp : p ∈ pats64) (hx : x.length = wd) (h : ∀ c ∈ x, c ∈ [97, 98]) : takesL (partsL none p) x = fitsL p x ∧ takesL (partsL none p.reverse) x.reverse = takesL (partsL none p) x := by
  have hm := mem_names hx h
  have key : goodP p x = true := by
    rcases (by omega : wd = 2 ∨ wd = 3 ∨ wd = 4) with rfl | rfl | rfl
    · exact List.all_eq_true.mp (List.all_eq_true.mp plain2 p hp) x hm
    · exact List.all_eq_true.mp (List.all_eq_true.mp plain3 p hp) x hm
    · exact List.all_eq_true.mp (List.all_eq_true.mp plain4 p hp) x hm
  unfold goodP at key
  rw [Bool.and_eq_true, beq_iff_eq, beq_iff_eq] at key
  exact key
end

section -- part P01w
set_option Elab.async false
set_option maxRecDepth 100000
set_option maxHeartbeats 4000000
theorem reset_P01w : True := by
  w_top off
  trivial
/-- [True, taken, ([], []), ([], left)], of objects of which P holds -/
def ToldQ (P : Addr → Prop) (h : Heap) (v : Value) (T L : List Str) : Prop :=
  ∃ (R : Addr) (cR : Nat) (D : Addr) (vD : List Value) (cD : Nat) (tA : Addr) (oA : Obj) (nA : Nat) (rA : Addr) (mA : Nat) (kA : Addr) (cA : Nat) (vA : List Value) (tB : Addr) (oB : Obj) (nB : Nat) (rB : Addr) (mB : Nat) (kB : Addr) (cB : Nat) (vB : List Value),
    v = .ref R ∧ h.get? R = some (listOf [Value.bool true, Value.ref D, Value.ref tA, Value.ref tB].toArray cR) ∧ h.get? D = some (listOf vD.toArray cD) ∧ StrsAre vD T ∧
    h.get? tA = some oA ∧ oA.cls = .type "tuple" ∧ oA.data = .seq #[Value.ref rA, Value.ref kA] nA ∧ h.get? rA = some (listOf ([] : List Value).toArray mA) ∧ h.get? kA = some (listOf vA.toArray cA) ∧ StrsAre vA [] ∧
    h.get? tB = some oB ∧ oB.cls = .type "tuple" ∧ oB.data = .seq #[Value.ref rB, Value.ref kB] nB ∧ h.get? rB = some (listOf ([] : List Value).toArray mB) ∧ h.get? kB = some (listOf vB.toArray cB) ∧ StrsAre vB L ∧
    ∀ z ∈ [R, D, tA, rA, kA, tB, rB, kB], P z
theorem ToldIs.q {h₀ h : Heap} {v : Value} {T L : List Str} {P : Addr → Prop} (x : ToldIs h₀ h v T L) (hP : ∀ z, h₀.get? z = none → P z) : ToldQ P h v T L := by
  obtain ⟨R, cR, D, vD, cD, tA, oA, nA, rA, mA, kA, cA, vA, tB, oB, nB, rB, mB, kB, cB, vB, h1, h2, h3, h4, h5, h6, h7, h8, h9, h10, h11, h12, h13, h14, h15, h16, h17⟩ := x
  exact ⟨R, cR, D, vD, cD, tA, oA, nA, rA, mA, kA, cA, vA, tB, oB, nB, rB, mB, kB, cB, vB, h1, h2, h3, h4, h5, h6, h7, h8, h9, h10, h11, h12, h13, h14, h15, h16, fun z hz => hP z (h17 z hz)⟩
theorem ToldQ.on {P P' : Addr → Prop} {h h' : Heap} {v : Value} {T L : List Str} (x : ToldQ P h v T L) (hP : ∀ z, P z → P' z) (k : ∀ b o, P b → h.get? b = some o → h'.get? b = some o) : ToldQ P' h' v T L := by
  obtain ⟨R, cR, D, vD, cD, tA, oA, nA, rA, mA, kA, cA, vA, tB, oB, nB, rB, mB, kB, cB, vB, h1, h2, h3, h4, h5, h6, h7, h8, h9, h10, h11, h12, h13, h14, h15, h16, h17⟩ := x
  exact ⟨R, cR, D, vD, cD, tA, oA, nA, rA, mA, kA, cA, vA, tB, oB, nB, rB, mB, kB, cB, vB, h1, k _ _ (h17 _ (by simp)) h2, k _ _ (h17 _ (by simp)) h3, h4, k _ _ (h17 _ (by simp)) h5, h6, h7, k _ _ (h17 _ (by simp)) h8, k _ _ (h17 _ (by simp)) h9, h10, k _ _ (h17 _ (by simp)) h11, h12, h13, k _ _ (h17 _ (by simp)) h14, k _ _ (h17 _ (by simp)) h15, h16, fun z hz => hP z (h17 z hz)⟩
/-- the entry as data -/
def entD (T L : List Str) : PyData := .list [.bool true, strsD T, .tuple [.list [], .list []], .tuple [.list [], strsD L]]
theorem reads_list {h : Heap} {a : Addr} {vs : List Value} {c : Nat} {ss : List Str} (hg : h.get? a = some (listOf vs.toArray c)) (hs : StrsAre vs ss) : ∃ as, Reads h (.ref a) (strsD ss) as :=
  ⟨_, .list hg rfl rfl (by simpa using reads_strs hs)⟩
theorem ToldQ.reads {P : Addr → Prop} {h : Heap} {v : Value} {T L : List Str} (x : ToldQ P h v T L) : ∃ as, Reads h v (entD T L) as := by
  obtain ⟨R, cR, D, vD, cD, tA, oA, nA, rA, mA, kA, cA, vA, tB, oB, nB, rB, mB, kB, cB, vB, rfl, h2, h3, h4, h5, h6, h7, h8, h9, h10, h11, h12, h13, h14, h15, h16, h17⟩ := x
  obtain ⟨a1, r1⟩ := reads_list h3 h4
  obtain ⟨a2, r2⟩ := reads_list h9 h10
  obtain ⟨a3, r3⟩ := reads_list h15 h16
  exact ⟨_, .list h2 rfl rfl (.cons (.bool true) (.cons r1 (.cons (.tuple h5 h6 h7 (.cons (.list h8 rfl rfl .nil) (.cons r2 .nil))) (.cons (.tuple h11 h12 h13 (.cons (.list h14 rfl rfl .nil) (.cons r3 .nil))) .nil))))⟩
def entsD (l : List (List Str × List Str)) : PyData := .list (l.map fun p => entD p.1 p.2)
theorem reads_ents {h : Heap} : ∀ {ys : List Value} {l : List (List Str × List Str)}, ys.length = l.length → (∀ (j : Nat) (y : Value), ys[j]? = some y → ∃ p, l[j]? = some p ∧ ∃ as, Reads h y (entD p.1 p.2) as) → ∃ as, ReadsAll h ys (l.map fun p => entD p.1 p.2) as
  | [], [], _, _ => ⟨[], .nil⟩
  | y :: ys, p :: l, hl, hy => by
    obtain ⟨q, e, as, ra⟩ := hy 0 y rfl
    have : p = q := by simpa using e
    subst this
    obtain ⟨bs, rb⟩ := reads_ents (ys := ys) (l := l) (by simpa using hl) fun j y e => by simpa using hy (j + 1) y (by simpa using e)
    exact ⟨_, .cons ra rb⟩
theorem entD_eqv (T L : List Str) : PyData.eqv (entD T L) (entD T L) = true := by
  simp only [entD, PyData.eqv, PyData.eqvAll, eqv_strs, decide_true, Bool.and_self, beq_self_eq_true]
theorem entsD_eqv (l : List (List Str × List Str)) : PyData.eqv (entsD l) (entsD l) = true := by
  unfold entsD
  simp only [PyData.eqv]
  induction l with
  | nil => simp [PyData.eqvAll]
  | cons p l ih => simp only [List.map_cons, PyData.eqvAll, entD_eqv, ih, Bool.and_self]
theorem entD_shaped {T L : List Str} (hT : ∀ t ∈ T, PyData.strOk t = true) (hL : ∀ t ∈ L, PyData.strOk t = true) : PyData.canLay0 (entD T L) = true ∧ PyData.depth (entD T L) ≤ 6 := by
  have h1 := canLay_strs hT
  have h2 := canLay_strs hL
  have d1 := depth_strs T
  have d2 := depth_strs L
  unfold entD
  simp only [PyData.canLay0, PyData.canLayAll0, h1, h2, PyData.depth, PyData.depthAll, Bool.and_self, true_and]
  omega
theorem entsD_shaped {l : List (List Str × List Str)} (h : ∀ p ∈ l, (∀ t ∈ p.1, PyData.strOk t = true) ∧ ∀ t ∈ p.2, PyData.strOk t = true) : SeqAt.shaped (entsD l) = true := by
  have key : PyData.canLayAll0 (l.map fun p => entD p.1 p.2) = true ∧ PyData.depthAll (l.map fun p => entD p.1 p.2) ≤ 6 := by
    induction l with
    | nil => exact ⟨rfl, by simp [PyData.depthAll]⟩
    | cons p l ih =>
      obtain ⟨i1, i2⟩ := ih fun q hq => h q (List.mem_cons_of_mem _ hq)
      obtain ⟨e1, e2⟩ := entD_shaped (h p List.mem_cons_self).1 (h p List.mem_cons_self).2
      refine ⟨by simp only [List.map_cons, PyData.canLayAll0, e1, i1, Bool.and_self], ?_⟩
      simp only [List.map_cons, PyData.depthAll]
      omega
  unfold SeqAt.shaped entsD
  simp only [PyData.canLay0, key.1, PyData.depth, Bool.true_and]
  exact decide_eq_true (by have := key.2; omega)
end

section -- part P01x
set_option Elab.async false
set_option maxRecDepth 100000
set_option maxHeartbeats 4000000
theorem reset_P01x : True := by
  w_top off
  trivial
theorem cut_ab {n m : Nat} {ks : List Int} {x : Str} (hkl : ks.length = m * n) (hmem : ∀ c ∈ ks, c ∈ [97, 98]) (hx : x ∈ cuts n m ks) : x.cps.toList.length = n ∧ ∀ c ∈ x.cps.toList, c ∈ [97, 98] := by
  obtain ⟨j, hj, rfl⟩ := List.mem_map.mp hx
  rw [List.mem_range] at hj
  have h3 : j * n + n ≤ m * n := by
    have := Nat.mul_le_mul_right n (Nat.succ_le_of_lt hj)
    rwa [Nat.succ_mul] at this
  refine ⟨?_, fun c hc => ?_⟩
  · simp only [textOf, cutAt, List.toList_toArray, List.length_map, List.length_take, List.length_drop]
    omega
  · simp only [textOf, cutAt, List.toList_toArray, List.mem_map] at hc
    obtain ⟨z, hz, rfl⟩ := hc
    have h1 := hmem z (List.mem_of_mem_drop (List.mem_of_mem_take hz))
    exact (by decide : ∀ z ∈ ([97, 98] : List Int), z.toNat ∈ ([97, 98] : List Nat)) z h1
theorem pat_mem (n : Int) : patL n ∈ pats64 := by
  have h : ∀ z : Int, sg z ∈ signs4 := fun z => by
    have := sg_mem z
    simpa [signs4] using this
  exact List.mem_flatMap.mpr ⟨_, h n, List.mem_flatMap.mpr ⟨_, h (n.fdiv 4), List.mem_map.mpr ⟨_, h (n.fdiv 16), rfl⟩⟩⟩
theorem pat_signs (n : Int) : ∀ c ∈ patL n, c ∈ [42, 63, 97, 98] := by
  intro c hc
  have h : ∀ z : Int, sg z ∈ [42, 63, 97, 98] := fun z => (by decide : ∀ d ∈ ([97, 98, 63, 42] : List Nat), d ∈ ([42, 63, 97, 98] : List Nat)) _ (sg_mem z)
  simp only [patL, List.mem_cons, List.not_mem_nil, or_false] at hc
  rcases hc with rfl | rfl | rfl <;> exact h _
section
variable {wd m : Nat} {ks : List Int} (hw : 2 ≤ wd ∧ wd ≤ 4) (hkl : ks.length = m * wd) (hmem : ∀ c ∈ ks, c ∈ [97, 98])
include hw hkl hmem
theorem law_sym (n : Int) : ∀ x ∈ cuts wd m ks, takesL (partsL none (patL n).reverse) (revS x).cps.toList = takesL (partsL none (patL n)) x.cps.toList := fun x hx => by
  obtain ⟨h1, h2⟩ := cut_ab hkl hmem hx
  rw [revS_toList]
  exact (plain hw (pat_mem n) h1 h2).2
theorem law_fits (n : Int) : (cuts wd m ks).filter (fun x => takesL (partsL none (patL n)) x.cps.toList) = (cuts wd m ks).filter (fun x => fitsL (patL n) x.cps.toList) := by
  refine List.filter_congr fun x hx => ?_
  obtain ⟨h1, h2⟩ := cut_ab hkl hmem hx
  exact (plain hw (pat_mem n) h1 h2).1
theorem law_nots (n : Int) : (cuts wd m ks).filter (fun x => !takesL (partsL none (patL n)) x.cps.toList) = (cuts wd m ks).filter (fun x => !fitsL (patL n) x.cps.toList) := by
  refine List.filter_congr fun x hx => ?_
  obtain ⟨h1, h2⟩ := cut_ab hkl hmem hx
  rw [(plain hw (pat_mem n) h1 h2).1]
omit hw in
theorem cut_ok {x : Str} (hx : x ∈ cuts wd m ks) : PyData.strOk x = true ∧ PyData.strOk (revS x) = true := by
  obtain ⟨h1, h2⟩ := cut_ab hkl hmem hx
  have key : ∀ y : Str, (∀ c ∈ y.cps.toList, c ∈ [97, 98]) → PyData.strOk y = true := by
    intro y hy
    unfold PyData.strOk
    rw [← Array.all_toList, List.all_eq_true]
    intro c hc
    exact (by decide : ∀ c ∈ ([97, 98] : List Nat), decide (c < 0x110000) = true) c (hy c hc)
  exact ⟨key x h2, key _ fun c hc => h2 c (by rw [revS_toList] at hc; exact List.mem_reverse.mp hc)⟩
end
end

section -- part P01l
set_option Elab.async false
set_option maxRecDepth 100000
set_option maxHeartbeats 8000000
theorem reset_P01l : True := by
  w_top off
  trivial
theorem law_call {w : World} {p : Program} {loose : List Str} {mean : ExcName → Option Value} {mg mb : Str → Option Value}
  {dp un : Nat} {gd : Option (List Code)} {s : Shared} {E : Value → Shared → Prop} (X : (Mine.hd.heap_39 w.params).In s.heap) (T : Top p loose mean mg mb s.heap)
  (hd : dp + 40 < recursionLimit) (hu : un + 400 < cLine) (b : Addr) (vs : List Value) (ns : List Int) (hl : s.heap.IsList b vs.toArray) (hi : IntsAre vs ns) (hlen : ns.length ≤ 63) :
  wpC (model PySem.Challenge.rw_il0107_01.row.prog w) (Ar dp un gd []) (call (.ref 99) [.ref b]) (fun v s' => v = .bool true ∧ ∃ h tk L m, s' = { s with heap := h, toks := tk } ∧ Fr s.heap L h m) E s := by
  revert X
  k_fill
  intro X
  k_dflt (refine' enterCC (binds := [(Str.ofString "script", Value.ref b)]) X T.nolimit ?k6 ?k7 ?k8 ?k9 ?kB ?kC ?_ ?c2 ?c3 ?c4; (case k6 => k_is); (case k7 => k_is); (case k8 => (show dp < recursionLimit; omega)); (case k9 => exact BindsTo.of_eq rfl); (case kB => exact kindsX rfl); (case kC => decide); (case c2 => exact rfl); (case c3 => exact rfl); (case c4 => exact rfl); k_whole; intro L' h' tk' cells F' N' Y')
  k_cells Y'
  rename_i oT oX oO oW dT dX dO dW
  (try k_fold)
  refine wpC_execs_cons (wpC_of_any ?_)
  (repeat' (first | ((with_reducible show wpAny _ _ _ _ _ _); (fail_if_success (with_reducible show wpAny _ _ (exec (Stmt.Assign _ (Expr.ListComp _ _ _ _) _) _) _ _ _)); (fail_if_success (with_reducible show wpAny _ _ (pyIter _) _ _ _)); (fail_if_success (with_reducible show wpAny _ _ (call (Value.ref _) _) _ _ _)); (fail_if_success (with_reducible show wpAny _ _ (eval (Expr.ListComp _ _ _ _) _) _ _ _)); (first | (k_unfold; (try dsimp only)) | ((with_reducible refine wpAny_execs_cons ?_); (try dsimp only)) | walk1 | (dsimp only; walk1) | (leave1; walk_say "STEP leave1"; try dsimp only) | (dsimp only; k_unfold; (try dsimp only))))))
  rename_i oW2 F1 N1 dW2
  obtain ⟨wd, hwd, hwe⟩ : ∃ wd : Nat, (2 ≤ wd ∧ wd ≤ 4) ∧ ((ns.length : Int).fmod 3 + 2) = (wd : Int) := ⟨ns.length % 3 + 2, by omega, by
    rw [Int.fmod_eq_emod_of_nonneg _ (by decide)]
    omega⟩
  obtain ⟨tW, dW3⟩ : ∃ tW, oW2.data = .cell (some (.int (wd : Int) tW)) := ⟨_, by rw [dW2, hwe]⟩
  clear dW2 hwe
  dsimp only
  refine wpC_execs_cons (wpC_of_any ?_)
  (repeat' (first | ((with_reducible show wpAny _ _ _ _ _ _); (fail_if_success (with_reducible show wpAny _ _ (exec (Stmt.Assign _ (Expr.ListComp _ _ _ _) _) _) _ _ _)); (fail_if_success (with_reducible show wpAny _ _ (pyIter _) _ _ _)); (fail_if_success (with_reducible show wpAny _ _ (call (Value.ref _) _) _ _ _)); (fail_if_success (with_reducible show wpAny _ _ (eval (Expr.ListComp _ _ _ _) _) _ _ _)); (first | (k_unfold; (try dsimp only)) | ((with_reducible refine wpAny_execs_cons ?_); (try dsimp only)) | walk1 | (dsimp only; walk1) | (leave1; walk_say "STEP leave1"; try dsimp only) | (dsimp only; k_unfold; (try dsimp only))))))
  (rename Fr _ _ _ _ => F2)
  (rename News _ _ _ _ => N2)
  (rename IntsAre _ ([613] ++ _) => hI2)
  refine ⟨X.keeps F2.keep, ?_⟩
  refine use_give F2 N2 (octets_call (X.keeps F2.keep) (T.keeps F2.keep) (by show dp + 1 + 5 < _; omega) (by show un + 3 + 100 < _; omega) _ _ _ (News.isList N2 (.head _)) hI2 (by simp; omega) wd tW (by omega) (by omega)) ?_
  rintro v h3 tk3 - F3 N3 ⟨d, td, rfl, hd3⟩
  have hks : octB ([613] ++ ns.take 4) wd = octB (613 :: ns.take 4) wd := rfl
  rw [hks] at hd3
  clear hI2 hks F2 N2
  have c12 : L' + 1 ≠ L' + 1 + 1 := Nat.ne_of_lt (Nat.lt_succ_self _)
  have c23 : L' + 1 + 1 ≠ L' + 1 + 1 + 1 := Nat.ne_of_lt (Nat.lt_succ_self _)
  have c34 : L' + 1 + 1 + 1 ≠ L' + 1 + 1 + 1 + 1 := Nat.ne_of_lt (Nat.lt_succ_self _)
  have c24 : L' + 1 + 1 ≠ L' + 1 + 1 + 1 + 1 := Nat.ne_of_lt (Nat.lt_succ_of_lt (Nat.lt_succ_self _))
  have c13 : L' + 1 ≠ L' + 1 + 1 + 1 := Nat.ne_of_lt (Nat.lt_succ_of_lt (Nat.lt_succ_self _))
  have c14 : L' + 1 ≠ L' + 1 + 1 + 1 + 1 := Nat.ne_of_lt (Nat.lt_succ_of_lt (Nat.lt_succ_of_lt (Nat.lt_succ_self _)))
  have N4 : News s.heap L' h3 ([(L' + 1 + 1 + 1 + 1, oT), (L' + 1 + 1 + 1, oX)] ++ (L' + 1 + 1, oO) :: [(L' + 1, oW2)]) := news_sub N3 (by
    intro p hp
    simp only [List.cons_append, List.nil_append, List.mem_cons, List.not_mem_nil, or_false] at hp ⊢
    rcases hp with h | h | h | h <;> simp [h])
  refine stCN F3 N4 (by rfl) dO (by intro p hp; rcases List.mem_cons.mp hp with rfl | hp; exact c24.symm; rw [List.mem_singleton.mp hp]; exact c23.symm) (by intro p hp; rw [List.mem_singleton.mp hp]; exact c12) (fun h4 oO2 F4 N5 dO2 => ?_)
  simp only [List.cons_append, List.nil_append] at N5
  clear N4 N3 F3 dO
  dsimp only
  refine wpC_execs_cons (wpC_of_any ?_)
  refine Assign_oneD (cl := []) rfl (closureFor_none (by decide)) (by decide) rfl (by decide) rfl rfl rfl ?_
  (repeat' (first | ((with_reducible show wpAny _ _ _ _ _ _); (fail_if_success (with_reducible show wpAny _ _ (exec (Stmt.Assign _ (Expr.ListComp _ _ _ _) _) _) _ _ _)); (fail_if_success (with_reducible show wpAny _ _ (pyIter _) _ _ _)); (fail_if_success (with_reducible show wpAny _ _ (call (Value.ref _) _) _ _ _)); (fail_if_success (with_reducible show wpAny _ _ (eval (Expr.ListComp _ _ _ _) _) _ _ _)); (first | (k_unfold; (try dsimp only)) | ((with_reducible refine wpAny_execs_cons ?_); (try dsimp only)) | walk1 | (dsimp only; walk1) | (leave1; walk_say "STEP leave1"; try dsimp only) | (dsimp only; k_unfold; (try dsimp only))))))
  (rename Fr _ _ _ _ => F6)
  (rename News _ _ _ _ => N6)
  (rename IntsAre _ ([11, 27, 6] ++ _) => hI6)
  refine inner_asg (JM2 patS ([11, 27, 6] ++ ns.take 4)) F6 N6 (News.isList N6 (.head _)) rfl (by rw [List.size_toArray, hI6.length, sizeLine_eq]; simp; omega) (JM2.nil _ _) ?t2 ?y6
  case t2 =>
    rintro C k u s₃ m₃ E' nw hk hu hmj F7 N7 _
    obtain ⟨n, tn, rfl, hn⟩ := hI6.at k u (by simpa using hu)
    clear F6 N6
    (repeat' (first | ((with_reducible show wpAny _ _ _ _ _ _); (fail_if_success (with_reducible show wpAny _ _ (exec (Stmt.Assign _ (Expr.ListComp _ _ _ _) _) _) _ _ _)); (fail_if_success (with_reducible show wpAny _ _ (pyIter _) _ _ _)); (fail_if_success (with_reducible show wpAny _ _ (call (Value.ref _) _) _ _ _)); (fail_if_success (with_reducible show wpAny _ _ (eval (Expr.ListComp _ _ _ _) _) _ _ _)); (first | (k_unfold; (try dsimp only)) | ((with_reducible refine wpAny_execs_cons ?_); (try dsimp only)) | walk1 | (dsimp only; walk1) | (leave1; walk_say "STEP leave1"; try dsimp only) | (dsimp only; k_unfold; (try dsimp only))))))
    refine wpAny_Name (wpAny_loadName_local rfl rfl F7.ns hmj ?_) (by decide)
    (repeat' (first | ((with_reducible show wpAny _ _ _ _ _ _); (fail_if_success (with_reducible show wpAny _ _ (exec (Stmt.Assign _ (Expr.ListComp _ _ _ _) _) _) _ _ _)); (fail_if_success (with_reducible show wpAny _ _ (pyIter _) _ _ _)); (fail_if_success (with_reducible show wpAny _ _ (call (Value.ref _) _) _ _ _)); (fail_if_success (with_reducible show wpAny _ _ (eval (Expr.ListComp _ _ _ _) _) _ _ _)); (first | (k_unfold; (try dsimp only)) | ((with_reducible refine wpAny_execs_cons ?_); (try dsimp only)) | walk1 | (dsimp only; walk1) | (leave1; walk_say "STEP leave1"; try dsimp only) | (dsimp only; k_unfold; (try dsimp only))))))
    refine wpAny_Name (wpAny_loadName_local rfl rfl F7.ns hmj ?_) (by decide)
    (repeat' (first | ((with_reducible show wpAny _ _ _ _ _ _); (fail_if_success (with_reducible show wpAny _ _ (exec (Stmt.Assign _ (Expr.ListComp _ _ _ _) _) _) _ _ _)); (fail_if_success (with_reducible show wpAny _ _ (pyIter _) _ _ _)); (fail_if_success (with_reducible show wpAny _ _ (call (Value.ref _) _) _ _ _)); (fail_if_success (with_reducible show wpAny _ _ (eval (Expr.ListComp _ _ _ _) _) _ _ _)); (first | (k_unfold; (try dsimp only)) | ((with_reducible refine wpAny_execs_cons ?_); (try dsimp only)) | walk1 | (dsimp only; walk1) | (leave1; walk_say "STEP leave1"; try dsimp only) | (dsimp only; k_unfold; (try dsimp only))))))
    refine wpAny_Name (wpAny_loadName_local rfl rfl F7.ns hmj ?_) (by decide)
    (repeat' (first | ((with_reducible show wpAny _ _ _ _ _ _); (fail_if_success (with_reducible show wpAny _ _ (exec (Stmt.Assign _ (Expr.ListComp _ _ _ _) _) _) _ _ _)); (fail_if_success (with_reducible show wpAny _ _ (pyIter _) _ _ _)); (fail_if_success (with_reducible show wpAny _ _ (call (Value.ref _) _) _ _ _)); (fail_if_success (with_reducible show wpAny _ _ (eval (Expr.ListComp _ _ _ _) _) _ _ _)); (first | (k_unfold; (try dsimp only)) | ((with_reducible refine wpAny_execs_cons ?_); (try dsimp only)) | walk1 | (dsimp only; walk1) | (leave1; walk_say "STEP leave1"; try dsimp only) | (dsimp only; k_unfold; (try dsimp only))))))
    exact ⟨fun ys hJ => JM2.push hn (pat_join n) hJ, CBack.intro F7 N7 (fun p hp => List.mem_append_right _ hp)⟩
  case y6 =>
    rintro rQ h8 tk8 vQ cQ hJ F8 N8 hn8 - - -
    have hJ1 := JM2.done (by rw [List.size_toArray]; exact hI6.length) hJ
    clear hJ F6 N6 hI6
    dsimp only
    have N9 : News s.heap L' h8 [(rQ, listOf vQ.toArray cQ), (L' + 1 + 1 + 1 + 1, oT), (L' + 1 + 1 + 1, oX), (L' + 1 + 1, oO2), (L' + 1, oW2)] := news_sub N8 (by
      intro p hp
      simp only [List.mem_cons, List.not_mem_nil, or_false] at hp ⊢
      rcases hp with h | h | h | h | h <;> simp [h])
    have hnQ := hn8
    clear N8 hn8
    refine wpC_execs_cons (wpC_of_any ?_)
    (repeat' (first | ((with_reducible show wpAny _ _ _ _ _ _); (fail_if_success (with_reducible show wpAny _ _ (exec (Stmt.Assign _ (Expr.ListComp _ _ _ _) _) _) _ _ _)); (fail_if_success (with_reducible show wpAny _ _ (pyIter _) _ _ _)); (fail_if_success (with_reducible show wpAny _ _ (call (Value.ref _) _) _ _ _)); (fail_if_success (with_reducible show wpAny _ _ (eval (Expr.ListComp _ _ _ _) _) _ _ _)); (first | (k_unfold; (try dsimp only)) | ((with_reducible refine wpAny_execs_cons ?_); (try dsimp only)) | walk1 | (dsimp only; walk1) | (leave1; walk_say "STEP leave1"; try dsimp only) | (dsimp only; k_unfold; (try dsimp only))))))
    (rename Fr _ _ _ _ => F10)
    (rename News _ _ _ _ => N10)
    (rename _ ∧ _ ∧ _ ∧ _ ∧ _ => l10)
    obtain ⟨due, e⟩ := head_name N10
    subst e
    obtain ⟨m10, hm10, F10'⟩ := fr_name F10
    clear F10
    have hQW : L' + 1 ≠ rQ := hnQ (L' + 1, oW2) (by repeat (first | exact List.mem_cons_self | apply List.mem_cons_of_mem))
    have hQO : L' + 1 + 1 ≠ rQ := hnQ (L' + 1 + 1, oO2) (by repeat (first | exact List.mem_cons_self | apply List.mem_cons_of_mem))
    have hQX : L' + 1 + 1 + 1 ≠ rQ := hnQ (L' + 1 + 1 + 1, oX) (by repeat (first | exact List.mem_cons_self | apply List.mem_cons_of_mem))
    have hQT : L' + 1 + 1 + 1 + 1 ≠ rQ := hnQ (L' + 1 + 1 + 1 + 1, oT) (by repeat (first | exact List.mem_cons_self | apply List.mem_cons_of_mem))
    obtain ⟨l10Q, l10T, l10X, l10O, l10W⟩ := l10
    generalize hPe : ([11, 27, 6] ++ ns.take 4 : List Int) = P at hJ1
    have hP7 : P.length ≤ 7 := by rw [← hPe]; simp; omega
    have hmem : ∀ c ∈ octB (613 :: ns.take 4) wd, c ∈ [97, 98] := fun c hc => octB_mem hc
    obtain ⟨m, hkl, hk4⟩ : ∃ m, (octB (613 :: ns.take 4) wd).length = m * wd ∧ (octB (613 :: ns.take 4) wd).length ≤ 64 := by
      have h1 : (octB (613 :: ns.take 4) wd).length = (rowI (613 :: ns.take 4)).length - (rowI (613 :: ns.take 4)).length % wd := by rw [octB, List.length_take]; omega
      have h2 : (rowI (613 :: ns.take 4)).length ≤ 50 := by rw [rowI_length]; simp; omega
      refine ⟨(rowI (613 :: ns.take 4)).length / wd, ?_, by omega⟩
      rw [h1]
      have := Nat.div_add_mod (rowI (613 :: ns.take 4)).length wd
      rw [Nat.mul_comm] at this
      omega
    generalize octB (613 :: ns.take 4) wd = ks at hd3 hmem hkl hk4
    have hin128 : ∀ c ∈ ks, 0 ≤ c ∧ c < 128 := fun c hc => (by decide : ∀ c ∈ ([97, 98] : List Int), 0 ≤ c ∧ c < 128) c (hmem c hc)
    have hm64 : m ≤ 64 := Nat.le_trans (Nat.le_mul_of_pos_right m (by omega)) (hkl ▸ hk4)
    have hcl64 : (cuts wd m ks).length = m := by simp [cuts]
    refine wpC_execs_cons (wpC_of_any ?_)
    refine For_cellN (news := [(due, listOf ([] : List Value).toArray 0), (L' + 1 + 1 + 1 + 1, oT), (rQ, listOf vQ.toArray cQ), (L' + 1 + 1, oO2), (L' + 1, oW2)]) (l := rQ) (cp := L' + 1 + 1 + 1) (vs := vQ.toArray) (JL due (L' + 1 + 1 + 1 + 1) [(rQ, listOf vQ.toArray cQ), (L' + 1 + 1, oO2), (L' + 1, oW2)] (fun n => (cuts wd m ks).filter (fun x => fitsL (patL n) x.cps.toList)) (fun n => ((cuts wd m ks).filter (fun x => !fitsL (patL n) x.cps.toList)).map revS) P m10)
      rfl rfl rfl rfl ?hll ?hey F10' (news_sub N10 ?hs0) dX ?hn0 ?hj0 ?turn ?done
    case hll =>
      rintro i m₁ news₁ ⟨rfl, ys, ep, oT1, vT1, rest, rfl, _⟩
      exact ⟨cQ, by simp⟩
    case hey =>
      intro Q' q
      subst hm10
      exact wpAny_Name (wpAny_loadName_local rfl rfl F10'.ns rfl q) (by decide)
    case hj0 => exact ⟨rfl, [], 0, oT, _, [], rfl, dT, rfl, fun j y e => by simp at e, by
      intro p hp
      simp only [List.append_nil, List.mem_cons, List.not_mem_nil, or_false] at hp
      rcases hp with rfl | rfl | rfl
      · exact ⟨Nat.ne_of_lt l10Q, hQT.symm⟩
      · exact ⟨Nat.ne_of_lt l10O, c24⟩
      · exact ⟨Nat.ne_of_lt l10W, c14⟩⟩
    case hs0 =>
      intro p hp
      simp only [List.append_nil, List.mem_cons, List.not_mem_nil, or_false] at hp ⊢
      rcases hp with h | h | h | h | h | h <;> simp [h]
    case hn0 =>
      intro p hp
      simp only [List.append_nil, List.mem_cons, List.not_mem_nil, or_false] at hp
      rcases hp with rfl | rfl | rfl | rfl | rfl
      · exact Nat.ne_of_gt l10X
      · exact c34.symm
      · exact hQX.symm
      · exact c23
      · exact c13
    case turn =>
      rintro i v m₁ news₁ h tk I oI oc hv ⟨rfl, ys, ep, oT1, vT1, rest, rfl, hT1, hyl, hys, hfix⟩ hIx hnw hoc F11 N11
      obtain ⟨x, tx, rfl, hx⟩ := hJ1.item i v (by simpa using hv)
      obtain ⟨n, hn, rfl⟩ : ∃ n, P[i]? = some n ∧ x = patS n := by
        rw [List.getElem?_map] at hx
        obtain ⟨n, hn, h⟩ := Option.map_eq_some_iff.mp hx
        exact ⟨n, hn, h.symm⟩
      have hi7 : i ≤ 7 := by
        have := (List.getElem?_eq_some_iff.mp hn).1
        omega
      subst hm10
      clear N10 F10'
      simp only [List.cons_append, List.nil_append] at N11 hnw hfix
      refine wpAny_execs_cons (wpAny_Assign_Name ?_ ?g1)
      case g1 => rfl
      refine ListComp_testD (cl := [(Str.ofString "x", L' + 1 + 1 + 1)]) rfl (by decide) rfl (by decide) rfl ?_
      (repeat' (first | ((with_reducible show wpAny _ _ _ _ _ _); (fail_if_success (with_reducible show wpAny _ _ (exec (Stmt.Assign _ (Expr.ListComp _ _ _ _) _) _) _ _ _)); (fail_if_success (with_reducible show wpAny _ _ (pyIter _) _ _ _)); (fail_if_success (with_reducible show wpAny _ _ (call (Value.ref _) _) _ _ _)); (fail_if_success (with_reducible show wpAny _ _ (eval (Expr.ListComp _ _ _ _) _) _ _ _)); (first | (k_unfold; (try dsimp only)) | ((with_reducible refine wpAny_execs_cons ?_); (try dsimp only)) | walk1 | (dsimp only; walk1) | (leave1; walk_say "STEP leave1"; try dsimp only) | (dsimp only; k_unfold; (try dsimp only))))))
      (rename Fr _ _ _ _ => F12)
      (rename News _ _ _ _ => N12)
      refine ⟨X.keeps F12.keep, ?_⟩
      refine use_strs F12 N12 (samples_call (X.keeps F12.keep) (T.keeps F12.keep) (by show dp + 1 + 5 < _; omega) d _ _ m wd (by omega) (by omega) ks hd3 hkl (by omega) hin128) ?_
      intro rS vS cS hS tS htS FS NS hSS hrS kS hrS0
      clear F12 N12
      have hvS : vS.length = m := by rw [hSS.length, hcl64]
      have hrS4 : rS ≠ L' + 1 + 1 + 1 + 1 := Ne.symm (hrS (L' + 1 + 1 + 1 + 1, oT1) (by repeat (first | exact List.mem_cons_self | apply List.mem_cons_of_mem)))
      refine inner_val (vs := vS.toArray) (r := rS) (JF (fun x => fitsL (patL n) x.cps.toList) (cuts wd m ks)) (fun k => (fun x : Str => fitsL (patL n) x.cps.toList) ((cuts wd m ks).getD k ⟨#[]⟩)) FS NS ?hl ?hh ?hz (JF.nil _ _) ?hs ?t1 ?t2 ?y6
      case hl => exact News.isList NS List.mem_cons_self
      case hs => exact fun k ys hk h hj => JF.skip h (by rw [hcl64]; simpa [hvS] using hk) hj
      case hh => rfl
      case hz => rw [List.size_toArray, hvS, sizeLine_eq]; omega
      case t1 =>
        rintro C i₁ v₁ s₃ m₃ E' nw hi₁ hv₁ hmj F4 N4 _
        obtain ⟨x, ux, rfl, hx1⟩ := hSS.item i₁ v₁ (by simpa using hv₁)
        clear FS NS
        (repeat' (first | ((with_reducible show wpAny _ _ _ _ _ _); (fail_if_success (with_reducible show wpAny _ _ (exec (Stmt.Assign _ (Expr.ListComp _ _ _ _) _) _) _ _ _)); (fail_if_success (with_reducible show wpAny _ _ (pyIter _) _ _ _)); (fail_if_success (with_reducible show wpAny _ _ (call (Value.ref _) _) _ _ _)); (fail_if_success (with_reducible show wpAny _ _ (eval (Expr.ListComp _ _ _ _) _) _ _ _)); (first | (k_unfold; (try dsimp only)) | ((with_reducible refine wpAny_execs_cons ?_); (try dsimp only)) | walk1 | (dsimp only; walk1) | (leave1; walk_say "STEP leave1"; try dsimp only) | (dsimp only; k_unfold; (try dsimp only))))))
        refine wpAny_Name (wpAny_loadName_local rfl rfl F4.ns hmj ?_) (by decide)
        (repeat' (first | ((with_reducible show wpAny _ _ _ _ _ _); (fail_if_success (with_reducible show wpAny _ _ (exec (Stmt.Assign _ (Expr.ListComp _ _ _ _) _) _) _ _ _)); (fail_if_success (with_reducible show wpAny _ _ (pyIter _) _ _ _)); (fail_if_success (with_reducible show wpAny _ _ (call (Value.ref _) _) _ _ _)); (fail_if_success (with_reducible show wpAny _ _ (eval (Expr.ListComp _ _ _ _) _) _ _ _)); (first | (k_unfold; (try dsimp only)) | ((with_reducible refine wpAny_execs_cons ?_); (try dsimp only)) | walk1 | (dsimp only; walk1) | (leave1; walk_say "STEP leave1"; try dsimp only) | (dsimp only; k_unfold; (try dsimp only))))))
        (rename Fr _ _ _ _ => F5)
        (rename News _ _ _ _ => N5)
        refine ⟨X.keeps F5.keep, ?_⟩
        refine use_call F5 N5 (fits_call (un := un) (gd := none) (by omega) (patL n) x.cps.toList _ _ _ _ _ _ _ _ (X.keeps F5.keep) (T.keeps F5.keep) (by show dp + 1 + 4 * 3 + 5 < _; omega) (by show un + 3 + 8 * 3 + 100 < _; omega) (by show 3 ≤ 64; omega) (by rw [Array.length_toList]; exact cut_len hx1 (by omega))) ?_
        rintro v h9 tk9 F9 N9 rfl
        refine wpAny_truthy_bool ?_
        k_unfold
        exact ⟨by rw [getD_of hx1], CBack.intro F9 N9 (fun p hp => List.mem_append_right _ hp)⟩
      case t2 =>
        rintro C i₁ v₁ s₃ m₃ E' nw hi₁ hp₁ hv₁ hmj F4 N4 _
        obtain ⟨x, ux, rfl, hx1⟩ := hSS.item i₁ v₁ (by simpa using hv₁)
        refine wpAny_Name (wpAny_loadName_local rfl rfl F4.ns hmj ?_) (by decide)
        exact ⟨fun ys hJ => JF.push hx1 hp₁ hJ, CBack.intro F4 N4 (fun p hp => List.mem_append_right _ hp)⟩
      case y6 =>
        rintro D h9 tk9 ysD ep9 hJ F9 N9 hn9 - - htk9
        have hJ2 := JF.done (by rw [hcl64, List.size_toArray, hvS]) hJ
        have hD4 : D ≠ L' + 1 + 1 + 1 + 1 := Ne.symm (hn9 (L' + 1 + 1 + 1 + 1, oT1) (by repeat (first | exact List.mem_cons_self | apply List.mem_cons_of_mem)))
        have hDdue : D ≠ due := Ne.symm (hn9 (due, _) (by repeat (first | exact List.mem_cons_self | apply List.mem_cons_of_mem)))
        have hI4 : I ≠ L' + 1 + 1 + 1 + 1 := Ne.symm (hnw (L' + 1 + 1 + 1 + 1, oT1) (by repeat (first | exact List.mem_cons_self | apply List.mem_cons_of_mem))).1
        have hdue4 : due ≠ L' + 1 + 1 + 1 + 1 := Nat.ne_of_gt l10T
        have N9' : News s.heap L' h9 ([(D, listOf ysD.toArray ep9), (I, oI), (L' + 1 + 1 + 1, oc), (due, listOf ys.toArray ep)] ++ (L' + 1 + 1 + 1 + 1, oT1) :: ((rQ, listOf vQ.toArray cQ) :: (L' + 1 + 1, oO2) :: (L' + 1, oW2) :: rest)) := news_sub N9 (by
          intro p hp
          simp only [List.cons_append, List.nil_append, List.mem_cons, List.not_mem_nil, or_false] at hp ⊢
          rcases hp with h | h | h | h | h | h | h | h | h <;> simp [h])
        refine stCN F9 N9' (by rfl) hT1 (by
          intro p hp
          simp only [List.mem_cons, List.not_mem_nil, or_false] at hp
          rcases hp with rfl | rfl | rfl | rfl
          · exact hD4
          · exact hI4
          · exact c34
          · exact hdue4) (fun p hp => (hfix p hp).2) (fun hT2 oT2 FT2 NT2 dT2 => ?_)
        simp only [List.cons_append, List.nil_append] at NT2
        clear N9 N9' F9 FS NS hT1 hJ
        dsimp only
        (repeat' (first | ((with_reducible show wpAny _ _ _ _ _ _); (fail_if_success (with_reducible show wpAny _ _ (exec (Stmt.Assign _ (Expr.ListComp _ _ _ _) _) _) _ _ _)); (fail_if_success (with_reducible show wpAny _ _ (pyIter _) _ _ _)); (fail_if_success (with_reducible show wpAny _ _ (call (Value.ref _) _) _ _ _)); (fail_if_success (with_reducible show wpAny _ _ (eval (Expr.ListComp _ _ _ _) _) _ _ _)); (first | (k_unfold; (try dsimp only)) | ((with_reducible refine wpAny_execs_cons ?_); (try dsimp only)) | walk1 | (dsimp only; walk1) | (leave1; walk_say "STEP leave1"; try dsimp only) | (dsimp only; k_unfold; (try dsimp only))))))
        (rename Fr _ _ _ _ => F13)
        (rename News _ _ _ _ => N13)
        refine ListComp_testD (cl := [(Str.ofString "taken", L' + 1 + 1 + 1 + 1)]) rfl (by decide) rfl (by decide) rfl ?_
        (repeat' (first | ((with_reducible show wpAny _ _ _ _ _ _); (fail_if_success (with_reducible show wpAny _ _ (exec (Stmt.Assign _ (Expr.ListComp _ _ _ _) _) _) _ _ _)); (fail_if_success (with_reducible show wpAny _ _ (pyIter _) _ _ _)); (fail_if_success (with_reducible show wpAny _ _ (call (Value.ref _) _) _ _ _)); (fail_if_success (with_reducible show wpAny _ _ (eval (Expr.ListComp _ _ _ _) _) _ _ _)); (first | (k_unfold; (try dsimp only)) | ((with_reducible refine wpAny_execs_cons ?_); (try dsimp only)) | walk1 | (dsimp only; walk1) | (leave1; walk_say "STEP leave1"; try dsimp only) | (dsimp only; k_unfold; (try dsimp only))))))
        refine ⟨X.keeps F13.keep, ?_⟩
        refine use_strs F13 N13 (samples_call (X.keeps F13.keep) (T.keeps F13.keep) (by show dp + 1 + 5 < _; omega) d _ _ m wd (by omega) (by omega) ks hd3 hkl (by omega) hin128) ?_
        intro rU vU cU hU tU htU FU NU hSU hrU kU hrU0
        clear F13 N13
        have hvU : vU.length = m := by rw [hSU.length, hcl64]
        refine inner_val (vs := vU.toArray) (r := rU) (JFR (fun x => !fitsL (patL n) x.cps.toList) revS (cuts wd m ks)) (fun k => (fun x : Str => !fitsL (patL n) x.cps.toList) ((cuts wd m ks).getD k ⟨#[]⟩)) FU NU ?hl ?hh ?hz (JFR.nil _ _ _) ?hs ?t1 ?t2 ?y6
        case hl => exact News.isList NU List.mem_cons_self
        case hs => exact fun k ys hk h hj => JFR.skip h (by rw [hcl64]; simpa [hvU] using hk) hj
        case hh => rfl
        case hz => rw [List.size_toArray, hvU, sizeLine_eq]; omega
        case t1 =>
          rintro C i₁ v₁ s₃ m₃ E' nw hi₁ hv₁ hmj F4 N4 _
          obtain ⟨x, ux, rfl, hx1⟩ := hSU.item i₁ v₁ (by simpa using hv₁)
          clear FU NU
          (repeat' (first | ((with_reducible show wpAny _ _ _ _ _ _); (fail_if_success (with_reducible show wpAny _ _ (exec (Stmt.Assign _ (Expr.ListComp _ _ _ _) _) _) _ _ _)); (fail_if_success (with_reducible show wpAny _ _ (pyIter _) _ _ _)); (fail_if_success (with_reducible show wpAny _ _ (call (Value.ref _) _) _ _ _)); (fail_if_success (with_reducible show wpAny _ _ (eval (Expr.ListComp _ _ _ _) _) _ _ _)); (first | (k_unfold; (try dsimp only)) | ((with_reducible refine wpAny_execs_cons ?_); (try dsimp only)) | walk1 | (dsimp only; walk1) | (leave1; walk_say "STEP leave1"; try dsimp only) | (dsimp only; k_unfold; (try dsimp only))))))
          refine wpAny_Name (wpAny_loadName_local rfl rfl F4.ns hmj ?_) (by decide)
          (repeat' (first | ((with_reducible show wpAny _ _ _ _ _ _); (fail_if_success (with_reducible show wpAny _ _ (exec (Stmt.Assign _ (Expr.ListComp _ _ _ _) _) _) _ _ _)); (fail_if_success (with_reducible show wpAny _ _ (pyIter _) _ _ _)); (fail_if_success (with_reducible show wpAny _ _ (call (Value.ref _) _) _ _ _)); (fail_if_success (with_reducible show wpAny _ _ (eval (Expr.ListComp _ _ _ _) _) _ _ _)); (first | (k_unfold; (try dsimp only)) | ((with_reducible refine wpAny_execs_cons ?_); (try dsimp only)) | walk1 | (dsimp only; walk1) | (leave1; walk_say "STEP leave1"; try dsimp only) | (dsimp only; k_unfold; (try dsimp only))))))
          refine notin_list_strs (News.isList N4 (by repeat (first | exact List.mem_cons_self | apply List.mem_cons_of_mem))) hJ2 ?_
          (repeat' (first | ((with_reducible show wpAny _ _ _ _ _ _); (fail_if_success (with_reducible show wpAny _ _ (exec (Stmt.Assign _ (Expr.ListComp _ _ _ _) _) _) _ _ _)); (fail_if_success (with_reducible show wpAny _ _ (pyIter _) _ _ _)); (fail_if_success (with_reducible show wpAny _ _ (call (Value.ref _) _) _ _ _)); (fail_if_success (with_reducible show wpAny _ _ (eval (Expr.ListComp _ _ _ _) _) _ _ _)); (first | (k_unfold; (try dsimp only)) | ((with_reducible refine wpAny_execs_cons ?_); (try dsimp only)) | walk1 | (dsimp only; walk1) | (leave1; walk_say "STEP leave1"; try dsimp only) | (dsimp only; k_unfold; (try dsimp only))))))
          exact ⟨by rw [getD_of hx1, any_filter hx1], CBack.intro F4 N4 (fun p hp => List.mem_append_right _ hp)⟩
        case t2 =>
          rintro C i₁ v₁ s₃ m₃ E' nw hi₁ hp₁ hv₁ hmj F4 N4 _
          obtain ⟨x, ux, rfl, hx1⟩ := hSU.item i₁ v₁ (by simpa using hv₁)
          clear FU NU
          (repeat' (first | ((with_reducible show wpAny _ _ _ _ _ _); (fail_if_success (with_reducible show wpAny _ _ (exec (Stmt.Assign _ (Expr.ListComp _ _ _ _) _) _) _ _ _)); (fail_if_success (with_reducible show wpAny _ _ (pyIter _) _ _ _)); (fail_if_success (with_reducible show wpAny _ _ (call (Value.ref _) _) _ _ _)); (fail_if_success (with_reducible show wpAny _ _ (eval (Expr.ListComp _ _ _ _) _) _ _ _)); (first | (k_unfold; (try dsimp only)) | ((with_reducible refine wpAny_execs_cons ?_); (try dsimp only)) | walk1 | (dsimp only; walk1) | (leave1; walk_say "STEP leave1"; try dsimp only) | (dsimp only; k_unfold; (try dsimp only))))))
          refine wpAny_Name (wpAny_loadName_local rfl rfl F4.ns hmj ?_) (by decide)
          (repeat' (first | ((with_reducible show wpAny _ _ _ _ _ _); (fail_if_success (with_reducible show wpAny _ _ (exec (Stmt.Assign _ (Expr.ListComp _ _ _ _) _) _) _ _ _)); (fail_if_success (with_reducible show wpAny _ _ (pyIter _) _ _ _)); (fail_if_success (with_reducible show wpAny _ _ (call (Value.ref _) _) _ _ _)); (fail_if_success (with_reducible show wpAny _ _ (eval (Expr.ListComp _ _ _ _) _) _ _ _)); (first | (k_unfold; (try dsimp only)) | ((with_reducible refine wpAny_execs_cons ?_); (try dsimp only)) | walk1 | (dsimp only; walk1) | (leave1; walk_say "STEP leave1"; try dsimp only) | (dsimp only; k_unfold; (try dsimp only))))))
          dsimp only
          refine slice_rev (s := { heap := s₃.heap, gens := s₃.gens, drawn := s₃.drawn, toks := s₃.toks + 1 + 1, os := s₃.os }) F4 N4 (fun h9 t9 k9 F9 N9 => ?_) (cut_len hx1 (by omega))
          exact ⟨fun ys hJ => JFR.push hx1 hp₁ hJ, CBack.intro F9 N9 (fun p hp => List.mem_append_right _ hp)⟩
        case y6 =>
          rintro DL h15 tk15 vL cL hJ F15 N15 hn15 - - htk15
          have hJ3 := JFR.done (by rw [hcl64, List.size_toArray, hvU]) hJ
          clear FU NU hJ
          dsimp only
          (repeat' (first | ((with_reducible show wpAny _ _ _ _ _ _); (fail_if_success (with_reducible show wpAny _ _ (exec (Stmt.Assign _ (Expr.ListComp _ _ _ _) _) _) _ _ _)); (fail_if_success (with_reducible show wpAny _ _ (pyIter _) _ _ _)); (fail_if_success (with_reducible show wpAny _ _ (call (Value.ref _) _) _ _ _)); (fail_if_success (with_reducible show wpAny _ _ (eval (Expr.ListComp _ _ _ _) _) _ _ _)); (first | (k_unfold; (try dsimp only)) | ((with_reducible refine wpAny_execs_cons ?_); (try dsimp only)) | walk1 | (dsimp only; walk1) | (leave1; walk_say "STEP leave1"; try dsimp only) | (dsimp only; k_unfold; (try dsimp only))))))
          (rename Fr _ _ _ _ => F16)
          (rename News _ _ _ _ => N16)
          obtain ⟨R, e⟩ := head_name N16
          subst e
          obtain ⟨t2, e⟩ := head_name (fun p hp => N16 p (List.mem_cons_of_mem _ hp))
          subst e
          obtain ⟨e3, e⟩ := head_name (fun p hp => N16 p (List.mem_cons_of_mem _ (List.mem_cons_of_mem _ (List.mem_cons_of_mem _ (List.mem_cons_of_mem _ hp)))))
          subst e
          obtain ⟨t1, e⟩ := head_name (fun p hp => N16 p (List.mem_cons_of_mem _ (List.mem_cons_of_mem _ (List.mem_cons_of_mem _ (List.mem_cons_of_mem _ (List.mem_cons_of_mem _ hp))))))
          subst e
          obtain ⟨e2, e⟩ := head_name (fun p hp => N16 p (List.mem_cons_of_mem _ (List.mem_cons_of_mem _ (List.mem_cons_of_mem _ (List.mem_cons_of_mem _ (List.mem_cons_of_mem _ (List.mem_cons_of_mem _ hp)))))))
          subst e
          obtain ⟨e1, e⟩ := head_name (fun p hp => N16 p (List.mem_cons_of_mem _ (List.mem_cons_of_mem _ (List.mem_cons_of_mem _ (List.mem_cons_of_mem _ (List.mem_cons_of_mem _ (List.mem_cons_of_mem _ (List.mem_cons_of_mem _ hp))))))))
          subst e
          have lt5 : (@LT.lt Nat instLTNat (due) e1 ∧ @LT.lt Nat instLTNat (due) e2 ∧ @LT.lt Nat instLTNat (due) t1 ∧ @LT.lt Nat instLTNat (due) e3 ∧ @LT.lt Nat instLTNat (due) t2 ∧ @LT.lt Nat instLTNat (due) R) ∧ (@LT.lt Nat instLTNat (I) e1 ∧ @LT.lt Nat instLTNat (I) e2 ∧ @LT.lt Nat instLTNat (I) t1 ∧ @LT.lt Nat instLTNat (I) e3 ∧ @LT.lt Nat instLTNat (I) t2 ∧ @LT.lt Nat instLTNat (I) R) ∧ (@LT.lt Nat instLTNat (L' + 1 + 1 + 1) e1 ∧ @LT.lt Nat instLTNat (L' + 1 + 1 + 1) e2 ∧ @LT.lt Nat instLTNat (L' + 1 + 1 + 1) t1 ∧ @LT.lt Nat instLTNat (L' + 1 + 1 + 1) e3 ∧ @LT.lt Nat instLTNat (L' + 1 + 1 + 1) t2 ∧ @LT.lt Nat instLTNat (L' + 1 + 1 + 1) R) ∧ (@LT.lt Nat instLTNat (L' + 1 + 1 + 1 + 1) e1 ∧ @LT.lt Nat instLTNat (L' + 1 + 1 + 1 + 1) e2 ∧ @LT.lt Nat instLTNat (L' + 1 + 1 + 1 + 1) t1 ∧ @LT.lt Nat instLTNat (L' + 1 + 1 + 1 + 1) e3 ∧ @LT.lt Nat instLTNat (L' + 1 + 1 + 1 + 1) t2 ∧ @LT.lt Nat instLTNat (L' + 1 + 1 + 1 + 1) R) := by
            omega
          refine wpAny_list_append_plain (hsz := ?hz) ⟨_, (N16 (due, listOf ys.toArray ep) (by repeat (first | exact List.mem_cons_self | apply List.mem_cons_of_mem))).1⟩ (fun h17 hpl17 hs17 => ?_)
          case hz => rw [List.size_toArray, hyl, sizeLine_eq]; omega
          obtain ⟨c17, hc17⟩ := hpl17
          have hdueN := N16 (due, listOf ys.toArray ep) (by repeat (first | exact List.mem_cons_self | apply List.mem_cons_of_mem))
          have F17 : Fr s.heap L' h17 _ := ⟨F16.ns.sameBut hs17 (Ne.symm hdueN.2.1), fun b ob e => (hs17.2 b (fun q => by rw [q, hdueN.2.2] at e; cases e)).trans (F16.keep b ob e), F16.above⟩
          have hIdue : I ≠ due := Ne.symm (hnw (due, listOf ys.toArray ep) List.mem_cons_self).1
          have hXdue : L' + 1 + 1 + 1 ≠ due := Ne.symm (hnw (due, listOf ys.toArray ep) List.mem_cons_self).2
          have hUdue : rU ≠ due := Ne.symm (hrU (due, listOf ys.toArray ep) (by repeat (first | exact List.mem_cons_self | apply List.mem_cons_of_mem)))
          have hLdue : DL ≠ due := Ne.symm (hn15 (due, listOf ys.toArray ep) (by repeat (first | exact List.mem_cons_self | apply List.mem_cons_of_mem)))
          have hL4 : DL ≠ L' + 1 + 1 + 1 + 1 := Ne.symm (hn15 (L' + 1 + 1 + 1 + 1, oT2) (by repeat (first | exact List.mem_cons_self | apply List.mem_cons_of_mem)))
          have hLI : DL ≠ I := Ne.symm (hn15 (I, oI) (by repeat (first | exact List.mem_cons_self | apply List.mem_cons_of_mem)))
          have hL3 : DL ≠ L' + 1 + 1 + 1 := Ne.symm (hn15 (L' + 1 + 1 + 1, oc) (by repeat (first | exact List.mem_cons_self | apply List.mem_cons_of_mem)))
          have hDI : D ≠ I := Ne.symm (hn9 (I, oI) (by repeat (first | exact List.mem_cons_self | apply List.mem_cons_of_mem)))
          have hD3 : D ≠ L' + 1 + 1 + 1 := Ne.symm (hn9 (L' + 1 + 1 + 1, oc) (by repeat (first | exact List.mem_cons_self | apply List.mem_cons_of_mem)))
          have N17 := News.setAt (own := [(R, listOf #[Value.bool true, Value.ref D, Value.ref t1, Value.ref t2] 0), (t2, _), (DL, listOf vL.toArray cL), (rU, listOf vU.toArray cU), (e3, _), (t1, _), (e2, _), (e1, _), (D, listOf ysD.toArray ep9), (I, oI), (L' + 1 + 1 + 1, oc)]) (d := due) N16 (by
            intro p hp
            simp only [List.mem_cons, List.not_mem_nil, or_false] at hp
            rcases hp with rfl | rfl | rfl | rfl | rfl | rfl | rfl | rfl | rfl | rfl | rfl
            · exact Nat.ne_of_gt lt5.1.2.2.2.2.2
            · exact Nat.ne_of_gt lt5.1.2.2.2.2.1
            · exact hLdue
            · exact hUdue
            · exact Nat.ne_of_gt lt5.1.2.2.2.1
            · exact Nat.ne_of_gt lt5.1.2.2.1
            · exact Nat.ne_of_gt lt5.1.2.1
            · exact Nat.ne_of_gt lt5.1.1
            · exact hDdue
            · exact hIdue
            · exact hXdue) (by
            intro p hp
            rcases List.mem_cons.mp hp with rfl | hp
            · exact hdue4.symm
            · exact (hfix p hp).1) hs17 hc17
          simp only [List.cons_append, List.nil_append] at N17
          clear N16 F16 hn15 hrU hrS hn9
          (repeat' (first | ((with_reducible show wpAny _ _ _ _ _ _); (fail_if_success (with_reducible show wpAny _ _ (exec (Stmt.Assign _ (Expr.ListComp _ _ _ _) _) _) _ _ _)); (fail_if_success (with_reducible show wpAny _ _ (pyIter _) _ _ _)); (fail_if_success (with_reducible show wpAny _ _ (call (Value.ref _) _) _ _ _)); (fail_if_success (with_reducible show wpAny _ _ (eval (Expr.ListComp _ _ _ _) _) _ _ _)); (first | (k_unfold; (try dsimp only)) | ((with_reducible refine wpAny_execs_cons ?_); (try dsimp only)) | walk1 | (dsimp only; walk1) | (leave1; walk_say "STEP leave1"; try dsimp only) | (dsimp only; k_unfold; (try dsimp only))))))
          obtain ⟨news', g1, g2, g3⟩ := turn_end (cx := L' + 1 + 1 + 1) (cT := L' + 1 + 1 + 1 + 1) (Tf := fun n => (cuts wd m ks).filter (fun x => fitsL (patL n) x.cps.toList)) (Lf := fun n => ((cuts wd m ks).filter (fun x => !fitsL (patL n) x.cps.toList)).map revS) (m10 := _) N17 (by
            intro z hz
            simp only [List.mem_cons, List.not_mem_nil, or_false] at hz
            rcases hz with rfl | rfl | rfl | rfl | rfl | rfl | rfl | rfl
            · exact ⟨Nat.ne_of_gt lt5.2.1.2.2.2.2.2, Nat.ne_of_gt lt5.2.2.1.2.2.2.2.2, Nat.ne_of_gt lt5.1.2.2.2.2.2, Nat.ne_of_gt lt5.2.2.2.2.2.2.2.2⟩
            · exact ⟨Nat.ne_of_gt lt5.2.1.2.2.2.2.1, Nat.ne_of_gt lt5.2.2.1.2.2.2.2.1, Nat.ne_of_gt lt5.1.2.2.2.2.1, Nat.ne_of_gt lt5.2.2.2.2.2.2.2.1⟩
            · exact ⟨hLI, hL3, hLdue, hL4⟩
            · exact ⟨Nat.ne_of_gt lt5.2.1.2.2.2.1, Nat.ne_of_gt lt5.2.2.1.2.2.2.1, Nat.ne_of_gt lt5.1.2.2.2.1, Nat.ne_of_gt lt5.2.2.2.2.2.2.1⟩
            · exact ⟨Nat.ne_of_gt lt5.2.1.2.2.1, Nat.ne_of_gt lt5.2.2.1.2.2.1, Nat.ne_of_gt lt5.1.2.2.1, Nat.ne_of_gt lt5.2.2.2.2.2.1⟩
            · exact ⟨Nat.ne_of_gt lt5.2.1.2.1, Nat.ne_of_gt lt5.2.2.1.2.1, Nat.ne_of_gt lt5.1.2.1, Nat.ne_of_gt lt5.2.2.2.2.1⟩
            · exact ⟨Nat.ne_of_gt lt5.2.1.1, Nat.ne_of_gt lt5.2.2.1.1, Nat.ne_of_gt lt5.1.1, Nat.ne_of_gt lt5.2.2.2.1⟩
            · exact ⟨hDI, hD3, hDdue, hD4⟩) hfix hnw dT2 hyl hys hn hJ2 hJ3
          exact ⟨_, _, _, news', oc, _, rfl, F17, g1, hoc, g2, g3⟩
    case done =>
      rintro m₁ news₁ h tk ⟨rfl, ys, ep, oT1, vT1, rest, rfl, hT1, hyl, hys, hfix⟩ F20 N20
      subst hm10
      clear N10 F10'
      simp only [List.cons_append, List.nil_append] at N20
      dsimp only
      have hvQ : vQ.toArray.size = P.length := by rw [List.size_toArray, hJ1.length, List.length_map]
      obtain ⟨o94, fd94, h94, hf94⟩ : ∃ o fd, (Mine.hd.heap_39 w.params).lookup 94 = some o ∧ o.data = .func fd := ⟨_, _, (by k_is), rfl⟩
      refine wpC_execs_cons (wpC_Return_some (wpC_Compare1 ?_))
      refine wpC_ListComp_rows (cl := [(Str.ofString "width", L' + 1), (Str.ofString "octets", L' + 1 + 1)]) rfl (by decide) rfl (by decide) rfl ?_
      refine wpAny_Name (wpAny_loadName_local rfl rfl F20.ns rfl ?_) (by decide)
      refine inner_rowsC (vs := vQ.toArray) (r := rQ) (fun k y P' h' => ∃ n : Int, P[k]? = some n ∧ ToldQ P' h' y ((cuts wd m ks).filter (fun x => fitsL (patL n) x.cps.toList)) (((cuts wd m ks).filter (fun x => !fitsL (patL n) x.cps.toList)).map revS)) ?hG F20 N20 ?hr rfl ?hz ?helt ?hQ
      case hG =>
        rintro k y P1 P2 h1 h2 ⟨n, hn, hq⟩ hP hk
        exact ⟨n, hn, hq.on hP hk⟩
      case hr => exact News.isList N20 (by repeat (first | exact List.mem_cons_self | apply List.mem_cons_of_mem))
      case hz => rw [hvQ, sizeLine_eq]; omega
      case helt =>
        rintro C k u s₃ m₃ E' hu hm F21 N21 _
        obtain ⟨x, tx, rfl, hx⟩ := hJ1.item k u (by simpa using hu)
        obtain ⟨n, hn, rfl⟩ : ∃ n, P[k]? = some n ∧ x = patS n := by
          rw [List.getElem?_map] at hx
          obtain ⟨n, hn, h⟩ := Option.map_eq_some_iff.mp hx
          exact ⟨n, hn, h.symm⟩
        clear F20 N20
        refine wpC_Call_Name ?_
        (first | (k_unfold; (try dsimp only)) | ((with_reducible refine wpAny_execs_cons ?_); (try dsimp only)) | walk1 | (dsimp only; walk1) | (leave1; walk_say "STEP leave1"; try dsimp only) | (dsimp only; k_unfold; (try dsimp only)))
        refine wpC_callFn3 hf94 ?_
        (repeat' (first | ((with_reducible show wpAny _ _ _ _ _ _); (fail_if_success (with_reducible show wpAny _ _ (exec (Stmt.Assign _ (Expr.ListComp _ _ _ _) _) _) _ _ _)); (fail_if_success (with_reducible show wpAny _ _ (pyIter _) _ _ _)); (fail_if_success (with_reducible show wpAny _ _ (call (Value.ref _) _) _ _ _)); (fail_if_success (with_reducible show wpAny _ _ (eval (Expr.ListComp _ _ _ _) _) _ _ _)); (first | (k_unfold; (try dsimp only)) | ((with_reducible refine wpAny_execs_cons ?_); (try dsimp only)) | walk1 | (dsimp only; walk1) | (leave1; walk_say "STEP leave1"; try dsimp only) | (dsimp only; k_unfold; (try dsimp only))))))
        refine wpAny_Name (wpAny_loadName_local rfl rfl F21.ns hm ?_) (by decide)
        refine ⟨X.keeps F21.keep _ _ h94, ?_⟩
        refine wpC_mono (told_call (X.keeps F21.keep) (T.keeps F21.keep) (by show dp + 1 + 20 < _; omega) (by show un + 3 + 200 < _; omega) d _ _ _ m wd (by omega) (by omega) ks hd3 hkl hk4 hmem (patL n) (by show 0 < 3; omega) (by show 3 ≤ 64; omega) (pat_signs n) (law_sym hwd hkl hmem n)) (fun v s4 g => ?_) fun _ _ e => e
        obtain ⟨gk, gt⟩ := g
        rw [law_fits hwd hkl hmem n, law_nots hwd hkl hmem n] at gt
        exact ⟨⟨n, hn, gt.q fun _ z => z⟩, gk⟩
      case hQ =>
        rintro D h22 tk22 zs ez hzl hzs F22 N22 k22 hD0 htk22
        clear F20 N20
        dsimp only
        (repeat' (first | ((with_reducible show wpAny _ _ _ _ _ _); (fail_if_success (with_reducible show wpAny _ _ (compareOp CmpOp.Eq _ _) _ _ _)); (first | (k_unfold; (try dsimp only)) | ((with_reducible refine wpAny_execs_cons ?_); (try dsimp only)) | walk1 | (dsimp only; walk1) | (leave1; walk_say "STEP leave1"; try dsimp only) | (dsimp only; k_unfold; (try dsimp only))))))
        let l : List (List Str × List Str) := P.map fun n => ((cuts wd m ks).filter (fun x => fitsL (patL n) x.cps.toList), ((cuts wd m ks).filter (fun x => !fitsL (patL n) x.cps.toList)).map revS)
        obtain ⟨as, ra⟩ := reads_ents (h := h22) (ys := zs) (l := l) (by rw [hzl, hvQ, List.length_map]) (fun j y hj => by
          obtain ⟨n, hn, hq⟩ := hzs j y hj
          exact ⟨_, by rw [List.getElem?_map, hn]; rfl, hq.reads⟩)
        obtain ⟨bs, rb⟩ := reads_ents (h := h22) (ys := ys) (l := l) (by rw [hyl, hvQ, List.length_map]) (fun j y hj => by
          obtain ⟨n, hn, hN⟩ := hys j y hj
          refine ⟨_, by rw [List.getElem?_map, hn]; rfl, ((hN.is (fun p hp => N22 p ?_)).q (P := fun _ => True) fun _ _ => trivial).reads⟩
          iterate 6 apply List.mem_cons_of_mem
          exact hp)
        have hsh : SeqAt.shaped (entsD l) = true := entsD_shaped fun p hp => by
          obtain ⟨n, _, rfl⟩ := List.mem_map.mp hp
          refine ⟨fun t ht => (cut_ok hkl hmem (List.mem_filter.mp ht).1).1, fun t ht => ?_⟩
          obtain ⟨x, hx, rfl⟩ := List.mem_map.mp ht
          exact (cut_ok hkl hmem (List.mem_filter.mp hx).1).2
        refine eq_dataH (da := entsD l) (db := entsD l) (.list (N22 _ List.mem_cons_self).1 rfl rfl (by simpa using ra)) (.list (N22 (due, listOf ys.toArray ep) (List.mem_cons_of_mem _ List.mem_cons_self)).1 rfl rfl (by simpa using rb)) hsh hsh ?_ ?_
        · show un + 3 + 64 < _
          omega
        · rw [entsD_eqv]
          exact ⟨rfl, h22, tk22, L', _, rfl, F22⟩
end

end Mine
namespace Mine

section -- part P01z
set_option Elab.async false
set_option maxRecDepth 100000
set_option maxHeartbeats 8000000
theorem reset_P01z : True := by
  w_top off
  trivial
theorem law01 : PySem.Challenge.rw_il0107_01.Holds := by
  w_on
  refine holds_law (by kernel_rfl) fun said => ?_
  refine Mine.PySem.W.holds_open (q := hd.view_39) (loose := [Str.ofString "_twin_re_1", Str.ofString "_special_chars_map"]) (Xt := fun s => xlAt hd.view_39 [] s && recOk (RowW.records PySem.Challenge.rw_il0107_01.row.toRowW) s) (XP := XL hd.view_39 []) (Yf := Hook.obs hook) (Ya := Hook.val hook) (YP := Hook.says hook) (N := 3464) left02 (Hook.of hook) (Hook.keeps hook) (fun s e => xl_of s (Bool.and_eq_true_iff.mp e).1) XL.keeps (by rfl) (by rfl) (by rfl) (fun s e => recFacts_of (Bool.and_eq_true_iff.mp e).2) (by rfl) (by first | assumption | decide +kernel) (by decide +kernel) ⟨rfl, rfl, rfl, rfl, rfl, by decide +kernel⟩ ?hw ?hc
  case hw => w_witness2
  case hc =>
  w_top off
  k_fill
  intro w s₀ s₁ mg mb G Y fa o pm cd doc dV kV ho hd hcd hD hmg hg args vals as hpre hlay hrd hwl hlo
  have KX : (Mine.hd.heap_39 w.params).In s₁.heap := kIn_of Y
  refine Ground.open G ?_
  intro T B D TE TW
  have hfa : fa = 99 := by
    have e := mg_of (n := Str.ofString "law") (v := .ref 99) KX T.g (by kernel_rfl)
    rw [show mg (Str.ofString "law") = some (.ref fa) from hmg] at e
    cases e
    rfl
  subst hfa
  clear B TE TW D hmg Y hd hcd hD ho
  wrow_args hpre hlay hrd hwl hlo
  (rename Heap.IsList _ _ _ => hL)
  (rename IntsAre _ _ => hI)
  refine wpC_mono (law_call (dp := 1 + claimMargin) (un := 4) (gd := some []) KX T (by decide) (by decide) _ _ _ hL hI (by omega)) (fun v s' g => ?_) (fun _ _ e => e)
  obtain ⟨rfl, h, tk, L, m, rfl, F⟩ := g
  exact GoodW.toG (goodW_bool F hg (raisesW_false (by wrow_none_raised)) (by wrow_post))
end
end Mine

open PySem PySem.W PyProof.Rows
set_option Elab.async false
set_option maxRecDepth 100000 in
set_option maxHeartbeats 8000000 in
theorem PySem.Challenge.cw_il0107_01_holds : PySem.Challenge.rw_il0107_01.Holds :=
  Mine.law01

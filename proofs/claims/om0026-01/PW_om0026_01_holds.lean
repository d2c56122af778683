import PyProof.Rows.All
import Wide.All
import OpenK.AllK
import Wide.FinOn
import PySem.Challenge.RW_om0026_01
open PySem PySem.W PyProof.Rows PySem.Calls
set_option Elab.async false
set_option maxRecDepth 100000
set_option maxHeartbeats 8000000
set_option linter.unusedVariables false
open_top hd for PySem.Challenge.rw_om0026_01
namespace Mine
theorem enterF {prog : Program} {w : World} {A : Around} {s : Shared} {K : Frag}
    {R : Result → Shared → Prop} {name qual : Str} {params : Arguments} {body : List Stmt} {scope : Scope} {dV kV doc pm cdv ct oc : Value} {an od : Option Addr} {osl : Array (Option Value)} {f : Addr} {args : Args} {binds : List (Str × Value)}
    (X : K.In s.heap) (hlim : s.heap.NoLimit)
    (ho : K.lookup f = some ⟨oc, od, .func (fnOf name qual params body scope dV kV doc pm an cdv ct), osl⟩) (hcd : codeIn K cdv qual = true) (hroom : A.depth < recursionLimit)
    (hbind : BindsTo s (fnOf name qual params body scope dV kV doc pm an cdv ct) args binds) (hloc : ∀ y ∈ binds, scope.names.lookup y.1 = some .local)
    (h : ∀ L' h₁, Fr s.heap L' h₁ (fun y => binds.reverse.lookup y) → News s.heap L' h₁ [] →
      wpAny (model prog w) (A.deeper (envOf qual scope L' f cdv)) (execs body (envOf qual scope L' f cdv))
        (fun fl s' => R (.ok (.ret (match fl with | .ret v => v | _ => .none))) s')
        (fun e s' => wpAny (model prog w) (A.deeper (envOf qual scope L' f cdv)) (leaving (envOf qual scope L' f cdv) e) (fun _ s'' => R (.error e) s'') (fun e' s'' => R (.error e') s'') s')
        { s with heap := h₁, toks := s.toks + binds.length })
    (hco : scope.isCoroutine = false := by rfl) (hgen : scope.isGenerator = false := by rfl) (hk : scope.kind = .function := by rfl)
    (hcell : ∀ x ∈ scope.names, x.2 ≠ .cell := by decide) : codeAny (model prog w) A (.call (.ref f) args) R s := by
  refine codeAny_call_def (fd := fnOf name qual params body scope dV kV doc pm an cdv ct) (body := body) (binds := binds) hroom (X _ _ ho) rfl hlim (codeRec_of X hcd) rfl hbind hcell hloc (fun h₁ hns hk₁ => ?_) hco hgen hk
  exact h _ h₁ ⟨hns, hk₁, Nat.le_refl _⟩ News.nil
end Mine
namespace Mine
abbrev NoE : Value → Shared → Prop := fun _ _ => False
def Keep (h h' : Heap) : Prop := ∀ b o, h.get? b = some o → h'.get? b = some o
theorem Keep.refl (h : Heap) : Keep h h := fun _ _ e => e
theorem Keep.trans {a b c : Heap} (x : Keep a b) (y : Keep b c) : Keep a c := fun i o e => y i o (x i o e)
theorem Keep.isList {h h' : Heap} (k : Keep h h') {a items} (x : h.IsList a items) : h'.IsList a items := x.at fun o e => k a o e
theorem Keep.isTuple {h h' : Heap} (k : Keep h h') {a items} (x : h.IsTuple a items) : h'.IsTuple a items := let ⟨o, ho, r⟩ := x; ⟨o, k _ _ ho, r⟩
theorem Keep.frag {h h' : Heap} (k : Keep h h') {K : Frag} (x : K.In h) : K.In h' := fun a o e => k _ _ (x a o e)

theorem execs_append (a b : List Stmt) (env : Env) : execs (a ++ b) env = (execs a env >>= fun f => match f with | .next => execs b env | f => pure f) := by
  induction a with
  | nil => rw [List.nil_append, execs_nil, pure_bind]
  | cons st rest ih =>
    rw [List.cons_append, execs_cons, execs_cons, bind_assoc]
    refine congrArg _ (funext fun f => ?_)
    cases f with
    | next => exact ih
    | brk => rw [pure_bind]
    | cont => rw [pure_bind]
    | ret v => rw [pure_bind]

theorem if_t {b : Bool} {P Q : Prop} (hb : b = true) (h : P) : if b = true then P else Q := by rw [if_pos hb]; exact h
theorem if_f {b : Bool} {P Q : Prop} (hb : b = false) (h : Q) : if b = true then P else Q := by rw [if_neg (by rw [hb]; decide)]; exact h
structure Stop (p : Prop) : Prop where
  out : p
theorem stop {p : Prop} (h : Stop p) : p := h.out
structure Box (p : Prop) : Prop where
  out : p
theorem fixm {m : Str → Option Value} {x : Str} {v : Option Value} (e : m x = v) : m = fun y => if y = x then v else m y := by
  funext y
  by_cases h : y = x
  · rw [if_pos h, h, e]
  · rw [if_neg h]
theorem seqAt (n : Nat) {M : Model} {A : Around} {env : Env} {body : List Stmt} {Q : Flow → Shared → Prop} {E : Value → Shared → Prop} {s : Shared}
    (P : Shared → Prop)
    (h1 : wpAny M A (execs (body.take n) env) (fun f s' => Box (f = .next ∧ P s')) E s)
    (h2 : ∀ s', P s' → wpAny M A (execs (body.drop n) env) Q E s') : wpAny M A (execs body env) Q E s := by
  have e := execs_append (body.take n) (body.drop n) env
  rw [List.take_append_drop] at e
  rw [e]
  refine wpAny_bind (wpAny_mono h1 (fun f s' h => ?_) fun _ _ h => h)
  obtain ⟨rfl, hP⟩ := h.out
  exact h2 s' hP

/-- a for over an iterator that stands in the ledger -/
theorem forN {prog : Program} {w : World} {A : Around} {env : Env} {base : Heap} {x : Str} {px : Pos} {body : List Stmt} {Q : Flow → Shared → Prop} {s : Shared} {it : Addr} (n : Nat)
    (ItP : Nat → Obj → Prop) (P : Nat → Value → Prop) (Src : Heap → Prop) (J : Nat → (Str → Option Value) → List (Addr × Obj) → Prop)
    {m : Str → Option Value} {news : List (Addr × Obj)} {o₀ : Obj}
    (hx : env.kindOf x = some .local) (hp : (env.scope.kind == .class || (env.scope.kind == .module && env.locals != env.globals)) = false)
    (nxt : ∀ i (s : Shared) (o : Obj) (Q : Option Value → Shared → Prop) (E : Value → Shared → Prop), i < n → s.heap.get? it = some o → ItP i o → Src s.heap →
      (∀ v h' o' tk', P i v → h'.get? it = some o' → ItP (i + 1) o' → Heap.SameBut it s.heap h' → Q (some v) { s with heap := h', toks := tk' }) → wpAny (model prog w) A (pyNext (.ref it)) Q E s)
    (fin : ∀ (s : Shared) (o : Obj) (Q : Option Value → Shared → Prop) (E : Value → Shared → Prop), s.heap.get? it = some o → ItP n o → Src s.heap →
      (∀ h', Heap.ExtBut it s.heap h' → Q none { s with heap := h' }) → wpAny (model prog w) A (pyNext (.ref it)) Q E s)
    (src : ∀ i h m' news' o, i ≤ n → J i m' news' → ItP i o → Fr base env.locals h m' → News base env.locals h ((it, o) :: news') → Src h)
    (away : ∀ p ∈ news, p.1 ≠ it)
    (F : Fr base env.locals s.heap m) (N : News base env.locals s.heap ((it, o₀) :: news)) (hi : ItP 0 o₀) (h0 : J 0 m news)
    (turn : ∀ i v m' news' o h tk, i < n → P i v → J i m' news' → ItP (i + 1) o → Fr base env.locals h (fun y => if y = x then some v else m' y) → News base env.locals h ((it, o) :: news') →
      (∀ p ∈ news', p.1 ≠ it) →
      wpAny (model prog w) A (execs body env) (fun f s₂ => match f with
        | .next | .cont => Box (∃ h' tk' m'' news'', s₂ = { s with heap := h', toks := tk' } ∧ Fr base env.locals h' m'' ∧ News base env.locals h' ((it, o) :: news'') ∧ (∀ p ∈ news'', p.1 ≠ it) ∧ J (i + 1) m'' news'')
        | .brk => Q .next s₂
        | .ret v => Q (.ret v) s₂) NoE { s with heap := h, toks := tk })
    (done : ∀ m' news' h tk, J n m' news' → Fr base env.locals h m' → News base env.locals h news' → Q .next { s with heap := h, toks := tk }) :
    codeAny (model prog w) A (.forLoop (.Name x px) (.ref it) body [] env) (fun r s' => match r with | .ok f => Q f s' | .error _ => False) s := by
  refine codeAny_forLoop (fun k s' => ∃ h tk m' news' o i, s' = { s with heap := h, toks := tk } ∧ i ≤ n ∧ k = n + 1 - i ∧ J i m' news' ∧ ItP i o ∧ Fr base env.locals h m' ∧ News base env.locals h ((it, o) :: news') ∧ ∀ p ∈ news', p.1 ≠ it) ?_ (n + 1)
    ⟨s.heap, s.toks, m, news, o₀, 0, rfl, Nat.zero_le _, rfl, h0, hi, F, N, away⟩
  rintro k s' ⟨h, tk, m', news', o, i, rfl, hi', rfl, hJ, hI, F', N', aw⟩
  have hit := N' (it, o) (.head _)
  have hsrc := src i h m' news' o hi' hJ hI F' N'
  by_cases hlt : i < n
  · refine nxt i _ o _ _ hlt hit.1 hI hsrc fun v h₁ o₁ tk₁ hP ho₁ hI₁ hs₁ => ?_
    have F₁ : Fr base env.locals h₁ m' := by
      obtain ⟨oL, es, ep, hL, r⟩ := F'.ns
      refine ⟨⟨oL, es, ep, (hs₁.2 _ (Ne.symm hit.2.1)).trans hL, r⟩, fun b ob e => (hs₁.2 b fun z => ?_).trans (F'.keep b ob e), F'.above⟩
      rw [z] at e; rw [hit.2.2] at e; cases e
    have N₁ : News base env.locals h₁ ((it, o₁) :: news') := by
      intro p hp
      rcases List.mem_cons.mp hp with rfl | hp
      · exact ⟨ho₁, hit.2⟩
      · have z := N' p (.tail _ hp)
        exact ⟨(hs₁.2 _ (aw p hp)).trans z.1, z.2⟩
    refine wpAny_assign_Name (wpAny_storeName_local hx F₁.ns (fun h₂ hn₂ hs₂ => ?_) hp)
    refine wpAny_mono (turn i v m' news' o₁ h₂ _ hlt hP hJ hI₁ (F₁.set hn₂ hs₂) (N₁.set hs₂) aw) (fun f s₂ hf => ?_) (fun _ _ x => x.elim)
    cases f with
    | next => obtain ⟨h', tk', m'', news'', rfl, F2, N2, aw2, hJ2⟩ := hf.out; exact ⟨n + 1 - (i + 1), by omega, h', tk', m'', news'', o₁, i + 1, rfl, hlt, rfl, hJ2, hI₁, F2, N2, aw2⟩
    | cont => obtain ⟨h', tk', m'', news'', rfl, F2, N2, aw2, hJ2⟩ := hf.out; exact ⟨n + 1 - (i + 1), by omega, h', tk', m'', news'', o₁, i + 1, rfl, hlt, rfl, hJ2, hI₁, F2, N2, aw2⟩
    | brk => exact hf
    | ret v => exact hf
  · have hin : i = n := by omega
    subst hin
    refine fin _ o _ _ hit.1 hI hsrc fun h₁ hs₁ => ?_
    rw [execs_nil]
    refine wpAny_pure ?_
    refine done m' news' h₁ tk hJ ?_ ?_
    · obtain ⟨oL, es, ep, hL, r⟩ := F'.ns
      refine ⟨⟨oL, es, ep, hs₁ _ _ (Ne.symm hit.2.1) hL, r⟩, fun b ob e => hs₁ b ob (fun z => ?_) (F'.keep b ob e), F'.above⟩
      rw [z] at e; rw [hit.2.2] at e; cases e
    · intro p hp
      have z := N' p (.tail _ hp)
      exact ⟨hs₁ _ _ (aw p hp) z.1, z.2⟩

theorem forC {prog : Program} {w : World} {A : Around} {env : Env} {base : Heap} {x : Str} {px : Pos} {body : List Stmt} {Q : Flow → Shared → Prop} {E : Value → Shared → Prop} {s : Shared} {it : Addr} (n : Nat)
    (ItP : Nat → Obj → Prop) (P : Nat → Value → Prop) (Src : Heap → Prop) (J : Nat → (Str → Option Value) → List (Addr × Obj) → Prop)
    {m : Str → Option Value} {news : List (Addr × Obj)} {o₀ : Obj}
    (hx : env.kindOf x = some .local) (hp : (env.scope.kind == .class || (env.scope.kind == .module && env.locals != env.globals)) = false)
    (nxt : ∀ i (s : Shared) (o : Obj) (Q : Option Value → Shared → Prop) (E : Value → Shared → Prop), i < n → s.heap.get? it = some o → ItP i o → Src s.heap →
      (∀ v h' o' tk', P i v → h'.get? it = some o' → ItP (i + 1) o' → Heap.SameBut it s.heap h' → Q (some v) { s with heap := h', toks := tk' }) → wpAny (model prog w) A (pyNext (.ref it)) Q E s)
    (fin : ∀ (s : Shared) (o : Obj) (Q : Option Value → Shared → Prop) (E : Value → Shared → Prop), s.heap.get? it = some o → ItP n o → Src s.heap →
      (∀ h', Heap.ExtBut it s.heap h' → Q none { s with heap := h' }) → wpAny (model prog w) A (pyNext (.ref it)) Q E s)
    (src : ∀ i h m' news' o, i ≤ n → J i m' news' → ItP i o → Fr base env.locals h m' → News base env.locals h ((it, o) :: news') → Src h)
    (away : ∀ p ∈ news, p.1 ≠ it)
    (F : Fr base env.locals s.heap m) (N : News base env.locals s.heap ((it, o₀) :: news)) (hi : ItP 0 o₀) (h0 : J 0 m news)
    (turn : ∀ i v m' news' o h tk, i < n → P i v → J i m' news' → ItP (i + 1) o → Fr base env.locals h (fun y => if y = x then some v else m' y) → News base env.locals h ((it, o) :: news') →
      (∀ p ∈ news', p.1 ≠ it) →
      wpAny (model prog w) A (execs body env) (fun f s₂ => match f with
        | .next | .cont => Box (∃ h' tk' m'' news'', s₂ = { s with heap := h', toks := tk' } ∧ Fr base env.locals h' m'' ∧ News base env.locals h' ((it, o) :: news'') ∧ (∀ p ∈ news'', p.1 ≠ it) ∧ J (i + 1) m'' news'')
        | .brk => Q .next s₂
        | .ret v => Q (.ret v) s₂) NoE { s with heap := h, toks := tk })
    (done : ∀ m' news' h tk, J n m' news' → Fr base env.locals h m' → News base env.locals h news' → Q .next { s with heap := h, toks := tk }) :
    codeAny (model prog w) A (.forLoop (.Name x px) (.ref it) body [] env) (fun r s' => match r with | .ok f => Q f s' | .error e => cameBackBy (model prog w) A env E e s') s := by
  refine codeAny_mono (forN (Q := Q) n ItP P Src J hx hp nxt fin src away F N hi h0 turn done) fun r s' h => ?_
  cases r with
  | ok f => exact h
  | error e => exact h.elim

abbrev TurnPost (base : Heap) (L : Addr) (it : Addr) (o : Obj) (s : Shared) (J : (Str → Option Value) → List (Addr × Obj) → Prop) (Q : Flow → Shared → Prop) : Flow → Shared → Prop := fun f s₂ => match f with
  | .next | .cont => Box (∃ h' tk' m'' news'', s₂ = { s with heap := h', toks := tk' } ∧ Fr base L h' m'' ∧ News base L h' ((it, o) :: news'') ∧ (∀ p ∈ news'', p.1 ≠ it) ∧ J m'' news'')
  | .brk => Q .next s₂
  | .ret v => Q (.ret v) s₂

theorem away_of {base h : Heap} {L : Addr} {news} (N : News base L h news) : ∀ p ∈ news, p.1 ≠ h.objs.size := fun p hp => Nat.ne_of_lt (Heap.lt_size (N p hp).1)

/-- for x in a list: the list is known at each turn by src -/
theorem loopList {prog : Program} {w : World} {A : Around} {env : Env} {base : Heap} {x : Str} {px : Pos} {body : List Stmt} {Q : Flow → Shared → Prop} {E : Value → Shared → Prop} {s : Shared} {l : Addr} (items : List Value)
    (J : Nat → (Str → Option Value) → List (Addr × Obj) → Prop) {m : Str → Option Value} {news : List (Addr × Obj)}
    (hh : A.handled = none) (hx : env.kindOf x = some .local) (hp : (env.scope.kind == .class || (env.scope.kind == .module && env.locals != env.globals)) = false)
    (hl : s.heap.IsList l items.toArray)
    (src : ∀ i h m' news', i ≤ items.length → J i m' news' → Fr base env.locals h m' → News base env.locals h news' → h.IsList l items.toArray)
    (F : Fr base env.locals s.heap m) (N : News base env.locals s.heap news) (h0 : J 0 m news)
    (turn : ∀ i v m' news' it o h tk, items[i]? = some v → J i m' news' → Fr base env.locals h (fun y => if y = x then some v else m' y) → News base env.locals h ((it, o) :: news') → (∀ p ∈ news', p.1 ≠ it) →
      wpAny (model prog w) A (execs body env) (TurnPost base env.locals it o s (J (i + 1)) Q) NoE { s with heap := h, toks := tk })
    (done : ∀ m' news' h tk, J items.length m' news' → Fr base env.locals h m' → News base env.locals h news' → Q .next { s with heap := h, toks := tk }) :
    wpAny (model prog w) A (pyIter (.ref l)) (fun it s₂ => codeAny (model prog w) A (.forLoop (.Name x px) it body [] env) (fun r s' => match r with | .ok f => Q f s' | .error e => cameBackBy (model prog w) A env E e s') s₂) E s := by
  refine wpAny_pyIter_list hl ?_
  have N' := News.push F N { cls := .type "list_iterator", data := .fields #[.ref l, .int 0 0] }
  refine codeAny_mono (forN (s := { s with heap := s.heap.push { cls := .type "list_iterator", data := .fields #[.ref l, .int 0 0] } }) (base := base) (Q := Q) items.length (fun i o => o.cls = .type "list_iterator" ∧ o.data = .fields #[.ref l, .int i 0]) (fun i v => items[i]? = some v) (fun h => h.IsList l items.toArray) J hx hp ?_ ?_ ?_ (away_of N) (F.push _) N' ⟨rfl, rfl⟩ h0 ?_ ?_) ?_
  · intro i s o Q E hi ho hI hs hq
    have hv : items.toArray[i]? = some items[i] := by simp [hi]
    refine wpAny_pyNext_list_item ⟨o, ho, hI.1, hI.2⟩ hs hv fun h' hit hsb => ?_
    obtain ⟨o', ho', hc, hd⟩ := hit
    exact hq _ h' o' s.toks (by simp [hi]) ho' ⟨hc, hd⟩ hsb
  · intro s o Q E ho hI hs hq
    exact wpAny_pyNext_list_end hh ⟨o, ho, hI.1, hI.2⟩ hs (by simp) hq
  · intro i h m' news' o hi hJ _ F' N'
    exact src i h m' news' hi hJ F' fun p hp => N' p (.tail _ hp)
  · intro i v m' news' o h tk hi hv hJ _ F' N' aw
    exact turn i v m' news' _ o h tk hv hJ F' N' aw
  · intro m' news' h tk hJ F' N'
    exact done m' news' h tk hJ F' N'
  · intro r s' h
    cases r with
    | ok f => exact h
    | error e => exact h.elim

/-- the same, a turn may raise -/
theorem forNE {prog : Program} {w : World} {A : Around} {env : Env} {base : Heap} {x : Str} {px : Pos} {body : List Stmt} {Q : Flow → Shared → Prop} {s : Shared} {it : Addr} (Er : Value → Shared → Prop) (n : Nat)
    (ItP : Nat → Obj → Prop) (P : Nat → Value → Prop) (Src : Heap → Prop) (J : Nat → (Str → Option Value) → List (Addr × Obj) → Prop)
    {m : Str → Option Value} {news : List (Addr × Obj)} {o₀ : Obj}
    (hx : env.kindOf x = some .local) (hp : (env.scope.kind == .class || (env.scope.kind == .module && env.locals != env.globals)) = false)
    (nxt : ∀ i (s : Shared) (o : Obj) (Q : Option Value → Shared → Prop) (E : Value → Shared → Prop), i < n → s.heap.get? it = some o → ItP i o → Src s.heap →
      (∀ v h' o' tk', P i v → h'.get? it = some o' → ItP (i + 1) o' → Heap.SameBut it s.heap h' → Q (some v) { s with heap := h', toks := tk' }) → wpAny (model prog w) A (pyNext (.ref it)) Q E s)
    (fin : ∀ (s : Shared) (o : Obj) (Q : Option Value → Shared → Prop) (E : Value → Shared → Prop), s.heap.get? it = some o → ItP n o → Src s.heap →
      (∀ h', Heap.ExtBut it s.heap h' → Q none { s with heap := h' }) → wpAny (model prog w) A (pyNext (.ref it)) Q E s)
    (src : ∀ i h m' news' o, i ≤ n → J i m' news' → ItP i o → Fr base env.locals h m' → News base env.locals h ((it, o) :: news') → Src h)
    (away : ∀ p ∈ news, p.1 ≠ it)
    (F : Fr base env.locals s.heap m) (N : News base env.locals s.heap ((it, o₀) :: news)) (hi : ItP 0 o₀) (h0 : J 0 m news)
    (turn : ∀ i v m' news' o h tk, i < n → P i v → J i m' news' → ItP (i + 1) o → Fr base env.locals h (fun y => if y = x then some v else m' y) → News base env.locals h ((it, o) :: news') →
      (∀ p ∈ news', p.1 ≠ it) →
      wpAny (model prog w) A (execs body env) (fun f s₂ => match f with
        | .next | .cont => Box (∃ h' tk' m'' news'', s₂ = { s with heap := h', toks := tk' } ∧ Fr base env.locals h' m'' ∧ News base env.locals h' ((it, o) :: news'') ∧ (∀ p ∈ news'', p.1 ≠ it) ∧ J (i + 1) m'' news'')
        | .brk => Q .next s₂
        | .ret v => Q (.ret v) s₂) (notedBy (model prog w) A env Er) { s with heap := h, toks := tk })
    (done : ∀ m' news' h tk, J n m' news' → Fr base env.locals h m' → News base env.locals h news' → Q .next { s with heap := h, toks := tk }) :
    codeAny (model prog w) A (.forLoop (.Name x px) (.ref it) body [] env) (fun r s' => match r with | .ok f => Q f s' | .error e => Er e s') s := by
  refine codeAny_forLoop (fun k s' => ∃ h tk m' news' o i, s' = { s with heap := h, toks := tk } ∧ i ≤ n ∧ k = n + 1 - i ∧ J i m' news' ∧ ItP i o ∧ Fr base env.locals h m' ∧ News base env.locals h ((it, o) :: news') ∧ ∀ p ∈ news', p.1 ≠ it) ?_ (n + 1)
    ⟨s.heap, s.toks, m, news, o₀, 0, rfl, Nat.zero_le _, rfl, h0, hi, F, N, away⟩
  rintro k s' ⟨h, tk, m', news', o, i, rfl, hi', rfl, hJ, hI, F', N', aw⟩
  have hit := N' (it, o) (.head _)
  have hsrc := src i h m' news' o hi' hJ hI F' N'
  by_cases hlt : i < n
  · refine nxt i _ o _ _ hlt hit.1 hI hsrc fun v h₁ o₁ tk₁ hP ho₁ hI₁ hs₁ => ?_
    have F₁ : Fr base env.locals h₁ m' := by
      obtain ⟨oL, es, ep, hL, r⟩ := F'.ns
      refine ⟨⟨oL, es, ep, (hs₁.2 _ (Ne.symm hit.2.1)).trans hL, r⟩, fun b ob e => (hs₁.2 b fun z => ?_).trans (F'.keep b ob e), F'.above⟩
      rw [z] at e; rw [hit.2.2] at e; cases e
    have N₁ : News base env.locals h₁ ((it, o₁) :: news') := by
      intro p hp
      rcases List.mem_cons.mp hp with rfl | hp
      · exact ⟨ho₁, hit.2⟩
      · have z := N' p (.tail _ hp)
        exact ⟨(hs₁.2 _ (aw p hp)).trans z.1, z.2⟩
    refine wpAny_assign_Name (wpAny_storeName_local hx F₁.ns (fun h₂ hn₂ hs₂ => ?_) hp)
    refine wpAny_mono (turn i v m' news' o₁ h₂ _ hlt hP hJ hI₁ (F₁.set hn₂ hs₂) (N₁.set hs₂) aw) (fun f s₂ hf => ?_) (fun _ _ x => x)
    cases f with
    | next => obtain ⟨h', tk', m'', news'', rfl, F2, N2, aw2, hJ2⟩ := hf.out; exact ⟨n + 1 - (i + 1), by omega, h', tk', m'', news'', o₁, i + 1, rfl, hlt, rfl, hJ2, hI₁, F2, N2, aw2⟩
    | cont => obtain ⟨h', tk', m'', news'', rfl, F2, N2, aw2, hJ2⟩ := hf.out; exact ⟨n + 1 - (i + 1), by omega, h', tk', m'', news'', o₁, i + 1, rfl, hlt, rfl, hJ2, hI₁, F2, N2, aw2⟩
    | brk => exact hf
    | ret v => exact hf
  · have hin : i = n := by omega
    subst hin
    refine fin _ o _ _ hit.1 hI hsrc fun h₁ hs₁ => ?_
    rw [execs_nil]
    refine wpAny_pure ?_
    refine done m' news' h₁ tk hJ ?_ ?_
    · obtain ⟨oL, es, ep, hL, r⟩ := F'.ns
      refine ⟨⟨oL, es, ep, hs₁ _ _ (Ne.symm hit.2.1) hL, r⟩, fun b ob e => hs₁ b ob (fun z => ?_) (F'.keep b ob e), F'.above⟩
      rw [z] at e; rw [hit.2.2] at e; cases e
    · intro p hp
      have z := N' p (.tail _ hp)
      exact ⟨hs₁ _ _ (aw p hp) z.1, z.2⟩

/-- the same, a turn may raise -/
theorem loopListE {prog : Program} {w : World} {A : Around} {env : Env} {base : Heap} {x : Str} {px : Pos} {body : List Stmt} {Q : Flow → Shared → Prop} {E : Value → Shared → Prop} {s : Shared} {l : Addr} (items : List Value)
    (J : Nat → (Str → Option Value) → List (Addr × Obj) → Prop) {m : Str → Option Value} {news : List (Addr × Obj)}
    (hh : A.handled = none) (hx : env.kindOf x = some .local) (hp : (env.scope.kind == .class || (env.scope.kind == .module && env.locals != env.globals)) = false)
    (hl : s.heap.IsList l items.toArray)
    (src : ∀ i h m' news', i ≤ items.length → J i m' news' → Fr base env.locals h m' → News base env.locals h news' → h.IsList l items.toArray)
    (F : Fr base env.locals s.heap m) (N : News base env.locals s.heap news) (h0 : J 0 m news)
    (turn : ∀ i v m' news' it o h tk, items[i]? = some v → J i m' news' → Fr base env.locals h (fun y => if y = x then some v else m' y) → News base env.locals h ((it, o) :: news') → (∀ p ∈ news', p.1 ≠ it) →
      wpAny (model prog w) A (execs body env) (TurnPost base env.locals it o s (J (i + 1)) Q) (notedBy (model prog w) A env (cameBackBy (model prog w) A env E)) { s with heap := h, toks := tk })
    (done : ∀ m' news' h tk, J items.length m' news' → Fr base env.locals h m' → News base env.locals h news' → Q .next { s with heap := h, toks := tk }) :
    wpAny (model prog w) A (pyIter (.ref l)) (fun it s₂ => codeAny (model prog w) A (.forLoop (.Name x px) it body [] env) (fun r s' => match r with | .ok f => Q f s' | .error e => cameBackBy (model prog w) A env E e s') s₂) E s := by
  refine wpAny_pyIter_list hl ?_
  have N' := News.push F N { cls := .type "list_iterator", data := .fields #[.ref l, .int 0 0] }
  refine codeAny_mono (forNE (Er := cameBackBy (model prog w) A env E) (s := { s with heap := s.heap.push { cls := .type "list_iterator", data := .fields #[.ref l, .int 0 0] } }) (base := base) (Q := Q) items.length (fun i o => o.cls = .type "list_iterator" ∧ o.data = .fields #[.ref l, .int i 0]) (fun i v => items[i]? = some v) (fun h => h.IsList l items.toArray) J hx hp ?_ ?_ ?_ (away_of N) (F.push _) N' ⟨rfl, rfl⟩ h0 ?_ ?_) ?_
  · intro i s o Q E hi ho hI hs hq
    have hv : items.toArray[i]? = some items[i] := by simp [hi]
    refine wpAny_pyNext_list_item ⟨o, ho, hI.1, hI.2⟩ hs hv fun h' hit hsb => ?_
    obtain ⟨o', ho', hc, hd⟩ := hit
    exact hq _ h' o' s.toks (by simp [hi]) ho' ⟨hc, hd⟩ hsb
  · intro s o Q E ho hI hs hq
    exact wpAny_pyNext_list_end hh ⟨o, ho, hI.1, hI.2⟩ hs (by simp) hq
  · intro i h m' news' o hi hJ _ F' N'
    exact src i h m' news' hi hJ F' fun p hp => N' p (.tail _ hp)
  · intro i v m' news' o h tk hi hv hJ _ F' N' aw
    exact turn i v m' news' _ o h tk hv hJ F' N' aw
  · intro m' news' h tk hJ F' N'
    exact done m' news' h tk hJ F' N'
  · intro r s' h
    cases r with
    | ok f => exact h
    | error e => exact h

/-- the frame and the ledger behind a call that keeps all -/
theorem Fr.kept {base h h' : Heap} {L : Addr} {m : Str → Option Value} (F : Fr base L h m) (k : Keep h h') : Fr base L h' m := by
  obtain ⟨oL, es, ep, hL, r⟩ := F.ns
  exact ⟨⟨oL, es, ep, k _ _ hL, r⟩, fun b o e => k _ _ (F.keep b o e), F.above⟩
theorem News.kept {base h h' : Heap} {L : Addr} {news} (N : News base L h news) (k : Keep h h') : News base L h' news := fun p hp => ⟨k _ _ (N p hp).1, (N p hp).2⟩
theorem News.add {base h h' : Heap} {L : Addr} {m : Str → Option Value} {news} {a : Addr} {o : Obj} (F : Fr base L h m) (N : News base L h' news) (hn : h.get? a = none) (ha : h'.get? a = some o) : News base L h' ((a, o) :: news) := by
  intro p hp
  rcases List.mem_cons.mp hp with rfl | hp
  · refine ⟨ha, ?_, ?_⟩
    · intro e
      obtain ⟨oL, es, ep, hL, r⟩ := F.ns
      simp only at e
      rw [e, hL] at hn
      cases hn
    · cases q : base.get? a with
      | none => rfl
      | some o' => rw [F.keep _ _ q] at hn; cases hn
  · exact N p hp

end Mine
namespace Mine
def ivals (vs : List (Int × Tok)) : List Value := vs.map fun p => .int p.1 p.2
def dedStep (acc : List (Int × Tok)) (p : Int × Tok) : List (Int × Tok) := if acc.any (fun q => q.1 == p.1) then acc else acc ++ [p]
def ded (vs : List (Int × Tok)) : List (Int × Tok) := vs.foldl dedStep []
theorem ivals_get {vs : List (Int × Tok)} {i : Nat} {v : Value} (h : (ivals vs)[i]? = some v) : ∃ q, vs[i]? = some q ∧ v = .int q.1 q.2 := by
  unfold ivals at h
  rw [List.getElem?_map] at h
  cases q : vs[i]? with
  | none => rw [q] at h; cases h
  | some y => rw [q] at h; cases h; exact ⟨y, rfl, rfl⟩
theorem notIn_ints {prog : Program} {w : World} {A : Around} {E : Value → Shared → Prop} {s : Shared} {l : Addr} {acc : List (Int × Tok)} {x : Int} {t : Tok} {Q : Value → Shared → Prop}
    (hl : s.heap.IsList l (ivals acc).toArray) (h : Q (.bool (!(acc.any fun q => q.1 == x))) s) : wpAny (model prog w) A (compareOp .NotIn (.int x t) (.ref l)) Q E s := by
  refine PySem.SeqAt.notIn_listAt (fun y => match y with | .int a _ => a == x | _ => false) hl (fun y hy => ?_) ?_
  · have hy' : y ∈ ivals acc := by simpa using hy
    obtain ⟨q, _, rfl⟩ := List.mem_map.mp hy'
    exact MeetsSeq.EqGives.at (MeetsSeq.EqGives.int _ _ _ _) _ _
  · have : (ivals acc).toArray.any (fun y => match y with | .int a _ => a == x | _ => false) = acc.any fun q => q.1 == x := by
      rw [List.any_toArray]
      unfold ivals
      rw [List.any_map]
      rfl
    rw [this]; exact h
theorem ded_len (vs : List (Int × Tok)) : (ded vs).length ≤ vs.length := by
  have : ∀ (l acc : List (Int × Tok)), (l.foldl dedStep acc).length ≤ acc.length + l.length := by
    intro l
    induction l with
    | nil => intro acc; simp
    | cons a l ih =>
      intro acc
      rw [List.foldl_cons]
      have h1 := ih (dedStep acc a)
      have h2 : (dedStep acc a).length ≤ acc.length + 1 := by unfold dedStep; split <;> simp
      simp only [List.length_cons]; omega
  have := this vs []
  simp only [List.length_nil, Nat.zero_add] at this
  exact this
theorem ded_take {vs : List (Int × Tok)} {i : Nat} {q : Int × Tok} (h : vs[i]? = some q) : ded (vs.take (i + 1)) = dedStep (ded (vs.take i)) q := by
  unfold ded
  rw [List.take_add_one, h]; simp
theorem dedup_spec {w : World} {p loose mean mg mb} {A : Around} {s : Shared} {R : Result → Shared → Prop} {a : Addr} {vs : List (Int × Tok)}
   (hr : A.depth + 3 < recursionLimit) (hu : A.units + 30 < cLine) (hh : A.handled = none) (hlen : vs.length ≤ 8) (ha : s.heap.IsList a (ivals vs).toArray)
   (hret : ∀ r h' tk' n, Keep s.heap h' → s.heap.get? r = none → h'.get? r = some (listOf (ivals (ded vs)).toArray n) → R (.ok (.ret (.ref r))) { s with heap := h', toks := tk' }) 
   (X : (hd.heap_39 w.params).In s.heap) (T : Top p loose mean mg mb s.heap) :
   codeAny (model PySem.Challenge.rw_om0026_01.row.prog w) A (.call (.ref 85) ⟨[.ref a], []⟩) R s := by
  w_on
  revert X T; k_fill; intro X T
  refine' enterF (binds := [(Str.ofString "unhashable_params", Value.ref a)]) X T.nolimit ?ho ?hcd ?hroom ?hbind ?hloc ?h ?c1 ?c2 ?c3 ?c4
  case ho => k_is
  case hcd => k_is
  case hroom => omega
  case hbind => exact BindsTo.of_eq rfl
  case c4 => decide
  case hloc => exact locs rfl
  case c1 => exact rfl
  case c2 => exact rfl
  case c3 => exact rfl
  intro L' h' F' N'
  try dsimp only
  refine seqAt 1 (fun s' => ∃ h₁ tk₁ N, s' = { s with heap := h₁, toks := tk₁ } ∧ Fr s.heap L' h₁ (fun y => if y = Str.ofString "new_unhashable" then some (Value.ref N) else List.lookup y [(Str.ofString "unhashable_params", Value.ref a)].reverse) ∧ News s.heap L' h₁ [(N, listOf #[] 0)]) ?_ ?_
  · dsimp only [List.take]
    k_steps
    exact ⟨rfl, _, _, _, rfl, by assumption, by assumption⟩
  rintro s' ⟨h₁, tk₁, N, rfl, F₁, N₁⟩
  dsimp only [List.drop]
  refine wpAny_execs_cons (wpAny_For ?_)
  refine ld F₁ rfl ?_
  refine loopList (base := s.heap) (ivals vs) (fun i m news => ∃ N n, m (Str.ofString "new_unhashable") = some (.ref N) ∧ news = [(N, listOf (ivals (ded (vs.take i))).toArray n)]) hh (by rfl) (by rfl) (Keep.isList F₁.keep ha) ?_ F₁ N₁ ⟨N, 0, rfl, rfl⟩ ?_ ?_
  · intro i h m' news' _ _ F _
    exact ha.at fun o e => F.keep _ _ e
  · rintro i v m' _ it o h tk hv ⟨N, n, hN, rfl⟩ F N' aw
    rw [fixm hN] at F
    have hit : N ≠ it := aw _ (.head _)
    obtain ⟨q, hq, rfl⟩ := ivals_get hv
    have hsz : (ivals (ded (vs.take i))).length ≤ 8 := by
      have := ded_len (vs.take i)
      simp only [ivals, List.length_map, List.length_take] at this ⊢
      omega
    have hdq := ded_take hq
    k_steps
    refine notIn_ints ⟨_, (N' _ (.tail _ (.head _))).1, rfl, _, rfl⟩ ?_
    refine wpAny_truthy_bool ?_
    unfold dedStep at hdq
    clear hv hq
    generalize hb : ((ded (vs.take i)).any fun q' => q'.1 == q.1) = b
    rw [hb] at hdq
    cases b with
    | false =>
      refine if_t rfl ?_
      k_with "call builtin:list.append" => (refine stop ?_)
      k_steps
      constructor
      refine append_K F N' (Upd.tail (Ne.symm hit) (Upd.head (fun _ h => nomatch h))) ?_ ?_
      · intro h' F' N'
        k_steps
        refine ⟨h', _, _, _, rfl, F', N', fun p hp => ?_, N, n + 1, rfl, ?_⟩
        · rw [List.mem_singleton.mp hp]; exact hit
        · rw [hdq]; simp [ivals]
      · rw [List.size_toArray]
        exact Nat.le_trans hsz (by decide)
    | true =>
      refine if_f rfl ?_
      k_steps
      refine ⟨h, _, _, _, rfl, F, N', fun p hp => ?_, N, n, rfl, ?_⟩
      · rw [List.mem_singleton.mp hp]; exact hit
      · rw [hdq]; rfl
  · rintro m' _ h tk ⟨N, n, hN, rfl⟩ F N'
    rw [fixm hN] at F
    k_steps
    rw [List.take_of_length_le (by rw [ivals, List.length_map]; exact Nat.le_refl _)] at N'
    exact hret _ _ _ _ F.keep (N' _ (.head _)).2.2 (N' _ (.head _)).1
end Mine
namespace Mine
def rem1 (x : Int) : List (Int × Tok) → Option (List (Int × Tok))
  | [] => none
  | q :: l => if q.1 == x then some l else (rem1 x l).map (q :: ·)
def cmpRun : List (Int × Tok) → List (Int × Tok) → Option (List (Int × Tok))
  | [], t => some t
  | p :: ps, t => match rem1 p.1 t with
    | none => none
    | some t' => cmpRun ps t'
def cmpo (vs us : List (Int × Tok)) : Bool := match cmpRun (ded vs) (ded us) with
  | none => false
  | some t => t.isEmpty
theorem rem1_some {x : Int} : ∀ {l l' : List (Int × Tok)}, rem1 x l = some l' → ∃ j, ∃ hj : j < l.length, (l[j].1 == x) = true ∧ (∀ m (hm : m < l.length), m < j → (l[m].1 == x) = false) ∧ l' = l.eraseIdx j
  | [], _, h => by cases h
  | q :: l, l', h => by
    unfold rem1 at h
    split at h
    · rename_i e
      cases h
      exact ⟨0, by simp, by simpa using e, fun m _ hm => absurd hm (Nat.not_lt_zero _), rfl⟩
    · rename_i e
      cases r : rem1 x l with
      | none => rw [r] at h; cases h
      | some l₂ =>
        rw [r] at h
        cases h
        obtain ⟨j, hj, h1, h2, rfl⟩ := rem1_some r
        refine ⟨j + 1, by simpa using hj, by simpa using h1, fun m hm hlt => ?_, rfl⟩
        cases m with
        | zero => simpa using e
        | succ m => simpa using h2 m (by simpa using hm) (by omega)
theorem rem1_none {x : Int} : ∀ {l : List (Int × Tok)}, rem1 x l = none → ∀ m (hm : m < l.length), (l[m].1 == x) = false
  | [], _, m, hm => absurd hm (Nat.not_lt_zero _)
  | q :: l, h, m, hm => by
    unfold rem1 at h
    split at h
    · cases h
    · rename_i e
      cases r : rem1 x l with
      | some l₂ => rw [r] at h; cases h
      | none =>
        cases m with
        | zero => simpa using e
        | succ m => simpa using rem1_none r m (by simpa using hm)
theorem map_erase {α β : Type} (f : α → β) : ∀ (l : List α) (j : Nat), (l.map f).eraseIdx j = (l.eraseIdx j).map f
  | [], _ => rfl
  | a :: l, 0 => rfl
  | a :: l, j + 1 => by
    show f a :: (l.map f).eraseIdx j = f a :: (l.eraseIdx j).map f
    rw [map_erase f l j]
def isI (x : Int) (y : Value) : Bool := match y with | .int a _ => a == x | _ => false
theorem isI_eq {x : Int} {t : Tok} {l : List (Int × Tok)} : ∀ y, y ∈ (ivals l).toArray → MeetsSeq.EqGives y (.int x t) (isI x y) := by
  intro y hy
  have hy' : y ∈ ivals l := by simpa using hy
  obtain ⟨q, _, rfl⟩ := List.mem_map.mp hy'
  exact MeetsSeq.EqGives.int _ _ _ _
theorem ivals_len (l : List (Int × Tok)) : (ivals l).toArray.size = l.length := by simp [ivals]
theorem isI_at {x : Int} {l : List (Int × Tok)} {m : Nat} (hm : m < l.length) : isI x ((ivals l).toArray[m]'(by rw [ivals_len]; exact hm)) = (l[m].1 == x) := by
  simp [ivals, isI]
theorem remove_ok {prog : Program} {w : World} {A : Around} {E : Value → Shared → Prop} {s : Shared} {t : Addr} {cur cur' : List (Int × Tok)} {x : Int} {tk : Tok} {n : Nat} {Q : Value → Shared → Prop}
    (hl : s.heap.get? t = some (listOf (ivals cur).toArray n)) (hrem : rem1 x cur = some cur') (hsz : cur.length ≤ 8)
    (hq : ∀ h', Heap.SameBut t s.heap h' → h'.get? t = some (listOf (ivals cur').toArray (n + 1)) → Q .none { s with heap := h' }) :
    wpAny (model prog w) A (call (.builtin "list.remove") [.ref t, .int x tk]) Q E s := by
  obtain ⟨j, hj, h1, h2, rfl⟩ := rem1_some hrem
  have hj' : j < (ivals cur).toArray.size := by rw [ivals_len]; exact hj
  refine call_meets F.slot_list_remove ⟨_, hl, rfl⟩ F.entry_list_remove (F.args_list_remove_2 _ _) (MeetsSeq.list_remove t (ivals cur).toArray n (.int x tk) (isI x) isI_eq j hj' (by rw [isI_at hj]; exact h1)
    (fun m hm hlt => by rw [isI_at (by rw [ivals_len] at hm; exact hm)]; exact h2 m (by rw [ivals_len] at hm; exact hm) hlt) (by rw [ivals_len]; exact Nat.le_trans hsz (by decide))) ⟨hl, ?_⟩
  refine hq _ (Heap.SameBut.update ..) ?_
  rw [Heap.get?_update_self _ hl (by
    show (Obj.mapSeq _ (listOf _ _)).isFreed = false
    rfl)]
  have e1 : (ivals cur).toArray.eraseIdxIfInBounds j = (ivals (cur.eraseIdx j)).toArray := by
    unfold Array.eraseIdxIfInBounds
    rw [dif_pos hj']
    apply Array.ext'
    simp only [ivals, Array.toList_eraseIdx]
    exact map_erase _ _ _
  show some (listOf ((ivals cur).toArray.eraseIdxIfInBounds j) (if ((ivals cur).toArray.eraseIdxIfInBounds j).size == (ivals cur).toArray.size then n else n + 1)) = _
  rw [e1, ivals_len, ivals_len, List.length_eraseIdx_of_lt hj]
  have : ((cur.length - 1) == cur.length) = false := by
    rw [beq_eq_false_iff_ne]; omega
  rw [this]; rfl
theorem remove_raises {prog : Program} {w : World} {A : Around} {E : Value → Shared → Prop} {s : Shared} {t : Addr} {cur : List (Int × Tok)} {x : Int} {tk : Tok} {n : Nat} {Q : Value → Shared → Prop}
    (hh : A.handled = none) (hl : s.heap.get? t = some (listOf (ivals cur).toArray n)) (hrem : rem1 x cur = none)
    (hq : ∀ h' tk' e, Heap.NewExc s.heap h' e "ValueError" → E (.ref e) { s with heap := h', toks := tk' }) :
    wpAny (model prog w) A (call (.builtin "list.remove") [.ref t, .int x tk]) Q E s := by
  refine call_meets F.slot_list_remove ⟨_, hl, rfl⟩ F.entry_list_remove (F.args_list_remove_2 _ _) (MeetsSeq.list_remove_none t (ivals cur).toArray n (.int x tk) (isI x) isI_eq
    (fun m hm => by rw [isI_at (by rw [ivals_len] at hm; exact hm)]; exact rem1_none hrem m (by rw [ivals_len] at hm; exact hm))) ⟨hl, hh, hq⟩
end Mine
namespace Mine
/-- an exception that flies in the frame at hand: all that h had is there, the frames fs up to their slots -/
structure Fl (fs : List Addr) (X : String) (h g : Heap) (e tb : Addr) (x : Value) : Prop where
  keep : ∀ b o, b ∉ fs → h.get? b = some o → g.get? b = some o
  slots : ∀ b o, h.get? b = some o → ∃ sl, g.get? b = some { o with slots := sl }
  exc : ∃ oe vs, g.get? e = some oe ∧ oe.cls = .type X ∧ oe.data = .fields vs ∧ vs[1]? = some (.ref tb)
  tbk : ∃ ot ts, g.get? tb = some ot ∧ ot.data = .fields ts ∧ ts[3]? = some x
  newE : h.get? e = none
  newT : h.get? tb = none
  ne : e ≠ tb
section
variable {M : Model} {A : Around} {E : Value → Shared → Prop} {s : Shared} {fs : List Addr} {X : String} {h : Heap} {e tb : Addr} {x : Value}
theorem Fl.set (f : Fl fs X h s.heap e tb x) (v : Value) {Q : Unit → Shared → Prop} (hq : ∀ g, Fl fs X h g e tb v → Q () { s with heap := g }) : wpAny M A (setField (.ref tb) 3 v) Q E s := by
  obtain ⟨ot, ts, ht, hd, h3⟩ := f.tbk
  have hsz : 3 < ts.size := (Array.getElem?_eq_some_iff.mp h3).1
  refine wpAny_setField ht hd hsz (hq _ ⟨fun b o hb e' => ?_, fun b o e' => ?_, ?_, ?_, f.newE, f.newT, f.ne⟩)
  · have : tb ≠ b := fun z => by have := f.newT; rw [z, e'] at this; cases this
    rw [Heap.get?_update_other _ _ this]; exact f.keep b o hb e'
  · have : tb ≠ b := fun z => by have := f.newT; rw [z, e'] at this; cases this
    rw [Heap.get?_update_other _ _ this]; exact f.slots b o e'
  · obtain ⟨oe, vs, h1, h2, h3, h4⟩ := f.exc
    exact ⟨oe, vs, by rw [Heap.get?_update_other _ _ (Ne.symm f.ne)]; exact h1, h2, h3, h4⟩
  · exact ⟨_, _, Heap.get?_update_self _ ht (Obj.isFreed_of_fields (Obj.data_mapFields hd _)), Obj.data_mapFields hd _, by simp [hsz]⟩
theorem Fl.flight (f : Fl fs X h s.heap e tb x) (fr : Option Addr) {Q : Unit → Shared → Prop} (hq : ∀ g, Fl fs X h g e tb (fr.elim .none fun a => rawInt a) → Q () { s with heap := g }) : wpAny M A (setFlight (.ref e) fr) Q E s := by
  obtain ⟨oe, vs, h1, h2, h3, h4⟩ := f.exc
  unfold setFlight
  refine wpAny_bind (wpAny_field h1 h3 h4 ?_)
  rw [if_pos (show (Value.ref tb != Value.none) = true from by simp)]
  exact f.set _ hq
theorem Fl.back {env : Env} (f : Fl fs X h s.heap e tb x) (hq : ∀ g, Fl fs X h g e tb (env.frame.elim .none fun a => rawInt a) → E (.ref e) { s with heap := g }) : cameBackBy M A env E (.ref e) s := by
  obtain ⟨oe, vs, h1, h2, h3, h4⟩ := f.exc
  unfold cameBackBy
  refine wpAny_bind (wpAny_field h1 h3 h4 ?_)
  rw [if_neg (show ¬ ((Value.ref tb == Value.none) = true) from by simp)]
  exact f.flight _ fun g hg => hq g hg
theorem Fl.noteAgain {env : Env} {L : Addr} (hf : env.frame = some L) (f : Fl fs X h s.heap e tb (rawInt L)) {Q : Unit → Shared → Prop} (hq : Q () s) : wpAny M A (noteFrame (.ref e) env) Q E s := by
  obtain ⟨oe, vs, h1, h2, h3, h4⟩ := f.exc
  obtain ⟨ot, ts, t1, t2, t3⟩ := f.tbk
  unfold noteFrame
  simp only [hf]
  refine wpAny_bind (wpAny_field h1 h3 h4 ?_)
  rw [if_pos (show (Value.ref tb != Value.none) = true from by simp)]
  refine wpAny_bind (wpAny_field t1 t2 t3 ?_)
  rw [if_pos (show (rawInt L == rawInt L) = true from by simp)]
  exact wpAny_pure hq
theorem Fl.first {env : Env} {outer : List Env} {L : Addr} {base : Heap} (hfr : A.frames = some (env :: outer)) (hl : h.FunFrames base (env :: outer)) (hf : env.frame = some L) (hx : Heap.NewExc h s.heap e X)
    {Q : Unit → Shared → Prop} (hq : ∀ g tb, Fl ((env :: outer).filterMap (·.frame)) X h g e tb (rawInt L) → Q () { s with heap := g }) : wpAny M A (noteFrame (.ref e) env) Q E s := by
  obtain ⟨oe, t, he, hc, hd⟩ := hx.there
  have hl' : s.heap.FunFrames base (env :: outer) := hl.of_keeps fun b o hb _ => ⟨o, hx.keeps b o hb, rfl⟩
  have hene : e ∉ (env :: outer).filterMap (·.frame) := fun hm => by
    obtain ⟨_, o, ho, _⟩ := hl.mem hm
    rw [hx.new] at ho; cases ho
  unfold noteFrame
  simp only [hf]
  refine wpAny_bind (wpAny_field (x := Value.none) he hd rfl ?_)
  rw [if_neg (by decide)]
  refine wpAny_bind (wpAny_frameOf_fun hfr hl' hf fun h₁ hs₁ => ?_)
  refine wpAny_bind (wpAny_entryPlaceOf fun pl hpl => ?_)
  unfold EntryCells.newEntry newFields
  refine wpAny_bind (wpAny_newObj_type ?_ (hpl.sizeOk5 _ _ _ _ _))
  have he₁ : h₁.get? e = some oe := (hs₁.2.1 e hene).trans he
  have he₂ := Heap.get?_push_of_some (h := h₁) { cls := .type "traceback", dict := none, data := .fields ([Value.none, .ref L, .none, rawInt L, .none] ++ (if pl.isEmpty then List.replicate 6 Value.none else pl)).toArray } he₁
  refine wpAny_setField he₂ hd (by simp) ?_
  have hTe : h₁.objs.size ≠ e := Nat.ne_of_gt (Heap.lt_size he₁)
  have hd₃ := Obj.data_mapFields hd (·.setIfInBounds 1 (Value.ref h₁.objs.size))
  have he₃ := Heap.get?_update_self (Obj.mapFields (·.setIfInBounds 1 (Value.ref h₁.objs.size))) he₂ (Obj.isFreed_of_fields hd₃)
  have hT₃ := (Heap.get?_update_other (h₁.push { cls := .type "traceback", dict := none, data := .fields ([Value.none, .ref L, .none, rawInt L, .none] ++ (if pl.isEmpty then List.replicate 6 Value.none else pl)).toArray })
    (Obj.mapFields (·.setIfInBounds 1 (Value.ref h₁.objs.size))) (Ne.symm hTe)).trans (Heap.get?_push_size h₁ rfl)
  have ne : ∀ b o, h.get? b = some o → e ≠ b := fun b o hb z => by have := hx.new; rw [z, hb] at this; cases this
  have hsz₁ : h₁.objs.size = s.heap.objs.size := hs₁.1
  refine hq _ h₁.objs.size ⟨fun b o hb e' => ?_, fun b o e' => ?_, ⟨_, _, he₃, ?_, hd₃, by simp⟩, ⟨_, _, hT₃, rfl, by simp⟩, hx.new, ?_, Ne.symm hTe⟩
  · rw [Heap.get?_update_other _ _ (ne b o e')]
    exact Heap.get?_push_of_some _ ((hs₁.2.1 b hb).trans (hx.keeps b o e'))
  · rw [Heap.get?_update_other _ _ (ne b o e')]
    obtain ⟨sl, hsl⟩ := hs₁.2.2 b o (hx.keeps b o e')
    exact ⟨sl, Heap.get?_push_of_some _ hsl⟩
  · rw [Obj.cls_mapFields]; exact hc
  · rw [hsz₁]
    cases q : h.get? s.heap.objs.size with
    | none => rfl
    | some o => exact absurd (Heap.lt_size (hx.keeps _ _ q)) (Nat.lt_irrefl _)
end
/-- raised in a loop of the frame's own, inside its try, and caught there -/
theorem caughtLoop {prog : Program} {w : World} {A : Around} {E : Value → Shared → Prop} {s : Shared} {h base : Heap} {env : Env} {outer : List Env} {L e : Addr} {t : Expr} {b₀ : Stmt} {suite : List Stmt} {pos : Pos} {rest : List ExceptHandler} {Q : Flow → Shared → Prop}
    (hfr : A.frames = some (env :: outer)) (hl : h.FunFrames base (env :: outer)) (hf : env.frame = some L) (hx : Heap.NewExc h s.heap e "ValueError")
    (hname : ∀ g tb x (Q' : Value → Shared → Prop) (E' : Value → Shared → Prop), Fl ((env :: outer).filterMap (·.frame)) "ValueError" h g e tb x → Q' (.type "ValueError") { s with heap := g } →
      wpAny (model prog w) (A.mark (some (.ref e))) (eval t env) Q' E' { s with heap := g })
    (k : ∀ g tb x, Fl ((env :: outer).filterMap (·.frame)) "ValueError" h g e tb x → wpAny (model prog w) (A.mark (some (.ref e))) (execs (b₀ :: suite) env) Q NoE { s with heap := g }) :
    notedBy (model prog w) A env (cameBackBy (model prog w) A env (fun e s₁ => wpAny (model prog w) A (noteFrame e env) (fun _ s₂ => wpAny (model prog w) A (setFlight e none) (fun _ s₃ => wpAny (model prog w) A (handleBy e env (.ExceptHandler (some t) none (b₀ :: suite) pos :: rest)) Q E s₃) E s₂) E s₁)) (.ref e) s := by
  unfold notedBy
  refine Fl.first hfr hl hf hx fun g₁ tb f₁ => ?_
  refine Fl.back (s := { s with heap := g₁ }) f₁ fun g₂ f₂ => ?_
  rw [hf] at f₂
  refine Fl.noteAgain (s := { s with heap := g₂ }) hf f₂ ?_
  refine Fl.flight (s := { s with heap := g₂ }) f₂ none fun g₃ f₃ => ?_
  refine wpAny_handleBy_builtin (X := "ValueError") (T := "ValueError") (b := true) ?_ ?_ ?_ (hname g₃ tb _ _ _ f₃ ⟨rfl, ?_, ?_⟩)
  · exact PySem.F.isExc_ValueError
  · exact PySem.F.notTuple_ValueError
  · exact PySem.F.self_ValueError
  · obtain ⟨oe, vs, h1, h2, h3, h4⟩ := f₃.exc
    exact ⟨oe, h1, h2⟩
  · rw [if_pos rfl]
    refine Fl.flight (s := { s with heap := g₃ }) f₃ none fun g₄ f₄ => ?_
    exact wpAny_mono (k g₄ tb _ f₄) (fun _ _ x => x) fun _ _ x => x.elim
end Mine
namespace Mine

def KeepS (L : Addr) (h h' : Heap) : Prop := (∀ b o, b ≠ L → h.get? b = some o → h'.get? b = some o) ∧ ∀ b o, h.get? b = some o → ∃ sl, h'.get? b = some { o with slots := sl }
theorem Keep.toS {h h' : Heap} (k : Keep h h') (L : Addr) : KeepS L h h' := ⟨fun b o _ e => k b o e, fun b o e => ⟨o.slots, k b o e⟩⟩
theorem Fr.keptS {base h h' : Heap} {L : Addr} {m} (F : Fr base L h m) (k : KeepS L h h') : Fr base L h' m := by
  obtain ⟨oL, es, ep, hL, hd, r⟩ := F.ns
  obtain ⟨sl, e⟩ := k.2 _ _ hL
  exact ⟨⟨_, es, ep, e, hd, r⟩, fun b o e => k.1 b o (Nat.ne_of_lt (Nat.lt_of_lt_of_le (Heap.lt_size e) F.above)) (F.keep b o e), F.above⟩
theorem News.keptS {base h h' : Heap} {L : Addr} {news} (N : News base L h news) (k : KeepS L h h') : News base L h' news := fun p hp => ⟨k.1 _ _ (N p hp).2.1 (N p hp).1, (N p hp).2⟩
theorem ded_take_run {l : List (Int × Tok)} {i : Nat} {q : Int × Tok} (h : l[i]? = some q) (t : List (Int × Tok)) : cmpRun (l.drop i) t = (match rem1 q.1 t with | none => none | some t' => cmpRun (l.drop (i + 1)) t') := by
  obtain ⟨hi, e⟩ := List.getElem?_eq_some_iff.mp h
  rw [List.drop_eq_getElem_cons hi, e]
  rfl
theorem rem1_len {x : Int} {l l' : List (Int × Tok)} (h : rem1 x l = some l') : l'.length ≤ l.length := by
  obtain ⟨j, hj, _, _, rfl⟩ := rem1_some h
  rw [List.length_eraseIdx_of_lt hj]; omega
theorem fm2 {e1 e2 : Env} {a b : Addr} (h1 : e1.frame = some a) (h2 : e2.frame = some b) : [e1, e2].filterMap (·.frame) = [a, b] := by
  simp only [List.filterMap, h1, h2]
theorem cmp_spec {w : World} {p loose mean mg mb} {A : Around} {s : Shared} {R : Result → Shared → Prop} {a b L : Addr} {vs us : List (Int × Tok)} {hT : Heap} {envL : Env} {oL : Obj}
   (hr : A.depth + 8 < recursionLimit) (hu : A.units + 60 < cLine) (hh : A.handled = none) (hl1 : vs.length ≤ 8) (hl2 : us.length ≤ 8) (ha : s.heap.IsList a (ivals vs).toArray) (hb : s.heap.IsList b (ivals us).toArray)
   (hfr : A.frames = some [envL]) (hkL : envL.scope.kind ≠ .module) (hfL : envL.frame = some L) (hoL : s.heap.get? L = some oL) (hdL : ∀ vs, oL.data ≠ .fields vs)
   (kT : Keep hT s.heap) (hTL : hT.get? L = none) (hTs : hT.objs.size ≤ s.heap.objs.size)
   (hret : ∀ h' tk', KeepS L s.heap h' → R (.ok (.ret (.bool (cmpo vs us)))) { s with heap := h', toks := tk' }) 
   (X0 : (hd.heap_39 w.params).In hT) (T0 : Top p loose mean mg mb hT) (hVE : Str.ofString "ValueError" ∉ loose ∧ Str.ofString "ValueError" ∉ (recsOf p).map (·.name) ∧ Str.ofString "ValueError" ∉ (litsOf p).map (·.1) ∧ Str.ofString "ValueError" ∉ (clssOf p loose).map (·.name)) :
   codeAny (model PySem.Challenge.rw_om0026_01.row.prog w) A (.call (.ref 92) ⟨[.ref a, .ref b], []⟩) R s := by
  have X := Keep.frag kT X0
  have T := T0.keeps kT
  w_on
  revert X T; k_fill; intro X T
  refine' enterF (binds := [(Str.ofString "first_args", Value.ref a), (Str.ofString "second_args", Value.ref b)]) X T.nolimit ?ho ?hcd ?hroom ?hbind ?hloc ?h ?c1 ?c2 ?c3 ?c4
  case ho => k_is
  case hcd => k_is
  case hroom => omega
  case hbind => exact BindsTo.of_eq rfl
  case c4 => decide
  case hloc => exact locs rfl
  case c1 => exact rfl
  case c2 => exact rfl
  case c3 => exact rfl
  intro L' h' F' N'

  k_with "call ref" => (refine stop ?_)
  k_with "call type:list" => (refine stop ?_)
  refine seqAt 3 (fun s' => ∃ h₁ tk₁ d1 n1 d2 n2 t n3, s' = { s with heap := h₁, toks := tk₁ } ∧ Fr s.heap L' h₁ (fun y => if y = Str.ofString "t" then some (.ref t) else if y = Str.ofString "second_unhashable" then some (Value.ref d2) else if y = Str.ofString "first_unhashable" then some (Value.ref d1) else List.lookup y [(Str.ofString "first_args", Value.ref a), (Str.ofString "second_args", Value.ref b)].reverse) ∧ News s.heap L' h₁ [(t, listOf (ivals (ded us)).toArray n3), (d2, listOf (ivals (ded us)).toArray n2), (d1, listOf (ivals (ded vs)).toArray n1)] ∧ t ≠ d2 ∧ t ≠ d1) ?_ ?_
  · dsimp only [List.take]
    k_steps
    constructor
    refine wpAny_call (dedup_spec (vs := vs) (show A.depth + 1 + 3 < recursionLimit by omega) (show A.units + 3 + 30 < cLine by omega) hh hl1 (Keep.isList F'.keep ha) ?_ (Keep.frag F'.keep X) (T.keeps F'.keep))
    intro d1 h₂ tk₂ n1 k₂ hn₂ hd₂
    have F2 := Fr.kept F' k₂
    have N2 := News.add F' (News.kept N' k₂) hn₂ hd₂
    try dsimp only
    k_steps
    constructor
    rename Fr _ _ _ _ => F3
    rename News _ _ _ _ => N3
    refine wpAny_call (dedup_spec (vs := us) (show A.depth + 1 + 3 < recursionLimit by omega) (show A.units + 3 + 30 < cLine by omega) hh hl2 (Keep.isList F3.keep hb) ?_ (Keep.frag F3.keep X) (T.keeps F3.keep))
    intro d2 h₄ tk₄ n2 k₄ hn₄ hd₄
    have F4 := Fr.kept F3 k₄
    have N4 := News.add F3 (News.kept N3 k₄) hn₄ hd₄
    have hne : d2 ≠ d1 := fun e => by rw [e, (N3 _ (.head _)).1] at hn₄; cases hn₄
    try dsimp only
    k_steps
    constructor
    rename Fr _ _ _ _ => F5
    rename News _ _ _ _ => N5
    refine list_copyK F5 N5 ⟨_, (N5 _ (.head _)).1, rfl, _, rfl⟩ ?_ (by rw [ivals_len]; exact Nat.le_trans (Nat.le_trans (ded_len us) hl2) (by decide))
    intro t n3 h₆ F6 N6 l6
    k_steps
    rename Fr _ _ _ _ => F7
    rename News _ _ _ _ => N7
    exact ⟨rfl, _, _, d1, n1, d2, n2, t, n3, rfl, F7, N7, Nat.ne_of_gt (l6 _ (.head _)), Nat.ne_of_gt (l6 _ (.tail _ (.head _)))⟩
  rintro s' ⟨h₁, tk₁, d1, n1, d2, n2, t, n3, rfl, F₁, N₁, ht2, ht1⟩
  dsimp only [List.drop]
  refine wpAny_execs_cons (wpAny_Try_except (wpAny_execs_cons (wpAny_For ?_)))
  refine ld F₁ rfl ?_
  have hd1 := (N₁ _ (.tail _ (.tail _ (.head _)))).1
  refine loopListE (base := s.heap) (ivals (ded vs)) (fun i m news => ∃ cur n, m (Str.ofString "t") = some (.ref t) ∧ news = [(t, listOf (ivals cur).toArray n), (d2, listOf (ivals (ded us)).toArray n2), (d1, listOf (ivals (ded vs)).toArray n1)] ∧ cmpRun ((ded vs).drop i) cur = cmpRun (ded vs) (ded us) ∧ cur.length ≤ 8) hh (by rfl) (by rfl) ⟨_, hd1, rfl, _, rfl⟩ ?_ F₁ N₁ ⟨ded us, n3, rfl, rfl, rfl, Nat.le_trans (ded_len us) hl2⟩ ?_ ?_
  · rintro i h m' _ _ ⟨cur, n, _, rfl, _⟩ F N
    exact ⟨_, (N _ (.tail _ (.tail _ (.head _)))).1, rfl, _, rfl⟩
  · rintro i v m' _ it o h tk hv ⟨cur, n, hm, rfl, hrun, hlen⟩ F N aw
    rw [fixm hm] at F
    obtain ⟨q, hq, rfl⟩ := ivals_get hv
    rw [ded_take_run hq] at hrun
    k_with "call builtin:list.remove" => (refine stop ?_)
    k_steps
    constructor
    have hit : t ≠ it := aw _ (.head _)
    cases hrem : rem1 q.1 cur with
    | some cur' =>
      rw [hrem] at hrun
      refine remove_ok (N _ (.tail _ (.head _))).1 hrem hlen fun h' hs ho' => ?_
      have F2 := F.change hs (N _ (.tail _ (.head _))).2.1 (N _ (.tail _ (.head _))).2.2
      have N2 : News s.heap L' h' [(it, o), (t, listOf (ivals cur').toArray (n + 1)), (d2, listOf (ivals (ded us)).toArray n2), (d1, listOf (ivals (ded vs)).toArray n1)] :=
        news_set (pre := [(it, o)]) (post := [(d2, listOf (ivals (ded us)).toArray n2), (d1, listOf (ivals (ded vs)).toArray n1)]) N (fun p hp => by rw [List.mem_singleton.mp hp]; exact Ne.symm hit) (fun p hp => by
          rcases List.mem_cons.mp hp with rfl | hp
          · exact Ne.symm ht2
          · rw [List.mem_singleton.mp hp]; exact Ne.symm ht1) hs ho'
      k_steps
      exact ⟨_, _, _, _, rfl, F2, N2, fun p hp => by
        rcases List.mem_cons.mp hp with rfl | hp
        · exact hit
        · exact aw p (.tail _ hp), cur', n + 1, rfl, rfl, hrun, Nat.le_trans (rem1_len hrem) hlen⟩
    | none =>
      rw [hrem] at hrun
      refine remove_raises hh (N _ (.tail _ (.head _))).1 hrem fun h' tk' e hx => ?_
      have hne : ∀ b o, s.heap.get? b = some o → b ≠ L' := fun b o e => Nat.ne_of_lt (Nat.lt_of_lt_of_le (Heap.lt_size e) F.above)
      have FT : ∀ g tb x, Fl [L', L] "ValueError" h g e tb x → ∃ m, Fr hT L' g m := by
        intro g tb x f
        obtain ⟨o', es, ep, hL', hd', r'⟩ := F.ns
        obtain ⟨sl, e'⟩ := f.slots _ _ hL'
        refine ⟨_, ⟨_, es, ep, e', hd', r'⟩, fun b o eb => f.keep b o ?_ (F.keep _ _ (kT _ _ eb)), ?_⟩
        · intro hm
          rcases List.mem_cons.mp hm with rfl | hm
          · exact hne _ _ (kT _ _ eb) rfl
          · rw [List.mem_singleton.mp hm, hTL] at eb; cases eb
        · exact Nat.le_trans hTs F.above
      refine caughtLoop (outer := [envL]) (L := L') (h := h) (base := {}) (Around.frames_deeper hfr) ?_ rfl hx ?_ ?_
      · exact Heap.FunFrames.cons (by intro q; cases q) rfl F.ns rfl ⟨hkL, ⟨L, oL, hfL, rfl, F.keep _ _ hoL, hdL⟩, trivial⟩
      · intro g tb x Q' E' f hq
        have f' : Fl [L', L] "ValueError" h g e tb x := by rw [fm2 rfl hfL] at f; exact f
        obtain ⟨m, Fg⟩ := FT g tb x f'
        exact ld_builtin_at (s := { s with heap := g, toks := tk' }) Fg T0.g (T0.free _ (by decide +kernel) hVE.1 hVE.2.1 hVE.2.2.1 hVE.2.2.2) T0.b ((T0.builtins _ (by decide +kernel)).trans PyProof.Rows.Boot.«ValueError») hq
      · intro g tb x f
        have f' : Fl [L', L] "ValueError" h g e tb x := by rw [fm2 rfl hfL] at f; exact f
        obtain ⟨m, Fg⟩ := FT g tb x f'
        k_steps
        have hc : cmpo vs us = false := by
          unfold cmpo
          rw [← hrun]
        rw [← hc]
        exact hret _ _ ⟨fun b o hb e' => f'.keep b o (fun hm => by
          rcases List.mem_cons.mp hm with q | hm
          · exact hne _ _ e' q
          · exact hb (List.mem_singleton.mp hm)) (F.keep _ _ e'), fun b o e' => f'.slots b o (F.keep _ _ e')⟩
  · rintro m' _ h tk ⟨cur, n, hm, rfl, hrun, hlen⟩ F N
    rw [fixm hm] at F
    k_with "truthy ref" => (refine stop ?_)
    k_steps
    constructor
    rename Fr _ _ _ _ => F9
    rename News _ _ _ _ => N9
    have hcl : ((ivals cur).toArray.size : Int) < 2 ^ 63 := by rw [ivals_len]; omega
    refine wpAny_truthy_list (items := (ivals cur).toArray) ⟨_, (N9 _ (.head _)).1, rfl, _, rfl⟩ hcl ?_
    have hc : cmpo vs us = !(!(ivals cur).toArray.isEmpty) := by
      have e : (ded vs).drop (ivals (ded vs)).length = [] := by simp [ivals]
      rw [e] at hrun
      unfold cmpo
      rw [← hrun]
      cases cur <;> simp [cmpRun, ivals]
    rw [← hc]
    exact hret _ _ (Keep.toS F9.keep L)
end Mine
namespace Mine

theorem iter_list {prog : Program} {w : World} {A : Around} {E : Value → Shared → Prop} {s : Shared} {l : Addr} {items : Array Value} {Q : Value → Shared → Prop} (hl : s.heap.IsList l items)
    (h : Q (.ref s.heap.objs.size) { s with heap := s.heap.push { cls := .type "list_iterator", data := .fields #[.ref l, .int 0 0] } }) : wpAny (model prog w) A (call (.builtin "iter") [.ref l]) Q E s := by
  refine call_function_entry (by decide +kernel) (by decide +kernel) kdk_entry_iter (kdk_args_iter _) ?_
  unfold Builtin.«iter»
  refine wpAny_bind (m := someArgs "iter" 1 2 _) (wpAny_of_eq (a := [Value.ref l]) (by first | rfl | kernel_rfl!) ?_)
  show wpAny _ _ (pyIter (.ref l) >>= _) _ _ _
  refine wpAny_bind (wpAny_pyIter_list hl ?_)
  exact wpAny_pure ⟨_, rfl, h⟩
theorem next_list {prog : Program} {w : World} {A : Around} {E : Value → Shared → Prop} {s : Shared} {l it : Addr} {i : Nat} {items : Array Value} {x : Value} {Q : Value → Shared → Prop} (hit : s.heap.IsListIter it l i) (hl : s.heap.IsList l items) (hx : items[i]? = some x)
    (hQ : ∀ h', h'.IsListIter it l (i + 1) → Heap.SameBut it s.heap h' → Q x { s with heap := h' }) : wpAny (model prog w) A (call (.builtin "next") [.ref it]) Q E s := by
  obtain ⟨o, ho, hc, hd⟩ := id hit
  obtain ⟨ol, hol, _, nl, hdl⟩ := hl
  refine call_function_entry (by decide +kernel) (by decide +kernel) kdk_entry_next (kdk_args_next _) ?_
  unfold Builtin.«next»
  refine wpAny_bind (m := someArgs "next" 1 2 _) (wpAny_of_eq (a := [Value.ref it]) (by first | rfl | kernel_rfl!) ?_)
  dsimp only
  refine wpAny_bind (wpAny_specialOf (name := Str.ofString "__next__") hit.typeIs slot_listiter_next.lookup ?_)
  refine wpAny_ite_split (fun hab => absurd hab (by decide)) (fun _ => ?_)
  refine wpAny_bind (wpAny_callSpecial?_slot (name := Str.ofString "__next__") hit.typeIs slot_listiter_next
    (wpAny_call_entry slot_listiter_next hit.typeIs entry_listiter_next ?_ (args_listiter_next _)))
  show wpAny _ _ (field (.ref it) 0 >>= _) _ _ s
  refine wpAny_bind (wpAny_field ho hd (x := .ref l) rfl ?_)
  show wpAny _ _ (if (Value.ref l == Value.none) = true then _ else _) _ _ s
  rw [if_neg (show ¬ ((Value.ref l == Value.none) = true) from Bool.false_ne_true)]
  show wpAny _ _ (field (.ref it) 1 >>= _) _ _ s
  refine wpAny_bind (wpAny_field ho hd (x := .int i 0) rfl ?_)
  show wpAny _ _ (seqItems? (.ref l) >>= _) _ _ s
  refine wpAny_bind (wpAny_seqItems hol hdl ?_)
  simp only [Int.toNat_natCast, hx]
  refine wpAny_bind (wpAny_setField ho hd (by simp) (wpAny_pure ⟨x, rfl, wpAny_pure ⟨_, rfl, hQ _ ?_ (Heap.SameBut.update ..)⟩⟩))
  exact ⟨_, Heap.get?_update_self _ ho (Obj.isFreed_of_fields (Obj.data_mapFields hd _)), (Obj.cls_mapFields ..).trans hc, by
    rw [Obj.data_mapFields hd]; simp [rawInt]⟩
def itO (l : Addr) (o : Obj) (i : Nat) : Prop := o.cls = .type "list_iterator" ∧ o.data = .fields #[.ref l, .int i 0]
theorem reduce_spec {w : World} {p loose mean mg mb} {A : Around} {s : Shared} {R : Result → Shared → Prop} {l fl : Addr} {x : Int × Tok} {xs : List (Int × Tok)} {f : Int → Int → Int} {P : Int → Prop} {ofl : Obj} {fd : FuncData}
   (hr : A.depth + 8 < recursionLimit) (hu : A.units + 60 < cLine) (hh : A.handled = none) (hl1 : xs.length ≤ 8) (hl : s.heap.IsList l (ivals (x :: xs)).toArray)
   (hP : P x.1) (hPs : ∀ q ∈ xs, P q.1) (hPf : ∀ a b, P a → P b → P (f a b))
   (hfo : s.heap.get? fl = some ofl) (hfd : ofl.data = .func fd)
   (hf : ∀ (env : Env) (s' : Shared) (a b : Int) (ta tb : Tok) (R' : Result → Shared → Prop), Keep s.heap s'.heap → P a → P b →
     (∀ t h' tk', Keep s'.heap h' → R' (.ok (.ret (.int (f a b) t))) { s' with heap := h', toks := tk' }) →
     codeAny (model PySem.Challenge.rw_om0026_01.row.prog w) (A.deeper env) (.call (.ref fl) ⟨[.int a ta, .int b tb], []⟩) R' s')
   (hret : ∀ t h' tk', Keep s.heap h' → R (.ok (.ret (.int (xs.foldl (fun acc q => f acc q.1) x.1) t))) { s with heap := h', toks := tk' }) 
   (X : (hd.heap_39 w.params).In s.heap) (T : Top p loose mean mg mb s.heap) :
   codeAny (model PySem.Challenge.rw_om0026_01.row.prog w) A (.call (.ref 23) ⟨[.ref fl, .ref l], []⟩) R s := by
  w_on
  revert X T; k_fill; intro X T
  refine' enterF (binds := [(Str.ofString "function", Value.ref fl), (Str.ofString "sequence", Value.ref l), (Str.ofString "initial", Value.ref 15)]) X T.nolimit ?ho ?hcd ?hroom ?hbind ?hloc ?h ?c1 ?c2 ?c3 ?c4
  case ho => k_is
  case hcd => k_is
  case hroom => omega
  case hbind => exact binds_K (by k_in) rfl (by k_is) rfl rfl rfl
  case c4 => decide
  case hloc => exact locs rfl
  case c1 => exact rfl
  case c2 => exact rfl
  case c3 => exact rfl
  intro L' h' F' N'

  k_with "call ref" => (refine stop ?_)
  k_with "call builtin:iter" => (refine stop ?_)
  k_with "call builtin:next" => (refine stop ?_)
  refine seqAt 2 (fun s' => ∃ h₁ tk₁ it o t m, s' = { s with heap := h₁, toks := tk₁ } ∧ Fr s.heap L' h₁ m ∧ m (Str.ofString "it") = some (.ref it) ∧ m (Str.ofString "value") = some (.int x.1 t) ∧ m (Str.ofString "function") = some (.ref fl) ∧ News s.heap L' h₁ [(it, o)] ∧ itO l o 1) ?_ ?_
  · dsimp only [List.take]
    k_steps
    constructor
    refine iter_list (Keep.isList F'.keep hl) ?_
    have F1 := F'.push { cls := .type "list_iterator", data := .fields #[.ref l, .int 0 0] }
    have N1 := News.push F' N' { cls := .type "list_iterator", data := .fields #[.ref l, .int 0 0] }
    k_steps
    constructor
    rename Fr _ _ _ _ => F2
    rename News _ _ _ _ => N2
    have g2 := N2 _ (.head _)
    refine next_list (i := 0) (x := .int x.1 x.2) ⟨_, g2.1, rfl, rfl⟩ (Keep.isList F2.keep hl) rfl fun h₃ hit hs => ?_
    obtain ⟨o, ho, hc, hd⟩ := hit
    have F3 := F2.change hs g2.2.1 g2.2.2
    have N3 := news_set (pre := []) (post := []) N2 (fun _ h => nomatch h) (fun _ h => nomatch h) hs ho
    k_steps
    rename Fr _ _ _ _ => F4
    rename News _ _ _ _ => N4
    exact ⟨rfl, _, _, _, o, x.2, _, rfl, F4, rfl, rfl, rfl, N4, hc, hd⟩
  rintro s' ⟨h₁, tk₁, it, o, t, m, rfl, F₁, hmi, hmv, hmf, N₁, hio⟩
  dsimp only [List.drop]
  rw [fixm hmi] at F₁
  refine wpAny_execs_cons (wpAny_For ?_)
  refine ld F₁ rfl ?_
  refine wpAny_pyIter_listiter (i := 1) (l := l) ⟨o, (N₁ _ (.head _)).1, hio.1, hio.2⟩ ?_
  refine forC (base := s.heap) xs.length (fun i o => itO l o (i + 1)) (fun i v => (ivals xs)[i]? = some v) (fun h => h.IsList l (ivals (x :: xs)).toArray)
    (fun i m news => news = [] ∧ m (Str.ofString "function") = some (.ref fl) ∧ ∃ t, m (Str.ofString "value") = some (.int ((xs.take i).foldl (fun acc q => f acc q.1) x.1) t) ∧ P ((xs.take i).foldl (fun acc q => f acc q.1) x.1)) (by rfl) (by rfl) ?_ ?_ ?_ (by intro p hp; cases hp) F₁ N₁ hio ⟨rfl, hmf, t, hmv, hP⟩ ?_ ?_
  · intro i s o Q E hi ho hI hs hq
    have hv : (ivals (x :: xs)).toArray[i + 1]? = some (.int xs[i].1 xs[i].2) := by simp [ivals, hi]
    refine wpAny_pyNext_list_item ⟨o, ho, hI.1, hI.2⟩ hs hv fun h' hit hsb => ?_
    obtain ⟨o', ho', hc, hd⟩ := hit
    exact hq _ h' o' s.toks (by simp [ivals, hi]) ho' ⟨hc, hd⟩ hsb
  · intro s o Q E ho hI hs hq
    exact wpAny_pyNext_list_end hh ⟨o, ho, hI.1, hI.2⟩ hs (by simp [ivals]) hq
  · intro i h m' news' o hi hJ _ F' N'
    exact Keep.isList F'.keep hl
  · rintro i v m' _ o h tk hi hv ⟨rfl, hm, t, hmv, hp⟩ hI F N aw
    rw [fixm hmv] at F
    rw [fixm hm] at F
    obtain ⟨q, hq, rfl⟩ := ivals_get hv
    k_steps
    constructor
    have hm' : q ∈ xs := List.mem_of_getElem? hq
    refine wpAny_call (hf _ _ _ _ _ _ _ F.keep hp (hPs q hm') ?_)
    intro t' h' tk' k'
    have F2 := Fr.kept F k'
    have N2 := News.kept N k'
    have e : (xs.take (i + 1)).foldl (fun acc q => f acc q.1) x.1 = f ((xs.take i).foldl (fun acc q => f acc q.1) x.1) q.1 := by
      rw [List.take_add_one, hq]; simp
    try dsimp only
    k_steps
    rename Fr _ _ _ _ => F3
    rename News _ _ _ _ => N3
    refine ⟨_, _, _, _, rfl, F3, N3, (by intro p hp; cases hp), rfl, rfl, t', ?_, ?_⟩
    · rw [e]; rfl
    · rw [e]; exact hPf _ _ hp (hPs q hm')
  · rintro m' _ h tk ⟨rfl, hm, t, hmv, hp⟩ F N
    rw [fixm hmv] at F
    k_steps
    rename Fr _ _ _ _ => F3
    rw [List.take_length]
    exact hret _ _ _ F3.keep
end Mine
namespace Mine
/-- for x1, x2 in an iterator whose objects own stand at the ledger's head -/
theorem forPair {prog : Program} {w : World} {A : Around} {env : Env} {base : Heap} {x1 x2 : Str} {p1 p2 pt : Pos} {kk : Nat} {body orelse : List Stmt} {Q : Flow → Shared → Prop} {E : Value → Shared → Prop} {s : Shared} {it : Addr} (n : Nat) (ia : List Addr)
    (ItP : Nat → List (Addr × Obj) → Prop) (P : Nat → Value → Value → Prop) (Src : Heap → Prop) (J : Nat → (Str → Option Value) → List (Addr × Obj) → Prop)
    {m : Str → Option Value} {news own₀ : List (Addr × Obj)}
    (hh : A.handled = none) (hx1 : env.kindOf x1 = some .local) (hx2 : env.kindOf x2 = some .local) (hp : (env.scope.kind == .class || (env.scope.kind == .module && env.locals != env.globals)) = false)
    (hown : ∀ i own, ItP i own → own.map (·.1) = ia)
    (draw : ∀ i (s : Shared) own (Q : Shared → Prop) (Q' : Addr → Value → Value → Shared → Prop) (E : Value → Shared → Prop), i < n → ItP i own → (∀ p ∈ own, s.heap.get? p.1 = some p.2) → Src s.heap →
      (∀ T v1 v2 h' own' tk', P i v1 v2 → ItP (i + 1) own' → (∀ p ∈ own', h'.get? p.1 = some p.2) → h'.IsTuple T #[v1, v2] → (∀ b o, b ∉ ia → s.heap.get? b = some o → h'.get? b = some o) → Q' T v1 v2 { s with heap := h', toks := tk' }) →
      wpAny (model prog w) A (pyNext (.ref it)) (fun r s₁ => match r with | none => Q s₁ | some v => wpAny (model prog w) A (letOwnedTupleGo (.Tuple [.Name x1 p1, .Name x2 p2] kk pt) (.ref it) v) (fun _ s₂ => ∃ T v1 v2, v = .ref T ∧ s₂.heap.IsTuple T #[v1, v2] ∧ Q' T v1 v2 s₂) E s₁) E s)
    (fin : ∀ (s : Shared) own (Q : Option Value → Shared → Prop) (E : Value → Shared → Prop), ItP n own → (∀ p ∈ own, s.heap.get? p.1 = some p.2) → Src s.heap →
      (∀ h', (∀ b o, b ∉ ia → s.heap.get? b = some o → h'.get? b = some o) → Q none { s with heap := h' }) → wpAny (model prog w) A (pyNext (.ref it)) Q E s)
    (src : ∀ i h m' news', i ≤ n → J i m' news' → Fr base env.locals h m' → News base env.locals h news' → Src h)
    (away : ∀ p ∈ news, p.1 ∉ ia)
    (F : Fr base env.locals s.heap m) (N : News base env.locals s.heap (own₀ ++ news)) (hi : ItP 0 own₀) (h0 : J 0 m news)
    (turn : ∀ i v1 v2 m' news' own h tk, i < n → P i v1 v2 → J i m' news' → ItP (i + 1) own → Fr base env.locals h (fun y => if y = x2 then some v2 else if y = x1 then some v1 else m' y) → News base env.locals h (own ++ news') →
      (∀ p ∈ news', p.1 ∉ ia) →
      wpAny (model prog w) A (execs body env) (fun f s₂ => match f with
        | .next | .cont => Box (∃ h' tk' m'' news'', s₂ = { s with heap := h', toks := tk' } ∧ Fr base env.locals h' m'' ∧ News base env.locals h' (own ++ news'') ∧ (∀ p ∈ news'', p.1 ∉ ia) ∧ J (i + 1) m'' news'')
        | .brk => Q .next s₂
        | .ret v => Q (.ret v) s₂) NoE { s with heap := h, toks := tk })
    (done : ∀ m' news' h tk, J n m' news' → Fr base env.locals h m' → News base env.locals h news' → wpAny (model prog w) A (execs orelse env) Q NoE { s with heap := h, toks := tk }) :
    codeAny (model prog w) A (.forLoop (.Tuple [.Name x1 p1, .Name x2 p2] kk pt) (.ref it) body orelse env) (fun r s' => match r with | .ok f => Q f s' | .error e => cameBackBy (model prog w) A env E e s') s := by
  refine codeAny_forLoop_any (fun k s' => ∃ h tk m' news' own i, s' = { s with heap := h, toks := tk } ∧ i ≤ n ∧ k = n + 1 - i ∧ J i m' news' ∧ ItP i own ∧ Fr base env.locals h m' ∧ News base env.locals h (own ++ news') ∧ ∀ p ∈ news', p.1 ∉ ia) ?_ (n + 1)
    ⟨s.heap, s.toks, m, news, own₀, 0, rfl, Nat.zero_le _, rfl, h0, hi, F, N, away⟩
  rintro k s' ⟨h, tk, m', news', own, i, rfl, hi', rfl, hJ, hI, F', N', aw⟩
  have hoa := hown i own hI
  have hnot : ∀ b ∈ ia, b ≠ env.locals ∧ base.get? b = none := fun b hb => by
    rw [← hoa] at hb
    obtain ⟨p, hp, rfl⟩ := List.mem_map.mp hb
    exact (N' p (List.mem_append_left _ hp)).2
  have hsrc := src i h m' news' hi' hJ F' fun p hp => N' p (List.mem_append_right _ hp)
  have hgo : ∀ p ∈ own, h.get? p.1 = some p.2 := fun p hp => (N' p (List.mem_append_left _ hp)).1
  by_cases hlt : i < n
  · refine wpAny_mono (draw i { s with heap := h, toks := tk } own (fun _ => False) (fun T v1 v2 s₂ => ∃ h' tk' own', s₂ = { s with heap := h', toks := tk' } ∧ P i v1 v2 ∧ ItP (i + 1) own' ∧ (∀ p ∈ own', h'.get? p.1 = some p.2) ∧ ∀ b o, b ∉ ia → h.get? b = some o → h'.get? b = some o) NoE hlt hI hgo hsrc
      (fun T v1 v2 h' own' tk' a1 a2 a3 a4 a5 => ⟨h', tk', own', rfl, a1, a2, a3, a5⟩)) (fun r s₁ hr => ?_) fun _ _ x => x.elim
    cases r with
    | none => exact hr.elim
    | some v =>
      refine wpAny_mono hr (fun _ s₂ h₂ => ?_) fun _ _ x => x.elim
      obtain ⟨T, v1, v2, rfl, hT, h₃, tk₃, own', rfl, hP, hI₁, ho₁, hk₁⟩ := h₂
      have F₁ : Fr base env.locals h₃ m' := by
        obtain ⟨oL, es, ep, hL, r⟩ := F'.ns
        exact ⟨⟨oL, es, ep, hk₁ _ _ (fun z => (hnot _ z).1 rfl) hL, r⟩, fun b ob e => hk₁ b ob (fun z => by have := (hnot _ z).2; rw [e] at this; cases this) (F'.keep b ob e), F'.above⟩
      have hoa' := hown (i + 1) own' hI₁
      have N₁ : News base env.locals h₃ (own' ++ news') := by
        intro p hp
        rcases List.mem_append.mp hp with hp | hp
        · refine ⟨ho₁ p hp, hnot p.1 ?_⟩
          rw [← hoa']; exact List.mem_map_of_mem hp
        · have z := N' p (List.mem_append_right _ hp)
          exact ⟨hk₁ _ _ (aw p hp) z.1, z.2⟩
      refine wpAny_assign_Tuple hh hT rfl rfl fun h₄ hx₄ => ?_
      have k₄ : Keep h₃ h₄ := fun b o e => hx₄ b o (Nat.ne_of_lt (Heap.lt_size e)) e
      have F₄ := Fr.kept F₁ k₄
      have N₄ := News.kept N₁ k₄
      refine wpAny_assignInOrder_more (wpAny_assign_Name (wpAny_storeName_local hx1 F₄.ns (fun h₅ hn₅ hs₅ => ?_) hp))
      have F₅ := F₄.set hn₅ hs₅
      have N₅ := N₄.set hs₅
      refine wpAny_assignInOrder_more (wpAny_assign_Name (wpAny_storeName_local hx2 F₅.ns (fun h₆ hn₆ hs₆ => ?_) hp))
      refine wpAny_assignInOrder_none ?_
      refine wpAny_mono (turn i v1 v2 m' news' own' h₆ _ hlt hP hJ hI₁ (F₅.set hn₆ hs₆) (N₅.set hs₆) aw) (fun f s₂ hf => ?_) (fun _ _ x => x.elim)
      cases f with
      | next => obtain ⟨h', tk', m'', news'', rfl, F2, N2, aw2, hJ2⟩ := hf.out; exact ⟨n + 1 - (i + 1), by omega, h', tk', m'', news'', own', i + 1, rfl, hlt, rfl, hJ2, hI₁, F2, N2, aw2⟩
      | cont => obtain ⟨h', tk', m'', news'', rfl, F2, N2, aw2, hJ2⟩ := hf.out; exact ⟨n + 1 - (i + 1), by omega, h', tk', m'', news'', own', i + 1, rfl, hlt, rfl, hJ2, hI₁, F2, N2, aw2⟩
      | brk => exact hf
      | ret v => exact hf
  · have hin : i = n := by omega
    subst hin
    refine fin _ own _ _ hI hgo hsrc fun h₁ hk₁ => ?_
    refine wpAny_mono (done m' news' h₁ tk hJ ?_ ?_) (fun _ _ x => x) fun _ _ x => x.elim
    · obtain ⟨oL, es, ep, hL, r⟩ := F'.ns
      exact ⟨⟨oL, es, ep, hk₁ _ _ (fun z => (hnot _ z).1 rfl) hL, r⟩, fun b ob e => hk₁ b ob (fun z => by have := (hnot _ z).2; rw [e] at this; cases this) (F'.keep b ob e), F'.above⟩
    · intro p hp
      have z := N' p (List.mem_append_right _ hp)
      exact ⟨hk₁ _ _ (aw p hp) z.1, z.2⟩

theorem letGo_tupleiter {prog : Program} {w : World} {A : Around} {E : Value → Shared → Prop} {s : Shared} {elts : List Expr} {x1} {pos : Pos} {I l T : Addr} {i : Nat} {Q : Unit → Shared → Prop} (hit : s.heap.IsTupleIter I l i) (hQ : Q () s) :
    wpAny (model prog w) A (letOwnedTupleGo (.Tuple elts x1 pos) (.ref I) (.ref T)) Q E s := by
  obtain ⟨o, ho, hc, hd⟩ := hit
  unfold letOwnedTupleGo
  refine wpAny_bind (wpAny_load ho ?_)
  rw [hc, hd]
  exact wpAny_of_eq (a := ()) (by rfl) hQ

/-- for x1, x2 in a tuple of pairs that the base holds -/
theorem loopPairs {prog : Program} {w : World} {A : Around} {env : Env} {base : Heap} {x1 x2 : Str} {p1 p2 pt : Pos} {kk : Nat} {body orelse : List Stmt} {Q : Flow → Shared → Prop} {E : Value → Shared → Prop} {s : Shared} {l : Addr} (items : List (Addr × Value × Value))
    (J : Nat → (Str → Option Value) → List (Addr × Obj) → Prop) {m : Str → Option Value} {news : List (Addr × Obj)}
    (hh : A.handled = none) (hx1 : env.kindOf x1 = some .local) (hx2 : env.kindOf x2 = some .local) (hp : (env.scope.kind == .class || (env.scope.kind == .module && env.locals != env.globals)) = false)
    (hl : base.IsTuple l (items.map fun q => Value.ref q.1).toArray) (hq : ∀ q ∈ items, base.IsTuple q.1 #[q.2.1, q.2.2])
    (F : Fr base env.locals s.heap m) (N : News base env.locals s.heap news) (h0 : J 0 m news)
    (turn : ∀ i v1 v2 pa m' news' it o h tk, items[i]? = some (pa, v1, v2) → J i m' news' → Fr base env.locals h (fun y => if y = x2 then some v2 else if y = x1 then some v1 else m' y) → News base env.locals h ((it, o) :: news') → (∀ p ∈ news', p.1 ≠ it) →
      wpAny (model prog w) A (execs body env) (fun f s₂ => match f with
        | .next | .cont => Box (∃ h' tk' m'' news'', s₂ = { s with heap := h', toks := tk' } ∧ Fr base env.locals h' m'' ∧ News base env.locals h' ((it, o) :: news'') ∧ (∀ p ∈ news'', p.1 ≠ it) ∧ J (i + 1) m'' news'')
        | .brk => Q .next s₂
        | .ret v => Q (.ret v) s₂) NoE { s with heap := h, toks := tk })
    (done : ∀ m' news' h tk, J items.length m' news' → Fr base env.locals h m' → News base env.locals h news' → wpAny (model prog w) A (execs orelse env) Q NoE { s with heap := h, toks := tk }) :
    wpAny (model prog w) A (pyIter (.ref l)) (fun it s₂ => codeAny (model prog w) A (.forLoop (.Tuple [.Name x1 p1, .Name x2 p2] kk pt) it body orelse env) (fun r s' => match r with | .ok f => Q f s' | .error e => cameBackBy (model prog w) A env E e s') s₂) E s := by
  have keepT : ∀ {h m'}, Fr base env.locals h m' → h.IsTuple l (items.map fun q => Value.ref q.1).toArray ∧ ∀ q ∈ items, h.IsTuple q.1 #[q.2.1, q.2.2] := fun F => ⟨Keep.isTuple F.keep hl, fun q hq' => Keep.isTuple F.keep (hq q hq')⟩
  refine wpAny_pyIter_tuple (keepT F).1 ?_
  have N' := News.push F N { cls := .type "tuple_iterator", data := .fields #[.ref l, .int 0 0] }
  refine forPair (s := { s with heap := s.heap.push { cls := .type "tuple_iterator", data := .fields #[.ref l, .int 0 0] } }) (base := base) items.length [s.heap.objs.size] (fun i own => ∃ o, own = [(s.heap.objs.size, o)] ∧ o.cls = .type "tuple_iterator" ∧ o.data = .fields #[.ref l, .int i 0])
    (fun i v1 v2 => ∃ pa, items[i]? = some (pa, v1, v2)) (fun h => h.IsTuple l (items.map fun q => Value.ref q.1).toArray ∧ ∀ q ∈ items, h.IsTuple q.1 #[q.2.1, q.2.2]) J hh hx1 hx2 hp ?_ ?_ ?_ ?_ ?_ (F.push _) (own₀ := [_]) N' ⟨_, rfl, rfl, rfl⟩ h0 ?_ ?_
  · rintro i own ⟨o, rfl, _, _⟩; rfl
  · rintro i s₁ own Q Q' E hi ⟨o, rfl, hc, hd⟩ hgo hs hQ
    have ho := hgo _ (.head _)
    have hv : ((items.map fun q => Value.ref q.1).toArray)[i]? = some (.ref items[i].1) := by simp [hi]
    refine wpAny_pyNext_tuple_item ⟨o, ho, hc, hd⟩ hs.1 hv fun h' hit hsb => ?_
    refine letGo_tupleiter hit ?_
    have hin : items[i] ∈ items := List.getElem_mem hi
    have hne : items[i].1 ≠ s.heap.objs.size := by
      intro z
      obtain ⟨ob, hob, hobc, _⟩ := hs.2 _ hin
      rw [z, ho] at hob
      cases hob
      rw [hc] at hobc
      exact absurd (Value.type.inj hobc) (by decide)
    have hT : h'.IsTuple items[i].1 #[items[i].2.1, items[i].2.2] := (hs.2 _ hin).extBut hsb.extBut hne
    obtain ⟨o', ho', hc', hd'⟩ := hit
    refine ⟨items[i].1, items[i].2.1, items[i].2.2, rfl, hT, hQ _ _ _ h' [(s.heap.objs.size, o')] s₁.toks ⟨items[i].1, by simp [hi]⟩ ⟨o', rfl, hc', hd'⟩ (fun p hp => by rw [List.mem_singleton.mp hp]; exact ho') hT fun b o hb e => hsb.extBut b o (fun z => hb (by rw [z]; exact .head _)) e⟩
  · rintro s₁ own Q E ⟨o, rfl, hc, hd⟩ hgo hs hQ
    refine wpAny_pyNext_tuple_end hh ⟨o, hgo _ (.head _), hc, hd⟩ hs.1 (by simp) fun h' hx => hQ h' fun b o hb e => hx b o (fun z => hb (by rw [z]; exact .head _)) e
  · intro i h m' news' _ _ F' _
    exact keepT F'
  · intro p hp hm
    exact away_of N p hp (List.mem_singleton.mp hm)
  · rintro i v1 v2 m' news' own h tk hi ⟨pa, hpa⟩ hJ ⟨o, rfl, hc, hd⟩ F' N' aw
    refine wpAny_mono (turn i v1 v2 pa m' news' _ o h tk hpa hJ F' N' fun p hp z => aw p hp (by rw [z]; exact .head _)) (fun f s₂ hf => ?_) fun _ _ x => x
    cases f with
    | next => obtain ⟨h', tk', m'', news'', rfl, F2, N2, aw2, hJ2⟩ := hf.out; exact ⟨h', tk', m'', news'', rfl, F2, N2, fun p hp z => aw2 p hp (List.mem_singleton.mp z), hJ2⟩
    | cont => obtain ⟨h', tk', m'', news'', rfl, F2, N2, aw2, hJ2⟩ := hf.out; exact ⟨h', tk', m'', news'', rfl, F2, N2, fun p hp z => aw2 p hp (List.mem_singleton.mp z), hJ2⟩
    | brk => exact hf
    | ret v => exact hf
  · intro m' news' h tk hJ F' N'
    exact done m' news' h tk hJ F' N'

theorem nextOf_tuple_item {prog : Program} {w : World} {A : Around} {E : Value → Shared → Prop} {s : Shared} {it t : Addr} {i : Nat} {items} {x : Value} {Q : Value → Shared → Prop} (hit : s.heap.IsTupleIter it t i)
    (ht : s.heap.IsTuple t items) (hx : items[i]? = some x)
    (hQ : ∀ h', h'.IsTupleIter it t (i + 1) → Heap.SameBut it s.heap h' → Q x { s with heap := h' }) :
    wpAny (model prog w) A (Builtin.SmallTypes.nextOf (.ref it)) Q E s := by
  obtain ⟨o, ho, hc, hd⟩ := id hit
  obtain ⟨ol, hol, _, nl, hdl⟩ := ht
  unfold Builtin.SmallTypes.nextOf
  refine wpAny_bind (wpAny_callSpecial?_slot (name := Str.ofString "__next__") hit.typeIs F.slot_tuple_iterator_next
    (wpAny_call_entry F.slot_tuple_iterator_next hit.typeIs F.entry_tuple_iterator_next ?_ (F.args_tuple_iterator_next_1 _)))
  show wpAny _ _ (field (.ref it) 0 >>= _) _ _ s
  refine wpAny_bind (wpAny_field ho hd (x := .ref t) rfl ?_)
  show wpAny _ _ (if (Value.ref t == Value.none) = true then _ else _) _ _ s
  rw [if_neg (show ¬ ((Value.ref t == Value.none) = true) from Bool.false_ne_true)]
  show wpAny _ _ (field (.ref it) 1 >>= _) _ _ s
  refine wpAny_bind (wpAny_field ho hd (x := .int i 0) rfl ?_)
  show wpAny _ _ (seqItems? (.ref t) >>= _) _ _ s
  refine wpAny_bind (wpAny_seqItems hol hdl ?_)
  simp only [Int.toNat_natCast, hx]
  refine wpAny_bind (wpAny_setField ho hd (by simp) (wpAny_pure ⟨x, rfl, wpAny_pure (hQ _ ?_ (Heap.SameBut.update ..))⟩))
  exact ⟨_, Heap.get?_update_self _ ho (Obj.isFreed_of_fields (Obj.data_mapFields hd _)), (Obj.cls_mapFields ..).trans hc, by
    rw [Obj.data_mapFields hd]; simp [rawInt]⟩
theorem nextOf_tuple_end {prog : Program} {w : World} {A : Around} {E : Value → Shared → Prop} {s : Shared} {it t : Addr} {i : Nat} {items} {Q : Value → Shared → Prop} (hh : A.handled = none) (hit : s.heap.IsTupleIter it t i)
    (ht : s.heap.IsTuple t items) (hx : items[i]? = none)
    (hE : ∀ h' e, Heap.ExtBut it s.heap h' → (∃ o, h'.get? e = some o ∧ o.cls = .type "StopIteration") → E (.ref e) { s with heap := h' }) :
    wpAny (model prog w) A (Builtin.SmallTypes.nextOf (.ref it)) Q E s := by
  obtain ⟨o, ho, hc, hd⟩ := id hit
  obtain ⟨ol, hol, _, nl, hdl⟩ := ht
  unfold Builtin.SmallTypes.nextOf
  refine wpAny_bind (wpAny_callSpecial?_slot (name := Str.ofString "__next__") hit.typeIs F.slot_tuple_iterator_next
    (wpAny_call_entry F.slot_tuple_iterator_next hit.typeIs F.entry_tuple_iterator_next ?_ (F.args_tuple_iterator_next_1 _)))
  show wpAny _ _ (field (.ref it) 0 >>= _) _ _ s
  refine wpAny_bind (wpAny_field ho hd (x := .ref t) rfl ?_)
  show wpAny _ _ (if (Value.ref t == Value.none) = true then _ else _) _ _ s
  rw [if_neg (show ¬ ((Value.ref t == Value.none) = true) from Bool.false_ne_true)]
  show wpAny _ _ (field (.ref it) 1 >>= _) _ _ s
  refine wpAny_bind (wpAny_field ho hd (x := .int i 0) rfl ?_)
  show wpAny _ _ (seqItems? (.ref t) >>= _) _ _ s
  refine wpAny_bind (wpAny_seqItems hol hdl ?_)
  simp only [Int.toNat_natCast, hx]
  refine wpAny_bind (wpAny_rule (wpAny_bind (wpAny_setField ho hd (by simp) ?_)))
  show wpAny _ _ (newExc (.type "StopIteration") [] >>= _) _ _ _
  refine wpAny_bind ?_
  simp only [newExc, newTuple]
  refine wpAny_bind (wpAny_newObj_type ?_ (by size_fits))
  refine wpAny_bind (m := firstArgMember _ _) (wpAny_of_eq (a := Value.none) (by first | rfl | (simp only [firstArgMember]; rfl)) ?_)
  refine wpAny_newObj_type ?_ (by size_fits)
  simp only [raiseNew]
  refine wpAny_bind (wpAny_handled ?_)
  first | rw [show A.in1.handled = none from hh] | rw [hh]
  refine wpAny_bind (wpAny_pure (wpAny_throw ?_))
  exact hE _ _ (((Heap.SameBut.update ..).extBut.push _).push _) ⟨_, Heap.get?_push_size _ rfl, rfl⟩
theorem drawsTuple {prog : Program} {w : World} {A : Around} (hh : A.handled = none) (it l : Addr) (hne : l ≠ it) (items : Array Value) :
    Draws prog w A it [it, l] items.size (fun i v => items[i]? = some v) (fun i h => h.IsTupleIter it l i ∧ h.IsTuple l items) where
  live := fun _ _ st => let ⟨o, ho, _⟩ := st.1; ⟨o, ho⟩
  frame := fun _ _ _ st hk => ⟨let ⟨o, ho, r⟩ := st.1; ⟨o, hk it (by simp) o ho, r⟩, let ⟨o, ho, r⟩ := st.2; ⟨o, hk l (by simp) o ho, r⟩⟩
  item := fun i s Q E hi st hQ => by
    refine nextOf_tuple_item st.1 st.2 (x := items[i]) (by simp [hi]) fun h' hit' hs' => ?_
    exact hQ _ h' s.toks (by simp [hi]) ⟨hit', st.2.extBut hs'.extBut hne⟩ hs'
  done := fun s Q E st hE => nextOf_tuple_end hh st.1 st.2 (by simp) hE
open AutoSeq1 (wpAny_loadPart') in
theorem meets_enumT (l : Addr) (items : Array Value) (n : Nat) (dct : Option Addr) (sl : Array (Option Value)) :
    Meets (Builtin.«enumerate.__new__» ⟨[.type "enumerate", .ref l], []⟩) (fun _ R s => s.heap.get? l = some { cls := .type "tuple", dict := dct, data := .seq items n, slots := sl } ∧
      R (.ok (.ret (.ref (s.heap.push { cls := .type "tuple_iterator", data := .fields #[.ref l, .int 0 0] }).objs.size)))
        { s with heap := (s.heap.push { cls := .type "tuple_iterator", data := .fields #[.ref l, .int 0 0] }).push { cls := .type "enumerate", data := .fields #[.none, .bool false, .ref s.heap.objs.size, rawInt 0, .none, .none] } }) :=
  .of_wp fun prog w A R s h => by
    obtain ⟨hp, g, d, tk, os⟩ := s; obtain ⟨hl, h⟩ := h
    have hsub := sub_enumerate
    have hL : Heap.IsTuple (Shared.heap ⟨hp, g, d, tk, os⟩) l items := ⟨_, hl, rfl, n, rfl⟩
    wp_walk using wpAny_loadPart' hl
    refine wpAny_stack_any fun st => wpAny_pure ?_
    split
    · rename_i c _ _ _ _ _
      cases (c == Value.type "enumerate")
      · wp_walk using wpAny_loadPart' hl, wpAny_pyIter_tuple hL
        exact ⟨_, rfl, h⟩
      · wp_walk using wpAny_loadPart' hl, wpAny_pyIter_tuple hL
        exact ⟨_, rfl, h⟩
    · wp_walk using wpAny_loadPart' hl, wpAny_pyIter_tuple hL
      exact ⟨_, rfl, h⟩
theorem call_enumT {prog : Program} {w : World} {A : Around} {E : Value → Shared → Prop} {s : Shared} {l : Addr} {items : Array Value} {Q : Value → Shared → Prop} (hL : s.heap.IsTuple l items)
    (h : Q (.ref (s.heap.objs.size + 1)) { s with heap := (s.heap.push { cls := .type "tuple_iterator", data := .fields #[.ref l, .int 0 0] }).push { cls := .type "enumerate", data := .fields #[.none, .bool false, .ref s.heap.objs.size, rawInt 0, .none, .none] } }) :
    wpAny (model prog w) A (call (.type "enumerate") [.ref l]) Q E s := by
  obtain ⟨⟨c, dct, dt, sl⟩, hl, hc, n, hd⟩ := hL
  replace hc : c = .type "tuple" := hc
  replace hd : dt = .seq items n := hd
  subst hc hd
  refine callType_new F.called_enumerate (by decide) (F.typeCall_enumerate_1 _) (F.newCall_enumerate_1 _) (fun obj => F.args_object_init_2 obj _) F.entry_enumerate_new
    (meets_enumT l items n dct sl) ⟨hl, ?_⟩
  have hz : (s.heap.push { cls := .type "tuple_iterator", data := .fields #[.ref l, .int 0 0] }).objs.size = s.heap.objs.size + 1 := Heap.size_push ..
  show _ ∧ _
  rw [hz]
  have he := Heap.get?_push_size (s.heap.push { cls := .type "tuple_iterator", data := .fields #[.ref l, .int 0 0] })
      (o := { cls := .type "enumerate", data := .fields #[.none, .bool false, .ref s.heap.objs.size, rawInt 0, .none, .none] }) rfl
  rw [hz] at he
  exact ⟨⟨_, he, rfl⟩, h⟩
/-- for i, x in enumerate(a tuple that the base holds) -/
theorem loopEnumT {prog : Program} {w : World} {A : Around} {env : Env} {base : Heap} {x1 x2 : Str} {p1 p2 pt : Pos} {kk : Nat} {body orelse : List Stmt} {Q : Flow → Shared → Prop} {E : Value → Shared → Prop} {s : Shared} {l : Addr} (items : List Value)
    (J : Nat → (Str → Option Value) → List (Addr × Obj) → Prop) {m : Str → Option Value} {news : List (Addr × Obj)}
    (hh : A.handled = none) (hx1 : env.kindOf x1 = some .local) (hx2 : env.kindOf x2 = some .local) (hp : (env.scope.kind == .class || (env.scope.kind == .module && env.locals != env.globals)) = false)
    (hl : base.IsTuple l items.toArray)
    (F : Fr base env.locals s.heap m) (N : News base env.locals s.heap news) (h0 : J 0 m news)
    (turn : ∀ (i : Nat) v2 t1 m' news' e it oe oi h tk, items[i]? = some v2 → J i m' news' → Fr base env.locals h (fun y => if y = x2 then some v2 else if y = x1 then some (.int i t1) else m' y) → News base env.locals h ((e, oe) :: (it, oi) :: news') → (∀ p ∈ news', p.1 ≠ e ∧ p.1 ≠ it) → e ≠ it →
      wpAny (model prog w) A (execs body env) (fun f s₂ => match f with
        | .next | .cont => Box (∃ h' tk' m'' news'', s₂ = { s with heap := h', toks := tk' } ∧ Fr base env.locals h' m'' ∧ News base env.locals h' ((e, oe) :: (it, oi) :: news'') ∧ (∀ p ∈ news'', p.1 ≠ e ∧ p.1 ≠ it) ∧ J (i + 1) m'' news'')
        | .brk => Q .next s₂
        | .ret v => Q (.ret v) s₂) NoE { s with heap := h, toks := tk })
    (done : ∀ m' news' h tk, J items.length m' news' → Fr base env.locals h m' → News base env.locals h news' → wpAny (model prog w) A (execs orelse env) Q NoE { s with heap := h, toks := tk }) :
    wpAny (model prog w) A (call (.type "enumerate") [.ref l]) (fun x s₁ => wpAny (model prog w) A (pyIter x) (fun it s₂ => codeAny (model prog w) A (.forLoop (.Tuple [.Name x1 p1, .Name x2 p2] kk pt) it body orelse env) (fun r s' => match r with | .ok f => Q f s' | .error e => cameBackBy (model prog w) A env E e s') s₂) E s₁) E s := by
  refine call_enumT (Keep.isTuple F.keep hl) ?_
  have hz : (s.heap.push { cls := .type "tuple_iterator", data := .fields #[.ref l, .int 0 0] }).objs.size = s.heap.objs.size + 1 := Heap.size_push ..
  have N1 := News.push F N { cls := .type "tuple_iterator", data := .fields #[.ref l, .int 0 0] }
  have N2 := News.push (F.push _) N1 { cls := .type "enumerate", data := .fields #[.none, .bool false, .ref s.heap.objs.size, rawInt 0, .none, .none] }
  rw [hz] at N2
  have hlne : l ≠ s.heap.objs.size := by
    obtain ⟨o, ho, _⟩ := Keep.isTuple F.keep hl
    exact Nat.ne_of_lt (Heap.lt_size ho)
  have hlt : l < s.heap.objs.size := by
    obtain ⟨o, ho, _⟩ := Keep.isTuple F.keep hl
    exact Heap.lt_size ho
  refine wpAny_pyIter_enum (it := s.heap.objs.size) (i := 0) (old := .none) (N2 _ (.head _)).1 ?_
  refine forPair (s := { s with heap := (s.heap.push { cls := .type "tuple_iterator", data := .fields #[.ref l, .int 0 0] }).push { cls := .type "enumerate", data := .fields #[.none, .bool false, .ref s.heap.objs.size, rawInt 0, .none, .none] } }) (base := base) items.length [s.heap.objs.size + 1, s.heap.objs.size]
    (fun i own => ∃ oi old, own = [(s.heap.objs.size + 1, { cls := .type "enumerate", dict := none, data := .fields #[.none, .bool false, .ref s.heap.objs.size, rawInt i, .none, old], slots := #[] }), (s.heap.objs.size, oi)] ∧ oi.cls = .type "tuple_iterator" ∧ oi.data = .fields #[.ref l, .int i 0])
    (fun i v1 v2 => items[i]? = some v2 ∧ ∃ t, v1 = .int i t) (fun h => h.IsTuple l items.toArray) J hh hx1 hx2 hp ?_ ?_ ?_ ?_ ?_ ((F.push _).push _) (own₀ := [_, _]) N2 ⟨_, .none, rfl, rfl, rfl⟩ h0 ?_ ?_
  · rintro i own ⟨oi, old, rfl, _, _⟩; rfl
  · rintro i s₁ own Q Q' E hi ⟨oi, old, rfl, hc, hd⟩ hgo hs hQ
    have hoe := hgo _ (.head _)
    have hoi := hgo _ (.tail _ (.head _))
    refine wpAny_pyNext_enum_itemD (drawsTuple (A := A.in1) hh s.heap.objs.size l hlne items.toArray) hoe ⟨⟨oi, hoi, hc, hd⟩, hs⟩ (by simpa using hi) (Nat.succ_ne_self _) (fun hm => by
      rcases List.mem_cons.mp hm with z | z
      · exact Nat.succ_ne_self _ z
      · exact Nat.ne_of_gt (Nat.lt_succ_of_lt hlt) (List.mem_singleton.mp z)) fun x h' tk hP ho hs' hT hsz hk => ?_
    refine wpAny_letOwnedTupleGo_enum ho fun h₂ he₂ hs₂ => ?_
    replace hs₂ : Heap.SameBut (s.heap.objs.size + 1) h' h₂ := hs₂
    have hlt₁ : s.heap.objs.size + 1 < s₁.heap.objs.size := Heap.lt_size hoe
    have hT₂ : h₂.IsTuple s₁.heap.objs.size #[.int i tk, x] := ⟨_, (hs₂.2 _ (Nat.ne_of_gt hlt₁)).trans hT, rfl, _, rfl⟩
    have hit₂ : h₂.IsTupleIter s.heap.objs.size l (i + 1) := hs'.1.extBut hs₂.extBut (Nat.ne_of_lt (Nat.lt_succ_self _))
    obtain ⟨oi', hoi', hc', hd'⟩ := hit₂
    refine ⟨_, _, _, rfl, hT₂, hQ _ _ _ h₂ [(s.heap.objs.size + 1, _), (s.heap.objs.size, oi')] _ ⟨by simpa using hP, tk, rfl⟩ ⟨oi', x, rfl, hc', hd'⟩ (fun p hp => ?_) hT₂ fun b o hb e => ?_⟩
    · rcases List.mem_cons.mp hp with rfl | hp
      · exact he₂
      · rw [List.mem_singleton.mp hp]; exact hoi'
    · exact hs₂.extBut b o (fun z => hb (by rw [z]; exact .head _)) (hk b o (fun z => hb (by rw [z]; exact .head _)) (fun z => hb (by rw [z]; exact .tail _ (.head _))) e)
  · rintro s₁ own Q E ⟨oi, old, rfl, hc, hd⟩ hgo hs hQ
    have hoe := hgo _ (.head _)
    have hoi := hgo _ (.tail _ (.head _))
    refine wpAny_pyNext_enum_endD (drawsTuple (A := A.in1) hh s.heap.objs.size l hlne items.toArray) hoe ⟨⟨oi, hoi, hc, by simpa using hd⟩, hs⟩ fun h' hx => hQ h' fun b o hb e => hx b o (fun z => hb (by rw [z]; exact .tail _ (.head _))) e
  · intro i h m' news' _ _ F' _
    exact Keep.isTuple F'.keep hl
  · intro p hp hm
    have := Heap.lt_size (N p hp).1
    rcases List.mem_cons.mp hm with z | hm
    · exact Nat.ne_of_lt (Nat.lt_succ_of_lt this) z
    · exact Nat.ne_of_lt this (List.mem_singleton.mp hm)
  · rintro i v1 v2 m' news' own h tk hi ⟨hv, t, rfl⟩ hJ ⟨oi, old, rfl, hc, hd⟩ F' N' aw
    refine wpAny_mono (turn i v2 t m' news' _ _ _ oi h tk hv hJ F' N' (fun p hp => ⟨fun z => aw p hp (by rw [z]; exact .head _), fun z => aw p hp (by rw [z]; exact .tail _ (.head _))⟩) (Nat.succ_ne_self _)) (fun f s₂ hf => ?_) fun _ _ x => x
    cases f with
    | next =>
      obtain ⟨h', tk', m'', news'', rfl, F2, N2, aw2, hJ2⟩ := hf.out
      refine ⟨h', tk', m'', news'', rfl, F2, N2, fun p hp z => ?_, hJ2⟩
      rcases List.mem_cons.mp z with z | z
      · exact (aw2 p hp).1 z
      · exact (aw2 p hp).2 (List.mem_singleton.mp z)
    | cont =>
      obtain ⟨h', tk', m'', news'', rfl, F2, N2, aw2, hJ2⟩ := hf.out
      refine ⟨h', tk', m'', news'', rfl, F2, N2, fun p hp z => ?_, hJ2⟩
      rcases List.mem_cons.mp z with z | z
      · exact (aw2 p hp).1 z
      · exact (aw2 p hp).2 (List.mem_singleton.mp z)
    | brk => exact hf
    | ret v => exact hf
  · intro m' news' h tk hJ F' N'
    exact done m' news' h tk hJ F' N'
end Mine
namespace Mine

theorem ifmt_spec {w : World} {p loose mean mg mb} {A : Around} {s : Shared} {R : Result → Shared → Prop} {mode : Int} {tk : Tok}
   (hr : A.depth + 3 < recursionLimit)
   (hret : ∀ t h' tk', Keep s.heap h' → R (.ok (.ret (.int (Builtin.bitAnd mode 61440) t))) { s with heap := h', toks := tk' })
   (X : (hd.heap_39 w.params).In s.heap) (T : Top p loose mean mg mb s.heap) :
   codeAny (model PySem.Challenge.rw_om0026_01.row.prog w) A (.call (.ref 30) ⟨[.int mode tk], []⟩) R s := by
  w_on
  revert X T; k_fill; intro X T
  refine' enterF (binds := [(Str.ofString "mode", Value.int mode tk)]) X T.nolimit ?ho ?hcd ?hroom ?hbind ?hloc ?h ?c1 ?c2 ?c3 ?c4
  case ho => k_is
  case hcd => k_is
  case hroom => omega
  case hbind => exact BindsTo.of_eq rfl
  case c4 => decide
  case hloc => exact locs rfl
  case c1 => exact rfl
  case c2 => exact rfl
  case c3 => exact rfl
  intro L' h' F' N'

  try dsimp only
  k_steps
  exact hret _ _ _ F'.keep
def fmP : List (List (Int × Nat)) := [[(40960, 108), (49152, 115), (32768, 45), (24576, 98), (16384, 100), (8192, 99), (4096, 112)], [(256, 114)], [(128, 119)], [(2112, 115), (2048, 83), (64, 120)], [(32, 114)], [(16, 119)], [(1032, 115), (1024, 83), (8, 120)], [(4, 114)], [(2, 119)], [(513, 116), (512, 84), (1, 120)]]
def PairAt (h : Heap) (v : Value) (q : Int × Nat) : Prop := ∃ a t1 t2, v = .ref a ∧ h.IsTuple a #[.int q.1 t1, .str ⟨#[q.2]⟩ t2]
inductive All2 {α β : Type} (R : α → β → Prop) : List α → List β → Prop
  | nil : All2 R [] []
  | cons {a b l m} : R a b → All2 R l m → All2 R (a :: l) (b :: m)
def RowAt (h : Heap) (v : Value) (r : List (Int × Nat)) : Prop := ∃ a vs, v = .ref a ∧ h.IsTuple a vs.toArray ∧ All2 (PairAt h) vs r
theorem pair_at {w : World} {h : Heap} (X : (hd.heap_39 w.params).In h) {a : Addr} {q : Int × Nat} {t1 t2 : Tok} {n : Nat} (e : (hd.heap_39 w.params).lookup a = some { cls := .type "tuple", data := .seq #[.int q.1 t1, .str ⟨#[q.2]⟩ t2] n }) : PairAt h (.ref a) q :=
  ⟨a, t1, t2, rfl, _, X _ _ e, rfl, _, rfl⟩
theorem row_at {w : World} {h : Heap} (X : (hd.heap_39 w.params).In h) {a : Addr} {vs : List Value} {r : List (Int × Nat)} {n : Nat} (e : (hd.heap_39 w.params).lookup a = some { cls := .type "tuple", data := .seq vs.toArray n }) (hp : All2 (PairAt h) vs r) : RowAt h (.ref a) r :=
  ⟨a, vs, rfl, ⟨_, X _ _ e, rfl, _, rfl⟩, hp⟩
theorem fm_table {w : World} {h : Heap} (X : (hd.heap_39 w.params).In h) : ∃ vs, h.IsTuple 63 vs.toArray ∧ All2 (RowAt h) vs fmP := by
  revert X; k_fill; intro X
  refine ⟨_, ⟨_, X 63 _ (by k_is), rfl, _, rfl⟩, ?_⟩
  unfold fmP
  repeat' (first | exact All2.nil | (refine All2.cons (row_at X (by k_is) ?_) ?_) | (refine All2.cons (pair_at X (by k_is)) ?_))
end Mine
namespace Mine

def svals (cs : List (Nat × Tok)) : List Value := cs.map fun p => .str ⟨#[p.1]⟩ p.2
def fmCond (idx mode bit : Int) : Bool := if idx = 0 then Builtin.bitAnd mode 61440 == bit else Builtin.bitAnd mode bit == bit
def fmChar (idx mode : Int) (r : List (Int × Nat)) : Nat := match r.find? (fun q => fmCond idx mode q.1) with
  | some q => q.2
  | none => if idx = 0 then 63 else 45
def fmChars (mode : Int) : Nat → List (List (Int × Nat)) → List Nat
  | _, [] => []
  | i, r :: rs => fmChar i mode r :: fmChars mode (i + 1) rs
theorem All2.get {α β : Type} {R : α → β → Prop} {l : List α} {m : List β} (h : All2 R l m) : ∀ {i : Nat} {a : α}, l[i]? = some a → ∃ b, m[i]? = some b ∧ R a b := by
  induction h with
  | nil => intro i a e; simp at e
  | cons hr _ ih =>
    intro i a e
    cases i with
    | zero => simp at e; exact ⟨_, rfl, e ▸ hr⟩
    | succ i => simp at e; simpa using ih e
theorem All2.length {α β : Type} {R : α → β → Prop} {l : List α} {m : List β} (h : All2 R l m) : l.length = m.length := by
  induction h with
  | nil => rfl
  | cons _ _ ih => simp [ih]
theorem row_items {h : Heap} {vs : List Value} {r : List (Int × Nat)} (H : All2 (PairAt h) vs r) : ∃ items : List (Addr × Value × Value), vs = items.map (fun q => Value.ref q.1) ∧ (∀ q ∈ items, h.IsTuple q.1 #[q.2.1, q.2.2]) ∧ items.length = r.length ∧
    ∀ (i : Nat) (pa : Addr) (v1 v2 : Value), items[i]? = some (pa, v1, v2) → ∃ (q : Int × Nat) (t1 t2 : Tok), r[i]? = some q ∧ v1 = Value.int q.1 t1 ∧ v2 = Value.str ⟨#[q.2]⟩ t2 := by
  induction H with
  | nil => exact ⟨[], rfl, (fun _ h => nomatch h), rfl, fun i pa v1 v2 e => by simp at e⟩
  | @cons v q₀ l m hr _ ih =>
    obtain ⟨items, rfl, h2, h3, h4⟩ := ih
    obtain ⟨a, t1, t2, rfl, ht⟩ := hr
    refine ⟨(a, Value.int q₀.1 t1, Value.str ⟨#[q₀.2]⟩ t2) :: items, rfl, fun q hq => ?_, by simp [h3], fun i pa v1 v2 e => ?_⟩
    · rcases List.mem_cons.mp hq with rfl | hq
      · exact ht
      · exact h2 q hq
    · cases i with
      | zero => simp at e; obtain ⟨_, rfl, rfl⟩ := e; exact ⟨_, t1, t2, rfl, rfl, rfl⟩
      | succ i => simp at e; simpa using h4 i pa v1 v2 e
theorem fmChars_take {mode : Int} : ∀ {rs : List (List (Int × Nat))} {k i : Nat} {r : List (Int × Nat)}, rs[i]? = some r → fmChars mode k (rs.take (i + 1)) = fmChars mode k (rs.take i) ++ [fmChar ((k + i : Nat) : Int) mode r]
  | [], _, _, _, h => by simp at h
  | x :: rs, k, 0, r, h => by
    simp at h; subst h
    simp [fmChars]
  | x :: rs, k, i + 1, r, h => by
    simp at h
    have := fmChars_take (mode := mode) (k := k + 1) h
    simp only [List.take_succ_cons, fmChars, this, List.cons_append]
    rw [show k + 1 + i = k + (i + 1) from by omega]
theorem find_miss {α : Type} {r : List α} {k : Nat} {q : α} {f : α → Bool} (hno : (r.take k).find? f = none) (hk : r[k]? = some q) (hf : f q = false) : (r.take (k + 1)).find? f = none := by
  rw [List.take_add_one, hk, List.find?_append, hno]
  simp [hf]
theorem find_hit {α : Type} {r : List α} {k : Nat} {q : α} {f : α → Bool} (hno : (r.take k).find? f = none) (hk : r[k]? = some q) (hf : f q = true) : r.find? f = some q := by
  obtain ⟨hl, e⟩ := List.getElem?_eq_some_iff.mp hk
  have : r = r.take k ++ q :: r.drop (k + 1) := by
    conv => lhs; rw [← List.take_append_drop k r, List.drop_eq_getElem_cons hl, e]
  rw [this, List.find?_append, hno]
  simp [hf]
theorem fmChars_len {mode : Int} : ∀ (rs : List (List (Int × Nat))) (k : Nat), (fmChars mode k rs).length = rs.length
  | [], _ => rfl
  | _ :: rs, k => by simp [fmChars, fmChars_len rs (k + 1)]
theorem svals_push (cs : List (Nat × Tok)) (c : Nat) (t : Tok) : (svals cs).toArray.push (.str ⟨#[c]⟩ t) = (svals (cs ++ [(c, t)])).toArray := by simp [svals]
theorem svals_are : ∀ (cs : List (Nat × Tok)), StrsAre (svals cs) (cs.map fun p => ⟨#[p.1]⟩)
  | [] => .nil
  | p :: cs => .cons _ _ (svals_are cs)
theorem glue_chars (cs : List Nat) : Builtin.Str.glued (Str.ofString "") (cs.map fun c => ⟨#[c]⟩) = ⟨cs.toArray⟩ := by
  have e : (Str.ofString "").cps = #[] := by decide +kernel
  have key : ∀ (l : List Nat) (a : Array Nat), (l.map fun c => (⟨#[c]⟩ : Str)).foldl (fun acc p => acc ++ (Str.ofString "").cps ++ p.cps) a = a ++ l.toArray := by
    intro l
    induction l with
    | nil => intro a; simp
    | cons c l ih =>
      intro a
      rw [List.map_cons, List.foldl_cons, ih, e]
      simp
  unfold Builtin.Str.glued
  cases cs with
  | nil => rfl
  | cons c cs =>
    rw [List.map_cons, List.drop_succ_cons, List.drop_zero, key]
    simp [List.headD]
theorem join_chars {prog : Program} {w : World} {A : Around} {E : Value → Shared → Prop} {s : Shared} {D : Addr} {cs : List (Nat × Tok)} {t : Tok} {Q : Value → Shared → Prop} (hl : s.heap.IsList D (svals cs).toArray) (hlen : cs.length ≤ 10)
    (h : ∀ t' k, Q (.str ⟨(cs.map (·.1)).toArray⟩ t') { s with toks := k }) : wpAny (model prog w) A (call (.builtin "str.join") [.str (Str.ofString "") t, .ref D]) Q E s := by
  refine join_listC (ys := cs.map fun p => ⟨#[p.1]⟩) hl (svals_are cs) (by decide +kernel) ?_ fun t' k => ?_
  · have : ((cs.map fun p => (⟨#[p.1]⟩ : Str)).map (·.length)).sum = cs.length := by
      clear hl h hlen
      induction cs with
      | nil => rfl
      | cons p cs ih => simp only [List.map_cons, List.sum_cons, ih, List.length_cons]; show 1 + _ = _; omega
    rw [this, List.length_map]; omega
  · have e := glue_chars (cs.map (·.1))
    rw [List.map_map] at e
    have e2 : Txt.join (Str.ofString "") (cs.map fun p => (⟨#[p.1]⟩ : Str)) = ⟨(cs.map (·.1)).toArray⟩ := e
    rw [e2]
    exact h t' k
theorem fm_spec {w : World} {p loose mean mg mb} {A : Around} {s : Shared} {R : Result → Shared → Prop} {mode : Int} {tk : Tok}
   (hr : A.depth + 8 < recursionLimit) (hu : A.units + 60 < cLine) (hh : A.handled = none)
   (hret : ∀ t h' tk', Keep s.heap h' → R (.ok (.ret (.str ⟨(fmChars mode 0 fmP).toArray⟩ t))) { s with heap := h', toks := tk' }) 
   (X : (hd.heap_39 w.params).In s.heap) (T : Top p loose mean mg mb s.heap) :
   codeAny (model PySem.Challenge.rw_om0026_01.row.prog w) A (.call (.ref 70) ⟨[.int mode tk], []⟩) R s := by
  w_on
  revert X T; k_fill; intro X T
  refine' enterF (binds := [(Str.ofString "mode", Value.int mode tk)]) X T.nolimit ?ho ?hcd ?hroom ?hbind ?hloc ?h ?c1 ?c2 ?c3 ?c4
  case ho => k_is
  case hcd => k_is
  case hroom => omega
  case hbind => exact BindsTo.of_eq rfl
  case c4 => decide
  case hloc => exact locs rfl
  case c1 => exact rfl
  case c2 => exact rfl
  case c3 => exact rfl
  intro L' h' F' N'

  obtain ⟨rows, hrows, hall⟩ := fm_table X
  k_with "call ref" => (refine stop ?_)
  k_with "call type:enumerate" => (refine stop ?_)
  refine seqAt 1 (fun s' => ∃ h₁ tk₁ P, s' = { s with heap := h₁, toks := tk₁ } ∧ Fr s.heap L' h₁ (fun y => if y = Str.ofString "perm" then some (Value.ref P) else List.lookup y [(Str.ofString "mode", Value.int mode tk)].reverse) ∧ News s.heap L' h₁ [(P, listOf #[] 0)]) ?_ ?_
  · dsimp only [List.take]
    k_steps
    rename Fr _ _ _ _ => F1
    rename News _ _ _ _ => N1
    exact ⟨rfl, _, _, _, rfl, F1, N1⟩
  rintro s' ⟨h₁, tk₁, P, rfl, F₁, N₁⟩
  dsimp only [List.drop]
  refine wpAny_execs_cons (wpAny_For ?_)
  k_steps
  constructor
  refine loopEnumT (base := s.heap) rows (fun i m news => m (Str.ofString "mode") = some (.int mode tk) ∧ ∃ P n cs, m (Str.ofString "perm") = some (.ref P) ∧ news = [(P, listOf (svals cs).toArray n)] ∧ cs.map (·.1) = fmChars mode 0 (fmP.take i)) hh (by rfl) (by rfl) (by rfl) hrows F₁ N₁ ⟨rfl, P, 0, [], rfl, rfl, rfl⟩ ?_ ?_
  · rintro i v2 t1 m' _ e it oe oi h tk₂ hv ⟨hmm, P, n, cs, hmp, rfl, hcs⟩ F N aw hne
    obtain ⟨r, hri, a, vs, rfl, hat, hpairs⟩ := hall.get hv
    obtain ⟨items, rfl, hq, hlen, hit⟩ := row_items hpairs
    rw [fixm hmm, fixm hmp] at F
    refine wpAny_execs_cons (wpAny_For ?_)
    refine ld F rfl ?_
    have hcl : cs.length ≤ 10 := by
      have h1 := congrArg List.length hcs
      rw [List.length_map, fmChars_len, List.length_take] at h1
      have h2 : fmP.length = 10 := rfl
      omega
    have hsz : (svals cs).toArray.size ≤ sizeLine := by
      have : (svals cs).toArray.size = cs.length := by simp [svals]
      rw [this]; exact Nat.le_trans hcl (by decide)
    have hPe : P ≠ e := (aw _ (.head _)).1
    have hPi : P ≠ it := (aw _ (.head _)).2
    have ended : ∀ (c : Nat) (t : Tok), c = fmChar i mode r → (cs ++ [((c : Nat), (t : Tok))]).map (fun x => x.1) = fmChars mode 0 (fmP.take (i + 1)) := by
      rintro c t rfl
      rw [List.map_append, hcs, fmChars_take hri]
      simp
    refine loopPairs (base := s.heap) items (fun k m news => m (Str.ofString "mode") = some (.int mode tk) ∧ m (Str.ofString "perm") = some (.ref P) ∧ m (Str.ofString "index") = some (.int i t1) ∧ news = [(e, oe), (it, oi), (P, listOf (svals cs).toArray n)] ∧ (r.take k).find? (fun q => fmCond i mode q.1) = none) hh (by rfl) (by rfl) (by rfl) hat hq F N ⟨rfl, rfl, rfl, rfl, rfl⟩ ?_ ?_
    · rintro k v1 v2 pa m₂ _ it₂ o₂ h₂ tk₃ hk ⟨hm1, hm2, hm3, rfl, hno⟩ F₂ N₂ aw₂
      obtain ⟨q, u1, u2, hrk, rfl, rfl⟩ := hit k pa v1 v2 hk
      rw [fixm hm1, fixm hm2, fixm hm3] at F₂
      k_with "call builtin:list.append" => (refine stop ?_)
      have hPt : P ≠ it₂ := aw₂ _ (.tail _ (.tail _ (.head _)))
      k_steps
      · have hi0 : (i : Int) = 0 := by assumption
        have hc0 : fmCond i mode q.1 = (Builtin.bitAnd mode 61440 == q.1) := by unfold fmCond; rw [if_pos hi0]
        constructor
        refine wpAny_call (ifmt_spec (show A.depth + 1 + 3 < recursionLimit by omega) ?_ (Keep.frag F₂.keep X) (T.keeps F₂.keep))
        intro t3 h₃ tk₄ k₃
        have F3 := Fr.kept F₂ k₃
        have N3 := News.kept N₂ k₃
        try dsimp only
        k_steps
        · have hb : Builtin.bitAnd mode 61440 = q.1 := by assumption
          have hch : q.2 = fmChar i mode r := by
            unfold fmChar
            rw [find_hit hno hrk (by show fmCond i mode q.1 = true; rw [hc0, hb]; exact beq_self_eq_true _)]
          constructor
          refine append_K F3 N3 (Upd.tail (Ne.symm hPt) (Upd.tail (Ne.symm hPe) (Upd.tail (Ne.symm hPi) (Upd.head (fun _ h => nomatch h))))) ?_ hsz
          intro h₅ F5 N5
          k_steps
          rw [svals_push] at N5
          exact ⟨_, _, _, [(P, listOf (svals (cs ++ [(q.2, u2)])).toArray (n + 1))], rfl, F5, fun p hp => N5 p (.tail _ hp), (fun p hp => by rw [List.mem_singleton.mp hp]; exact ⟨hPe, hPi⟩), rfl, P, n + 1, _, rfl, rfl, ended _ _ hch⟩
        · have hb : Builtin.bitAnd mode 61440 ≠ q.1 := by assumption
          exact ⟨_, _, _, _, rfl, F3, N3, aw₂, rfl, rfl, rfl, rfl, find_miss hno hrk (by show fmCond i mode q.1 = false; rw [hc0]; exact beq_eq_false_iff_ne.mpr hb)⟩
      · have hi0 : (i : Int) ≠ 0 := by assumption
        have hc0 : fmCond i mode q.1 = (Builtin.bitAnd mode q.1 == q.1) := by unfold fmCond; rw [if_neg hi0]
        have hb : Builtin.bitAnd mode q.1 = q.1 := by assumption
        have hch : q.2 = fmChar i mode r := by
          unfold fmChar
          rw [find_hit hno hrk (by show fmCond i mode q.1 = true; rw [hc0, hb]; exact beq_self_eq_true _)]
        constructor
        refine append_K F₂ N₂ (Upd.tail (Ne.symm hPt) (Upd.tail (Ne.symm hPe) (Upd.tail (Ne.symm hPi) (Upd.head (fun _ h => nomatch h))))) ?_ hsz
        intro h₅ F5 N5
        k_steps
        rw [svals_push] at N5
        exact ⟨_, _, _, [(P, listOf (svals (cs ++ [(q.2, u2)])).toArray (n + 1))], rfl, F5, fun p hp => N5 p (.tail _ hp), (fun p hp => by rw [List.mem_singleton.mp hp]; exact ⟨hPe, hPi⟩), rfl, P, n + 1, _, rfl, rfl, ended _ _ hch⟩
      · have hi0 : (i : Int) ≠ 0 := by assumption
        have hc0 : fmCond i mode q.1 = (Builtin.bitAnd mode q.1 == q.1) := by unfold fmCond; rw [if_neg hi0]
        have hb : Builtin.bitAnd mode q.1 ≠ q.1 := by assumption
        exact ⟨_, _, _, _, rfl, F₂, N₂, aw₂, rfl, rfl, rfl, rfl, find_miss hno hrk (by show fmCond i mode q.1 = false; rw [hc0]; exact beq_eq_false_iff_ne.mpr hb)⟩
    · rintro m₂ _ h₂ tk₃ ⟨hm1, hm2, hm3, rfl, hno⟩ F₂ N₂
      rw [fixm hm1, fixm hm2, fixm hm3] at F₂
      rw [hlen, List.take_length] at hno
      k_with "call builtin:list.append" => (refine stop ?_)
      k_steps
      · have hi0 : (i : Int) = 0 := by assumption
        have hch : 63 = fmChar i mode r := by
          unfold fmChar
          rw [hno]
          exact (if_pos hi0).symm
        constructor
        refine append_K F₂ N₂ (Upd.tail (Ne.symm hPe) (Upd.tail (Ne.symm hPi) (Upd.head (fun _ h => nomatch h)))) ?_ hsz
        intro h₅ F5 N5
        k_steps
        rw [show Str.ofString "?" = ⟨#[63]⟩ from by decide +kernel, svals_push] at N5
        exact ⟨_, _, _, [(P, listOf (svals (cs ++ [(63, _)])).toArray (n + 1))], rfl, F5, N5, (fun p hp => by rw [List.mem_singleton.mp hp]; exact ⟨hPe, hPi⟩), rfl, P, n + 1, _, rfl, rfl, ended _ _ hch⟩
      · have hi0 : (i : Int) ≠ 0 := by assumption
        have hch : 45 = fmChar i mode r := by
          unfold fmChar
          rw [hno]
          exact (if_neg hi0).symm
        constructor
        refine append_K F₂ N₂ (Upd.tail (Ne.symm hPe) (Upd.tail (Ne.symm hPi) (Upd.head (fun _ h => nomatch h)))) ?_ hsz
        intro h₅ F5 N5
        k_steps
        rw [show Str.ofString "-" = ⟨#[45]⟩ from by decide +kernel, svals_push] at N5
        exact ⟨_, _, _, [(P, listOf (svals (cs ++ [(45, _)])).toArray (n + 1))], rfl, F5, N5, (fun p hp => by rw [List.mem_singleton.mp hp]; exact ⟨hPe, hPi⟩), rfl, P, n + 1, _, rfl, rfl, ended _ _ hch⟩
  · rintro m' _ h tk ⟨hmm, P, n, cs, hmp, rfl, hcs⟩ F N
    rw [fixm hmp] at F
    have hrl : rows.length = fmP.length := hall.length
    rw [hrl, List.take_length] at hcs
    have hcl : cs.length ≤ 10 := by
      have h1 := congrArg List.length hcs
      rw [List.length_map, fmChars_len] at h1
      have h2 : fmP.length = 10 := rfl
      omega
    k_with "call builtin:str.join" => (refine stop ?_)
    k_steps
    constructor
    refine join_chars ⟨_, (N _ (.head _)).1, rfl, _, rfl⟩ hcl fun t' k => ?_
    rw [hcs]
    exact hret _ _ _ F.keep
end Mine
namespace Mine
theorem Keep.ns {h h' : Heap} (k : Keep h h') {a m} (x : h.Ns a m) : h'.Ns a m := let ⟨o, es, ep, e, r⟩ := x; ⟨o, es, ep, k _ _ e, r⟩
def testsOf (ifs : List Expr) (env : Env) : Sem Bool := forIn ifs true fun c r => if r = true then do let ok ← isTrue c env (eval c env); pure (ForInStep.yield ok) else pure (ForInStep.yield r)
/-- one turn of a comprehension with one clause -/
theorem compStep1 {prog : Program} {w : World} {A : Around} {R : Result → Shared → Prop} {s : Shared} {elt target iter : Expr} {ifs : List Expr} {scope : Scope} {pos : Pos} {it acc : Value} {env : Env}
    (h : wpAny (model prog w) A (pyNext it) (fun r s₁ => match r with
      | none => R (.ok .next) s₁
      | some v => wpAny (model prog w) A (letOwnedTupleGo target it v) (fun _ s₂ => wpAny (model prog w) A (assign target env v) (fun _ s₃ =>
          wpAny (model prog w) A (testsOf ifs env) (fun ok s₄ =>
            if ok = true then wpAny (model prog w) A (eval elt env) (fun x s₅ =>
              wpAny (model prog w) A (call (.builtin "list.append") [acc, x]) (fun _ s₆ => codeAny (model prog w) A (.compLoop (.ListComp elt [⟨target, iter, ifs, 0⟩] scope pos) 0 it acc env) R s₆) NoE s₅) NoE s₄
            else codeAny (model prog w) A (.compLoop (.ListComp elt [⟨target, iter, ifs, 0⟩] scope pos) 0 it acc env) R s₄) NoE s₃) NoE s₂) NoE s₁) NoE s) :
    codeAny (model prog w) A (.compLoop (.ListComp elt [⟨target, iter, ifs, 0⟩] scope pos) 0 it acc env) R s := by
  refine codeAny_of_tree ?_
  rw [Around.under_of_weight rfl]
  show wpAny _ A ((compTurn (.ListComp elt [⟨target, iter, ifs, 0⟩] scope pos) 0 it acc env).onRaise (fun x => do noteFrame x env; theTreesLotGoes x)) _ _ s
  refine wpAny_noted ?_
  rw [compTurn_list]
  refine wpAny_bind (wpAny_standAt (wpAny_bind (wpAny_mono h (fun r s₁ h₁ => ?_) fun _ _ h' => h'.elim)))
  cases r with
  | none => exact wpAny_pure h₁
  | some v =>
    refine wpAny_bind (wpAny_mono h₁ (fun _ s₂ h₂ => ?_) fun _ _ h' => h'.elim)
    refine wpAny_bind (wpAny_mono h₂ (fun _ s₃ h₃ => wpAny_bind (wpAny_mono h₃ (fun ok s₄ h₄ => ?_) fun _ _ h' => h'.elim)) fun _ _ h' => h'.elim)
    cases ok with
    | false => exact wpAny_pure ⟨rfl, h₄⟩
    | true =>
      exact wpAny_bind (wpAny_bind (wpAny_mono h₄ (fun x s₅ h₅ => wpAny_bind (wpAny_mono h₅ (fun _ s₆ h₆ => wpAny_pure (wpAny_pure ⟨rfl, h₆⟩)) fun _ _ h' => h'.elim)) fun _ _ h' => h'.elim))
theorem compStart1 {prog : Program} {w : World} {A : Around} {R : Result → Shared → Prop} {s : Shared} {elt target iter : Expr} {ifs : List Expr} {rest : List Comprehension} {scope : Scope} {pos : Pos} {I : Addr} {acc : Value} {env : Env}
    (hself : ∀ (Q : Value → Shared → Prop) (E : Value → Shared → Prop), Q (.ref I) s → wpAny (model prog w) A (pyIter (.ref I)) Q E s)
    (h : codeAny (model prog w) A (.compLoop (.ListComp elt (⟨target, iter, ifs, 0⟩ :: rest) scope pos) 0 (.ref I) acc env) R s) :
    codeAny (model prog w) A (.compStart (.ListComp elt (⟨target, iter, ifs, 0⟩ :: rest) scope pos) 0 (.ref I) acc env) R s :=
  codeAny_compStart_list h (hself _ _ h)
/-- a list comprehension's head: its list D, its names C -/
theorem compTop {prog : Program} {w : World} {A : Around} {env : Env} {E : Value → Shared → Prop} {s : Shared} {elt target iter : Expr} {ifs : List Expr} {rest : List Comprehension} {pos : Pos} {scope : Scope} {cl : List (Str × Addr)} {Q : Value → Shared → Prop}
    (hclos : closureFor scope env = pure cl) (hcell : ∀ x ∈ scope.names, x.2 ≠ .cell) (hkind : scope.kind = .function) (hnames : ∀ x ∈ scope.names, x.2 = .local → scope.names.lookup x.1 = some .local)
    (h : wpAny (model prog w) A (eval iter env) (fun xv s₁ => wpAny (model prog w) A (pyIter xv) (fun it s₂ =>
      ∀ (D C : Addr) h₃, D = s₂.heap.objs.size → C = s₂.heap.objs.size + 1 → Keep s₂.heap h₃ → h₃.get? D = some (listOf #[] 0) → h₃.Ns C (fun _ => none) →
        codeAny (model prog w) A (.compStart (.ListComp elt (⟨target, iter, ifs, 0⟩ :: rest) scope pos) 0 it (.ref D) (compEnvC scope cl C env))
          (fun r s' => match r with | .ok _ => ∃ m, s'.heap.Ns C m ∧ ∀ h', Heap.SameBut C s'.heap h' → Q (.ref D) { s' with heap := h' } | .error _ => False) { s₂ with heap := h₃ }) E s₁) E s)
    (hs : ∀ x, foldedSetIterable iter env x = pure x := by intro _; rfl) :
    wpAny (model prog w) A (eval (.ListComp elt (⟨target, iter, ifs, 0⟩ :: rest) scope pos) env) Q E s := by
  rw [eval_ListComp]
  refine wpAny_comprehension_free (use := none) rfl hs hclos hkind hnames (wpAny_mono h (fun xv s₁ h₁ => wpAny_mono h₁ (fun it s₂ h₂ => ?_) fun _ _ e => e) fun _ _ e => e)
  refine wpAny_newList ?_
  refine wpAny_newFunctionEnv hcell (fun _ h => nomatch h) (fun h₃ hn hs₃ => ?_) hkind
  have hz : (s₂.heap.push { cls := .type "list", data := .seq [].toArray }).objs.size = s₂.heap.objs.size + 1 := Heap.size_push ..
  have k : Keep (s₂.heap.push { cls := .type "list", data := .seq [].toArray }) h₃ := fun b o e => hs₃.extBut b o (Nat.ne_of_lt (Heap.lt_size e)) (Heap.get?_push_of_some _ e)
  have key := h₂ _ _ h₃ rfl hz (fun b o e => k b o (Heap.get?_push_of_some _ e)) (k _ _ (Heap.get?_push_size _ rfl)) hn
  refine codeAny_mono key fun r s' hr => ?_
  cases r with
  | ok f => exact hr
  | error e => exact hr.elim
end Mine
namespace Mine
/-- zip of two ascii texts, k drawn of each -/
structure ZS (h : Heap) (N : Nat) (x y : Str) (t u : Tok) (k : Nat) (f0 : Value) : Prop where
  z : IsZip h (N + 4) (N + 2) (N + 3) f0
  ti : IsPair h (N + 2) (.ref N) (.ref (N + 1))
  to : ∃ a b, IsPair h (N + 3) a b
  i1 : h.IsStrIter N "str_ascii_iterator" x t k
  i2 : h.IsStrIter (N + 1) "str_ascii_iterator" y u k
theorem ne_add {N a b : Nat} (h : a ≠ b) : N + a ≠ N + b := by omega
theorem ne_add0 {N a : Nat} (h : a ≠ 0) : N + a ≠ N := by omega
theorem zip_item {prog : Program} {w : World} {A : Around} {E : Value → Shared → Prop} {s : Shared} {N k c d : Nat} {x y : Str} {t u : Tok} {Q : Value → Shared → Prop} (Z : ZS s.heap N x y t u k .none) (hx : x.cps[k]? = some c) (hy : y.cps[k]? = some d)
    (hQ : ∀ h' t1 t2 tk', ZS h' N x y t u (k + 1) (rawInt s.heap.objs.size) → IsPair h' s.heap.objs.size (.str ⟨#[c]⟩ t1) (.str ⟨#[d]⟩ t2) →
      (∀ e o, e ≠ N + 4 → e ≠ N + 3 → e ≠ N → e ≠ N + 1 → s.heap.get? e = some o → h'.get? e = some o) → Q (.ref s.heap.objs.size) { s with heap := h', toks := tk' }) :
    wpAny (model prog w) A (Builtin.«zip.__next__» ⟨[.ref (N + 4)], []⟩) (fun fin s' => ∃ v, fin = .done (.ret v) ∧ Q v s') E s := by
  obtain ⟨hp, g, dr, tk, os⟩ := s
  obtain ⟨hz, hTI, ⟨a, b, hTO⟩, h1, h2⟩ := Z
  show wpAny _ _ (field (.ref (N + 4)) 2 >>= _) _ _ _
  refine wpAny_bind (wpAny_field hz rfl (x := .bool false) rfl ?_)
  show wpAny _ _ (field (.ref (N + 4)) 3 >>= _) _ _ _
  refine wpAny_bind (wpAny_field hz rfl (x := .ref (N + 2)) rfl ?_)
  refine wpAny_bind (wpAny_seqItems hTI rfl ?_)
  show wpAny _ _ (Builtin.SmallTypes.ownedTupleIsFree (.ref (N + 4)) >>= _) _ _ _
  refine wpAny_bind ?_
  unfold Builtin.SmallTypes.ownedTupleIsFree
  refine wpAny_bind (wpAny_field hz rfl (x := .none) rfl (wpAny_pure ?_))
  simp only [if_true]
  refine wpAny_bind (wpAny_rule ?_)
  refine wpAny_bind (wpAny_field hz rfl (x := .ref (N + 3)) rfl ?_)
  refine wpAny_bind (wpAny_setField_rec hz (by simp) fun h₁ hz₁ hs₁ => ?_)
  replace hz₁ : IsZip h₁ (N + 4) (N + 2) (N + 3) .ellipsis := hz₁
  replace hs₁ : Heap.SameBut (N + 4) hp h₁ := hs₁
  refine wpAny_bind ?_
  simp only [List.zipIdx_cons, List.zipIdx_nil, List.forIn_cons, List.forIn_nil]
  refine wpAny_bind (wpAny_bind (wpAny_onRaise ?_))
  show wpAny _ _ (Builtin.SmallTypes.nextOf (.ref N) >>= _) _ _ _
  refine wpAny_bind (wpAny_nextOf_ascii_item (h1.extBut hs₁.extBut (Ne.symm (ne_add0 (by decide)))) hx fun h₂ h1₂ hs₂ => wpAny_pure ?_)
  replace hs₂ : Heap.SameBut N h₁ h₂ := hs₂
  have hTO₂ : IsPair h₂ (N + 3) a b := hs₂.extBut _ _ (ne_add0 (by decide)) (hs₁.extBut _ _ (ne_add (by decide)) hTO)
  refine wpAny_bind (wpAny_seqItems hTO₂ rfl ?_)
  refine wpAny_bind (wpAny_updateSeq_pair hTO₂ fun h₃ hTO₃ hs₃ => ?_)
  replace hTO₃ : IsPair h₃ (N + 3) (.str ⟨#[c]⟩ tk) b := hTO₃
  replace hs₃ : Heap.SameBut (N + 3) h₂ h₃ := hs₃
  refine wpAny_bind (wpAny_letGo (wpAny_pure ?_))
  refine wpAny_bind (wpAny_bind (wpAny_onRaise ?_))
  show wpAny _ _ (Builtin.SmallTypes.nextOf (.ref (N + 1)) >>= _) _ _ _
  have h2₃ : h₃.IsStrIter (N + 1) "str_ascii_iterator" y u k := ((h2.extBut hs₁.extBut (ne_add (by decide))).extBut hs₂.extBut (ne_add0 (by decide))).extBut hs₃.extBut (ne_add (by decide))
  refine wpAny_bind (wpAny_nextOf_ascii_item h2₃ hy fun h₄ h2₄ hs₄ => wpAny_pure ?_)
  replace hs₄ : Heap.SameBut (N + 1) h₃ h₄ := hs₄
  have hTO₄ : IsPair h₄ (N + 3) (.str ⟨#[c]⟩ tk) b := hs₄.extBut _ _ (ne_add (by decide)) hTO₃
  refine wpAny_bind (wpAny_seqItems hTO₄ rfl ?_)
  refine wpAny_bind (wpAny_updateSeq_pair hTO₄ fun h₅ hTO₅ hs₅ => ?_)
  replace hTO₅ : IsPair h₅ (N + 3) (.str ⟨#[c]⟩ tk) (.str ⟨#[d]⟩ (tk + 1)) := hTO₅
  replace hs₅ : Heap.SameBut (N + 3) h₄ h₅ := hs₅
  refine wpAny_bind (wpAny_letGo (wpAny_pure (wpAny_pure ?_)))
  refine wpAny_bind (wpAny_seqItems hTO₅ rfl ?_)
  refine wpAny_bind (wpAny_newTuple ?_)
  have hsz : h₅.objs.size = hp.objs.size := by rw [hs₅.1, hs₄.1, hs₃.1, hs₂.1, hs₁.1]
  have hz₅ : IsZip h₅ (N + 4) (N + 2) (N + 3) .ellipsis := hs₅.extBut _ _ (ne_add (by decide)) (hs₄.extBut _ _ (ne_add (by decide)) (hs₃.extBut _ _ (ne_add (by decide)) (hs₂.extBut _ _ (ne_add0 (by decide)) hz₁)))
  have hk₅ : ∀ e o, e ≠ N + 4 → e ≠ N + 3 → e ≠ N → e ≠ N + 1 → hp.get? e = some o → h₅.get? e = some o := fun e o c1 c2 c3 c4 q =>
    hs₅.extBut _ _ c2 (hs₄.extBut _ _ c4 (hs₃.extBut _ _ c2 (hs₂.extBut _ _ c3 (hs₁.extBut _ _ c1 q))))
  have h1₅ : h₅.IsStrIter N "str_ascii_iterator" x t (k + 1) := ((h1₂.extBut hs₃.extBut (Ne.symm (ne_add0 (by decide)))).extBut hs₄.extBut (Ne.symm (ne_add0 (by decide)))).extBut hs₅.extBut (Ne.symm (ne_add0 (by decide)))
  have h2₅ : h₅.IsStrIter (N + 1) "str_ascii_iterator" y u (k + 1) := h2₄.extBut hs₅.extBut (ne_add (by decide))
  have hzlt : N + 4 < h₅.objs.size := Heap.lt_size hz₅
  show wpAny _ _ (Builtin.SmallTypes.ownedTupleHandOut (.ref (N + 4)) (.ref h₅.objs.size) >>= _) _ _ _
  refine wpAny_bind ?_
  unfold Builtin.SmallTypes.ownedTupleHandOut
  have hz₆ : IsZip (h₅.push { cls := .type "tuple", data := .seq #[.str ⟨#[c]⟩ tk, .str ⟨#[d]⟩ (tk + 1)] }) (N + 4) (N + 2) (N + 3) .ellipsis := Heap.get?_push_of_some _ hz₅
  refine wpAny_bind (wpAny_setField_rec hz₆ (by simp) fun h₇ hz₇ hs₇ => ?_)
  replace hz₇ : IsZip h₇ (N + 4) (N + 2) (N + 3) (rawInt h₅.objs.size) := hz₇
  replace hs₇ : Heap.SameBut (N + 4) _ h₇ := hs₇
  refine wpAny_setField_rec hz₇ (by simp) fun h₈ hz₈ hs₈ => ?_
  replace hz₈ : IsZip h₈ (N + 4) (N + 2) (N + 3) (rawInt h₅.objs.size) := hz₈
  replace hs₈ : Heap.SameBut (N + 4) h₇ h₈ := hs₈
  have up : ∀ e o, e ≠ N + 4 → h₅.get? e = some o → h₈.get? e = some o := fun e o c1 q => hs₈.extBut _ _ c1 (hs₇.extBut _ _ c1 (Heap.get?_push_of_some _ q))
  have hT₈ : IsPair h₈ h₅.objs.size (.str ⟨#[c]⟩ tk) (.str ⟨#[d]⟩ (tk + 1)) := hs₈.extBut _ _ (Nat.ne_of_gt hzlt) (hs₇.extBut _ _ (Nat.ne_of_gt hzlt) (Heap.get?_push_size _ rfl))
  rw [hsz] at hz₈ hT₈
  refine wpAny_pure ⟨_, rfl, ?_⟩
  show Q (.ref h₅.objs.size) _
  rw [hsz]
  obtain ⟨o1, e1, r1⟩ := h1₅
  obtain ⟨o2, e2, r2⟩ := h2₅
  have hTI₅ : IsPair h₅ (N + 2) (.ref N) (.ref (N + 1)) := hk₅ _ _ (ne_add (by decide)) (ne_add (by decide)) (ne_add0 (by decide)) (ne_add (by decide)) hTI
  exact hQ h₈ _ _ _ ⟨hz₈, up _ _ (ne_add (by decide)) hTI₅, ⟨_, _, up _ _ (ne_add (by decide)) hTO₅⟩, ⟨o1, up _ _ (Ne.symm (ne_add0 (by decide))) e1, r1⟩, ⟨o2, up _ _ (ne_add (by decide)) e2, r2⟩⟩ hT₈ fun e o c1 c2 c3 c4 q => up e o c1 (hk₅ e o c1 c2 c3 c4 q)
theorem zip_end {prog : Program} {w : World} {A : Around} {E : Value → Shared → Prop} {s : Shared} {N k : Nat} {x y : Str} {t u : Tok} {Q : Fin → Shared → Prop} (hh : A.handled = none) (Z : ZS s.heap N x y t u k .none) (hx : x.cps[k]? = none)
    (hE : ∀ h' e, (∀ c o, c ≠ N + 4 → c ≠ N + 3 → c ≠ N → c ≠ N + 1 → s.heap.get? c = some o → h'.get? c = some o) → (∃ o, h'.get? e = some o ∧ o.cls = .type "StopIteration") → E (.ref e) { s with heap := h' }) :
    wpAny (model prog w) A (Builtin.«zip.__next__» ⟨[.ref (N + 4)], []⟩) Q E s := by
  obtain ⟨hz, hTI, ⟨a, b, hTO⟩, h1, h2⟩ := Z
  show wpAny _ _ (field (.ref (N + 4)) 2 >>= _) _ _ _
  refine wpAny_bind (wpAny_field hz rfl (x := .bool false) rfl ?_)
  show wpAny _ _ (field (.ref (N + 4)) 3 >>= _) _ _ _
  refine wpAny_bind (wpAny_field hz rfl (x := .ref (N + 2)) rfl ?_)
  refine wpAny_bind (wpAny_seqItems hTI rfl ?_)
  show wpAny _ _ (Builtin.SmallTypes.ownedTupleIsFree (.ref (N + 4)) >>= _) _ _ _
  refine wpAny_bind ?_
  unfold Builtin.SmallTypes.ownedTupleIsFree
  refine wpAny_bind (wpAny_field hz rfl (x := .none) rfl (wpAny_pure ?_))
  simp only [if_true]
  refine wpAny_bind (wpAny_rule ?_)
  refine wpAny_bind (wpAny_field hz rfl (x := .ref (N + 3)) rfl ?_)
  refine wpAny_bind (wpAny_setField_rec hz (by simp) fun h₁ hz₁ hs₁ => ?_)
  replace hz₁ : IsZip h₁ (N + 4) (N + 2) (N + 3) .ellipsis := hz₁
  refine wpAny_bind ?_
  simp only [List.zipIdx_cons, List.zipIdx_nil, List.forIn_cons, List.forIn_nil]
  refine wpAny_bind (wpAny_bind (wpAny_onRaise ?_))
  show wpAny _ _ (Builtin.SmallTypes.nextOf (.ref N) >>= _) _ _ _
  refine wpAny_bind (wpAny_nextOf_ascii_end hh (h1.extBut hs₁.extBut (Ne.symm (ne_add0 (by decide)))) hx fun h₂ e hs₂ he => ?_)
  obtain ⟨oe, hoe, hce⟩ := he
  have hz₂ : IsZip h₂ (N + 4) (N + 2) (N + 3) .ellipsis := hs₂ _ _ (ne_add0 (by decide)) hz₁
  have hez : e ≠ N + 4 := fun x => by subst x; rw [hz₂] at hoe; cases hoe; simp at hce
  refine wpAny_setField_rec hz₂ (by simp) fun h₃ _ hs₃ => hE h₃ e (fun c o c1 _ c3 _ x => hs₃.extBut _ _ c1 (hs₂ _ _ c3 (hs₁.extBut _ _ c1 x))) ⟨oe, hs₃.extBut _ _ hez hoe, hce⟩
theorem next_zip {prog : Program} {w : World} {A : Around} {E : Value → Shared → Prop} {s : Shared} {N k c d : Nat} {x y : Str} {t u : Tok} {Q : Option Value → Shared → Prop} (Z : ZS s.heap N x y t u k .none) (hx : x.cps[k]? = some c) (hy : y.cps[k]? = some d)
    (hQ : ∀ h' t1 t2 tk', ZS h' N x y t u (k + 1) (rawInt s.heap.objs.size) → IsPair h' s.heap.objs.size (.str ⟨#[c]⟩ t1) (.str ⟨#[d]⟩ t2) →
      (∀ e o, e ≠ N + 4 → e ≠ N + 3 → e ≠ N → e ≠ N + 1 → s.heap.get? e = some o → h'.get? e = some o) → Q (some (.ref s.heap.objs.size)) { s with heap := h', toks := tk' }) :
    wpAny (model prog w) A (pyNext (.ref (N + 4))) Q E s := by
  have hT : s.TypeIs (.ref (N + 4)) "zip" := ⟨_, Z.z, rfl⟩
  unfold pyNext
  exact wpAny_bind (wpAny_attempt (wpAny_callSpecial?_slot (name := Str.ofString "__next__") hT F.slot_zip_next
    (wpAny_call_entry F.slot_zip_next hT F.entry_zip_next
      (zip_item Z hx hy fun h' t1 t2 tk' a1 a2 a3 => wpAny_pure (hQ h' t1 t2 tk' a1 a2 a3)) (F.args_zip_next_1 _))))
theorem next_zip_end {prog : Program} {w : World} {A : Around} {E : Value → Shared → Prop} {s : Shared} {N k : Nat} {x y : Str} {t u : Tok} {Q : Option Value → Shared → Prop} (hh : A.handled = none) (Z : ZS s.heap N x y t u k .none) (hx : x.cps[k]? = none)
    (hQ : ∀ h', (∀ c o, c ≠ N + 4 → c ≠ N + 3 → c ≠ N → c ≠ N + 1 → s.heap.get? c = some o → h'.get? c = some o) → Q none { s with heap := h' }) : wpAny (model prog w) A (pyNext (.ref (N + 4))) Q E s := by
  have hT : s.TypeIs (.ref (N + 4)) "zip" := ⟨_, Z.z, rfl⟩
  unfold pyNext
  refine wpAny_bind (wpAny_attempt (wpAny_callSpecial?_slot (name := Str.ofString "__next__") hT F.slot_zip_next
    (wpAny_call_entry F.slot_zip_next hT F.entry_zip_next (zip_end hh Z hx fun h' e hk he => ?_) (F.args_zip_next_1 _))))
  obtain ⟨o, ho, hc⟩ := he
  refine wpAny_bind (wpAny_isInstance (T := "StopIteration") (b := true) ⟨o, ho, hc⟩ isSubtype_stop ?_)
  exact wpAny_pure (hQ _ hk)
abbrev zs1 (h : Heap) (x : Str) (t : Tok) : Heap := h.push { cls := .type "str_ascii_iterator", data := .fields #[.str x t, .int 0 0] }
abbrev zs2 (h : Heap) (x y : Str) (t u : Tok) : Heap := (zs1 h x t).push { cls := .type "str_ascii_iterator", data := .fields #[.str y u, .int 0 0] }
abbrev zs3 (h : Heap) (x y : Str) (t u : Tok) : Heap := (zs2 h x y t u).push { cls := .type "tuple", data := .seq #[.ref h.objs.size, .ref (zs1 h x t).objs.size] }
abbrev zs4 (h : Heap) (x y : Str) (t u : Tok) : Heap := (zs3 h x y t u).push { cls := .type "tuple", data := .seq #[.none, .none] }
abbrev zs5 (h : Heap) (x y : Str) (t u : Tok) : Heap := (zs4 h x y t u).push { cls := .type "zip", data := .fields #[.none, .bool false, .bool false, .ref (zs2 h x y t u).objs.size, .ref (zs3 h x y t u).objs.size] }
theorem meets_zipS (x y : Str) (t u : Tok) (hx : x.cps.all (· < 128) = true) (hy : y.cps.all (· < 128) = true) :
    Meets (Builtin.«zip.__new__» ⟨[.type "zip", .str x t, .str y u], []⟩) (fun _ R s => R (.ok (.ret (.ref (zs4 s.heap x y t u).objs.size))) { s with heap := zs5 s.heap x y t u }) :=
  .of_wp fun prog w A R s h => by
    obtain ⟨hp, g, d, tk, os⟩ := s
    have hsub := sub_zip
    wp_walk using wpAny_pyIter_ascii hx, wpAny_pyIter_ascii hy
    exact ⟨_, rfl, h⟩
theorem call_zipS {prog : Program} {w : World} {A : Around} {E : Value → Shared → Prop} {s : Shared} {x y : Str} {t u : Tok} {Q : Value → Shared → Prop} (hx : x.cps.all (· < 128) = true) (hy : y.cps.all (· < 128) = true)
    (h : ∀ h', ZS h' s.heap.objs.size x y t u 0 .none → h'.objs.size = s.heap.objs.size + 5 → Keep s.heap h' → Q (.ref (s.heap.objs.size + 4)) { s with heap := h' }) :
    wpAny (model prog w) A (call (.type "zip") [.str x t, .str y u]) Q E s := by
  refine callType_new F.called_zip (by decide) (F.typeCall_zip_2 _ _) (F.newCall_zip_2 _ _) (fun obj => F.args_object_init_3 obj _ _) F.entry_zip_new
    (meets_zipS x y t u hx hy) ?_
  have z1 : (zs1 s.heap x t).objs.size = s.heap.objs.size + 1 := Heap.size_push ..
  have z2 : (zs2 s.heap x y t u).objs.size = s.heap.objs.size + 2 := by rw [Heap.size_push, z1]
  have z3 : (zs3 s.heap x y t u).objs.size = s.heap.objs.size + 3 := by rw [Heap.size_push, z2]
  have z4 : (zs4 s.heap x y t u).objs.size = s.heap.objs.size + 4 := by rw [Heap.size_push, z3]
  have z5 : (zs5 s.heap x y t u).objs.size = s.heap.objs.size + 5 := by rw [Heap.size_push, z4]
  have g5 : (zs5 s.heap x y t u).get? (zs4 s.heap x y t u).objs.size = some _ := Heap.get?_push_size _ rfl
  have g4 : (zs5 s.heap x y t u).get? (zs3 s.heap x y t u).objs.size = some _ := Heap.get?_push_of_some _ (Heap.get?_push_size _ rfl)
  have g3 : (zs5 s.heap x y t u).get? (zs2 s.heap x y t u).objs.size = some _ := Heap.get?_push_of_some _ (Heap.get?_push_of_some _ (Heap.get?_push_size _ rfl))
  have g2 : (zs5 s.heap x y t u).get? (zs1 s.heap x t).objs.size = some _ := Heap.get?_push_of_some _ (Heap.get?_push_of_some _ (Heap.get?_push_of_some _ (Heap.get?_push_size _ rfl)))
  have g1 : (zs5 s.heap x y t u).get? s.heap.objs.size = some _ := Heap.get?_push_of_some _ (Heap.get?_push_of_some _ (Heap.get?_push_of_some _ (Heap.get?_push_of_some _ (Heap.get?_push_size _ rfl))))
  show _ ∧ _
  rw [z2, z3, z4] at g5
  rw [z1, z2] at g3
  rw [z3] at g4
  rw [z1] at g2
  rw [z4]
  exact ⟨⟨_, g5, rfl⟩, h _ ⟨g5, g3, ⟨_, _, g4⟩, ⟨_, g1, rfl, rfl⟩, ⟨_, g2, rfl, rfl⟩⟩ z5 fun c o q =>
    Heap.get?_push_of_some _ (Heap.get?_push_of_some _ (Heap.get?_push_of_some _ (Heap.get?_push_of_some _ (Heap.get?_push_of_some _ q))))⟩
end Mine
namespace Mine
theorem compZipLoop {prog : Program} {w : World} {A : Around} {R : Result → Shared → Prop} {s : Shared} {elt iter : Expr} {x1 x2 : Str} {p1 p2 tp pos : Pos} {kk : Nat} {scope : Scope} {cenv : Env} {D N : Nat} {x y : Str} {t u : Tok} {base : Heap}
    (J : Nat → List Value → Prop) (hh : A.handled = none) (hlen : y.cps.size = x.cps.size) (hsz : x.cps.size ≤ sizeLine) (hJl : ∀ k ys, J k ys → ys.length = k)
    (hx1 : cenv.kindOf x1 = some .local) (hx2 : cenv.kindOf x2 = some .local) (hp : (cenv.scope.kind == .class || (cenv.scope.kind == .module && cenv.locals != cenv.globals)) = false) (h12 : x1 ≠ x2)
    (hbN : ∀ b o, base.get? b = some o → b < N) (hDN : N + 4 < D) (hCD : D < cenv.locals)
    (helt : ∀ k c d t1 t2 ys h tk m, x.cps[k]? = some c → y.cps[k]? = some d → J k ys → Heap.Ns h cenv.locals m → m x1 = some (.str ⟨#[c]⟩ t1) → m x2 = some (.str ⟨#[d]⟩ t2) → Keep base h →
      wpAny (model prog w) A (eval elt cenv) (fun v s₁ => ∃ tk', s₁ = { s with heap := h, toks := tk' } ∧ J (k + 1) (ys ++ [v])) NoE { s with heap := h, toks := tk })
    (hfin : ∀ ys h tk m c, J x.cps.size ys → Heap.Ns h cenv.locals m → h.get? D = some (listOf ys.toArray c) → Keep base h → R (.ok .next) { s with heap := h, toks := tk }) :
    ∀ (j k : Nat), k + j = x.cps.size → ∀ h tk ys c m, ZS h N x y t u k .none → J k ys → Heap.Ns h cenv.locals m → h.get? D = some (listOf ys.toArray c) → Keep base h →
      codeAny (model prog w) A (.compLoop (.ListComp elt [⟨.Tuple [.Name x1 p1, .Name x2 p2] kk tp, iter, [], 0⟩] scope pos) 0 (.ref (N + 4)) (.ref D) cenv) R { s with heap := h, toks := tk } := by
  intro j
  induction j with
  | zero =>
    intro k hk h tk ys c m Z hJ hn hD hK
    obtain rfl : k = x.cps.size := by omega
    refine compStep1 ?_
    refine next_zip_end hh Z (by simp) fun h' hk' => ?_
    refine hfin ys h' tk m c hJ ?_ ?_ fun b o e => hk' b o ?_ ?_ ?_ ?_ (hK b o e)
    · obtain ⟨o, es, ep, e, r⟩ := hn
      exact ⟨o, es, ep, hk' _ _ (by omega) (by omega) (by omega) (by omega) e, r⟩
    · exact hk' _ _ (by omega) (by omega) (by omega) (by omega) hD
    all_goals (have := hbN b o e; exact Nat.ne_of_lt (Nat.lt_of_lt_of_le this (by omega)))
  | succ j ih =>
    intro k hk h tk ys c m Z hJ hn hD hK
    have hkx : k < x.cps.size := by omega
    have hcx : x.cps[k]? = some x.cps[k] := by simp [hkx]
    have hcy : y.cps[k]? = some (y.cps[k]'(by omega)) := by simp [hlen, hkx]
    refine compStep1 ?_
    refine next_zip (s := { s with heap := h, toks := tk }) Z hcx hcy fun h₁ t1 t2 tk₁ Z₁ hT₁ hk₁ => ?_
    refine wpAny_letOwnedTupleGo_zip (s := { s with heap := h₁, toks := tk₁ }) Z₁.z fun h₂ hz₂ hs₂ => ?_
    replace hs₂ : Heap.SameBut (N + 4) h₁ h₂ := hs₂
    have hlt : N + 4 < h.objs.size := Heap.lt_size Z.z
    have hT₂ : h₂.IsTuple h.objs.size #[.str ⟨#[x.cps[k]]⟩ t1, .str ⟨#[y.cps[k]'(by omega)]⟩ t2] := ⟨_, (hs₂.2 _ (Nat.ne_of_gt hlt)).trans hT₁, rfl, _, rfl⟩
    refine wpAny_assign_Tuple (s := { s with heap := h₂, toks := tk₁ }) hh hT₂ rfl rfl fun h₃ hx₃ => ?_
    have k₃ : Keep h₂ h₃ := fun b o e => hx₃ b o (Nat.ne_of_lt (Heap.lt_size e)) e
    have up : ∀ b o, b ≠ N + 4 → b ≠ N + 3 → b ≠ N → b ≠ N + 1 → h.get? b = some o → h₃.get? b = some o := fun b o c1 c2 c3 c4 e => k₃ b o ((hs₂.2 b c1).trans (hk₁ b o c1 c2 c3 c4 e))
    have hn₃ : h₃.Ns cenv.locals m := by
      obtain ⟨o, es, ep, e, r⟩ := hn
      exact ⟨o, es, ep, up _ _ (by omega) (by omega) (by omega) (by omega) e, r⟩
    have hD₃ : h₃.get? D = some (listOf ys.toArray c) := up _ _ (by omega) (by omega) (by omega) (by omega) hD
    have hK₃ : Keep base h₃ := fun b o e => by
      have := hbN b o e
      exact up b o (Nat.ne_of_lt (Nat.lt_of_lt_of_le this (by omega))) (Nat.ne_of_lt (Nat.lt_of_lt_of_le this (by omega))) (Nat.ne_of_lt this) (Nat.ne_of_lt (Nat.lt_of_lt_of_le this (by omega))) (hK b o e)
    have Z₃ : ZS h₃ N x y t u (k + 1) .none := by
      obtain ⟨_, ti, ⟨a, b, to⟩, ⟨o1, e1, r1⟩, ⟨o2, e2, r2⟩⟩ := Z₁
      exact ⟨k₃ _ _ hz₂, k₃ _ _ ((hs₂.2 _ (ne_add (by decide))).trans ti), ⟨a, b, k₃ _ _ ((hs₂.2 _ (ne_add (by decide))).trans to)⟩, ⟨o1, k₃ _ _ ((hs₂.2 _ (Ne.symm (ne_add0 (by decide)))).trans e1), r1⟩, ⟨o2, k₃ _ _ ((hs₂.2 _ (ne_add (by decide))).trans e2), r2⟩⟩
    have keepC : ∀ {ha hb : Heap}, Heap.SameBut cenv.locals ha hb → ZS ha N x y t u (k + 1) .none → ha.get? D = some (listOf ys.toArray c) → Keep base ha → ZS hb N x y t u (k + 1) .none ∧ hb.get? D = some (listOf ys.toArray c) ∧ Keep base hb := by
      intro ha hb hs Z hD hK
      obtain ⟨z, ti, ⟨a, b, to⟩, ⟨o1, e1, r1⟩, ⟨o2, e2, r2⟩⟩ := Z
      refine ⟨⟨(hs.2 (N + 4) (Nat.ne_of_lt (show N + 4 < cenv.locals by omega))).trans z, (hs.2 (N + 2) (Nat.ne_of_lt (show N + 2 < cenv.locals by omega))).trans ti, ⟨a, b, (hs.2 (N + 3) (Nat.ne_of_lt (show N + 3 < cenv.locals by omega))).trans to⟩, ⟨o1, (hs.2 N (Nat.ne_of_lt (show N < cenv.locals by omega))).trans e1, r1⟩, ⟨o2, (hs.2 (N + 1) (Nat.ne_of_lt (show N + 1 < cenv.locals by omega))).trans e2, r2⟩⟩, (hs.2 D (Nat.ne_of_lt (show D < cenv.locals by omega))).trans hD, fun b o e => ?_⟩
      have := hbN b o e
      exact (hs.2 b (Nat.ne_of_lt (Nat.lt_of_lt_of_le this (by omega)))).trans (hK b o e)
    refine wpAny_assignInOrder_more (wpAny_assign_Name (wpAny_storeName_local hx1 hn₃ (fun h₄ hn₄ hs₄ => ?_) hp))
    obtain ⟨Z₄, hD₄, hK₄⟩ := keepC hs₄ Z₃ hD₃ hK₃
    refine wpAny_assignInOrder_more (wpAny_assign_Name (wpAny_storeName_local hx2 hn₄ (fun h₅ hn₅ hs₅ => ?_) hp))
    obtain ⟨Z₅, hD₅, hK₅⟩ := keepC hs₅ Z₄ hD₄ hK₄
    refine wpAny_assignInOrder_none ?_
    refine wpAny_tests_nil ?_
    refine if_t rfl ?_
    refine wpAny_mono (helt k _ _ t1 t2 ys h₅ _ _ hcx hcy hJ hn₅ (by simp [h12]) (by simp) hK₅) (fun v s₁ hv => ?_) fun _ _ x => x
    obtain ⟨tk', rfl, hJ'⟩ := hv
    have hys : ys.toArray.size ≤ sizeLine := by rw [List.size_toArray, hJl k ys hJ]; omega
    refine append_at hD₅ (fun h₆ hs₆ hD₆ => ?_) hys
    have hne : ∀ b, b < N + 5 → b ≠ D := fun b hb => by omega
    obtain ⟨z, ti, ⟨a, b, to⟩, ⟨o1, e1, r1⟩, ⟨o2, e2, r2⟩⟩ := Z₅
    obtain ⟨oC, es, ep, eC, rC⟩ := hn₅
    refine ih (k + 1) (by omega) h₆ _ (ys ++ [v]) (c + 1) _ ⟨(hs₆.2 (N + 4) (Nat.ne_of_lt (show N + 4 < D by omega))).trans z, (hs₆.2 (N + 2) (Nat.ne_of_lt (show N + 2 < D by omega))).trans ti, ⟨a, b, (hs₆.2 (N + 3) (Nat.ne_of_lt (show N + 3 < D by omega))).trans to⟩, ⟨o1, (hs₆.2 N (Nat.ne_of_lt (show N < D by omega))).trans e1, r1⟩, ⟨o2, (hs₆.2 (N + 1) (Nat.ne_of_lt (show N + 1 < D by omega))).trans e2, r2⟩⟩ hJ' ⟨oC, es, ep, (hs₆.2 cenv.locals (Nat.ne_of_gt hCD)).trans eC, rC⟩ ?_ fun b o e => ?_
    · rw [hD₆]; simp
    · have := hbN b o e
      exact (hs₆.2 b (Nat.ne_of_lt (Nat.lt_of_lt_of_le this (by omega)))).trans (hK₅ b o e)
end Mine
namespace Mine

def laidC (a b : Nat) : Nat := if a = 45 then b else a
theorem ldC {M : Model} {A : Around} {E : Value → Shared → Prop} {s : Shared} {env : Env} {x : Str} {pos : Pos} {m : Str → Option Value} {v : Value} {Q : Value → Shared → Prop} (hn : s.heap.Ns env.locals m) (hv : m x = some v) (h : Q v s)
    (hk : env.scope.kind = .function := by rfl) (hl : env.kindOf x = some .local := by rfl) (hd : (x == ("__debug__" : Str)) = false := by decide) : wpAny M A (eval (.Name x pos) env) Q E s := wpAny_Name (wpAny_loadName_local hk hl hn hv h) hd
theorem laid_spec {w : World} {p loose mean mg mb} {A : Around} {s : Shared} {R : Result → Shared → Prop} {x y : Str} {t u : Tok}
   (hr : A.depth + 8 < recursionLimit) (hu : A.units + 60 < cLine) (hh : A.handled = none)
   (hx : x.cps.size ≤ 10) (hy : y.cps.size = x.cps.size) (ax : x.cps.all (· < 128) = true) (ay : y.cps.all (· < 128) = true)
   (hret : ∀ t h' tk', Keep s.heap h' → R (.ok (.ret (.str ⟨(List.zipWith laidC x.cps.toList y.cps.toList).toArray⟩ t))) { s with heap := h', toks := tk' }) 
   (X : (hd.heap_39 w.params).In s.heap) (T : Top p loose mean mg mb s.heap) :
   codeAny (model PySem.Challenge.rw_om0026_01.row.prog w) A (.call (.ref 102) ⟨[.str x t, .str y u], []⟩) R s := by
  w_on
  revert X T; k_fill; intro X T
  refine' enterF (binds := [(Str.ofString "one", Value.str x t), (Str.ofString "other", Value.str y u)]) X T.nolimit ?ho ?hcd ?hroom ?hbind ?hloc ?h ?c1 ?c2 ?c3 ?c4
  case ho => k_is
  case hcd => k_is
  case hroom => omega
  case hbind => exact BindsTo.of_eq rfl
  case c4 => decide
  case hloc => exact locs rfl
  case c1 => exact rfl
  case c2 => exact rfl
  case c3 => exact rfl
  intro L' h' F' N'

  k_with "eval ListComp IfExp cons" => (refine stop ?_)
  k_with "call type:zip" => (refine stop ?_)
  k_with "call builtin:str.join" => (refine stop ?_)
  k_steps
  constructor
  refine compTop (cl := []) rfl (by decide) rfl (by decide) ?_
  k_steps
  constructor
  refine call_zipS ax ay ?_
  intro h₁ Z₁ hz₁ k₁
  have F1 := Fr.kept F' k₁
  refine wpAny_pyIter_zip Z₁.z ?_
  intro D C h₃ hD hC k₃ hDo hNs
  have F3 := Fr.kept F1 k₃
  have hD' : D = h'.objs.size + 5 := hD.trans hz₁
  have hC' : C = h'.objs.size + 6 := by rw [hC]; show h₁.objs.size + 1 = _; rw [hz₁]
  refine compStart1 (fun Q E hq => wpAny_pyIter_zip (k₃ _ _ Z₁.z) hq) ?_
  obtain ⟨zz, zti, ⟨za, zb, zto⟩, ⟨zo1, ze1, zr1⟩, ⟨zo2, ze2, zr2⟩⟩ := Z₁
  refine compZipLoop (s := s) (D := D) (N := h'.objs.size) (x := x) (y := y) (t := t) (u := u) (base := h') (fun k ys => ∃ cs : List (Nat × Tok), ys = svals cs ∧ cs.map (·.1) = (List.zipWith laidC x.cps.toList y.cps.toList).take k ∧ cs.length = k) ?hh hy (Nat.le_trans hx (by decide)) ?j1 ?c1 ?c2 ?c3 ?c4 (fun b o e => Heap.lt_size e) ?c5 ?c6 ?j2 ?j3 x.cps.size 0 (by omega) h₃ _ [] 0 (fun _ => none) ⟨k₃ _ _ zz, k₃ _ _ zti, ⟨za, zb, k₃ _ _ zto⟩, ⟨zo1, k₃ _ _ ze1, zr1⟩, ⟨zo2, k₃ _ _ ze2, zr2⟩⟩ ⟨[], rfl, rfl, rfl⟩ ?hn hDo (Keep.trans k₁ k₃)
  case hh => exact hh
  case hn => exact hNs
  case c1 => rfl
  case c2 => rfl
  case c3 => rfl
  case c4 => decide
  case c5 => rw [hD']; exact Nat.lt_succ_self _
  case c6 => show D < C; rw [hD', hC']; exact Nat.lt_succ_self _
  case j1 =>
    rintro k ys ⟨cs, rfl, _, h3⟩
    simpa [svals] using h3
  case j2 =>
    rintro k c d t1 t2 ys h tk m hc hd ⟨cs, rfl, hcs, hcl⟩ hn hm1 hm2 hK
    have hzip : (List.zipWith laidC x.cps.toList y.cps.toList)[k]? = some (laidC c d) := by
      rw [List.getElem?_zipWith, Array.getElem?_toList, Array.getElem?_toList, hc, hd]
    have next : ∀ v tk, v = laidC c d → ∃ cs' : List (Nat × Tok), svals cs ++ [Value.str ⟨#[v]⟩ tk] = svals cs' ∧ cs'.map (·.1) = (List.zipWith laidC x.cps.toList y.cps.toList).take (k + 1) ∧ cs'.length = k + 1 := by
      rintro v tk rfl
      refine ⟨cs ++ [(laidC c d, tk)], by simp [svals], ?_, by simp [hcl]⟩
      rw [List.take_add_one, hzip, List.map_append, hcs]; rfl
    refine wpAny_IfExp (wpAny_isTrue_Compare1 (ldC hn hm1 ?_))
    refine wpAny_Constant_str ?_
    refine PyProof.Rows.eq_str ?_
    refine wpAny_truthy_bool ?_
    have e45 : Str.ofString "-" = ⟨#[45]⟩ := by decide +kernel
    rw [e45]
    by_cases hc45 : c = 45
    · subst hc45
      refine if_t (by decide +kernel) (ldC hn hm2 ⟨_, rfl, next d t2 ?_⟩)
      unfold laidC; rw [if_pos rfl]
    · refine if_f ?_ (ldC hn hm1 ⟨_, rfl, next c t1 ?_⟩)
      · rw [beq_eq_false_iff_ne]
        intro z
        have := congrArg Str.cps z
        simp at this
        exact hc45 this
      · unfold laidC; rw [if_neg hc45]
  case j3 =>
    rintro ys h tk m c ⟨cs, rfl, hcs, hcl⟩ hn hD₄ hK
    refine ⟨m, hn, fun h₅ hs₅ => ?_⟩
    have hCsz : ∀ b o, h'.get? b = some o → b ≠ C := fun b o e => by
      have := Heap.lt_size e
      exact Nat.ne_of_lt (by rw [hC']; exact Nat.lt_of_lt_of_le this (Nat.le_add_right _ _))
    have k5 : Keep h' h₅ := fun b o e => (hs₅.2 b (hCsz b o e)).trans (hK b o e)
    have F5 := Fr.kept F' k5
    have hDC : D ≠ C := by rw [hD', hC']; exact Nat.ne_of_lt (Nat.lt_succ_self _)
    k_steps
    constructor
    refine join_chars (cs := cs) ⟨_, (hs₅.2 D hDC).trans hD₄, rfl, _, rfl⟩ (by rw [hcl]; exact hx) fun t' k => ?_
    have hall : cs.map (·.1) = List.zipWith laidC x.cps.toList y.cps.toList := by
      rw [hcs]
      refine List.take_of_length_le ?_
      rw [List.length_zipWith, Array.length_toList, Array.length_toList, hy, Nat.min_self]
      exact Nat.le_refl _
    rw [hall]
    exact hret _ _ _ (Keep.trans F'.keep k5)
end Mine
namespace Mine
/-- range of a number, its iterator I -/
theorem rangeI {prog : Program} {w : World} {A : Around} {E : Value → Shared → Prop} {s : Shared} {env : Env} {K : Frag} {h₀ : Heap} {p loose mean mg mb} {rp rpos : Pos} {n : Nat} {k : Nat} {kp : Pos} {Q : Value → Shared → Prop}
    (X : K.In h₀) (T : Top p loose mean mg mb h₀) (kb : Keep h₀ s.heap) (e : nsIn K mainGlobals (Str.ofString "range") = some none)
    (hg : env.globals = mainGlobals) (hb : env.builtins = builtinsNs) (hk : env.scope.kind = .function) (hx : env.kindOf (Str.ofString "range") = some .globalImplicit)
    (hse : backTo rpos (starEach [.Constant (.int n) k kp] env) = [(false, eval (.Constant (.int n) k kp) env)]) (hn : n < 100)
    (h : ∀ h' tk', Keep s.heap h' → h'.objs.size = s.heap.objs.size + 2 → IsRangeIter h' (s.heap.objs.size + 1) 0 n 1 → Q (.ref (s.heap.objs.size + 1)) { s with heap := h', toks := tk' }) :
    wpAny (model prog w) A (eval (.Call (.Name (Str.ofString "range") rp) [.Constant (.int n) k kp] [] rpos) env) (fun xv s₁ => wpAny (model prog w) A (pyIter xv) Q E s₁) E s := by
  refine wpAny_Call_NameR (Name_function_global hk hx (loadGlobal_builtin (v := .type "range") (hg ▸ (T.keeps kb).g) (mg_none_of X T.g e) (hb ▸ (T.keeps kb).b) ((T.builtins _ (by decide)).trans (by rfl)) ?_) (by decide))
  rw [hse]
  refine PySem.callWith_type rfl (evalArgs_plain (spliced_cons (wpAny_Constant_int (spliced_nil ?_))))
  refine call_range_1 ?_
  refine wpAny_pyIter_range (IsRange.new ..) (small_one (by decide) (by decide) (by omega) (by omega)) ?_
  have hz : (s.heap.push { cls := .type "range", data := .fields #[.int 0 (s.toks + 1), .int n s.toks, .int 1 (s.toks + 1 + 1)] }).objs.size = s.heap.objs.size + 1 := Heap.size_push ..
  have hsz : Builtin.Range.rangeSize 0 n 1 = (n : Int) := by rw [rangeSize_one]; split <;> omega
  show Q (.ref (Heap.push s.heap _).objs.size) _
  rw [hsz, hz]
  refine h _ _ (fun b o e => Heap.get?_push_of_some _ (Heap.get?_push_of_some _ e)) ?_ ?_
  · rw [Heap.size_push, hz]
  · have := Heap.get?_push_size (s.heap.push { cls := .type "range", data := .fields #[.int 0 (s.toks + 1), .int n s.toks, .int 1 (s.toks + 1 + 1)] }) (o := { cls := .type "range_iterator", data := .fields #[rawInt 0, rawInt n, rawInt 1] }) rfl
    rw [hz] at this
    exact this
/-- the names of a comprehension that owns one cell -/
theorem newEnv1 {M : Model} {A : Around} {E : Value → Shared → Prop} {s : Shared} {scope : Scope} {env : Env} {cl : List (Str × Addr)} {x : Str} {Q : Env → Shared → Prop}
    (hcf : ∀ n, cellsFrom n scope.names cl = (x, n) :: cl) (hpc : ∀ h, pushCells h scope.names = h.push { cls := .type "cell", data := .cell none })
    (h : ∀ h', Keep s.heap h' → h'.objs.size = s.heap.objs.size + 2 → h'.Ns s.heap.objs.size (fun _ => none) → h'.get? (s.heap.objs.size + 1) = some { cls := .type "cell", data := .cell none } →
      Q { scope, locals := s.heap.objs.size, globals := env.globals, cells := (x, s.heap.objs.size + 1) :: cl, qual := env.qual, func := none, code := env.code, frame := env.frame, builtins := env.builtins } { s with heap := h' }) :
    wpAny M A (newFunctionEnv scope env.globals cl [] env.qual none .none (some env)) Q E s := by
  simp only [newFunctionEnv, Option.isSome_some, if_true]
  refine wpAny_bind (wpAny_alloc ?_)
  refine wpAny_bind (wpAny_layCells _ (fun name kind cells => by cases hkc : kind == NameKind.cell <;> simp [hkc]) _ _ _ _ ?_)
  have hz : (s.heap.push { cls := .type "dict", data := .dict #[] }).objs.size = s.heap.objs.size + 1 := Heap.size_push ..
  show wpAny _ _ _ _ _ { s with heap := pushCells (s.heap.push { cls := .type "dict", data := .dict #[] }) scope.names }
  rw [hpc, hcf]
  rw [show ({ s with heap := s.heap.push { cls := .type "dict", data := .dict #[] } } : Shared).heap.objs.size = s.heap.objs.size + 1 from Heap.size_push ..]
  rw [List.forIn_nil]
  refine wpAny_bind (wpAny_pure (wpAny_pure ?_))
  have hc := Heap.get?_push_size (s.heap.push { cls := .type "dict", data := .dict #[] }) (o := { cls := .type "cell", data := .cell none }) rfl
  rw [hz] at hc
  refine h _ (fun b o e => Heap.get?_push_of_some _ (Heap.get?_push_of_some _ e)) ?_ ?_ hc
  · rw [Heap.size_push, hz]
  · exact (Heap.Ns.new s.heap (.type "dict")).push _
/-- a list comprehension's head: its list D, its names C, its cell C + 1 -/
theorem compTopC {prog : Program} {w : World} {A : Around} {env : Env} {E : Value → Shared → Prop} {s : Shared} {elt target iter : Expr} {ifs : List Expr} {rest : List Comprehension} {pos : Pos} {scope : Scope} {cl : List (Str × Addr)} {x : Str} {Q : Value → Shared → Prop}
    (hclos : closureFor scope env = pure cl) (hkind : scope.kind = .function) (hnames : ∀ x ∈ scope.names, x.2 = .local → scope.names.lookup x.1 = some .local)
    (hcf : ∀ n, cellsFrom n scope.names cl = (x, n) :: cl) (hpc : ∀ h, pushCells h scope.names = h.push { cls := .type "cell", data := .cell none })
    (h : wpAny (model prog w) A (eval iter env) (fun xv s₁ => wpAny (model prog w) A (pyIter xv) (fun it s₂ =>
      ∀ (D C : Addr) h₃, D = s₂.heap.objs.size → C = s₂.heap.objs.size + 1 → Keep s₂.heap h₃ → h₃.get? D = some (listOf #[] 0) → h₃.Ns C (fun _ => none) → h₃.get? (C + 1) = some { cls := .type "cell", data := .cell none } →
        codeAny (model prog w) A (.compStart (.ListComp elt (⟨target, iter, ifs, 0⟩ :: rest) scope pos) 0 it (.ref D) (compEnvC scope ((x, C + 1) :: cl) C env))
          (fun r s' => match r with | .ok _ => ∃ m, s'.heap.Ns C m ∧ ∀ h', Heap.SameBut C s'.heap h' → Q (.ref D) { s' with heap := h' } | .error _ => False) { s₂ with heap := h₃ }) E s₁) E s)
    (hs : ∀ x, foldedSetIterable iter env x = pure x := by intro _; rfl) :
    wpAny (model prog w) A (eval (.ListComp elt (⟨target, iter, ifs, 0⟩ :: rest) scope pos) env) Q E s := by
  rw [eval_ListComp]
  refine wpAny_comprehension_free (use := none) rfl hs hclos hkind hnames (wpAny_mono h (fun xv s₁ h₁ => wpAny_mono h₁ (fun it s₂ h₂ => ?_) fun _ _ e => e) fun _ _ e => e)
  refine wpAny_newList ?_
  refine newEnv1 hcf hpc (fun h₃ k _ hn hc => ?_)
  have hz : (s₂.heap.push { cls := .type "list", data := .seq [].toArray }).objs.size = s₂.heap.objs.size + 1 := Heap.size_push ..
  have key := h₂ _ _ h₃ rfl hz (fun b o e => k b o (Heap.get?_push_of_some _ e)) (k _ _ (Heap.get?_push_size _ rfl)) hn hc
  refine codeAny_mono key fun r s' hr => ?_
  cases r with
  | ok f => exact hr
  | error e => exact hr.elim
/-- the loop of a comprehension with one clause -/
theorem compLoopG {prog : Program} {w : World} {A : Around} {R : Result → Shared → Prop} {s : Shared} {elt target iter : Expr} {ifs : List Expr} {scope : Scope} {pos : Pos} {I D : Nat} {fp : List Addr} {n : Nat} {P : Nat → Value → Prop} {St : Nat → Heap → Prop} {cenv : Env} {base : Heap} {top : Nat}
    (W : Walks prog w A I fp [I] n P St) (V : Option Value → Heap → Prop) (J : Nat → List Value → Heap → Prop) (tst : Nat → Value → Bool) (hsz : n ≤ sizeLine)
    (hbase : ∀ b o, base.get? b = some o → b < I) (hID : I < D) (hDC : D < cenv.locals) (hCt : cenv.locals ≤ top) (hfp : ∀ b ∈ fp, b ≤ I)
    (hVk : ∀ c h h', V c h → (∀ b o, cenv.locals ≤ b → b ≤ top → h.get? b = some o → h'.get? b = some o) → V c h')
    (hVs : ∀ c v (s : Shared) (Q : Unit → Shared → Prop) (E : Value → Shared → Prop), V c s.heap → (∀ h' tk', V (some v) h' → (∀ b o, (b < cenv.locals ∨ top < b) → s.heap.get? b = some o → h'.get? b = some o) → Q () { s with heap := h', toks := tk' }) → wpAny (model prog w) A (assign target cenv v) Q E s)
    (hVn : ∀ c h, V c h → ∃ m, h.Ns cenv.locals m) (hlt : ∀ v, letOwnedTupleGo target (.ref I) v = pure ())
    (hJk : ∀ i ys h h', J i ys h → (∀ b o, top < b → h.get? b = some o → h'.get? b = some o) → J i ys h') (hJl : ∀ i ys h, J i ys h → ys.length ≤ i)
    (htest : ∀ i v ys h tk, i < n → P i v → J i ys h → V (some v) h → Keep base h →
      wpAny (model prog w) A (testsOf ifs cenv) (fun ok s₁ => (∃ tk', s₁ = { s with heap := h, toks := tk' }) ∧ ok = tst i v ∧ (ok = false → J (i + 1) ys h)) NoE { s with heap := h, toks := tk })
    (helt : ∀ i v ys h tk, i < n → P i v → tst i v = true → J i ys h → V (some v) h → Keep base h → h.get? D = some (listOf ys.toArray ys.length) ∨ True →
      wpAny (model prog w) A (eval elt cenv) (fun y s₁ => ∃ h' tk', s₁ = { s with heap := h', toks := tk' } ∧ Keep h h' ∧ J (i + 1) (ys ++ [y]) h') NoE { s with heap := h, toks := tk })
    (hfin : ∀ ys h tk m c, J n ys h → Heap.Ns h cenv.locals m → h.get? D = some (listOf ys.toArray c) → Keep base h → R (.ok .next) { s with heap := h, toks := tk }) :
    ∀ (j i : Nat), i + j = n → ∀ h tk ys cur c, St i h → J i ys h → V cur h → h.get? D = some (listOf ys.toArray c) → Keep base h →
      codeAny (model prog w) A (.compLoop (.ListComp elt [⟨target, iter, ifs, 0⟩] scope pos) 0 (.ref I) (.ref D) cenv) R { s with heap := h, toks := tk } := by
  have hDt : D < top := Nat.lt_of_lt_of_le hDC hCt
  intro j
  induction j with
  | zero =>
    intro i hi h tk ys cur c hSt hJ hV hD hK
    obtain rfl : i = n := by omega
    refine compStep1 ?_
    refine W.done _ _ _ hSt fun h' tk' hk => ?_
    have up : ∀ b o, b ≠ I → h.get? b = some o → h'.get? b = some o := fun b o hb e => hk b o (notIn_one hb) e
    obtain ⟨m, hn⟩ := hVn _ _ hV
    refine hfin ys h' tk' m c (hJk _ _ _ _ hJ fun b o hb e => up b o (Nat.ne_of_gt (by omega)) e) (hn.at' fun o e => up _ o (Nat.ne_of_gt (Nat.lt_trans hID hDC)) e) (up _ _ (Nat.ne_of_gt hID) hD) fun b o e => up b o (Nat.ne_of_lt (hbase b o e)) (hK b o e)
  | succ j ih =>
    intro i hi h tk ys cur c hSt hJ hV hD hK
    have hin : i < n := by omega
    refine compStep1 ?_
    refine W.item i _ _ _ hin hSt fun v h₁ tk₁ hP hSt₁ hk₁ => ?_
    have up : ∀ b o, b ≠ I → h.get? b = some o → h₁.get? b = some o := fun b o hb e => hk₁ b o (notIn_one hb) e
    refine wpAny_of_eq (hlt v) ?_
    have hV₁ := hVk _ h h₁ hV fun b o h1 h2 e => up b o (Nat.ne_of_gt (show I < b from Nat.lt_of_lt_of_le (Nat.lt_trans hID hDC) h1)) e
    refine hVs cur v { s with heap := h₁, toks := tk₁ } _ _ hV₁ fun h₂ tk₂ hV₂ up₂ => ?_
    have hJ₂ : J i ys h₂ := hJk _ _ _ _ (hJk _ _ _ _ hJ fun b o hb e => up b o (Nat.ne_of_gt (by omega)) e) fun b o hb e => up₂ b o (.inr hb) e
    have hSt₂ : St (i + 1) h₂ := W.frame _ _ _ hSt₁ fun b hb o e => up₂ b o (.inl (Nat.lt_of_le_of_lt (hfp b hb) (Nat.lt_trans hID hDC))) e
    have hD₂ : h₂.get? D = some (listOf ys.toArray c) := up₂ _ _ (.inl hDC) (up _ _ (Nat.ne_of_gt hID) hD)
    have hK₂ : Keep base h₂ := fun b o e => up₂ b o (.inl (Nat.lt_trans (hbase b o e) (Nat.lt_trans hID hDC))) (up b o (Nat.ne_of_lt (hbase b o e)) (hK b o e))
    refine wpAny_mono (htest i v ys h₂ tk₂ hin hP hJ₂ hV₂ hK₂) (fun ok s₁ hok => ?_) fun _ _ x => x
    obtain ⟨⟨tk₃, rfl⟩, hok, hokf⟩ := hok
    cases ok with
    | false =>
      refine if_f rfl ?_
      exact ih (i + 1) (by omega) h₂ _ ys _ c hSt₂ (hokf rfl) hV₂ hD₂ hK₂
    | true =>
      refine if_t rfl ?_
      refine wpAny_mono (helt i v ys h₂ tk₃ hin hP hok.symm hJ₂ hV₂ hK₂ (.inr trivial)) (fun y s₁ hy => ?_) fun _ _ x => x
      obtain ⟨h₄, tk₄, rfl, k₄, hJ₄⟩ := hy
      have hys : ys.toArray.size ≤ sizeLine := by rw [List.size_toArray]; have := hJl _ _ _ hJ; omega
      refine append_at (k₄ _ _ hD₂) (fun h₆ hs₆ hD₆ => ?_) hys
      have up₆ : ∀ b o, b ≠ D → h₂.get? b = some o → h₆.get? b = some o := fun b o hb e => hs₆.extBut b o hb (k₄ b o e)
      refine ih (i + 1) (by omega) h₆ _ (ys ++ [y]) (some v) (c + 1) ?_ ?_ ?_ ?_ ?_
      · exact W.frame _ _ _ hSt₂ fun b hb o e => up₆ b o (Nat.ne_of_lt (Nat.lt_of_le_of_lt (hfp b hb) hID)) e
      · exact hJk _ _ _ _ hJ₄ fun b o hb e => hs₆.extBut b o (Nat.ne_of_gt (by omega)) e
      · exact hVk _ _ _ hV₂ fun b o h1 h2 e => up₆ b o (Nat.ne_of_gt (Nat.lt_of_lt_of_le hDC h1)) e
      · rw [hD₆]; simp
      · intro b o e
        exact up₆ b o (Nat.ne_of_lt (Nat.lt_trans (hbase b o e) hID)) (hK₂ b o e)
end Mine
namespace Mine
/-- a comprehension's loop, its name a local -/
theorem loopLoc {prog : Program} {w : World} {A : Around} {R : Result → Shared → Prop} {s : Shared} {elt iter : Expr} {x : Str} {px : Pos} {ifs : List Expr} {scope : Scope} {pos : Pos} {I D : Nat} {fp : List Addr} {n : Nat} {P : Nat → Value → Prop} {St : Nat → Heap → Prop} {cenv : Env} {base : Heap}
    (W : Walks prog w A I fp [I] n P St) (J : Nat → List Value → Heap → Prop) (tst : Nat → Value → Bool) (hsz : n ≤ sizeLine)
    (hbase : ∀ b o, base.get? b = some o → b < I) (hID : I < D) (hDC : D < cenv.locals) (hfp : ∀ b ∈ fp, b ≤ I)
    (hx : cenv.kindOf x = some .local) (hp : (cenv.scope.kind == .class || (cenv.scope.kind == .module && cenv.locals != cenv.globals)) = false)
    (hJk : ∀ i ys h h', J i ys h → (∀ b o, cenv.locals < b → h.get? b = some o → h'.get? b = some o) → J i ys h') (hJl : ∀ i ys h, J i ys h → ys.length ≤ i)
    (htest : ∀ i v ys h tk m, i < n → P i v → J i ys h → h.Ns cenv.locals m → m x = some v → Keep base h →
      wpAny (model prog w) A (testsOf ifs cenv) (fun ok s₁ => (∃ tk', s₁ = { s with heap := h, toks := tk' }) ∧ ok = tst i v ∧ (ok = false → J (i + 1) ys h)) NoE { s with heap := h, toks := tk })
    (helt : ∀ i v ys h tk m, i < n → P i v → tst i v = true → J i ys h → h.Ns cenv.locals m → m x = some v → Keep base h →
      wpAny (model prog w) A (eval elt cenv) (fun y s₁ => ∃ h' tk', s₁ = { s with heap := h', toks := tk' } ∧ Keep h h' ∧ J (i + 1) (ys ++ [y]) h') NoE { s with heap := h, toks := tk })
    (hfin : ∀ ys h tk m c, J n ys h → Heap.Ns h cenv.locals m → h.get? D = some (listOf ys.toArray c) → Keep base h → R (.ok .next) { s with heap := h, toks := tk })
    {h : Heap} {tk : Nat} (hSt : St 0 h) (hJ : J 0 [] h) (hn : h.Ns cenv.locals (fun _ => none)) (hD : h.get? D = some (listOf #[] 0)) (hK : Keep base h) :
    codeAny (model prog w) A (.compStart (.ListComp elt [⟨.Name x px, iter, ifs, 0⟩] scope pos) 0 (.ref I) (.ref D) cenv) R { s with heap := h, toks := tk } := by
  refine compStart1 (fun Q E hq => W.self 0 _ _ _ hSt hq) ?_
  refine compLoopG (top := cenv.locals) W (fun cur h => ∃ m, h.Ns cenv.locals m ∧ ∀ v, cur = some v → m x = some v) J tst hsz hbase hID hDC (Nat.le_refl _) hfp ?_ ?_ ?_ (fun _ => rfl) hJk hJl ?_ ?_ hfin n 0 (by omega) h tk [] none 0 hSt hJ ⟨_, hn, fun v e => by cases e⟩ hD hK
  · rintro c h h' ⟨m, hn, hm⟩ hk
    exact ⟨m, hn.at' fun o e => hk _ o (Nat.le_refl _) (Nat.le_refl _) e, hm⟩
  · rintro c v s Q E ⟨m, hn, hm⟩ hq
    refine wpAny_assign_Name (wpAny_storeName_local hx hn (fun h₂ hn₂ hs₂ => ?_) hp)
    refine hq h₂ _ ⟨_, hn₂, fun v' e => by cases e; simp⟩ fun b o hb e => hs₂.extBut b o ?_ e
    rcases hb with hb | hb
    · exact Nat.ne_of_lt hb
    · exact Nat.ne_of_gt hb
  · rintro c h ⟨m, hn, _⟩
    exact ⟨m, hn⟩
  · rintro i v ys h tk hi hP hJ ⟨m, hn, hm⟩ hK
    exact htest i v ys h tk m hi hP hJ hn (hm v rfl) hK
  · rintro i v ys h tk hi hP ht hJ ⟨m, hn, hm⟩ hK _
    exact helt i v ys h tk m hi hP ht hJ hn (hm v rfl) hK
/-- a comprehension's loop, its name a cell -/
theorem loopCell {prog : Program} {w : World} {A : Around} {R : Result → Shared → Prop} {s : Shared} {elt iter : Expr} {x : Str} {px : Pos} {ifs : List Expr} {scope : Scope} {pos : Pos} {I D : Nat} {fp : List Addr} {n : Nat} {P : Nat → Value → Prop} {St : Nat → Heap → Prop} {cenv : Env} {base : Heap}
    (W : Walks prog w A I fp [I] n P St) (J : Nat → List Value → Heap → Prop) (tst : Nat → Value → Bool) (hsz : n ≤ sizeLine)
    (hbase : ∀ b o, base.get? b = some o → b < I) (hID : I < D) (hDC : D < cenv.locals) (hfp : ∀ b ∈ fp, b ≤ I)
    (hx : cenv.kindOf x = some .cell) (hp : cenv.scope.kind = .function) (hc : cenv.cells.lookup x = some (cenv.locals + 1))
    (hJk : ∀ i ys h h', J i ys h → (∀ b o, cenv.locals + 1 < b → h.get? b = some o → h'.get? b = some o) → J i ys h') (hJl : ∀ i ys h, J i ys h → ys.length ≤ i)
    (htest : ∀ i v ys h tk, i < n → P i v → J i ys h → h.IsCell (cenv.locals + 1) (some v) → Keep base h →
      wpAny (model prog w) A (testsOf ifs cenv) (fun ok s₁ => (∃ tk', s₁ = { s with heap := h, toks := tk' }) ∧ ok = tst i v ∧ (ok = false → J (i + 1) ys h)) NoE { s with heap := h, toks := tk })
    (helt : ∀ i v ys h tk, i < n → P i v → tst i v = true → J i ys h → h.IsCell (cenv.locals + 1) (some v) → Keep base h →
      wpAny (model prog w) A (eval elt cenv) (fun y s₁ => ∃ h' tk', s₁ = { s with heap := h', toks := tk' } ∧ Keep h h' ∧ J (i + 1) (ys ++ [y]) h') NoE { s with heap := h, toks := tk })
    (hfin : ∀ ys h tk m c, J n ys h → Heap.Ns h cenv.locals m → h.get? D = some (listOf ys.toArray c) → Keep base h → R (.ok .next) { s with heap := h, toks := tk })
    {h : Heap} {tk : Nat} (hSt : St 0 h) (hJ : J 0 [] h) (hn : h.Ns cenv.locals (fun _ => none)) (hcell : h.IsCell (cenv.locals + 1) none) (hD : h.get? D = some (listOf #[] 0)) (hK : Keep base h) :
    codeAny (model prog w) A (.compStart (.ListComp elt [⟨.Name x px, iter, ifs, 0⟩] scope pos) 0 (.ref I) (.ref D) cenv) R { s with heap := h, toks := tk } := by
  refine compStart1 (fun Q E hq => W.self 0 _ _ _ hSt hq) ?_
  refine compLoopG (top := cenv.locals + 1) W (fun cur h => (∃ m, h.Ns cenv.locals m) ∧ h.IsCell (cenv.locals + 1) cur) J tst hsz hbase hID hDC (Nat.le_succ _) hfp ?_ ?_ ?_ (fun _ => rfl) hJk hJl ?_ ?_ hfin n 0 (by omega) h tk [] none 0 hSt hJ ⟨⟨_, hn⟩, hcell⟩ hD hK
  · rintro c h h' ⟨⟨m, hn⟩, o, ho, hd⟩ hk
    exact ⟨⟨m, hn.at' fun o e => hk _ o (Nat.le_refl _) (Nat.le_succ _) e⟩, o, hk _ o (Nat.le_succ _) (Nat.le_refl _) ho, hd⟩
  · rintro c v s Q E ⟨⟨m, hn⟩, hc'⟩ hq
    refine wpAny_assign_Name (wpAny_storeName_cell hp hx hc hc' fun h₂ hc₂ hs₂ => ?_)
    refine hq h₂ _ ⟨⟨m, hn.sameBut hs₂ (Nat.ne_of_lt (Nat.lt_succ_self _))⟩, hc₂⟩ fun b o hb e => hs₂.extBut b o ?_ e
    rcases hb with hb | hb
    · exact Nat.ne_of_lt (Nat.lt_succ_of_lt hb)
    · exact Nat.ne_of_gt hb
  · rintro c h ⟨⟨m, hn⟩, _⟩
    exact ⟨m, hn⟩
  · rintro i v ys h tk hi hP hJ ⟨_, hc⟩ hK
    exact htest i v ys h tk hi hP hJ hc hK
  · rintro i v ys h tk hi hP ht hJ ⟨_, hc⟩ hK _
    exact helt i v ys h tk hi hP ht hJ hc hK
/-- the range of 0 .. n-1, walked -/
theorem walksR {prog : Program} {w : World} {A : Around} (hh : A.handled = none) (I : Addr) (n : Nat) :
    Walks prog w A I [I] [I] n (fun i v => ∃ t, v = .int (i : Int) t) (fun i h => IsRangeIter h I (i : Int) ((n : Int) - (i : Nat)) 1) := by
  have := Walks.range (prog := prog) (w := w) hh I 0 1 n
  simpa using this
theorem walksL {prog : Program} {w : World} {A : Around} (hh : A.handled = none) (I ax : Addr) (hne : ax ≠ I) (items : List Value) :
    Walks prog w A I [I, ax] [I] items.length (fun i v => items[i]? = some v) (fun i h => h.IsListIter I ax i ∧ h.IsList ax items.toArray) := by
  have := Walks.list (prog := prog) (w := w) hh I ax hne items.toArray
  simpa using this
theorem tests_none {prog : Program} {w : World} {A : Around} {env : Env} {E : Value → Shared → Prop} {s : Shared} {Q : Bool → Shared → Prop} (h : Q true s) : wpAny (model prog w) A (testsOf [] env) Q E s := wpAny_tests_nil h
theorem tests_1 {prog : Program} {w : World} {A : Around} {env : Env} {E : Value → Shared → Prop} {s : Shared} {c : Expr} {Q : Bool → Shared → Prop} (h : wpAny (model prog w) A (isTrue c env (eval c env)) Q E s) : wpAny (model prog w) A (testsOf [c] env) Q E s := wpAny_tests_one h
end Mine
namespace Mine
theorem enterFC {prog : Program} {w : World} {A : Around} {s : Shared} {K : Frag}
    {R : Result → Shared → Prop} {name qual : Str} {params : Arguments} {body : List Stmt} {scope : Scope} {dV kV doc pm cdv ct oc : Value} {an od : Option Addr} {osl : Array (Option Value)} {f : Addr} {args : Args} {binds : List (Str × Value)}
    (X : K.In s.heap) (hlim : s.heap.NoLimit)
    (ho : K.lookup f = some ⟨oc, od, .func (fnOf name qual params body scope dV kV doc pm an cdv ct), osl⟩) (hcd : codeIn K cdv qual = true) (hroom : A.depth < recursionLimit)
    (hbind : BindsTo s (fnOf name qual params body scope dV kV doc pm an cdv ct) args binds) (hkind : (binds.all fun y => scope.names.lookup y.1 == some .local || scope.names.lookup y.1 == some .cell) = true)
    (hnd : ((cellsFrom 0 scope.names []).map (·.1)).Nodup)
    (h : ∀ L' h₁ tk cells, Fr s.heap L' h₁ (bindL (envOfC qual scope L' f cdv).kindOf binds fun _ => none) → News s.heap L' h₁ cells →
      CellsAre (bindC (envOfC qual scope L' f cdv).kindOf binds fun _ => none) (cellsFrom (L' + 1) scope.names []) cells →
      wpAny (model prog w) (A.deeper (envOfC qual scope L' f cdv)) (execs body (envOfC qual scope L' f cdv))
        (fun fl s' => R (.ok (.ret (match fl with | .ret v => v | _ => .none))) s')
        (fun e s' => wpAny (model prog w) (A.deeper (envOfC qual scope L' f cdv)) (leaving (envOfC qual scope L' f cdv) e) (fun _ s'' => R (.error e) s'') (fun e' s'' => R (.error e') s'') s')
        { s with heap := h₁, toks := tk })
    (hco : scope.isCoroutine = false := by rfl) (hgen : scope.isGenerator = false := by rfl) (hk : scope.kind = .function := by rfl) : codeAny (model prog w) A (.call (.ref f) args) R s := by
  refine codeAny_call_function hroom (X _ _ ho) rfl hco hgen rfl (codeRec_of X hcd) (hbind _ _ _ _ ?_)
  refine wpAny_newFunctionEnv_cells hk (kindsX hkind _) fun env' he s' x => ?_
  subst he
  refine ⟨hlim.keeps x.toInCall.keep, codeAny_func ?_⟩
  obtain ⟨h₁, tk, rfl, _⟩ := x.done
  obtain ⟨cells, NC, Y⟩ := Cl.news (h₀ := s.heap) (Nat.le_refl _) fun n c hm => ⟨x.cell n c (lookup_of_mem_nodup (cellsFrom_names scope.names 0 (s.heap.objs.size + 1) [] [] rfl ▸ hnd) hm), x.above n c hm⟩
  exact h s.heap.objs.size h₁ tk cells ⟨x.toInCall.ns, x.toInCall.keep, Nat.le_refl _⟩ NC Y
end Mine
namespace Mine
/-- what an iterable gives: its iterator I, all else kept -/
abbrev Iters (prog : Program) (w : World) (A : Around) (s : Shared) (n : Nat) (P : Nat → Value → Prop) (it : Value) (s₂ : Shared) : Prop :=
  ∃ (I : Nat) (fp : List Addr) (St : Nat → Heap → Prop) (h₂ : Heap) (tk₂ : Nat), it = .ref I ∧ s₂ = { s with heap := h₂, toks := tk₂ } ∧ Keep s.heap h₂ ∧ s.heap.objs.size ≤ I ∧ I < h₂.objs.size ∧ Walks prog w A I fp [I] n P St ∧ St 0 h₂ ∧ ∀ b ∈ fp, b ≤ I
section
variable {prog : Program} {w : World} {A : Around} {E : Value → Shared → Prop} {s : Shared} {env : Env} {elt iter : Expr} {x : Str} {px : Pos} {ifs : List Expr} {scope : Scope} {pos : Pos} {cl : List (Str × Addr)} {n : Nat} {P : Nat → Value → Prop} {Q : Value → Shared → Prop}
/-- a list comprehension of one clause, its name a local -/
theorem compL (J : Nat → Nat → List Value → Heap → Prop) (tst : Nat → Value → Bool) (hsz : n ≤ sizeLine)
    (hclos : closureFor scope env = pure cl) (hcell : ∀ x ∈ scope.names, x.2 ≠ .cell) (hkind : scope.kind = .function) (hnames : ∀ x ∈ scope.names, x.2 = .local → scope.names.lookup x.1 = some .local)
    (hx : ∀ C, (compEnvC scope cl C env).kindOf x = some .local)
    (hJ0 : ∀ lo h, J lo 0 [] h) (hJk : ∀ lo i ys h h', J lo i ys h → (∀ b o, lo < b → h.get? b = some o → h'.get? b = some o) → J lo i ys h') (hJl : ∀ lo i ys h, J lo i ys h → ys.length ≤ i)
    (hiter : wpAny (model prog w) A (eval iter env) (fun xv s₁ => wpAny (model prog w) A (pyIter xv) (Iters prog w A s n P) E s₁) E s)
    (htest : ∀ C i v ys h tk m, i < n → P i v → J C i ys h → h.Ns C m → m x = some v → Keep s.heap h →
      wpAny (model prog w) A (testsOf ifs (compEnvC scope cl C env)) (fun ok s₁ => (∃ tk', s₁ = { s with heap := h, toks := tk' }) ∧ ok = tst i v ∧ (ok = false → J C (i + 1) ys h)) NoE { s with heap := h, toks := tk })
    (helt : ∀ C i v ys h tk m, i < n → P i v → tst i v = true → J C i ys h → h.Ns C m → m x = some v → Keep s.heap h →
      wpAny (model prog w) A (eval elt (compEnvC scope cl C env)) (fun y s₁ => ∃ h' tk', s₁ = { s with heap := h', toks := tk' } ∧ Keep h h' ∧ J C (i + 1) (ys ++ [y]) h') NoE { s with heap := h, toks := tk })
    (hq : ∀ D C ys c h' tk', Keep s.heap h' → s.heap.objs.size ≤ D → D < C → J C n ys h' → h'.get? D = some (listOf ys.toArray c) → Q (.ref D) { s with heap := h', toks := tk' })
    (hs : ∀ x, foldedSetIterable iter env x = pure x := by intro _; rfl) :
    wpAny (model prog w) A (eval (.ListComp elt [⟨.Name x px, iter, ifs, 0⟩] scope pos) env) Q E s := by
  refine compTop (cl := cl) hclos hcell hkind hnames ?_ hs
  refine wpAny_mono hiter (fun xv s₁ h₁ => wpAny_mono h₁ (fun it s₂ h₂ => ?_) fun _ _ e => e) fun _ _ e => e
  obtain ⟨I, fp, St, h₂, tk₂, rfl, rfl, k₂, hI, hI2, W, hSt, hfp⟩ := h₂
  intro D C h₃ hD hC k₃ hDo hNs
  have hID : I < D := by rw [hD]; exact hI2
  have hDC : D < C := by rw [hD, hC]; exact Nat.lt_succ_self _
  have hbC : ∀ b o, s.heap.get? b = some o → b < C := fun b o e => Nat.lt_trans (Nat.lt_of_lt_of_le (Heap.lt_size e) hI) (Nat.lt_trans hID hDC)
  refine loopLoc (s := s) (base := s.heap) (cenv := compEnvC scope cl C env) W (J C) tst hsz (fun b o e => Nat.lt_of_lt_of_le (Heap.lt_size e) hI) hID hDC hfp (hx C) ?_ (hJk C) (hJl C) (htest C) (helt C) ?_ (W.frame _ _ _ hSt fun b _ o e => k₃ b o e) (hJ0 _ _) hNs hDo (Keep.trans k₂ k₃)
  · show (scope.kind == .class || (scope.kind == .module && _)) = false
    rw [hkind]; rfl
  · intro ys h tk m c hJ hn hDf hK
    refine ⟨m, hn, fun h' hs' => ?_⟩
    exact hq D C ys c h' tk (fun b o e => hs'.extBut b o (Nat.ne_of_lt (hbC b o e)) (hK b o e)) (Nat.le_trans hI (Nat.le_of_lt hID)) hDC (hJk _ _ _ _ _ hJ fun b o hb e => hs'.extBut b o (Nat.ne_of_gt hb) e) (hs'.extBut _ _ (Nat.ne_of_lt hDC) hDf)
/-- the same, its name a cell -/
theorem compC (J : Nat → Nat → List Value → Heap → Prop) (tst : Nat → Value → Bool) (hsz : n ≤ sizeLine)
    (hclos : closureFor scope env = pure cl) (hkind : scope.kind = .function) (hnames : ∀ x ∈ scope.names, x.2 = .local → scope.names.lookup x.1 = some .local)
    (hcf : ∀ n, cellsFrom n scope.names cl = (x, n) :: cl) (hpc : ∀ h, pushCells h scope.names = h.push { cls := .type "cell", data := .cell none })
    (hx : ∀ C, (compEnvC scope ((x, C + 1) :: cl) C env).kindOf x = some .cell)
    (hJ0 : ∀ lo h, J lo 0 [] h) (hJk : ∀ lo i ys h h', J lo i ys h → (∀ b o, lo < b → h.get? b = some o → h'.get? b = some o) → J lo i ys h') (hJl : ∀ lo i ys h, J lo i ys h → ys.length ≤ i)
    (hiter : wpAny (model prog w) A (eval iter env) (fun xv s₁ => wpAny (model prog w) A (pyIter xv) (Iters prog w A s n P) E s₁) E s)
    (htest : ∀ C i v ys h tk, i < n → P i v → J (C + 1) i ys h → h.IsCell (C + 1) (some v) → Keep s.heap h →
      wpAny (model prog w) A (testsOf ifs (compEnvC scope ((x, C + 1) :: cl) C env)) (fun ok s₁ => (∃ tk', s₁ = { s with heap := h, toks := tk' }) ∧ ok = tst i v ∧ (ok = false → J (C + 1) (i + 1) ys h)) NoE { s with heap := h, toks := tk })
    (helt : ∀ C i v ys h tk, i < n → P i v → tst i v = true → J (C + 1) i ys h → h.IsCell (C + 1) (some v) → Keep s.heap h →
      wpAny (model prog w) A (eval elt (compEnvC scope ((x, C + 1) :: cl) C env)) (fun y s₁ => ∃ h' tk', s₁ = { s with heap := h', toks := tk' } ∧ Keep h h' ∧ J (C + 1) (i + 1) (ys ++ [y]) h') NoE { s with heap := h, toks := tk })
    (hq : ∀ D C ys c h' tk', Keep s.heap h' → s.heap.objs.size ≤ D → D < C → J C n ys h' → h'.get? D = some (listOf ys.toArray c) → Q (.ref D) { s with heap := h', toks := tk' })
    (hs : ∀ x, foldedSetIterable iter env x = pure x := by intro _; rfl) :
    wpAny (model prog w) A (eval (.ListComp elt [⟨.Name x px, iter, ifs, 0⟩] scope pos) env) Q E s := by
  refine compTopC (cl := cl) (x := x) hclos hkind hnames hcf hpc ?_ hs
  refine wpAny_mono hiter (fun xv s₁ h₁ => wpAny_mono h₁ (fun it s₂ h₂ => ?_) fun _ _ e => e) fun _ _ e => e
  obtain ⟨I, fp, St, h₂, tk₂, rfl, rfl, k₂, hI, hI2, W, hSt, hfp⟩ := h₂
  intro D C h₃ hD hC k₃ hDo hNs hco
  have hID : I < D := by rw [hD]; exact hI2
  have hDC : D < C := by rw [hD, hC]; exact Nat.lt_succ_self _
  have hbC : ∀ b o, s.heap.get? b = some o → b < C := fun b o e => Nat.lt_trans (Nat.lt_of_lt_of_le (Heap.lt_size e) hI) (Nat.lt_trans hID hDC)
  refine loopCell (s := s) (base := s.heap) (cenv := compEnvC scope ((x, C + 1) :: cl) C env) W (J (C + 1)) tst hsz (fun b o e => Nat.lt_of_lt_of_le (Heap.lt_size e) hI) hID hDC hfp (hx C) hkind ?_ (hJk (C + 1)) (hJl (C + 1)) (htest C) (helt C) ?_ (W.frame _ _ _ hSt fun b _ o e => k₃ b o e) (hJ0 _ _) hNs ⟨_, hco, rfl⟩ hDo (Keep.trans k₂ k₃)
  · show List.lookup x ((x, C + 1) :: cl) = _
    rw [List.lookup_cons, beq_self_eq_true]
    rfl
  · intro ys h tk m c hJ hn hDf hK
    refine ⟨m, hn, fun h' hs' => ?_⟩
    exact hq D (C + 1) ys c h' tk (fun b o e => hs'.extBut b o (Nat.ne_of_lt (hbC b o e)) (hK b o e)) (Nat.le_trans hI (Nat.le_of_lt hID)) (Nat.lt_succ_of_lt hDC) (hJk _ _ _ _ _ hJ fun b o hb e => hs'.extBut b o (Nat.ne_of_gt (Nat.lt_of_succ_lt hb)) e) (hs'.extBut _ _ (Nat.ne_of_lt hDC) hDf)
end
/-- range as an iterable -/
theorem iterRange {prog : Program} {w : World} {A : Around} {E : Value → Shared → Prop} {s : Shared} {env : Env} {K : Frag} {h₀ : Heap} {p loose mean mg mb} {rp rpos : Pos} {n : Nat} {k : Nat} {kp : Pos} (hh : A.handled = none)
    (X : K.In h₀) (T : Top p loose mean mg mb h₀) (kb : Keep h₀ s.heap) (e : nsIn K mainGlobals (Str.ofString "range") = some none)
    (hg : env.globals = mainGlobals) (hb : env.builtins = builtinsNs) (hk : env.scope.kind = .function) (hx : env.kindOf (Str.ofString "range") = some .globalImplicit)
    (hse : backTo rpos (starEach [.Constant (.int n) k kp] env) = [(false, eval (.Constant (.int n) k kp) env)]) (hn : n < 100) :
    wpAny (model prog w) A (eval (.Call (.Name (Str.ofString "range") rp) [.Constant (.int n) k kp] [] rpos) env) (fun xv s₁ => wpAny (model prog w) A (pyIter xv) (Iters prog w A s n (fun i v => ∃ t, v = .int (i : Int) t)) E s₁) E s := by
  refine rangeI X T kb e hg hb hk hx hse hn fun h' tk' hk' hz hI => ?_
  refine ⟨s.heap.objs.size + 1, [s.heap.objs.size + 1], _, h', tk', rfl, rfl, hk', Nat.le_succ _, by rw [hz]; exact Nat.lt_succ_self _, walksR hh _ n, ?_, ?_⟩
  · simpa using hI
  · intro b hb; simp at hb; exact Nat.le_of_eq hb
/-- a list as an iterable -/
theorem iterList {prog : Program} {w : World} {A : Around} {E : Value → Shared → Prop} {s : Shared} {l : Addr} {items : List Value} (hh : A.handled = none) (hl : s.heap.IsList l items.toArray) :
    wpAny (model prog w) A (pyIter (.ref l)) (Iters prog w A s items.length (fun i v => items[i]? = some v)) E s := by
  refine wpAny_pyIter_list hl ?_
  have hls : l < s.heap.objs.size := by obtain ⟨o, ho, _⟩ := hl; exact Heap.lt_size ho
  have hk : Keep s.heap (s.heap.push { cls := .type "list_iterator", data := .fields #[.ref l, .int 0 0] }) := fun b o e => Heap.get?_push_of_some _ e
  refine ⟨s.heap.objs.size, [s.heap.objs.size, l], _, _, s.toks, rfl, rfl, hk, Nat.le_refl _, by rw [Heap.size_push]; exact Nat.lt_succ_self _, walksL hh _ l (Nat.ne_of_lt hls) items, ⟨⟨_, Heap.get?_push_size _ rfl, rfl, rfl⟩, Keep.isList hk hl⟩, ?_⟩
  intro b hb
  simp at hb
  rcases hb with rfl | rfl
  · exact Nat.le_refl _
  · exact Nat.le_of_lt hls
end Mine
namespace Mine
theorem seqAtR (n : Nat) {M : Model} {A : Around} {env : Env} {body : List Stmt} {Q : Flow → Shared → Prop} {E : Value → Shared → Prop} {s : Shared}
    (P : Shared → Prop)
    (h1 : wpAny M A (execs (body.take n) env) (fun f s' => match f with | .next => Box (P s') | f => Q f s') E s)
    (h2 : ∀ s', P s' → wpAny M A (execs (body.drop n) env) Q E s') : wpAny M A (execs body env) Q E s := by
  have e := execs_append (body.take n) (body.drop n) env
  rw [List.take_append_drop] at e
  rw [e]
  refine wpAny_bind (wpAny_mono h1 (fun f s' h => ?_) fun _ _ h => h)
  cases f with
  | next => exact h2 s' h.out
  | brk => exact wpAny_pure h
  | cont => exact wpAny_pure h
  | ret v => exact wpAny_pure h
theorem addL {prog : Program} {w : World} {A : Around} {E : Value → Shared → Prop} {s : Shared} {l b : Addr} {vs ws : List Value} {Q : Value → Shared → Prop} (hl : s.heap.IsList l vs.toArray) (hb : s.heap.IsList b ws.toArray)
    (h : ∀ h', Keep s.heap h' → h'.get? s.heap.objs.size = some (listOf (vs ++ ws).toArray 0) → h'.objs.size = s.heap.objs.size + 1 → Q (.ref s.heap.objs.size) { s with heap := h' })
    (hsz : vs.length + ws.length ≤ sizeLine) :
    wpAny (model prog w) A (binaryOp .Add (.ref l) (.ref b)) Q E s := by
  obtain ⟨⟨cls, dd, data, sl⟩, ho, hc, n, hd⟩ := id hl
  obtain ⟨⟨cls2, dd2, data2, sl2⟩, ho2, hc2, n2, hd2⟩ := id hb
  simp only at hc hd hc2 hd2
  subst hc hd hc2 hd2
  have e : vs.toArray ++ ws.toArray = (vs ++ ws).toArray := by simp
  refine concat_meets ⟨_, ho, rfl⟩ ⟨_, ho2, rfl⟩ noFill_list_add seq_list_add PySem.F.slot_list_add PySem.F.entry_list_add (PySem.F.args_list_add_2 _ _) (list_addW l b vs.toArray ws.toArray n n2 dd dd2 sl sl2 (by simpa using hsz)) ⟨ho, ho2, ?_⟩
  rw [e]
  exact h _ (fun b o e => Heap.get?_push_of_some _ e) (Heap.get?_push_size _ rfl) (Heap.size_push ..)
abbrev Row := Nat × List (Int × Tok) × Nat
def RowOk (h : Heap) (r : Row) : Prop := h.get? r.1 = some (listOf (ivals r.2.1).toArray r.2.2) ∧ r.2.1.length = 4 ∧ ∀ x ∈ r.2.1, 0 ≤ x.1 ∧ x.1 < 4
def RowsJ (lo i : Nat) (ys : List Value) (h : Heap) : Prop :=
  ∃ rs : List Row, ys = rs.map (fun r => Value.ref r.1) ∧ rs.length = i ∧ (∀ r ∈ rs, lo < r.1 ∧ RowOk h r) ∧ rs.Pairwise (fun a b => a.1 < b.1)
theorem RowsJ.k {lo i ys h h'} (J : RowsJ lo i ys h) (k : ∀ b o, lo < b → h.get? b = some o → h'.get? b = some o) : RowsJ lo i ys h' := by
  obtain ⟨rs, a, b, c, d⟩ := J
  exact ⟨rs, a, b, fun r hr => ⟨(c r hr).1, k _ _ (c r hr).1 (c r hr).2.1, (c r hr).2.2⟩, d⟩
theorem RowsJ.snoc {lo i ys h h' a vs c} (J : RowsJ lo i ys h) (k : Keep h h') (ha : h.objs.size ≤ a) (hlo : lo < h.objs.size) (hr : RowOk h' (a, vs, c)) : RowsJ lo (i + 1) (ys ++ [.ref a]) h' := by
  obtain ⟨rs, rfl, rfl, q, d⟩ := J
  refine ⟨rs ++ [(a, vs, c)], by simp, by simp, ?_, ?_⟩
  · intro r hm
    rcases List.mem_append.mp hm with hm | hm
    · exact ⟨(q r hm).1, k _ _ (q r hm).2.1, (q r hm).2.2⟩
    · rw [List.mem_singleton.mp hm]; exact ⟨Nat.lt_of_lt_of_le hlo ha, hr⟩
  · rw [List.pairwise_append]
    refine ⟨d, List.pairwise_singleton .., ?_⟩
    intro x hx y hy
    rw [List.mem_singleton.mp hy]
    exact Nat.lt_of_lt_of_le (Heap.lt_size (q x hx).2.1) ha
theorem RowsJ.len {lo i ys h} (J : RowsJ lo i ys h) : ys.length ≤ i := by
  obtain ⟨rs, rfl, rfl, _⟩ := J; simp
def IntsJ (f : Nat → Int) (lo i : Nat) (ys : List Value) (h : Heap) : Prop := ∃ vs : List (Int × Tok), ys = ivals vs ∧ vs.map (·.1) = (List.range i).map f
theorem IntsJ.len {f lo i ys h} (J : IntsJ f lo i ys h) : ys.length ≤ i := by
  obtain ⟨vs, rfl, e⟩ := J
  have := congrArg List.length e
  simp at this
  simp [ivals, this]
theorem IntsJ.snoc {f lo i ys h h'} {v : Int} {t : Tok} (J : IntsJ f lo i ys h) (e : v = f i) : IntsJ f lo (i + 1) (ys ++ [.int v t]) h' := by
  obtain ⟨vs, rfl, e'⟩ := J
  exact ⟨vs ++ [(v, t)], by simp [ivals], by simp [List.range_succ, e', e]⟩
theorem ints_row {f : Nat → Int} {vs : List (Int × Tok)} (e : vs.map (·.1) = (List.range 4).map f) (hf : ∀ i, i < 4 → 0 ≤ f i ∧ f i < 4) : vs.length = 4 ∧ ∀ x ∈ vs, 0 ≤ x.1 ∧ x.1 < 4 := by
  have := congrArg List.length e
  simp at this
  refine ⟨this, fun x hx => ?_⟩
  have hm : x.1 ∈ vs.map (·.1) := List.mem_map_of_mem hx
  rw [e] at hm
  obtain ⟨i, hi, e2⟩ := List.mem_map.mp hm
  rw [← e2]
  exact hf i (List.mem_range.mp hi)
/-- a table of four rows, all new -/
def Tbl (h₀ h : Heap) (v : Value) : Prop :=
  ∃ (a c : Nat) (rs : List Row), v = .ref a ∧ h.get? a = some (listOf (rs.map (fun r => Value.ref r.1)).toArray c) ∧ rs.length = 4 ∧ (∀ r ∈ rs, h₀.get? r.1 = none ∧ RowOk h r ∧ r.1 ≠ a) ∧ rs.Pairwise (fun a b => a.1 < b.1) ∧ h₀.get? a = none
theorem none_of_size {h : Heap} {a : Nat} (e : h.objs.size ≤ a) : h.get? a = none := by
  cases q : h.get? a with
  | none => rfl
  | some o => exact absurd (Heap.lt_size q) (Nat.not_lt.mpr e)
theorem Tbl.of {base h₀ h : Heap} {lo D c : Nat} {ys} (J : RowsJ lo 4 ys h) (hD : h.get? D = some (listOf ys.toArray c)) (hb : ∀ b, base.get? b ≠ none → b < D) (hDl : D < lo) : Tbl base h (.ref D) := by
  obtain ⟨rs, rfl, e, q, d⟩ := J
  have up : ∀ b, D ≤ b → base.get? b = none := fun b hb' => by
    cases z : base.get? b with
    | none => rfl
    | some o => exact absurd (hb b (by rw [z]; simp)) (Nat.not_lt.mpr hb')
  refine ⟨D, c, rs, rfl, hD, e, fun r hr => ⟨up _ (Nat.le_of_lt (Nat.lt_trans hDl (q r hr).1)), (q r hr).2, Nat.ne_of_gt (Nat.lt_trans hDl (q r hr).1)⟩, d, up _ (Nat.le_refl _)⟩
theorem ldF {M : Model} {A : Around} {E : Value → Shared → Prop} {s : Shared} {env : Env} {x : Str} {c : Addr} {v : Value} {pos : Pos} {Q : Value → Shared → Prop} (hv : s.heap.IsCell c (some v)) (h : Q v s)
    (hk : env.scope.kind = .function := by rfl) (hl : env.kindOf x = some .free := by rfl) (hc : env.cells.lookup x = some c := by rfl) (hd : (x == ("__debug__" : Str)) = false := by decide) (hn : (x == ("__classdict__" : Str)) = false := by decide) : wpAny M A (eval (.Name x pos) env) Q E s := wpAny_Name (wpAny_loadName_free hk hl hc hv h hn) hd
theorem ldCe {M : Model} {A : Around} {E : Value → Shared → Prop} {s : Shared} {env : Env} {x : Str} {c : Addr} {v : Value} {pos : Pos} {Q : Value → Shared → Prop} (hv : s.heap.IsCell c (some v)) (h : Q v s)
    (hk : env.scope.kind = .function := by rfl) (hl : env.kindOf x = some .cell := by rfl) (hc : env.cells.lookup x = some c := by rfl) (hd : (x == ("__debug__" : Str)) = false := by decide) : wpAny M A (eval (.Name x pos) env) Q E s := wpAny_Name (wpAny_loadName_cell hk hl hc hv h) hd
theorem Keep.cell {h h' : Heap} (k : Keep h h') {c v} (x : h.IsCell c v) : h'.IsCell c v := x.keeps k
end Mine
namespace Mine
theorem kf_ints_i : ∀ vs : List (Int × Tok), kf_ints (ivals vs) = true
  | [] => rfl
  | x :: r => by
    have ih := kf_ints_i r
    show kf_ints (.int x.1 x.2 :: ivals r) = true
    unfold kf_ints
    exact ih
theorem kf_at_i (k : Int) : ∀ vs : List (Int × Tok), k ∈ vs.map (·.1) → ∃ j, j < vs.length ∧ kf_at k (ivals vs) = some j
  | [], h => by simp at h
  | x :: r, h => by
    show ∃ j, j < (x :: r).length ∧ kf_at k (.int x.1 x.2 :: ivals r) = some j
    unfold kf_at
    cases hx : isInt k (.int x.1 x.2) with
    | true => exact ⟨0, by simp, by simp⟩
    | false =>
      have hne : k ≠ x.1 := fun e => by
        subst e
        simp [isInt] at hx
      have hm : k ∈ r.map (·.1) := by
        rcases List.mem_cons.mp h with e | e
        · exact absurd e hne
        · exact e
      obtain ⟨j, hj, e⟩ := kf_at_i k r hm
      refine ⟨j + 1, by simpa using hj, ?_⟩
      rw [e]
      simp
theorem idxI {prog : Program} {w : World} {A : Around} {E : Value → Shared → Prop} {s : Shared} {D : Addr} {vs : List (Int × Tok)} {n : Nat} {k : Int} {t : Tok} {Q : Value → Shared → Prop} (ho : s.heap.get? D = some (listOf (ivals vs).toArray n)) (hk : k ∈ vs.map (·.1)) (hz : vs.length ≤ sizeLine)
    (h : ∀ j : Nat, j < vs.length → Q (.int j s.toks) { s with toks := s.toks + 1 }) : wpAny (model prog w) A (call (.builtin "list.index") [.ref D, .int k t]) Q E s := by
  obtain ⟨j, hj, e⟩ := kf_at_i k vs hk
  have N : News (default : Heap) (D + 1) s.heap [(D, listOf (ivals vs).toArray n)] := fun p hp => by
    rw [List.mem_singleton.mp hp]
    exact ⟨ho, Nat.ne_of_lt (Nat.lt_succ_self _), none_of_size (Nat.zero_le _)⟩
  exact kf_index N (.head _) (kf_ints_i vs) e rfl (by simpa [ivals] using hz) (h j hj)
theorem methList {prog : Program} {w : World} {A : Around} {E : Value → Shared → Prop} {s : Shared} {D : Addr} {its : Array Value} {n : Nat} {name : Str} {id : String} {pl : Sem Bool} {Q : Value × List Value → Shared → Prop} (ho : s.heap.get? D = some (listOf its n)) (slot : Slot "list" name id) (hty : typeOf (.builtin id) = pure (.type "method_descriptor"))
    (h : Q (.builtin id, [.ref D]) s) : wpAny (model prog w) A (getMethod (.ref D) name pl) Q E s :=
  getMethod_builtin ⟨_, ho, rfl⟩ PySem.F.plainAttrs_list slot hty (fun a e => by cases e; exact ⟨_, ho, rfl⟩) h
end Mine
namespace Mine

def Clo (ls : List Int) : Prop := ls.length = 4 ∧ ∀ a ∈ ls, ∀ b ∈ ls, Builtin.bitOr a b ∈ ls
theorem clo0 : Clo [0, 1, 3, 7] := by unfold Clo; decide
theorem clo1 : Clo [0, 1, 2, 3] := by unfold Clo; decide
theorem clo2 : Clo [1, 2, 3, 7] := by unfold Clo; decide
theorem clo3 : Clo [4, 5, 3, 7] := by unfold Clo; decide
theorem clo4 : Clo [6, 5, 3, 7] := by unfold Clo; decide
theorem ne_data {h : Heap} {a b : Addr} {oa ob : Obj} (ha : h.get? a = some oa) (hb : h.get? b = some ob) (ho : oa.data ≠ ob.data) : a ≠ b := fun e => by
  rw [e, hb] at ha
  exact ho (congrArg Obj.data (Option.some.inj ha).symm)
theorem news3 {base h : Heap} {L : Addr} {a b c : Addr × Obj} (x : h.get? a.1 = some a.2 ∧ a.1 ≠ L ∧ base.get? a.1 = none) (y : h.get? b.1 = some b.2 ∧ b.1 ≠ L ∧ base.get? b.1 = none) (z : h.get? c.1 = some c.2 ∧ c.1 ≠ L ∧ base.get? c.1 = none) : News base L h [a, b, c] := fun p hp => by
  rcases List.mem_cons.mp hp with rfl | hp
  · exact x
  · rcases List.mem_cons.mp hp with rfl | hp
    · exact y
    · rw [List.mem_singleton.mp hp]; exact z
theorem fmod_lt (a b : Int) (hb : 0 < b) : 0 ≤ a.fmod b ∧ a.fmod b < b := ⟨Int.fmod_nonneg_of_pos a hb, Int.fmod_lt_of_pos a hb⟩
theorem fdiv_lt (a b : Int) (ha : 0 ≤ a) (hb : 0 < b) : 0 ≤ a.fdiv b ∧ a.fdiv b ≤ a := by
  rw [Int.fdiv_eq_ediv_of_nonneg a (Int.le_of_lt hb)]
  exact ⟨Int.ediv_nonneg ha (Int.le_of_lt hb), Int.ediv_le_self b ha⟩
theorem cutI : ∀ (rest : List (Int × Tok)) (k : Nat) (hk : k < rest.length), kl_cut (ivals rest) k = some (ivals (rest.take k), .int (rest[k]).1 (rest[k]).2, ivals (rest.drop (k + 1)))
  | [], k, hk => by simp at hk
  | x :: r, 0, hk => rfl
  | x :: r, k + 1, hk => by
    have ih := cutI r k (by simpa using hk)
    show (match kl_cut (ivals r) k with | some (p, y, q) => some (_ :: p, y, q) | none => none) = _
    rw [ih]; rfl


abbrev NatP : Nat → Value → Prop := fun i v => ∃ t, v = .int (i : Int) t
theorem rowsJ0 (lo : Nat) (h : Heap) : RowsJ lo 0 [] h := ⟨[], rfl, rfl, (fun _ z => nomatch z), List.Pairwise.nil⟩
theorem intsJ0 (f : Nat → Int) (lo : Nat) (h : Heap) : IntsJ f lo 0 [] h := ⟨[], rfl, rfl⟩
def five (a b : Nat) : Int := if (a : Int) == b then a else if ((a : Int) - b).fmod 3 == 1 then a else b
theorem five_ok : ∀ a, a < 3 → ∀ b, b < 3 → 0 ≤ five a b ∧ five a b < 4 := by decide
theorem xor_ok : ∀ a, a < 4 → ∀ b, b < 4 → 0 ≤ Builtin.bitXor (Int.ofNat a) (Int.ofNat b) ∧ Builtin.bitXor (Int.ofNat a) (Int.ofNat b) < 4 := by decide
theorem row_five {a : Nat} {vs : List (Int × Tok)} {t : Tok} (ha : a < 3) (e : vs.map (·.1) = (List.range 3).map (five a)) : (vs ++ [(3, t)]).length = 4 ∧ ∀ x ∈ vs ++ [((3 : Int), t)], 0 ≤ x.1 ∧ x.1 < 4 := by
  have := congrArg List.length e
  simp at this
  refine ⟨by simp [this], fun x hx => ?_⟩
  rcases List.mem_append.mp hx with hx | hx
  · have hm : x.1 ∈ vs.map (·.1) := List.mem_map_of_mem hx
    rw [e] at hm
    obtain ⟨i, hi, e2⟩ := List.mem_map.mp hm
    rw [← e2]
    exact five_ok a ha i (List.mem_range.mp hi)
  · rw [List.mem_singleton.mp hx]; show (0 : Int) ≤ 3 ∧ (3 : Int) < 4; decide

theorem table_spec {w : World} {p loose mean mg mb} {A : Around} {s : Shared} {R : Result → Shared → Prop} {kind turn : Int} {t u : Tok}
   (hr : A.depth + 8 < recursionLimit) (hu : A.units + 60 < cLine) (hh : A.handled = none)
   (hk0 : 0 ≤ kind) (hk8 : kind < 8) (ht0 : 0 ≤ turn) (ht24 : turn < 24)
   (hret : ∀ v h' tk', Keep s.heap h' → Tbl s.heap h' v → R (.ok (.ret v)) { s with heap := h', toks := tk' }) 
   (X : (hd.heap_39 w.params).In s.heap) (T : Top p loose mean mg mb s.heap) :
   codeAny (model PySem.Challenge.rw_om0026_01.row.prog w) A (.call (.ref 97) ⟨[.int kind t, .int turn u], []⟩) R s := by
  w_on
  revert X T; k_fill; intro X T
  refine' enterFC (binds := [(Str.ofString "kind", Value.int kind t), (Str.ofString "turn", Value.int turn u)]) X T.nolimit ?ho ?hcd ?hroom ?hbind ?hkd ?hnd ?h ?c1 ?c2 ?c3
  case ho => k_is
  case hcd => k_is
  case hroom => omega
  case hbind => exact BindsTo.of_eq rfl
  case hkd => exact rfl
  case hnd => decide +kernel
  case c1 => exact rfl
  case c2 => exact rfl
  case c3 => exact rfl
  intro L' h' tk' cells' F' N' Y'

  obtain ⟨oc, rfl, dc⟩ := CellsAre.one Y'
  replace dc : oc.data = .cell none := dc
  replace F' : Fr s.heap L' h' (fun y => if y = Str.ofString "turn" then some (.int turn u) else if y = Str.ofString "kind" then some (.int kind t) else none) := F'
  replace N' : News s.heap L' h' [(L' + 1, oc)] := N'
  have hbase : ∀ {b : Nat}, s.heap.get? b ≠ none → b < h'.objs.size := fun {b} z => by
    cases q : s.heap.get? b with
    | none => exact absurd q z
    | some o => exact Heap.lt_size (F'.keep _ _ q)
  refine seqAtR 5 (fun s₁ => ∃ (h : Heap) (tk : Nat) (m : Str → Option Value) (na la : Addr) (o2 : Obj) (ls : List (Int × Tok)) (ct : Nat), s₁ = { s with heap := h, toks := tk } ∧ Fr s.heap L' h m ∧ m (Str.ofString "turn") = some (.int turn u) ∧ m (Str.ofString "left") = some (.ref la) ∧ News s.heap L' h [(na, listOf #[] 0), (la, listOf (ivals ls).toArray ct), (L' + 1, o2)] ∧ o2.data = .cell (some (.ref na)) ∧ Clo (ls.map (·.1)) ∧ na ≠ la ∧ na ≠ L' + 1 ∧ la ≠ L' + 1) ?_ ?_
  · dsimp only [List.take]
    k_with "eval ListComp BinOp cons" => (refine stop ?_)
    k_with "eval ListComp List cons" => (refine stop ?_)
    k_with "eval ListComp ListComp cons" => (refine stop ?_)
    k_steps

    · constructor
      refine compC (cl := []) (n := 3) (P := NatP) RowsJ (fun _ _ => true) (by decide) rfl rfl (by decide) (fun _ => rfl) (fun _ => rfl) (fun _ => rfl) rowsJ0 (fun _ _ _ _ _ J k => J.k k) (fun _ _ _ _ J => J.len) (iterRange ?hh1 X T F'.keep (by k_is) rfl rfl rfl rfl rfl (by decide)) ?ht1 ?he1 ?hq1
      case hh1 => exact hh
      case ht1 => intros; exact tests_none ⟨⟨_, rfl⟩, rfl, fun e => by cases e⟩
      case he1 =>
        rintro C i v ys h tk hi ⟨tv, rfl⟩ _ J hc hK
        refine wpAny_BinOp ?_
        refine compL (cl := [(Str.ofString "a", C + 1)]) (n := 3) (P := NatP) (IntsJ (five i)) (fun _ _ => true) (by decide) rfl (by decide) rfl (by decide) (fun _ => rfl) (intsJ0 _) (fun _ _ _ _ _ J k => J) (fun _ _ _ _ J => J.len) (iterRange ?hh2 X T (Keep.trans F'.keep hK) (by k_is) rfl rfl rfl rfl rfl (by decide)) ?ht2 ?he2 ?hq2
        case hh2 => exact hh
        case ht2 => intros; exact tests_none ⟨⟨_, rfl⟩, rfl, fun e => by cases e⟩
        case he2 =>
          rintro C2 j v2 ys2 h2 tk2 m2 hj ⟨tv2, rfl⟩ _ J2 hn2 hm2 hK2
          have hc2 := Keep.cell hK2 hc
          have go : ∀ (tk : Nat) (v : Int) (t : Tok), v = five i j → ∃ h' tk', (Shared.mk h2 s.gens s.drawn tk s.os) = { s with heap := h', toks := tk' } ∧ Keep h2 h' ∧ IntsJ (five i) C2 (j + 1) (ys2 ++ [.int v t]) h' := fun tk v t e => ⟨h2, tk, rfl, Keep.refl _, J2.snoc e⟩
          refine wpAny_IfExp (wpAny_isTrue_BoolOp (wpAny_allTrue_Or_cons (wpAny_isTrue_Compare1 (ldCe hc2 (Mine.ldC hn2 hm2 (PyProof.Rows.eq_int (wpAny_truthy_bool ?_)))))))
          by_cases e1 : ((i : Int) == (j : Int)) = true
          · refine if_t e1 ?_
            refine if_t rfl (ldCe hc2 (go _ _ _ ?_))
            unfold five; rw [if_pos e1]
          · have e1f : ((i : Int) == (j : Int)) = false := by simpa using e1
            refine if_f e1f ?_
            refine wpAny_allTrue_Or_cons (wpAny_isTrue_Compare1 (wpAny_BinOp (wpAny_BinOp (ldCe hc2 (Mine.ldC hn2 hm2 (PyProof.Rows.sub_int (wpAny_Constant_int (PyProof.Rows.mod_int (by decide) (wpAny_Constant_int (PyProof.Rows.eq_int (wpAny_truthy_bool ?_)))))))))))
            by_cases e2 : (((i : Int) - (j : Int)).fmod 3 == 1) = true
            · refine if_t e2 ?_
              refine if_t rfl (ldCe hc2 (go _ _ _ ?_))
              unfold five; rw [if_neg e1, if_pos e2]
            · have e2f : (((i : Int) - (j : Int)).fmod 3 == 1) = false := by simpa using e2
              refine if_f e2f ?_
              refine wpAny_allTrue_Or_nil ?_
              refine if_f rfl (Mine.ldC hn2 hm2 (go _ _ _ ?_))
              unfold five; rw [if_neg e1, if_neg e2]
        case hq2 =>
          rintro D C2 ys2 c2 h2 tk2 k2 hD hDC ⟨vs, rfl, hvs⟩ hDo
          refine wpAny_List (spliced_more (wpAny_Constant_int (spliced_none ⟨Nat.le_of_ble_eq_true rfl, ?_⟩)))
          have kp := fun (o : Obj) => (fun b ob e => Heap.get?_push_of_some o e : Keep h2 (h2.push o))
          refine addL (vs := ivals vs) (ws := [.int 3 tk2]) ⟨_, kp _ _ _ hDo, rfl, _, rfl⟩ ⟨_, Heap.get?_push_size _ rfl, rfl, _, rfl⟩ ?_ ?_
          · intro h3 k3 h3o _
            refine ⟨h3, _, rfl, Keep.trans k2 (Keep.trans (kp _) k3), J.snoc (vs := vs ++ [(3, tk2)]) (c := 0) (Keep.trans k2 (Keep.trans (kp _) k3)) ?_ hc.lt ⟨?_, row_five hi hvs⟩⟩
            · show h.objs.size ≤ (h2.push _).objs.size
              rw [Heap.size_push]
              exact Nat.le_of_lt (Nat.lt_succ_of_lt (Nat.lt_of_le_of_lt hD (Heap.lt_size hDo)))
            · rw [h3o]; simp [ivals]
          · have := congrArg List.length hvs
            simp at this
            simp [ivals, this]; decide
      case hq1 =>
        rintro D C ys c h2 tk2 k2 hD hDC ⟨rs, rfl, hl, hro, hpw⟩ hDo
        refine wpAny_List (spliced_more (wpAny_List (spliced_more (wpAny_Constant_int (spliced_more (wpAny_Constant_int (spliced_more (wpAny_Constant_int (spliced_more (wpAny_Constant_int (spliced_none ⟨Nat.le_of_ble_eq_true rfl, spliced_none ⟨Nat.le_of_ble_eq_true rfl, ?_⟩⟩)))))))))))
        refine addL (vs := rs.map (fun r => Value.ref r.1)) (ws := [.ref h2.objs.size]) ⟨_, Heap.get?_push_of_some _ (Heap.get?_push_of_some _ hDo), rfl, _, rfl⟩ ⟨_, Heap.get?_push_size _ rfl, rfl, _, rfl⟩ ?_ (by simp [hl]; decide)
        intro h3 k3 h3o hz3
        have kk : Keep h2 h3 := fun b o e => k3 b o (Heap.get?_push_of_some _ (Heap.get?_push_of_some _ e))
        refine hret _ _ _ (Keep.trans F'.keep (Keep.trans k2 kk)) ?_
        have hbig : h2.objs.size < (Heap.push (Heap.push h2 { cls := .type "list", data := .seq [Value.int 3 tk2, Value.int 3 (tk2 + 1), Value.int 3 (tk2 + 1 + 1), Value.int 3 (tk2 + 1 + 1 + 1)].toArray }) { cls := .type "list", data := .seq [Value.ref h2.objs.size].toArray }).objs.size := by
          rw [Heap.size_push, Heap.size_push]; exact Nat.lt_succ_of_lt (Nat.lt_succ_self _)
        have hh'2 : h'.objs.size ≤ h2.objs.size := Nat.le_of_lt (Nat.lt_of_le_of_lt hD (Heap.lt_size hDo))
        have hnone : ∀ b, h'.objs.size ≤ b → s.heap.get? b = none := fun b hb => by
          cases q : s.heap.get? b with
          | none => rfl
          | some o => exact absurd (hbase (b := b) (by rw [q]; simp)) (Nat.not_lt.mpr hb)
        refine ⟨_, 0, rs ++ [(h2.objs.size, [((3 : Int), tk2), (3, tk2 + 1), (3, tk2 + 1 + 1), (3, tk2 + 1 + 1 + 1)], 0)], rfl, ?_, by simp [hl], ?_, ?_, hnone _ (Nat.le_trans hh'2 (Nat.le_of_lt hbig))⟩
        · rw [h3o]; simp
        · intro r hr
          rcases List.mem_append.mp hr with hr | hr
          · have q := hro r hr
            have hlt : r.1 < h2.objs.size := Heap.lt_size q.2.1
            refine ⟨hnone _ (Nat.le_trans hD (Nat.le_of_lt (Nat.lt_trans hDC q.1))), ⟨kk _ _ q.2.1, q.2.2⟩, Nat.ne_of_lt (Nat.lt_trans hlt hbig)⟩
          · rw [List.mem_singleton.mp hr]
            refine ⟨hnone _ hh'2, ⟨k3 _ _ (Heap.get?_push_of_some _ (Heap.get?_push_size _ rfl)), rfl, by simp⟩, Nat.ne_of_lt hbig⟩
        · rw [List.pairwise_append]
          refine ⟨hpw, List.pairwise_singleton .., ?_⟩
          intro x hx y hy
          rw [List.mem_singleton.mp hy]
          exact Heap.lt_size (hro x hx).2.1

    · constructor
      refine compL (cl := []) (n := 4) (P := NatP) RowsJ (fun _ _ => true) (by decide) rfl (by decide) rfl (by decide) (fun _ => rfl) rowsJ0 (fun _ _ _ _ _ J k => J.k k) (fun _ _ _ _ J => J.len) (iterRange ?hh1 X T F'.keep (by k_is) rfl rfl rfl rfl rfl (by decide)) ?ht1 ?he1 ?hq1
      case hh1 => exact hh
      case ht1 => intros; exact tests_none ⟨⟨_, rfl⟩, rfl, fun e => by cases e⟩
      case he1 =>
        rintro C i v ys h tk m hi ⟨tv, rfl⟩ _ J hn hm hK
        refine wpAny_List (spliced_more (wpAny_Constant_int (spliced_more (wpAny_Constant_int (spliced_more (wpAny_Constant_int (spliced_more (wpAny_Constant_int (spliced_none ⟨Nat.le_of_ble_eq_true rfl, ?_⟩)))))))))
        exact ⟨_, _, rfl, fun b o e => Heap.get?_push_of_some _ e, J.snoc (vs := [((0 : Int), tk), (1, tk + 1), (2, tk + 1 + 1), (3, tk + 1 + 1 + 1)]) (c := 0) (fun b o e => Heap.get?_push_of_some _ e) (Nat.le_refl _) hn.lt ⟨Heap.get?_push_size _ rfl, rfl, by simp⟩⟩
      case hq1 =>
        rintro D C ys c h2 tk2 k2 hD hDC J2 hDo
        exact hret _ _ _ (Keep.trans F'.keep k2) (Tbl.of (h₀ := h') J2 hDo (fun b hb => Nat.lt_of_lt_of_le (hbase hb) hD) hDC)

    · constructor
      refine compC (cl := []) (n := 4) (P := NatP) RowsJ (fun _ _ => true) (by decide) rfl rfl (by decide) (fun _ => rfl) (fun _ => rfl) (fun _ => rfl) rowsJ0 (fun _ _ _ _ _ J k => J.k k) (fun _ _ _ _ J => J.len) (iterRange ?hh1 X T F'.keep (by k_is) rfl rfl rfl rfl rfl (by decide)) ?ht1 ?he1 ?hq1
      case hh1 => exact hh
      case ht1 => intros; exact tests_none ⟨⟨_, rfl⟩, rfl, fun e => by cases e⟩
      case he1 =>
        rintro C i v ys h tk hi ⟨tv, rfl⟩ _ J hc hK
        refine compL (cl := [(Str.ofString "a", C + 1)]) (n := 4) (P := NatP) (IntsJ (fun j => Builtin.bitXor (Int.ofNat i) (Int.ofNat j))) (fun _ _ => true) (by decide) rfl (by decide) rfl (by decide) (fun _ => rfl) (intsJ0 _) (fun _ _ _ _ _ J k => J) (fun _ _ _ _ J => J.len) (iterRange ?hh2 X T (Keep.trans F'.keep hK) (by k_is) rfl rfl rfl rfl rfl (by decide)) ?ht2 ?he2 ?hq2
        case hh2 => exact hh
        case ht2 => intros; exact tests_none ⟨⟨_, rfl⟩, rfl, fun e => by cases e⟩
        case he2 =>
          rintro C2 j v2 ys2 h2 tk2 m2 hj ⟨tv2, rfl⟩ _ J2 hn2 hm2 hK2
          have hc2 := Keep.cell hK2 hc
          exact wpAny_BinOp (ldCe hc2 (Mine.ldC hn2 hm2 (xor_int ⟨h2, _, rfl, Keep.refl _, J2.snoc rfl⟩)))
        case hq2 =>
          rintro D C2 ys2 c2 h2 tk2 k2 hD hDC ⟨vs, rfl, hvs⟩ hDo
          exact ⟨h2, _, rfl, k2, J.snoc (vs := vs) (c := c2) k2 hD hc.lt ⟨hDo, ints_row hvs (fun j hj => xor_ok i hi j hj)⟩⟩
      case hq1 =>
        rintro D C ys c h2 tk2 k2 hD hDC J2 hDo
        exact hret _ _ _ (Keep.trans F'.keep k2) (Tbl.of (h₀ := h') J2 hDo (fun b hb => Nat.lt_of_lt_of_le (hbase hb) hD) hDC)

    · (rename Fr _ _ _ _ => F3); (rename News _ _ _ _ => N3); (rename _ = Data.cell (some _) => d3)
      have e0 := N3 _ (.head _)
      have e1 := N3 _ (.tail _ (.tail _ (.tail _ (.tail _ (.tail _ (.tail _ (.head _)))))))
      have e2 := N3 _ (.tail _ (.tail _ (.tail _ (.tail _ (.tail _ (.tail _ (.tail _ (.head _))))))))
      refine ⟨⟨_, _, _, _, _, _, [(0, _), (1, _), (3, _), (7, _)], 0, rfl, F3, rfl, rfl, news3 e0 e1 e2, d3, clo0, ne_data e0.1 e1.1 (fun z => by cases z), ne_data e0.1 e2.1 (fun z => by rw [d3] at z; cases z), ne_data e1.1 e2.1 (fun z => by rw [d3] at z; cases z)⟩⟩
    · (rename Fr _ _ _ _ => F3); (rename News _ _ _ _ => N3); (rename _ = Data.cell (some _) => d3)
      have e0 := N3 _ (.head _)
      have e1 := N3 _ (.tail _ (.tail _ (.tail _ (.tail _ (.tail _ (.head _))))))
      have e2 := N3 _ (.tail _ (.tail _ (.tail _ (.tail _ (.tail _ (.tail _ (.tail _ (.head _))))))))
      refine ⟨⟨_, _, _, _, _, _, [(0, _), (1, _), (2, _), (3, _)], 0, rfl, F3, rfl, rfl, news3 e0 e1 e2, d3, clo1, ne_data e0.1 e1.1 (fun z => by cases z), ne_data e0.1 e2.1 (fun z => by rw [d3] at z; cases z), ne_data e1.1 e2.1 (fun z => by rw [d3] at z; cases z)⟩⟩
    · (rename Fr _ _ _ _ => F3); (rename News _ _ _ _ => N3); (rename _ = Data.cell (some _) => d3)
      have e0 := N3 _ (.head _)
      have e1 := N3 _ (.tail _ (.tail _ (.tail _ (.tail _ (.head _)))))
      have e2 := N3 _ (.tail _ (.tail _ (.tail _ (.tail _ (.tail _ (.tail _ (.tail _ (.head _))))))))
      refine ⟨⟨_, _, _, _, _, _, [(1, _), (2, _), (3, _), (7, _)], 0, rfl, F3, rfl, rfl, news3 e0 e1 e2, d3, clo2, ne_data e0.1 e1.1 (fun z => by cases z), ne_data e0.1 e2.1 (fun z => by rw [d3] at z; cases z), ne_data e1.1 e2.1 (fun z => by rw [d3] at z; cases z)⟩⟩
    · (rename Fr _ _ _ _ => F3); (rename News _ _ _ _ => N3); (rename _ = Data.cell (some _) => d3)
      have e0 := N3 _ (.head _)
      have e1 := N3 _ (.tail _ (.tail _ (.tail _ (.head _))))
      have e2 := N3 _ (.tail _ (.tail _ (.tail _ (.tail _ (.tail _ (.tail _ (.tail _ (.head _))))))))
      refine ⟨⟨_, _, _, _, _, _, [(4, _), (5, _), (3, _), (7, _)], 0, rfl, F3, rfl, rfl, news3 e0 e1 e2, d3, clo3, ne_data e0.1 e1.1 (fun z => by cases z), ne_data e0.1 e2.1 (fun z => by rw [d3] at z; cases z), ne_data e1.1 e2.1 (fun z => by rw [d3] at z; cases z)⟩⟩
    · (rename Fr _ _ _ _ => F3); (rename News _ _ _ _ => N3); (rename _ = Data.cell (some _) => d3)
      have e0 := N3 _ (.head _)
      have e1 := N3 _ (.tail _ (.tail _ (.head _)))
      have e2 := N3 _ (.tail _ (.tail _ (.tail _ (.tail _ (.tail _ (.tail _ (.tail _ (.head _))))))))
      refine ⟨⟨_, _, _, _, _, _, [(6, _), (5, _), (3, _), (7, _)], 0, rfl, F3, rfl, rfl, news3 e0 e1 e2, d3, clo4, ne_data e0.1 e1.1 (fun z => by cases z), ne_data e0.1 e2.1 (fun z => by rw [d3] at z; cases z), ne_data e1.1 e2.1 (fun z => by rw [d3] at z; cases z)⟩⟩

  · rintro s₁ ⟨h1, tk1, m1, na, la, o2, ls, ct, rfl, F1, hmt, hml, N1, d2, hclo, hne, hne2, hne3⟩
    dsimp only [List.drop]
    refine wpAny_execs_cons (wpAny_For ?_)
    refine wpAny_List (spliced_more (wpAny_Constant_int (spliced_more (wpAny_Constant_int (spliced_more (wpAny_Constant_int (spliced_more (wpAny_Constant_int (spliced_none ⟨Nat.le_of_ble_eq_true rfl, ?_⟩)))))))))
    dsimp only
    have N2 := News.push F1 N1 { cls := .type "list", data := .seq [Value.int 4 tk1, Value.int 3 (tk1 + 1), Value.int 2 (tk1 + 1 + 1), Value.int 1 (tk1 + 1 + 1 + 1)].toArray }
    have F2 := Fr.push F1 { cls := .type "list", data := .seq [Value.int 4 tk1, Value.int 3 (tk1 + 1), Value.int 2 (tk1 + 1 + 1), Value.int 1 (tk1 + 1 + 1 + 1)].toArray }
    have hzlt : ∀ p ∈ [(na, listOf #[] 0), (la, listOf (ivals ls).toArray ct), (L' + 1, o2)], p.1 < h1.objs.size := fun p hp => Heap.lt_size (N1 p hp).1
    have z1 : na ≠ h1.objs.size := Nat.ne_of_lt (hzlt _ (.head _))
    have z2 : la ≠ h1.objs.size := Nat.ne_of_lt (hzlt _ (.tail _ (.head _)))
    have z3 : L' + 1 ≠ h1.objs.size := Nat.ne_of_lt (hzlt _ (.tail _ (.tail _ (.head _))))
    generalize hzz : h1.objs.size = sz at N2 z1 z2 z3
    refine loopList (base := s.heap) (l := sz) (ivals [(4, tk1), (3, tk1 + 1), (2, tk1 + 1 + 1), (1, tk1 + 1 + 1 + 1)]) (fun i m news => ∃ (rest done : List (Int × Tok)) (trn : Int) (t : Tok) (c1 c2 : Nat), m (Str.ofString "left") = some (.ref la) ∧ m (Str.ofString "turn") = some (.int trn t) ∧ 0 ≤ trn ∧ trn < 24 ∧ news = [(sz, listOf (ivals [((4 : Int), tk1), (3, tk1 + 1), (2, tk1 + 1 + 1), (1, tk1 + 1 + 1 + 1)]).toArray 0), (na, listOf (ivals done).toArray c2), (la, listOf (ivals rest).toArray c1), (L' + 1, o2)] ∧ done.length = i ∧ rest.length = 4 - i ∧ List.Perm ((done ++ rest).map (·.1)) (ls.map (·.1))) hh (by rfl) (by rfl) ⟨_, (N2 _ (.head _)).1, rfl, _, rfl⟩ ?src F2 N2 ⟨ls, [], turn, u, ct, 0, hml, hmt, ht0, ht24, rfl, rfl, ?l0, by simp⟩ ?turn ?done
    case l0 => have := hclo.1; simpa using this
    case src =>
      rintro i h m' news' _ ⟨rest, done, trn, t, c1, c2, _, _, _, _, rfl, _⟩ F N
      exact ⟨_, (N _ (.head _)).1, rfl, _, rfl⟩
    case turn =>
      rintro i v m' _ it o h tk hv ⟨rest, done, trn, t, c1, c2, hml, hmt, h0, h24, rfl, hdl, hrl, hpm⟩ F N aw
      obtain ⟨q, hq, rfl⟩ := ivals_get hv
      have hi4 : i < 4 ∧ q.1 = 4 - (i : Int) := by
        rcases i with _ | _ | _ | _ | i
        all_goals simp at hq
        all_goals (try (rw [← hq]; simp))
      obtain ⟨qv, qt⟩ := q
      obtain ⟨hi4, hqe⟩ := hi4
      simp only at hqe
      clear hv hq
      have hq0 : qv ≠ 0 := by omega
      rw [fixm hmt, fixm hml] at F
      have w1 : sz ≠ it := aw _ (.head _)
      have w2 : na ≠ it := aw _ (.tail _ (.head _))
      have w3 : la ≠ it := aw _ (.tail _ (.tail _ (.head _)))
      have w4 : L' + 1 ≠ it := aw _ (.tail _ (.tail _ (.tail _ (.head _))))
      obtain ⟨f0, f1⟩ := fmod_lt trn qv (by omega)
      obtain ⟨g0, g1⟩ := fdiv_lt trn qv h0 (by omega)
      k_with "call builtin:list.pop" => (refine stop ?_)
      k_with "call builtin:list.append" => (refine stop ?_)
      k_steps
      constructor
      have hkl : (trn.fmod qv).toNat < rest.length := by rw [hrl]; omega
      have hki : seqIndex? (trn.fmod qv) (ivals rest).toArray.size = some (trn.fmod qv).toNat := by
        unfold seqIndex?
        have e1 : ¬ trn.fmod qv < 0 := by omega
        have e2 : trn.fmod qv < ((ivals rest).toArray.size : Int) := by simp [ivals, hrl]; omega
        simp only [e1, if_false]
        rw [if_pos (by simp only [Bool.and_eq_true, decide_eq_true_eq]; exact ⟨f0, e2⟩)]
      refine kl_popAt F N (by simp [Builtin.List.listFitsIndex]; omega) hki (by rw [List.toList_toArray]; exact cutI rest _ hkl) (Upd.tail (Ne.symm w3) (Upd.tail (Ne.symm z2) (Upd.tail hne (Upd.head ?_)))) ?_ ?_
      · intro p hp; rw [List.mem_singleton.mp hp]; exact Ne.symm hne3
      · rw [List.toList_toArray]; simp [ivals, hrl]; exact Nat.le_trans (show 4 ≤ sizeLine by decide) (Nat.le_add_right _ _)
      intro h2 F2 N2
      k_steps
      constructor
      refine append_K F2 N2 (Upd.tail (Ne.symm w2) (Upd.tail (Ne.symm z1) (Upd.head ?ux))) ?uy ?uz
      case ux =>
        intro p hp
        rcases List.mem_cons.mp hp with rfl | hp
        · exact Ne.symm hne
        · rw [List.mem_singleton.mp hp]; exact Ne.symm hne2
      case uz =>
        rw [List.size_toArray]; simp [ivals, hdl]; exact Nat.le_trans (Nat.le_of_lt hi4) (by decide)
      intro h3 F3 N3
      k_steps
      rename Fr _ _ _ _ => F4
      rename News _ _ _ _ => N4
      refine ⟨_, _, _, _, rfl, F4, N4, ?_, rest.take (trn.fmod qv).toNat ++ rest.drop ((trn.fmod qv).toNat + 1), done ++ [(rest[(trn.fmod qv).toNat].1, rest[(trn.fmod qv).toNat].2)], trn.fdiv qv, _, c1 + 1, c2 + 1, rfl, rfl, g0, by omega, ?_, by simp [hdl], ?_, ?_⟩
      · intro p hp
        rcases List.mem_cons.mp hp with rfl | hp
        · exact w1
        · rcases List.mem_cons.mp hp with rfl | hp
          · exact w2
          · rcases List.mem_cons.mp hp with rfl | hp
            · exact w3
            · rw [List.mem_singleton.mp hp]; exact w4
      · simp [ivals]
      · simp [hrl]; omega
      · refine List.Perm.trans ?_ hpm
        rw [List.append_assoc]
        refine List.Perm.map _ (List.Perm.append_left _ ?_)
        have hd : rest = rest.take (trn.fmod qv).toNat ++ rest[(trn.fmod qv).toNat] :: rest.drop ((trn.fmod qv).toNat + 1) := by
          rw [List.getElem_cons_drop, List.take_append_drop]
        show List.Perm ([rest[(trn.fmod qv).toNat]] ++ (rest.take (trn.fmod qv).toNat ++ rest.drop ((trn.fmod qv).toNat + 1))) rest
        conv => rhs; rw [hd]
        rw [List.singleton_append]
        exact List.perm_middle.symm
    case done =>
      rintro m' _ h tk ⟨rest, done, trn, t, c1, c2, hml, hmt, h0, h24, rfl, hdl, hrl, hpm⟩ F N
      have hr0 : rest = [] := List.length_eq_zero_iff.mp (by rw [hrl]; rfl)
      subst hr0
      rw [List.append_nil] at hpm
      have hd4 : done.length = 4 := hdl
      have hcell : h.IsCell (L' + 1) (some (.ref na)) := ⟨_, (N _ (.tail _ (.tail _ (.tail _ (.head _))))).1, d2⟩
      have hno := (N _ (.tail _ (.head _))).1
      have hor : ∀ a ∈ done.map (·.1), ∀ b ∈ done.map (·.1), Builtin.bitOr a b ∈ done.map (·.1) := fun a ha b hb => (hpm.mem_iff).mpr (hclo.2 a ((hpm.mem_iff).mp ha) b ((hpm.mem_iff).mp hb))
      refine wpAny_execs_cons (wpAny_Return_some ?_)
      refine compC (cl := [(Str.ofString "names", L' + 1)]) (n := (ivals done).length) (P := fun i v => (ivals done)[i]? = some v) RowsJ (fun _ _ => true) (by simp [ivals, hd4]; decide) rfl rfl (by decide) (fun _ => rfl) (fun _ => rfl) (fun _ => rfl) rowsJ0 (fun _ _ _ _ _ J k => J.k k) (fun _ _ _ _ J => J.len) (ldCe hcell (iterList ?hh1 ⟨_, hno, rfl, _, rfl⟩)) ?ht1 ?he1 ?hq1
      case hh1 => exact hh
      case ht1 => intros; exact tests_none ⟨⟨_, rfl⟩, rfl, fun e => by cases e⟩
      case he1 =>
        rintro C i v ys h3 tk3 hi hv _ J hc hK
        obtain ⟨qa, hqa, rfl⟩ := ivals_get hv
        have hma : qa.1 ∈ done.map (·.1) := List.mem_map_of_mem (List.mem_of_getElem? hqa)
        have hcell3 := Keep.cell hK hcell
        have hno3 := hK _ _ hno
        refine compL (cl := [(Str.ofString "names", L' + 1), (Str.ofString "a", C + 1)]) (n := (ivals done).length) (P := fun i v => (ivals done)[i]? = some v) (fun lo i ys h => ∃ vs : List (Int × Tok), ys = ivals vs ∧ vs.length = i ∧ ∀ x ∈ vs, 0 ≤ x.1 ∧ x.1 < 4) (fun _ _ => true) (by simp [ivals, hd4]; decide) rfl (by decide) rfl (by decide) (fun _ => rfl) ?j0 (fun _ _ _ _ _ J k => J) ?jl (ldCe hcell3 (iterList ?hh2 ⟨_, hno3, rfl, _, rfl⟩)) ?ht2 ?he2 ?hq2
        case hh2 => exact hh
        case j0 => intro _ _; exact ⟨[], rfl, rfl, fun _ z => nomatch z⟩
        case jl => rintro lo i ys h ⟨vs, rfl, rfl, _⟩; simp [ivals]
        case ht2 => intros; exact tests_none ⟨⟨_, rfl⟩, rfl, fun e => by cases e⟩
        case he2 =>
          rintro C2 j v2 ys2 h2 tk2 m2 hj hv2 _ ⟨vs2, rfl, hl2, hb2⟩ hn2 hm2 hK2
          obtain ⟨qb, hqb, rfl⟩ := ivals_get hv2
          have hmb : qb.1 ∈ done.map (·.1) := List.mem_map_of_mem (List.mem_of_getElem? hqb)
          have hc2 := Keep.cell hK2 hc
          have hcell2 := Keep.cell hK2 hcell3
          have hno2 := hK2 _ _ hno3
          refine MethodCall_ (ldCe hcell2 (methList hno2 PySem.F.slot_list_index PySem.F.type_list_index ?_))
          refine callWith_builtin rfl (evalArgs_plain (spliced_cons (wpAny_BinOp (ldCe hc2 (Mine.ldC hn2 hm2 (or_int (spliced_nil ?_)))))))
          refine idxI hno2 (hor _ hma _ hmb) (by rw [hd4]; decide) fun k hk => ?_
          refine ⟨h2, _, rfl, Keep.refl _, vs2 ++ [((k : Int), _)], by simp [ivals]; rfl, by simp [hl2], fun x hx => ?_⟩
          rcases List.mem_append.mp hx with hx | hx
          · exact hb2 x hx
          · rw [List.mem_singleton.mp hx]
            show (0 : Int) ≤ k ∧ (k : Int) < 4
            omega
        case hq2 =>
          rintro D C2 ys2 c2 h2 tk2 k2 hD hDC ⟨vs, rfl, hvl, hvs⟩ hDo
          exact ⟨h2, _, rfl, k2, J.snoc (vs := vs) (c := c2) k2 hD hc.lt ⟨hDo, by rw [hvl]; simp [ivals, hd4], hvs⟩⟩
      case hq1 =>
        rintro D C ys c h2 tk2 k2 hD hDC J2 hDo
        have e4 : (ivals done).length = 4 := by simp [ivals, hd4]
        rw [e4] at J2
        refine hret _ _ _ (Keep.trans F.keep k2) (Tbl.of (h₀ := h) J2 hDo (fun b hb => Nat.lt_of_lt_of_le ?_ hD) hDC)
        cases q : s.heap.get? b with
        | none => exact absurd q hb
        | some o => exact Heap.lt_size (F.keep _ _ q)

end Mine
namespace Mine
theorem compTurn_two0 (elt t0 i0 t1 i1 : Expr) (ifs : List Expr) (scope : Scope) (pos : Pos) (it acc : Value) (env : Env) :
    compTurn (.ListComp elt [⟨t0, i0, ifs, 0⟩, ⟨t1, i1, [], 0⟩] scope pos) 0 it acc env = (do
      standAt i0.pos
      match ← pyNext it with
      | none => pure (.done .next)
      | some v =>
        letOwnedTupleGo t0 it v
        assign t0 env v
        let mut ok := true
        for c in ifs do
          if ok then ok ← isTrue c env (eval c env)
        if ok then
          let x ← eval i1 env
          standAt i1.pos
          let x ← foldedSetIterable i1 env x
          let _ ← runOwn (.compStart (.ListComp elt [⟨t0, i0, ifs, 0⟩, ⟨t1, i1, [], 0⟩] scope pos) 1 (← holding [x] (pyIter x)) acc env) env
        again (.compLoop (.ListComp elt [⟨t0, i0, ifs, 0⟩, ⟨t1, i1, [], 0⟩] scope pos) 0 it acc env)) := by rfl
theorem compTurn_two1 (elt t0 i0 t1 i1 : Expr) (ifs : List Expr) (scope : Scope) (pos : Pos) (it acc : Value) (env : Env) :
    compTurn (.ListComp elt [⟨t0, i0, ifs, 0⟩, ⟨t1, i1, [], 0⟩] scope pos) 1 it acc env = (do
      standAt i1.pos
      match ← pyNext it with
      | none => pure (.done .next)
      | some v =>
        letOwnedTupleGo t1 it v
        assign t1 env v
        (do let _ ← call (.builtin "list.append") [acc, ← eval elt env])
        again (.compLoop (.ListComp elt [⟨t0, i0, ifs, 0⟩, ⟨t1, i1, [], 0⟩] scope pos) 1 it acc env)) := by rfl
section
variable {prog : Program} {w : World} {A : Around} {R : Result → Shared → Prop} {s : Shared} {elt t0 i0 t1 i1 : Expr} {ifs : List Expr} {scope : Scope} {pos : Pos} {it acc : Value} {env : Env}
theorem compStep2o (hs : ∀ x, foldedSetIterable i1 env x = pure x)
    (h : wpAny (model prog w) A (pyNext it) (fun r s₁ => match r with
      | none => R (.ok .next) s₁
      | some v => wpAny (model prog w) A (letOwnedTupleGo t0 it v) (fun _ s₂ => wpAny (model prog w) A (assign t0 env v) (fun _ s₃ =>
          wpAny (model prog w) A (testsOf ifs env) (fun ok s₄ =>
            if ok = true then wpAny (model prog w) A (eval i1 env) (fun x s₅ => wpAny (model prog w) A (pyIter x) (fun it2 s₆ =>
              codeAny (model prog w) A (.compStart (.ListComp elt [⟨t0, i0, ifs, 0⟩, ⟨t1, i1, [], 0⟩] scope pos) 1 it2 acc env)
                (fun r s' => match r with | .ok _ => codeAny (model prog w) A (.compLoop (.ListComp elt [⟨t0, i0, ifs, 0⟩, ⟨t1, i1, [], 0⟩] scope pos) 0 it acc env) R s' | .error _ => False) s₆) NoE s₅) NoE s₄
            else codeAny (model prog w) A (.compLoop (.ListComp elt [⟨t0, i0, ifs, 0⟩, ⟨t1, i1, [], 0⟩] scope pos) 0 it acc env) R s₄) NoE s₃) NoE s₂) NoE s₁) NoE s) :
    codeAny (model prog w) A (.compLoop (.ListComp elt [⟨t0, i0, ifs, 0⟩, ⟨t1, i1, [], 0⟩] scope pos) 0 it acc env) R s := by
  refine codeAny_of_tree ?_
  rw [Around.under_of_weight rfl]
  show wpAny _ A ((compTurn (.ListComp elt [⟨t0, i0, ifs, 0⟩, ⟨t1, i1, [], 0⟩] scope pos) 0 it acc env).onRaise (fun x => do noteFrame x env; theTreesLotGoes x)) _ _ s
  refine wpAny_noted ?_
  rw [compTurn_two0]
  refine wpAny_bind (wpAny_standAt (wpAny_bind (wpAny_mono h (fun r s₁ h₁ => ?_) fun _ _ h' => h'.elim)))
  cases r with
  | none => exact wpAny_pure h₁
  | some v =>
    refine wpAny_bind (wpAny_mono h₁ (fun _ s₂ h₂ => ?_) fun _ _ h' => h'.elim)
    refine wpAny_bind (wpAny_mono h₂ (fun _ s₃ h₃ => wpAny_bind (wpAny_mono h₃ (fun ok s₄ h₄ => ?_) fun _ _ h' => h'.elim)) fun _ _ h' => h'.elim)
    cases ok with
    | false => exact wpAny_pure ⟨rfl, h₄⟩
    | true =>
      refine wpAny_bind (wpAny_mono (show wpAny _ _ _ _ NoE s₄ from h₄) (fun x s₅ h₅ => wpAny_bind (wpAny_standAt (wpAny_bind (wpAny_of_eq (hs x) (wpAny_bind (wpAny_holding (wpAny_mono h₅ (fun it2 s₆ h₆ => ?_) fun _ _ h' => h'.elim))))))) fun _ _ h' => h'.elim)
      refine wpAny_bind (wpAny_runOwn (codeAny_mono h₆ fun r s' hr => ?_))
      cases r with
      | ok f => exact wpAny_pure ⟨rfl, hr⟩
      | error e => exact hr.elim
theorem compStart2i {I : Addr} (hself : ∀ (Q : Value → Shared → Prop) (E : Value → Shared → Prop), Q (.ref I) s → wpAny (model prog w) A (pyIter (.ref I)) Q E s)
    (h : codeAny (model prog w) A (.compLoop (.ListComp elt [⟨t0, i0, ifs, 0⟩, ⟨t1, i1, [], 0⟩] scope pos) 1 (.ref I) acc env) R s) :
    codeAny (model prog w) A (.compStart (.ListComp elt [⟨t0, i0, ifs, 0⟩, ⟨t1, i1, [], 0⟩] scope pos) 1 (.ref I) acc env) R s := by
  refine codeAny_of_tree ?_
  show wpAny _ _ ((compStart (.ListComp elt [⟨t0, i0, ifs, 0⟩, ⟨t1, i1, [], 0⟩] scope pos) 1 (.ref I) acc env).onRaise (fun x => do noteFrame x env; standAt theWindowsPlace)) _ _ s
  refine wpAny_notedAt ?_
  unfold compStart
  show wpAny _ _ (ask >>= _) _ _ s
  refine wpAny_bind (wpAny_askSetting (wpAny_ite ?_))
  split
  · first
      | exact wpAny_bind (wpAny_pure (wpAny_pure (And.intro rfl h)))
      | exact wpAny_pure (And.intro rfl h)
  · first
      | exact wpAny_bind (wpAny_rule (wpAny_bind (wpAny_standAt (wpAny_bind (hself _ _ (wpAny_pure (And.intro rfl h)))))))
      | (refine wpAny_bind (wpAny_rule ?_); show wpAny _ _ (standAt i1.pos >>= _) _ _ s; exact wpAny_bind (wpAny_standAt (wpAny_bind (hself _ _ (wpAny_pure (And.intro rfl h))))))
theorem compStep2i
    (h : wpAny (model prog w) A (pyNext it) (fun r s₁ => match r with
      | none => R (.ok .next) s₁
      | some v => wpAny (model prog w) A (letOwnedTupleGo t1 it v) (fun _ s₂ => wpAny (model prog w) A (assign t1 env v) (fun _ s₃ =>
            wpAny (model prog w) A (eval elt env) (fun x s₅ =>
              wpAny (model prog w) A (call (.builtin "list.append") [acc, x]) (fun _ s₆ => codeAny (model prog w) A (.compLoop (.ListComp elt [⟨t0, i0, ifs, 0⟩, ⟨t1, i1, [], 0⟩] scope pos) 1 it acc env) R s₆) NoE s₅) NoE s₃) NoE s₂) NoE s₁) NoE s) :
    codeAny (model prog w) A (.compLoop (.ListComp elt [⟨t0, i0, ifs, 0⟩, ⟨t1, i1, [], 0⟩] scope pos) 1 it acc env) R s := by
  refine codeAny_of_tree ?_
  rw [Around.under_of_weight rfl]
  show wpAny _ A ((compTurn (.ListComp elt [⟨t0, i0, ifs, 0⟩, ⟨t1, i1, [], 0⟩] scope pos) 1 it acc env).onRaise (fun x => do noteFrame x env; theTreesLotGoes x)) _ _ s
  refine wpAny_noted ?_
  rw [compTurn_two1]
  refine wpAny_bind (wpAny_standAt (wpAny_bind (wpAny_mono h (fun r s₁ h₁ => ?_) fun _ _ h' => h'.elim)))
  cases r with
  | none => exact wpAny_pure h₁
  | some v =>
    refine wpAny_bind (wpAny_mono h₁ (fun _ s₂ h₂ => ?_) fun _ _ h' => h'.elim)
    refine wpAny_bind (wpAny_mono h₂ (fun _ s₃ h₃ => ?_) fun _ _ h' => h'.elim)
    exact wpAny_bind (wpAny_bind (wpAny_mono h₃ (fun x s₅ h₅ => wpAny_bind (wpAny_mono h₅ (fun _ s₆ h₆ => wpAny_pure (wpAny_pure ⟨rfl, h₆⟩)) fun _ _ h' => h'.elim)) fun _ _ h' => h'.elim))
end
end Mine
namespace Mine
/-- the lists above lo stay -/
abbrev KL (lo : Nat) (h h' : Heap) : Prop := ∀ b its c, lo < b → h.get? b = some (listOf its c) → h'.get? b = some (listOf its c)
abbrev CompEnd (C D : Addr) (Q : Value → Shared → Prop) : Result → Shared → Prop := fun r s' => match r with | .ok _ => ∃ m, s'.heap.Ns C m ∧ ∀ h', Heap.SameBut C s'.heap h' → Q (.ref D) { s' with heap := h' } | .error _ => False
abbrev OkThen (P : Shared → Prop) : Result → Shared → Prop := fun r s' => match r with | .ok _ => P s' | .error _ => False
theorem compTwo {prog : Program} {w : World} {A : Around} {E : Value → Shared → Prop} {s : Shared} {env : Env} {elt i0 i1 : Expr} {x1 x2 : Str} {px1 px2 : Pos} {ifs : List Expr} {scope : Scope} {pos : Pos} {cl : List (Str × Addr)} {n2 : Nat} {l : Addr} {items : List Value} {Q : Value → Shared → Prop}
    (J : Nat → Nat → Nat → List Value → Heap → Prop) (tst : Nat → Value → Bool) (hh : A.handled = none) (hsz : items.length * n2 + n2 ≤ sizeLine)
    (hclos : closureFor scope env = pure cl) (hcell : ∀ x ∈ scope.names, x.2 ≠ .cell) (hkind : scope.kind = .function) (hnames : ∀ x ∈ scope.names, x.2 = .local → scope.names.lookup x.1 = some .local)
    (hx1 : ∀ C, (compEnvC scope cl C env).kindOf x1 = some .local) (hx2 : ∀ C, (compEnvC scope cl C env).kindOf x2 = some .local) (h12 : x1 ≠ x2)
    (hJ0 : ∀ lo h, J lo 0 0 [] h) (hJk : ∀ lo k i ys h h', J lo k i ys h → KL lo h h' → J lo k i ys h') (hJl : ∀ lo k i ys h, J lo k i ys h → ys.length ≤ k * n2 + i)
    (hJn : ∀ lo k v ys h, items[k]? = some v → tst k v = true → J lo k n2 ys h → J lo (k + 1) 0 ys h)
    (hi0 : ∀ (Q : Value → Shared → Prop), wpAny (model prog w) A (pyIter (.ref l)) Q E s → wpAny (model prog w) A (eval i0 env) (fun xv s₁ => wpAny (model prog w) A (pyIter xv) Q E s₁) E s)
    (hl : s.heap.IsList l items.toArray)
    (hrange : ∀ C h tk (Q : Value → Shared → Prop) (E : Value → Shared → Prop), Keep s.heap h → (∀ h' tk', Keep h h' → h'.objs.size = h.objs.size + 2 → IsRangeIter h' (h.objs.size + 1) 0 n2 1 → Q (.ref (h.objs.size + 1)) { s with heap := h', toks := tk' }) →
      wpAny (model prog w) A (eval i1 (compEnvC scope cl C env)) (fun xv s₁ => wpAny (model prog w) A (pyIter xv) Q E s₁) E { s with heap := h, toks := tk })
    (htest : ∀ C k v ys h tk m, items[k]? = some v → J C k 0 ys h → h.Ns C m → m x1 = some v → Keep s.heap h →
      wpAny (model prog w) A (testsOf ifs (compEnvC scope cl C env)) (fun ok s₁ => (∃ tk', s₁ = { s with heap := h, toks := tk' }) ∧ ok = tst k v ∧ (ok = false → J C (k + 1) 0 ys h)) NoE { s with heap := h, toks := tk })
    (helt : ∀ C k v i t ys h tk m, items[k]? = some v → i < n2 → tst k v = true → J C k i ys h → h.Ns C m → m x1 = some v → m x2 = some (.int (i : Nat) t) → Keep s.heap h →
      wpAny (model prog w) A (eval elt (compEnvC scope cl C env)) (fun y s₁ => ∃ h' tk', s₁ = { s with heap := h', toks := tk' } ∧ Keep h h' ∧ J C k (i + 1) (ys ++ [y]) h') NoE { s with heap := h, toks := tk })
    (hq : ∀ D C ys c h' tk', Keep s.heap h' → s.heap.objs.size ≤ D → D < C → J C items.length 0 ys h' → h'.get? D = some (listOf ys.toArray c) → Q (.ref D) { s with heap := h', toks := tk' })
    (hs : ∀ x, foldedSetIterable i0 env x = pure x := by intro _; rfl) (hs1 : ∀ C x, foldedSetIterable i1 (compEnvC scope cl C env) x = pure x := by intro _ _; rfl) :
    wpAny (model prog w) A (eval (.ListComp elt [⟨.Name x1 px1, i0, ifs, 0⟩, ⟨.Name x2 px2, i1, [], 0⟩] scope pos) env) Q E s := by
  refine compTop (cl := cl) hclos hcell hkind hnames ?_ hs
  refine hi0 _ (wpAny_mono (iterList hh hl) (fun it s₂ h₂ => ?_) fun _ _ e => e)
  obtain ⟨I, fp, St, h₂, tk₂, rfl, rfl, k₂, hI, hI2, W, hSt, hfp⟩ := h₂
  intro D C h₃ hD hC k₃ hDo hNs
  have hID : I < D := by rw [hD]; exact hI2
  have hDC : D < C := by rw [hD, hC]; exact Nat.lt_succ_self _
  have hbI : ∀ b o, s.heap.get? b = some o → b < I := fun b o e => Nat.lt_of_lt_of_le (Heap.lt_size e) hI
  have hbC : ∀ b o, s.heap.get? b = some o → b < C := fun b o e => Nat.lt_trans (hbI b o e) (Nat.lt_trans hID hDC)
  have hp : ((compEnvC scope cl C env).scope.kind == .class || ((compEnvC scope cl C env).scope.kind == .module && (compEnvC scope cl C env).locals != (compEnvC scope cl C env).globals)) = false := by
    show (scope.kind == .class || (scope.kind == .module && _)) = false
    rw [hkind]; rfl
  have hSt₃ : St 0 h₃ := W.frame _ _ _ hSt fun b _ o e => k₃ b o e
  refine compStart1 (fun Q E hq => W.self 0 _ _ _ hSt₃ hq) ?_
  -- the outer loop
  suffices outer : ∀ (j k : Nat), k + j = items.length → ∀ h tk ys m c, St k h → J C k 0 ys h → h.Ns C m → h.get? D = some (listOf ys.toArray c) → Keep s.heap h →
      codeAny (model prog w) A (.compLoop (.ListComp elt [⟨.Name x1 px1, i0, ifs, 0⟩, ⟨.Name x2 px2, i1, [], 0⟩] scope pos) 0 (.ref I) (.ref D) (compEnvC scope cl C env))
        (CompEnd C D Q) { s with heap := h, toks := tk } from
    outer items.length 0 (by omega) h₃ tk₂ [] _ 0 hSt₃ (hJ0 _ _) hNs hDo (Keep.trans k₂ k₃)
  intro j
  induction j with
  | zero =>
    intro k hk h tk ys m c hSt hJ hn hDo hK
    obtain rfl : k = items.length := by omega
    refine compStep2o (hs1 C) ?_
    refine W.done _ _ _ hSt fun h' tk' hk' => ?_
    have up : ∀ b o, b ≠ I → h.get? b = some o → h'.get? b = some o := fun b o hb e => hk' b o (notIn_one hb) e
    refine ⟨m, hn.at' fun o e => up _ o (Nat.ne_of_gt (Nat.lt_trans hID hDC)) e, fun h'' hs' => ?_⟩
    refine hq D C ys c h'' tk' (fun b o e => hs'.extBut b o (Nat.ne_of_lt (hbC b o e)) (up b o (Nat.ne_of_lt (hbI b o e)) (hK b o e))) (Nat.le_trans hI (Nat.le_of_lt hID)) hDC ?_ (hs'.extBut _ _ (Nat.ne_of_lt hDC) (up _ _ (Nat.ne_of_gt hID) hDo))
    refine hJk _ _ _ _ _ _ hJ fun b its c hb e => hs'.extBut b _ (Nat.ne_of_gt hb) (up b _ (Nat.ne_of_gt (Nat.lt_trans (Nat.lt_trans hID hDC) hb)) e)
  | succ j ih =>
    intro k hk h tk ys m c hSt hJ hn hDo hK
    have hkn : k < items.length := by omega
    refine compStep2o (hs1 C) ?_
    refine W.item k _ _ _ hkn hSt fun v h₁ tk₁ hv hSt₁ hk₁ => ?_
    have up : ∀ b o, b ≠ I → h.get? b = some o → h₁.get? b = some o := fun b o hb e => hk₁ b o (notIn_one hb) e
    refine wpAny_of_eq (show letOwnedTupleGo (.Name x1 px1) (.ref I) v = pure () from rfl) ?_
    have hn₁ : h₁.Ns C m := hn.at' fun o e => up _ o (Nat.ne_of_gt (Nat.lt_trans hID hDC)) e
    refine wpAny_assign_Name (wpAny_storeName_local (hx1 C) hn₁ (fun h₂ hn₂ hs₂ => ?_) hp)
    have up₂ : ∀ b o, b ≠ I → b ≠ C → h.get? b = some o → h₂.get? b = some o := fun b o h1 h2 e => hs₂.extBut b o h2 (up b o h1 e)
    have hJ₂ : J C k 0 ys h₂ := hJk _ _ _ _ _ _ hJ fun b its c hb e => up₂ b _ (Nat.ne_of_gt (Nat.lt_trans (Nat.lt_trans hID hDC) hb)) (Nat.ne_of_gt hb) e
    have hSt₂ : St (k + 1) h₂ := W.frame _ _ _ hSt₁ fun b hb o e => hs₂.extBut b o (Nat.ne_of_lt (Nat.lt_of_le_of_lt (hfp b hb) (Nat.lt_trans hID hDC))) e
    have hD₂ : h₂.get? D = some (listOf ys.toArray c) := up₂ _ _ (Nat.ne_of_gt hID) (Nat.ne_of_lt hDC) hDo
    have hK₂ : Keep s.heap h₂ := fun b o e => up₂ b o (Nat.ne_of_lt (hbI b o e)) (Nat.ne_of_lt (hbC b o e)) (hK b o e)
    refine wpAny_mono (htest C k v ys h₂ _ _ hv hJ₂ hn₂ (by simp) hK₂) (fun ok s₁ hok => ?_) fun _ _ x => x
    obtain ⟨⟨tk₃, rfl⟩, hok, hokf⟩ := hok
    cases ok with
    | false =>
      refine if_f rfl ?_
      exact ih (k + 1) (by omega) h₂ _ ys _ c hSt₂ (hokf rfl) hn₂ hD₂ hK₂
    | true =>
      refine if_t rfl ?_
      refine hrange C h₂ tk₃ _ _ hK₂ fun h₄ tk₄ k₄ hz₄ hI₄ => ?_
      generalize hI2e : h₂.objs.size + 1 = I2 at hI₄
      have hC2 : C < I2 := by rw [← hI2e]; exact Nat.lt_succ_of_lt hn₂.lt
      have W2 := walksR (prog := prog) (w := w) hh I2 n2
      refine compStart2i (fun Q E hq => W2.self 0 _ _ _ (by simpa using hI₄) hq) ?_
      -- the inner loop
      suffices inner : ∀ (j2 i : Nat), i + j2 = n2 → ∀ h tk ys m c, IsRangeIter h I2 (i : Int) ((n2 : Int) - (i : Nat)) 1 → St (k + 1) h → J C k i ys h → h.Ns C m → m x1 = some v → h.get? D = some (listOf ys.toArray c) → Keep s.heap h →
          codeAny (model prog w) A (.compLoop (.ListComp elt [⟨.Name x1 px1, i0, ifs, 0⟩, ⟨.Name x2 px2, i1, [], 0⟩] scope pos) 1 (.ref I2) (.ref D) (compEnvC scope cl C env))
            (OkThen fun s' => codeAny (model prog w) A (.compLoop (.ListComp elt [⟨.Name x1 px1, i0, ifs, 0⟩, ⟨.Name x2 px2, i1, [], 0⟩] scope pos) 0 (.ref I) (.ref D) (compEnvC scope cl C env)) (CompEnd C D Q) s') { s with heap := h, toks := tk } from
        inner n2 0 (by omega) h₄ tk₄ ys _ c (by simpa using hI₄) (W.frame _ _ _ hSt₂ fun b _ o e => k₄ b o e) (hJk _ _ _ _ _ _ hJ₂ fun b its c _ e => k₄ b _ e) (Keep.ns k₄ hn₂) (by simp) (k₄ _ _ hD₂) (Keep.trans hK₂ k₄)
      intro j2
      induction j2 with
      | zero =>
        intro i hi h tk ys m c hI5 hSt hJ hn hm hDo hK
        obtain rfl : i = n2 := by omega
        refine compStep2i ?_
        refine W2.done _ _ _ hI5 fun h' tk' hk' => ?_
        have up : ∀ b o, b ≠ I2 → h.get? b = some o → h'.get? b = some o := fun b o hb e => hk' b o (notIn_one hb) e
        have hID2 : D < I2 := Nat.lt_trans hDC hC2
        refine ih (k + 1) (by omega) h' tk' ys m c (W.frame _ _ _ hSt fun b hb o e => up b o (Nat.ne_of_lt (Nat.lt_of_le_of_lt (hfp b hb) (Nat.lt_trans hID hID2))) e) (hJn _ _ _ _ _ hv hok.symm (hJk _ _ _ _ _ _ hJ fun b its c hb e => up b _ (fun z => ?_) e)) (hn.at' fun o e => up _ o (Nat.ne_of_lt hC2) e) (up _ _ (Nat.ne_of_lt hID2) hDo) fun b o e => up b o (Nat.ne_of_lt (Nat.lt_trans (hbC b o e) hC2)) (hK b o e)
        rw [z] at e
        have := hI5
        unfold IsRangeIter at this
        rw [this] at e
        have z2 := congrArg Obj.cls (Option.some.inj e)
        injection z2 with z2
        exact absurd z2 (by decide)
      | succ j2 ih2 =>
        intro i hi h tk ys m c hI5 hSt hJ hn hm hDo hK
        have hin : i < n2 := by omega
        refine compStep2i ?_
        refine W2.item i _ _ _ hin hI5 fun v2 h₆ tk₆ hv2 hI6 hk₆ => ?_
        obtain ⟨t2, rfl⟩ := hv2
        have up : ∀ b o, b ≠ I2 → h.get? b = some o → h₆.get? b = some o := fun b o hb e => hk₆ b o (notIn_one hb) e
        have hID2 : D < I2 := Nat.lt_trans hDC hC2
        refine wpAny_of_eq (show letOwnedTupleGo (.Name x2 px2) (.ref I2) _ = pure () from rfl) ?_
        refine wpAny_assign_Name (wpAny_storeName_local (hx2 C) (hn.at' fun o e => up _ o (Nat.ne_of_lt hC2) e) (fun h₇ hn₇ hs₇ => ?_) hp)
        have up₇ : ∀ b o, b ≠ I2 → b ≠ C → h.get? b = some o → h₇.get? b = some o := fun b o h1 h2 e => hs₇.extBut b o h2 (up b o h1 e)
        have hlist : ∀ its c, h.get? I2 ≠ some (listOf its c) := fun its c e => by
          have := hI5
          unfold IsRangeIter at this
          rw [this] at e
          have z2 := congrArg Obj.cls (Option.some.inj e)
          injection z2 with z2
          exact absurd z2 (by decide)
        have hJ₇ : J C k i ys h₇ := hJk _ _ _ _ _ _ hJ fun b its c hb e => up₇ b _ (fun z => hlist its c (z ▸ e)) (Nat.ne_of_gt hb) e
        have hK₇ : Keep s.heap h₇ := fun b o e => up₇ b o (Nat.ne_of_lt (Nat.lt_trans (hbC b o e) hC2)) (Nat.ne_of_lt (hbC b o e)) (hK b o e)
        have hD₇ := up₇ _ _ (Nat.ne_of_lt hID2) (Nat.ne_of_lt hDC) hDo
        have hI7 : IsRangeIter h₇ I2 ((i + 1 : Nat) : Int) ((n2 : Int) - ((i + 1 : Nat) : Int)) 1 := hs₇.extBut _ _ (Nat.ne_of_gt hC2) hI6
        have hSt₇ : St (k + 1) h₇ := W.frame _ _ _ hSt fun b hb o e => up₇ b o (Nat.ne_of_lt (Nat.lt_of_le_of_lt (hfp b hb) (Nat.lt_trans hID hID2))) (Nat.ne_of_lt (Nat.lt_of_le_of_lt (hfp b hb) (Nat.lt_trans hID hDC))) e
        refine wpAny_mono (helt C k v i t2 ys h₇ _ _ hv hin hok.symm hJ₇ hn₇ (by simp [h12, hm]) (by simp) hK₇) (fun y s₁ hy => ?_) fun _ _ x => x
        obtain ⟨h₈, tk₈, rfl, k₈, hJ₈⟩ := hy
        have hys : ys.toArray.size ≤ sizeLine := by
          rw [List.size_toArray]
          have h1 := hJl _ _ _ _ _ hJ
          have h2 : k * n2 ≤ items.length * n2 := Nat.mul_le_mul_right _ (Nat.le_of_lt hkn)
          omega
        refine append_at (k₈ _ _ hD₇) (fun h₉ hs₉ hD₉ => ?_) hys
        have up₉ : ∀ b o, b ≠ D → h₇.get? b = some o → h₉.get? b = some o := fun b o hb e => hs₉.extBut b o hb (k₈ b o e)
        refine ih2 (i + 1) (by omega) h₉ tk₈ (ys ++ [y]) _ (c + 1) (up₉ _ _ (Nat.ne_of_gt hID2) hI7) ?_ (hJk _ _ _ _ _ _ hJ₈ fun b its c hb e => hs₉.extBut b _ (Nat.ne_of_gt (Nat.lt_trans hDC hb)) e) (hn₇.at' fun o e => up₉ _ o (Nat.ne_of_gt hDC) e) (by simp [h12, hm]) ?_ fun b o e => up₉ b o (Nat.ne_of_lt (Nat.lt_trans (hbI b o e) hID)) (hK₇ b o e)
        · exact W.frame _ _ _ hSt₇ fun b hb o e => up₉ b o (Nat.ne_of_lt (Nat.lt_of_le_of_lt (hfp b hb) hID)) e
        · rw [hD₉]; simp
end Mine
namespace Mine
/-- what stands when a comprehension's list is stored and its names are gone -/
abbrev EndA (base : Heap) (env : Env) (y : Str) (m : Str → Option Value) (news : List (Addr × Obj)) (s : Shared) (Q : Flow → Shared → Prop) (D C : Addr) (s' : Shared) : Prop :=
  ∃ h4 tk4 m4, s' = { s with heap := h4, toks := tk4 } ∧ Keep s.heap h4 ∧ s.heap.objs.size ≤ D ∧ D < C ∧ h4.Ns C m4 ∧
    ∀ h5 tk5, (∀ b o, b ≠ env.locals → b ≠ C → h4.get? b = some o → h5.get? b = some o) → Fr base env.locals h5 (fun z => if z = y then some (.ref D) else m z) → News base env.locals h5 news → Q .next { s with heap := h5, toks := tk5 }
theorem compTopA {prog : Program} {w : World} {A : Around} {env : Env} {E : Value → Shared → Prop} {s : Shared} {base : Heap} {m : Str → Option Value} {news : List (Addr × Obj)} {y : Str} {py spos : Pos} {elt target iter : Expr} {ifs : List Expr} {rest : List Comprehension} {pos : Pos} {scope : Scope} {cl : List (Str × Addr)} {Q : Flow → Shared → Prop}
    (F : Fr base env.locals s.heap m) (N : News base env.locals s.heap news) (hsw : swapsWith (.ListComp elt (⟨target, iter, ifs, 0⟩ :: rest) scope pos) (some (.Name y py)) spos.line env = pure true)
    (hy : env.kindOf y = some .local) (hpe : (env.scope.kind == .class || (env.scope.kind == .module && env.locals != env.globals)) = false)
    (hclos : closureFor scope env = pure cl) (hcell : ∀ x ∈ scope.names, x.2 ≠ .cell) (hkind : scope.kind = .function) (hnames : ∀ x ∈ scope.names, x.2 = .local → scope.names.lookup x.1 = some .local)
    (h : wpAny (model prog w) A (eval iter env) (fun xv s₁ => wpAny (model prog w) A (pyIter xv) (fun it s₂ =>
      ∀ (D C : Addr) h₃, D = s₂.heap.objs.size → C = s₂.heap.objs.size + 1 → Keep s₂.heap h₃ → h₃.get? D = some (listOf #[] 0) → h₃.Ns C (fun _ => none) →
        codeAny (model prog w) A (.compStart (.ListComp elt (⟨target, iter, ifs, 0⟩ :: rest) scope pos) 0 it (.ref D) (compEnvC scope cl C env))
          (OkThen (EndA base env y m news s Q D C)) { s₂ with heap := h₃ }) E s₁) E s)
    (hs : ∀ x, foldedSetIterable iter env x = pure x := by intro _; rfl) :
    wpAny (model prog w) A (exec (.Assign [.Name y py] (.ListComp elt (⟨target, iter, ifs, 0⟩ :: rest) scope pos) spos) env) Q E s := by
  rw [exec_Assign_Name_used _ _ _ _ hsw]
  refine wpAny_bind (wpAny_standAt (wpAny_bind ?_))
  show wpAny _ A (do let _ ← comprehension (.ListComp elt (⟨target, iter, ifs, 0⟩ :: rest) scope pos) scope env _ (newList []) false (eval iter env) (some (assign (.Name y py) env))) _ _ s
  refine wpAny_bind (wpAny_mono (wpAny_comprehension_free (use := some (assign (.Name y py) env)) (Q := fun _ s' => Q .next s') rfl hs hclos hkind hnames
    (wpAny_mono h (fun xv s₁ h₁ => wpAny_mono h₁ (fun it s₂ h₂ => ?_) fun _ _ e => e) fun _ _ e => e)) (fun _ s' hq => wpAny_pure (wpAny_pure hq)) fun _ _ e => e)
  refine wpAny_newList ?_
  refine wpAny_newFunctionEnv hcell (fun _ h => nomatch h) (fun h₃ hn hs₃ => ?_) hkind
  have hz : (s₂.heap.push { cls := .type "list", data := .seq [].toArray }).objs.size = s₂.heap.objs.size + 1 := Heap.size_push ..
  have k : Keep (s₂.heap.push { cls := .type "list", data := .seq [].toArray }) h₃ := fun b o e => hs₃.extBut b o (Nat.ne_of_lt (Heap.lt_size e)) (Heap.get?_push_of_some _ e)
  have key := h₂ _ _ h₃ rfl hz (fun b o e => k b o (Heap.get?_push_of_some _ e)) (k _ _ (Heap.get?_push_size _ rfl)) hn
  refine codeAny_mono key fun r s' hr => ?_
  cases r with
  | error e => exact hr.elim
  | ok f =>
    obtain ⟨h4, tk4, m4, rfl, k4, hD, hDC, hn4, fin⟩ := hr
    have hLD : env.locals < s.heap.objs.size := F.ns.lt
    have hLC : env.locals ≠ (s₂.heap.push { cls := .type "list", data := .seq [].toArray }).objs.size := Nat.ne_of_lt (Nat.lt_of_lt_of_le hLD (Nat.le_trans hD (Nat.le_of_lt hDC)))
    show wpAny _ A (assign (.Name y py) env (.ref s₂.heap.objs.size)) _ _ _
    refine wpAny_assign_Name (wpAny_storeName_local hy (Keep.ns k4 F.ns) (fun h5 hn5 hs5 => ?_) hpe)
    refine ⟨m4, hn4.sameBut hs5 (Ne.symm hLC), fun h6 hs6 => ?_⟩
    have F4 := Fr.kept F k4
    have F5 := F4.set hn5 hs5
    have N5 := News.set (News.kept N k4) hs5
    have hbase : ∀ b o, base.get? b = some o → b ≠ (s₂.heap.push { cls := .type "list", data := .seq [].toArray }).objs.size := fun b o e => Nat.ne_of_lt (Nat.lt_trans (Nat.lt_of_lt_of_le (Nat.lt_of_lt_of_le (Heap.lt_size e) F.above) (Nat.le_of_lt hLD)) (Nat.lt_of_le_of_lt hD hDC))
    refine fin h6 _ (fun b o h1 h2 e => hs6.extBut b o h2 (hs5.extBut b o h1 e)) ⟨F5.ns.sameBut hs6 hLC, fun b o e => hs6.extBut b o (hbase b o e) (F5.keep b o e), F5.above⟩ fun p hp => ⟨hs6.extBut _ _ (Nat.ne_of_lt (Nat.lt_trans (Heap.lt_size (N p hp).1) (Nat.lt_of_le_of_lt hD hDC))) (N5 p hp).1, (N5 p hp).2⟩
section
variable {prog : Program} {w : World} {A : Around} {E : Value → Shared → Prop} {s : Shared} {env : Env} {elt iter : Expr} {x : Str} {px : Pos} {ifs : List Expr} {scope : Scope} {pos : Pos} {cl : List (Str × Addr)} {n : Nat} {P : Nat → Value → Prop} {base : Heap} {m : Str → Option Value} {news : List (Addr × Obj)} {y : Str} {py spos : Pos} {Q : Flow → Shared → Prop}
theorem compLA (F : Fr base env.locals s.heap m) (N : News base env.locals s.heap news) (hsw : swapsWith (.ListComp elt [⟨.Name x px, iter, ifs, 0⟩] scope pos) (some (.Name y py)) spos.line env = pure true)
    (hy : env.kindOf y = some .local) (hpe : (env.scope.kind == .class || (env.scope.kind == .module && env.locals != env.globals)) = false)
    (J : Nat → Nat → List Value → Heap → Prop) (tst : Nat → Value → Bool) (hsz : n ≤ sizeLine)
    (hclos : closureFor scope env = pure cl) (hcell : ∀ x ∈ scope.names, x.2 ≠ .cell) (hkind : scope.kind = .function) (hnames : ∀ x ∈ scope.names, x.2 = .local → scope.names.lookup x.1 = some .local)
    (hx : ∀ C, (compEnvC scope cl C env).kindOf x = some .local)
    (hJ0 : ∀ lo h, J lo 0 [] h) (hJk : ∀ lo i ys h h', J lo i ys h → (∀ b o, lo < b → h.get? b = some o → h'.get? b = some o) → J lo i ys h') (hJl : ∀ lo i ys h, J lo i ys h → ys.length ≤ i)
    (hiter : wpAny (model prog w) A (eval iter env) (fun xv s₁ => wpAny (model prog w) A (pyIter xv) (Iters prog w A s n P) E s₁) E s)
    (htest : ∀ C i v ys h tk m, i < n → P i v → J C i ys h → h.Ns C m → m x = some v → Keep s.heap h →
      wpAny (model prog w) A (testsOf ifs (compEnvC scope cl C env)) (fun ok s₁ => (∃ tk', s₁ = { s with heap := h, toks := tk' }) ∧ ok = tst i v ∧ (ok = false → J C (i + 1) ys h)) NoE { s with heap := h, toks := tk })
    (helt : ∀ C i v ys h tk m, i < n → P i v → tst i v = true → J C i ys h → h.Ns C m → m x = some v → Keep s.heap h →
      wpAny (model prog w) A (eval elt (compEnvC scope cl C env)) (fun y s₁ => ∃ h' tk', s₁ = { s with heap := h', toks := tk' } ∧ Keep h h' ∧ J C (i + 1) (ys ++ [y]) h') NoE { s with heap := h, toks := tk })
    (hq : ∀ D C ys c h' tk', Fr base env.locals h' (fun z => if z = y then some (.ref D) else m z) → News base env.locals h' news → s.heap.objs.size ≤ D → D < C → J C n ys h' → h'.get? D = some (listOf ys.toArray c) → Q .next { s with heap := h', toks := tk' })
    (hs : ∀ x, foldedSetIterable iter env x = pure x := by intro _; rfl) :
    wpAny (model prog w) A (exec (.Assign [.Name y py] (.ListComp elt [⟨.Name x px, iter, ifs, 0⟩] scope pos) spos) env) Q E s := by
  refine compTopA (cl := cl) F N hsw hy hpe hclos hcell hkind hnames ?_ hs
  refine wpAny_mono hiter (fun xv s₁ h₁ => wpAny_mono h₁ (fun it s₂ h₂ => ?_) fun _ _ e => e) fun _ _ e => e
  obtain ⟨I, fp, St, h₂, tk₂, rfl, rfl, k₂, hI, hI2, W, hSt, hfp⟩ := h₂
  intro D C h₃ hD hC k₃ hDo hNs
  have hID : I < D := by rw [hD]; exact hI2
  have hDC : D < C := by rw [hD, hC]; exact Nat.lt_succ_self _
  have hbC : ∀ b o, s.heap.get? b = some o → b < C := fun b o e => Nat.lt_trans (Nat.lt_of_lt_of_le (Heap.lt_size e) hI) (Nat.lt_trans hID hDC)
  refine loopLoc (s := s) (base := s.heap) (cenv := compEnvC scope cl C env) W (J C) tst hsz (fun b o e => Nat.lt_of_lt_of_le (Heap.lt_size e) hI) hID hDC hfp (hx C) ?_ (hJk C) (hJl C) (htest C) (helt C) ?_ (W.frame _ _ _ hSt fun b _ o e => k₃ b o e) (hJ0 _ _) hNs hDo (Keep.trans k₂ k₃)
  · show (scope.kind == .class || (scope.kind == .module && _)) = false
    rw [hkind]; rfl
  · intro ys h tk m c hJ hn hDf hK
    have hLs : env.locals < s.heap.objs.size := F.ns.lt
    have hsD : s.heap.objs.size ≤ D := Nat.le_trans hI (Nat.le_of_lt hID)
    exact ⟨h, tk, m, rfl, hK, hsD, hDC, hn, fun h5 tk5 hk5 F5 N5 => hq D C ys c h5 tk5 F5 N5 hsD hDC (hJk _ _ _ _ _ hJ fun b o hb e => hk5 b o (Nat.ne_of_gt (Nat.lt_trans (Nat.lt_of_lt_of_le hLs (Nat.le_trans hsD (Nat.le_of_lt hDC))) hb)) (Nat.ne_of_gt hb) e) (hk5 _ _ (Nat.ne_of_gt (Nat.lt_of_lt_of_le hLs hsD)) (Nat.ne_of_lt hDC) hDf)⟩
end
theorem compTwoA {base : Heap} {mm : Str → Option Value} {news : List (Addr × Obj)} {y : Str} {py spos : Pos} {prog : Program} {w : World} {A : Around} {E : Value → Shared → Prop} {s : Shared} {env : Env} {elt i0 i1 : Expr} {x1 x2 : Str} {px1 px2 : Pos} {ifs : List Expr} {scope : Scope} {pos : Pos} {cl : List (Str × Addr)} {n2 : Nat} {l : Addr} {items : List Value} {Q : Flow → Shared → Prop}
    (F : Fr base env.locals s.heap mm) (N : News base env.locals s.heap news) (hsw : swapsWith (.ListComp elt [⟨.Name x1 px1, i0, ifs, 0⟩, ⟨.Name x2 px2, i1, [], 0⟩] scope pos) (some (.Name y py)) spos.line env = pure true)
    (hy : env.kindOf y = some .local) (hpe : (env.scope.kind == .class || (env.scope.kind == .module && env.locals != env.globals)) = false)
    (J : Nat → Nat → Nat → List Value → Heap → Prop) (tst : Nat → Value → Bool) (hh : A.handled = none) (hsz : items.length * n2 + n2 ≤ sizeLine)
    (hclos : closureFor scope env = pure cl) (hcell : ∀ x ∈ scope.names, x.2 ≠ .cell) (hkind : scope.kind = .function) (hnames : ∀ x ∈ scope.names, x.2 = .local → scope.names.lookup x.1 = some .local)
    (hx1 : ∀ C, (compEnvC scope cl C env).kindOf x1 = some .local) (hx2 : ∀ C, (compEnvC scope cl C env).kindOf x2 = some .local) (h12 : x1 ≠ x2)
    (hJ0 : ∀ lo h, J lo 0 0 [] h) (hJk : ∀ lo k i ys h h', J lo k i ys h → KL lo h h' → J lo k i ys h') (hJl : ∀ lo k i ys h, J lo k i ys h → ys.length ≤ k * n2 + i)
    (hJn : ∀ lo k v ys h, items[k]? = some v → tst k v = true → J lo k n2 ys h → J lo (k + 1) 0 ys h)
    (hi0 : ∀ (Q : Value → Shared → Prop), wpAny (model prog w) A (pyIter (.ref l)) Q E s → wpAny (model prog w) A (eval i0 env) (fun xv s₁ => wpAny (model prog w) A (pyIter xv) Q E s₁) E s)
    (hl : s.heap.IsList l items.toArray)
    (hrange : ∀ C h tk (Q : Value → Shared → Prop) (E : Value → Shared → Prop), Keep s.heap h → (∀ h' tk', Keep h h' → h'.objs.size = h.objs.size + 2 → IsRangeIter h' (h.objs.size + 1) 0 n2 1 → Q (.ref (h.objs.size + 1)) { s with heap := h', toks := tk' }) →
      wpAny (model prog w) A (eval i1 (compEnvC scope cl C env)) (fun xv s₁ => wpAny (model prog w) A (pyIter xv) Q E s₁) E { s with heap := h, toks := tk })
    (htest : ∀ C k v ys h tk m, items[k]? = some v → J C k 0 ys h → h.Ns C m → m x1 = some v → Keep s.heap h →
      wpAny (model prog w) A (testsOf ifs (compEnvC scope cl C env)) (fun ok s₁ => (∃ tk', s₁ = { s with heap := h, toks := tk' }) ∧ ok = tst k v ∧ (ok = false → J C (k + 1) 0 ys h)) NoE { s with heap := h, toks := tk })
    (helt : ∀ C k v i t ys h tk m, items[k]? = some v → i < n2 → tst k v = true → J C k i ys h → h.Ns C m → m x1 = some v → m x2 = some (.int (i : Nat) t) → Keep s.heap h →
      wpAny (model prog w) A (eval elt (compEnvC scope cl C env)) (fun y s₁ => ∃ h' tk', s₁ = { s with heap := h', toks := tk' } ∧ Keep h h' ∧ J C k (i + 1) (ys ++ [y]) h') NoE { s with heap := h, toks := tk })
    (hq : ∀ D C ys c h' tk', Fr base env.locals h' (fun z => if z = y then some (.ref D) else mm z) → News base env.locals h' news → s.heap.objs.size ≤ D → D < C → J C items.length 0 ys h' → h'.get? D = some (listOf ys.toArray c) → Q .next { s with heap := h', toks := tk' })
    (hs : ∀ x, foldedSetIterable i0 env x = pure x := by intro _; rfl) (hs1 : ∀ C x, foldedSetIterable i1 (compEnvC scope cl C env) x = pure x := by intro _ _; rfl) :
    wpAny (model prog w) A (exec (.Assign [.Name y py] (.ListComp elt [⟨.Name x1 px1, i0, ifs, 0⟩, ⟨.Name x2 px2, i1, [], 0⟩] scope pos) spos) env) Q E s := by
  refine compTopA (cl := cl) F N hsw hy hpe hclos hcell hkind hnames ?_ hs
  refine hi0 _ (wpAny_mono (iterList hh hl) (fun it s₂ h₂ => ?_) fun _ _ e => e)
  obtain ⟨I, fp, St, h₂, tk₂, rfl, rfl, k₂, hI, hI2, W, hSt, hfp⟩ := h₂
  intro D C h₃ hD hC k₃ hDo hNs
  have hID : I < D := by rw [hD]; exact hI2
  have hDC : D < C := by rw [hD, hC]; exact Nat.lt_succ_self _
  have hbI : ∀ b o, s.heap.get? b = some o → b < I := fun b o e => Nat.lt_of_lt_of_le (Heap.lt_size e) hI
  have hbC : ∀ b o, s.heap.get? b = some o → b < C := fun b o e => Nat.lt_trans (hbI b o e) (Nat.lt_trans hID hDC)
  have hp : ((compEnvC scope cl C env).scope.kind == .class || ((compEnvC scope cl C env).scope.kind == .module && (compEnvC scope cl C env).locals != (compEnvC scope cl C env).globals)) = false := by
    show (scope.kind == .class || (scope.kind == .module && _)) = false
    rw [hkind]; rfl
  have hSt₃ : St 0 h₃ := W.frame _ _ _ hSt fun b _ o e => k₃ b o e
  refine compStart1 (fun Q E hq => W.self 0 _ _ _ hSt₃ hq) ?_
  -- the outer loop
  suffices outer : ∀ (j k : Nat), k + j = items.length → ∀ h tk ys m c, St k h → J C k 0 ys h → h.Ns C m → h.get? D = some (listOf ys.toArray c) → Keep s.heap h →
      codeAny (model prog w) A (.compLoop (.ListComp elt [⟨.Name x1 px1, i0, ifs, 0⟩, ⟨.Name x2 px2, i1, [], 0⟩] scope pos) 0 (.ref I) (.ref D) (compEnvC scope cl C env))
        (OkThen (EndA base env y mm news s Q D C)) { s with heap := h, toks := tk } from
    outer items.length 0 (by omega) h₃ tk₂ [] _ 0 hSt₃ (hJ0 _ _) hNs hDo (Keep.trans k₂ k₃)
  intro j
  induction j with
  | zero =>
    intro k hk h tk ys m c hSt hJ hn hDo hK
    obtain rfl : k = items.length := by omega
    refine compStep2o (hs1 C) ?_
    refine W.done _ _ _ hSt fun h' tk' hk' => ?_
    have up : ∀ b o, b ≠ I → h.get? b = some o → h'.get? b = some o := fun b o hb e => hk' b o (notIn_one hb) e
    have hLs : env.locals < s.heap.objs.size := F.ns.lt
    have hsD : s.heap.objs.size ≤ D := Nat.le_trans hI (Nat.le_of_lt hID)
    refine ⟨h', tk', m, rfl, fun b o e => up b o (Nat.ne_of_lt (hbI b o e)) (hK b o e), hsD, hDC, hn.at' fun o e => up _ o (Nat.ne_of_gt (Nat.lt_trans hID hDC)) e, fun h5 tk5 hk5 F5 N5 => hq D C ys c h5 tk5 F5 N5 hsD hDC (hJk _ _ _ _ _ _ hJ fun b its c hb e => hk5 b _ (Nat.ne_of_gt (Nat.lt_trans (Nat.lt_of_lt_of_le hLs (Nat.le_trans hsD (Nat.le_of_lt hDC))) hb)) (Nat.ne_of_gt hb) (up b _ (Nat.ne_of_gt (Nat.lt_trans (Nat.lt_trans hID hDC) hb)) e)) (hk5 _ _ (Nat.ne_of_gt (Nat.lt_of_lt_of_le hLs hsD)) (Nat.ne_of_lt hDC) (up _ _ (Nat.ne_of_gt hID) hDo))⟩
  | succ j ih =>
    intro k hk h tk ys m c hSt hJ hn hDo hK
    have hkn : k < items.length := by omega
    refine compStep2o (hs1 C) ?_
    refine W.item k _ _ _ hkn hSt fun v h₁ tk₁ hv hSt₁ hk₁ => ?_
    have up : ∀ b o, b ≠ I → h.get? b = some o → h₁.get? b = some o := fun b o hb e => hk₁ b o (notIn_one hb) e
    refine wpAny_of_eq (show letOwnedTupleGo (.Name x1 px1) (.ref I) v = pure () from rfl) ?_
    have hn₁ : h₁.Ns C m := hn.at' fun o e => up _ o (Nat.ne_of_gt (Nat.lt_trans hID hDC)) e
    refine wpAny_assign_Name (wpAny_storeName_local (hx1 C) hn₁ (fun h₂ hn₂ hs₂ => ?_) hp)
    have up₂ : ∀ b o, b ≠ I → b ≠ C → h.get? b = some o → h₂.get? b = some o := fun b o h1 h2 e => hs₂.extBut b o h2 (up b o h1 e)
    have hJ₂ : J C k 0 ys h₂ := hJk _ _ _ _ _ _ hJ fun b its c hb e => up₂ b _ (Nat.ne_of_gt (Nat.lt_trans (Nat.lt_trans hID hDC) hb)) (Nat.ne_of_gt hb) e
    have hSt₂ : St (k + 1) h₂ := W.frame _ _ _ hSt₁ fun b hb o e => hs₂.extBut b o (Nat.ne_of_lt (Nat.lt_of_le_of_lt (hfp b hb) (Nat.lt_trans hID hDC))) e
    have hD₂ : h₂.get? D = some (listOf ys.toArray c) := up₂ _ _ (Nat.ne_of_gt hID) (Nat.ne_of_lt hDC) hDo
    have hK₂ : Keep s.heap h₂ := fun b o e => up₂ b o (Nat.ne_of_lt (hbI b o e)) (Nat.ne_of_lt (hbC b o e)) (hK b o e)
    refine wpAny_mono (htest C k v ys h₂ _ _ hv hJ₂ hn₂ (by simp) hK₂) (fun ok s₁ hok => ?_) fun _ _ x => x
    obtain ⟨⟨tk₃, rfl⟩, hok, hokf⟩ := hok
    cases ok with
    | false =>
      refine if_f rfl ?_
      exact ih (k + 1) (by omega) h₂ _ ys _ c hSt₂ (hokf rfl) hn₂ hD₂ hK₂
    | true =>
      refine if_t rfl ?_
      refine hrange C h₂ tk₃ _ _ hK₂ fun h₄ tk₄ k₄ hz₄ hI₄ => ?_
      generalize hI2e : h₂.objs.size + 1 = I2 at hI₄
      have hC2 : C < I2 := by rw [← hI2e]; exact Nat.lt_succ_of_lt hn₂.lt
      have W2 := walksR (prog := prog) (w := w) hh I2 n2
      refine compStart2i (fun Q E hq => W2.self 0 _ _ _ (by simpa using hI₄) hq) ?_
      -- the inner loop
      suffices inner : ∀ (j2 i : Nat), i + j2 = n2 → ∀ h tk ys m c, IsRangeIter h I2 (i : Int) ((n2 : Int) - (i : Nat)) 1 → St (k + 1) h → J C k i ys h → h.Ns C m → m x1 = some v → h.get? D = some (listOf ys.toArray c) → Keep s.heap h →
          codeAny (model prog w) A (.compLoop (.ListComp elt [⟨.Name x1 px1, i0, ifs, 0⟩, ⟨.Name x2 px2, i1, [], 0⟩] scope pos) 1 (.ref I2) (.ref D) (compEnvC scope cl C env))
            (OkThen fun s' => codeAny (model prog w) A (.compLoop (.ListComp elt [⟨.Name x1 px1, i0, ifs, 0⟩, ⟨.Name x2 px2, i1, [], 0⟩] scope pos) 0 (.ref I) (.ref D) (compEnvC scope cl C env)) (OkThen (EndA base env y mm news s Q D C)) s') { s with heap := h, toks := tk } from
        inner n2 0 (by omega) h₄ tk₄ ys _ c (by simpa using hI₄) (W.frame _ _ _ hSt₂ fun b _ o e => k₄ b o e) (hJk _ _ _ _ _ _ hJ₂ fun b its c _ e => k₄ b _ e) (Keep.ns k₄ hn₂) (by simp) (k₄ _ _ hD₂) (Keep.trans hK₂ k₄)
      intro j2
      induction j2 with
      | zero =>
        intro i hi h tk ys m c hI5 hSt hJ hn hm hDo hK
        obtain rfl : i = n2 := by omega
        refine compStep2i ?_
        refine W2.done _ _ _ hI5 fun h' tk' hk' => ?_
        have up : ∀ b o, b ≠ I2 → h.get? b = some o → h'.get? b = some o := fun b o hb e => hk' b o (notIn_one hb) e
        have hID2 : D < I2 := Nat.lt_trans hDC hC2
        refine ih (k + 1) (by omega) h' tk' ys m c (W.frame _ _ _ hSt fun b hb o e => up b o (Nat.ne_of_lt (Nat.lt_of_le_of_lt (hfp b hb) (Nat.lt_trans hID hID2))) e) (hJn _ _ _ _ _ hv hok.symm (hJk _ _ _ _ _ _ hJ fun b its c hb e => up b _ (fun z => ?_) e)) (hn.at' fun o e => up _ o (Nat.ne_of_lt hC2) e) (up _ _ (Nat.ne_of_lt hID2) hDo) fun b o e => up b o (Nat.ne_of_lt (Nat.lt_trans (hbC b o e) hC2)) (hK b o e)
        rw [z] at e
        have := hI5
        unfold IsRangeIter at this
        rw [this] at e
        have z2 := congrArg Obj.cls (Option.some.inj e)
        injection z2 with z2
        exact absurd z2 (by decide)
      | succ j2 ih2 =>
        intro i hi h tk ys m c hI5 hSt hJ hn hm hDo hK
        have hin : i < n2 := by omega
        refine compStep2i ?_
        refine W2.item i _ _ _ hin hI5 fun v2 h₆ tk₆ hv2 hI6 hk₆ => ?_
        obtain ⟨t2, rfl⟩ := hv2
        have up : ∀ b o, b ≠ I2 → h.get? b = some o → h₆.get? b = some o := fun b o hb e => hk₆ b o (notIn_one hb) e
        have hID2 : D < I2 := Nat.lt_trans hDC hC2
        refine wpAny_of_eq (show letOwnedTupleGo (.Name x2 px2) (.ref I2) _ = pure () from rfl) ?_
        refine wpAny_assign_Name (wpAny_storeName_local (hx2 C) (hn.at' fun o e => up _ o (Nat.ne_of_lt hC2) e) (fun h₇ hn₇ hs₇ => ?_) hp)
        have up₇ : ∀ b o, b ≠ I2 → b ≠ C → h.get? b = some o → h₇.get? b = some o := fun b o h1 h2 e => hs₇.extBut b o h2 (up b o h1 e)
        have hlist : ∀ its c, h.get? I2 ≠ some (listOf its c) := fun its c e => by
          have := hI5
          unfold IsRangeIter at this
          rw [this] at e
          have z2 := congrArg Obj.cls (Option.some.inj e)
          injection z2 with z2
          exact absurd z2 (by decide)
        have hJ₇ : J C k i ys h₇ := hJk _ _ _ _ _ _ hJ fun b its c hb e => up₇ b _ (fun z => hlist its c (z ▸ e)) (Nat.ne_of_gt hb) e
        have hK₇ : Keep s.heap h₇ := fun b o e => up₇ b o (Nat.ne_of_lt (Nat.lt_trans (hbC b o e) hC2)) (Nat.ne_of_lt (hbC b o e)) (hK b o e)
        have hD₇ := up₇ _ _ (Nat.ne_of_lt hID2) (Nat.ne_of_lt hDC) hDo
        have hI7 : IsRangeIter h₇ I2 ((i + 1 : Nat) : Int) ((n2 : Int) - ((i + 1 : Nat) : Int)) 1 := hs₇.extBut _ _ (Nat.ne_of_gt hC2) hI6
        have hSt₇ : St (k + 1) h₇ := W.frame _ _ _ hSt fun b hb o e => up₇ b o (Nat.ne_of_lt (Nat.lt_of_le_of_lt (hfp b hb) (Nat.lt_trans hID hID2))) (Nat.ne_of_lt (Nat.lt_of_le_of_lt (hfp b hb) (Nat.lt_trans hID hDC))) e
        refine wpAny_mono (helt C k v i t2 ys h₇ _ _ hv hin hok.symm hJ₇ hn₇ (by simp [h12, hm]) (by simp) hK₇) (fun y s₁ hy => ?_) fun _ _ x => x
        obtain ⟨h₈, tk₈, rfl, k₈, hJ₈⟩ := hy
        have hys : ys.toArray.size ≤ sizeLine := by
          rw [List.size_toArray]
          have h1 := hJl _ _ _ _ _ hJ
          have h2 : k * n2 ≤ items.length * n2 := Nat.mul_le_mul_right _ (Nat.le_of_lt hkn)
          omega
        refine append_at (k₈ _ _ hD₇) (fun h₉ hs₉ hD₉ => ?_) hys
        have up₉ : ∀ b o, b ≠ D → h₇.get? b = some o → h₉.get? b = some o := fun b o hb e => hs₉.extBut b o hb (k₈ b o e)
        refine ih2 (i + 1) (by omega) h₉ tk₈ (ys ++ [y]) _ (c + 1) (up₉ _ _ (Nat.ne_of_gt hID2) hI7) ?_ (hJk _ _ _ _ _ _ hJ₈ fun b its c hb e => hs₉.extBut b _ (Nat.ne_of_gt (Nat.lt_trans hDC hb)) e) (hn₇.at' fun o e => up₉ _ o (Nat.ne_of_gt hDC) e) (by simp [h12, hm]) ?_ fun b o e => up₉ b o (Nat.ne_of_lt (Nat.lt_trans (hbI b o e) hID)) (hK₇ b o e)
        · exact W.frame _ _ _ hSt₇ fun b hb o e => up₉ b o (Nat.ne_of_lt (Nat.lt_of_le_of_lt (hfp b hb) hID)) e
        · rw [hD₉]; simp
end Mine
namespace Mine

/-- lists of numbers above lo, their numbers xss -/
def LnJ (lo : Nat) (xss : List (List Int)) (ys : List Value) (h : Heap) : Prop :=
  ∃ rs : List Row, ys = rs.map (fun r => Value.ref r.1) ∧ rs.map (fun r => r.2.1.map (·.1)) = xss ∧ ∀ r ∈ rs, lo < r.1 ∧ h.get? r.1 = some (listOf (ivals r.2.1).toArray r.2.2)
theorem LnJ.k {lo xss ys h h'} (J : LnJ lo xss ys h) (k : KL lo h h') : LnJ lo xss ys h' := by
  obtain ⟨rs, a, b, c⟩ := J
  exact ⟨rs, a, b, fun r hr => ⟨(c r hr).1, k _ _ _ (c r hr).1 (c r hr).2⟩⟩
theorem LnJ.len {lo xss ys h} (J : LnJ lo xss ys h) : ys.length = xss.length := by
  obtain ⟨rs, rfl, rfl, _⟩ := J
  simp
theorem LnJ.snoc {lo xss ys h h' a vs c xs} (J : LnJ lo xss ys h) (k : Keep h h') (ha : lo < a) (hr : h'.get? a = some (listOf (ivals vs).toArray c)) (e : vs.map (·.1) = xs) : LnJ lo (xss ++ [xs]) (ys ++ [.ref a]) h' := by
  obtain ⟨rs, rfl, rfl, q⟩ := J
  refine ⟨rs ++ [(a, vs, c)], by simp, by simp [e], ?_⟩
  intro r hm
  rcases List.mem_append.mp hm with hm | hm
  · exact ⟨(q r hm).1, k _ _ (q r hm).2⟩
  · rw [List.mem_singleton.mp hm]; exact ⟨ha, hr⟩
theorem lnJ0 (lo : Nat) (h : Heap) : LnJ lo [] [] h := ⟨[], rfl, rfl, fun _ z => nomatch z⟩
def sp (p : List Int → Bool) (L : List (List Int)) (k : Nat) : List (List Int) := ((L.take k).filter p).flatMap (fun o => (List.range 4).map fun x : Nat => o ++ [(x : Int)])
theorem sp_t {p : List Int → Bool} {L : List (List Int)} {k : Nat} {o : List Int} (e : L[k]? = some o) (hp : p o = true) : sp p L (k + 1) = sp p L k ++ (List.range 4).map fun x : Nat => o ++ [(x : Int)] := by
  unfold sp
  rw [List.take_add_one, e, List.filter_append, List.flatMap_append]
  simp [hp]
theorem sp_f {p : List Int → Bool} {L : List (List Int)} {k : Nat} {o : List Int} (e : L[k]? = some o) (hp : p o = false) : sp p L (k + 1) = sp p L k := by
  unfold sp
  rw [List.take_add_one, e, List.filter_append, List.flatMap_append]
  simp [hp]
theorem sp_len (p : List Int → Bool) (L : List (List Int)) : ∀ k, (sp p L k).length ≤ k * 4
  | 0 => by simp [sp]
  | k + 1 => by
    have ih := sp_len p L k
    cases e : L[k]? with
    | none =>
      have : sp p L (k + 1) = sp p L k := by unfold sp; rw [List.take_add_one, e]; simp
      rw [this]; omega
    | some o =>
      cases hp : p o with
      | true => rw [sp_t e hp]; simp; omega
      | false => rw [sp_f e hp]; omega
def J2 (p : List Int → Bool) (L : List (List Int)) (lo k i : Nat) (ys : List Value) (h : Heap) : Prop := LnJ lo (sp p L k ++ (List.range i).map fun x : Nat => (L.getD k []) ++ [(x : Int)]) ys h
def onesL : List (List Int) := (List.range 4).map fun x : Nat => [(x : Int)]
def twosL : List (List Int) := sp (fun _ => true) onesL 4
def lt2 (t : List Int) : Bool := decide (t.getD 0 0 < t.getD 1 0)
def linesL : List (List Int) := onesL ++ twosL ++ sp lt2 twosL 16
theorem News.addAll {base h h' : Heap} {L : Addr} {m : Str → Option Value} {news} (F : Fr base L h m) (N : News base L h' news) : ∀ (ln : List (Addr × Obj)), (∀ p ∈ ln, h.get? p.1 = none ∧ h'.get? p.1 = some p.2) → News base L h' (ln ++ news)
  | [], _ => N
  | p :: r, q => News.add F (News.addAll F N r fun x hx => q x (.tail _ hx)) (q p (.head _)).1 (q p (.head _)).2
abbrev rowNews (rs : List Row) : List (Addr × Obj) := rs.map fun r => (r.1, listOf (ivals r.2.1).toArray r.2.2)
theorem getLn {rs : List Row} {xss : List (List Int)} {k : Nat} {v : Value} (e : rs.map (fun r => r.2.1.map (·.1)) = xss) (hv : (rs.map (fun r => Value.ref r.1))[k]? = some v) : ∃ r : Row, v = .ref r.1 ∧ r ∈ rs ∧ xss[k]? = some (r.2.1.map (·.1)) := by
  rw [List.getElem?_map] at hv
  cases q : rs[k]? with
  | none => rw [q] at hv; cases hv
  | some r =>
    rw [q] at hv
    refine ⟨r, (Option.some.inj hv).symm, List.mem_of_getElem? q, ?_⟩
    rw [← e, List.getElem?_map, q]; rfl
theorem eltAdd {prog : Program} {w : World} {A : Around} {s : Shared} {env : Env} {x1 x2 : Str} {p1 p2 p3 p4 : Pos} {h : Heap} {tk : Nat} {m : Str → Option Value} {a c : Nat} {vs : List (Int × Tok)} {i : Int} {t : Tok} {xss : List (List Int)} {ys : List Value}
    (hn : h.Ns env.locals m) (hm1 : m x1 = some (.ref a)) (hm2 : m x2 = some (.int i t)) (hro : h.get? a = some (listOf (ivals vs).toArray c)) (hlen : vs.length ≤ 10) (J : LnJ env.locals xss ys h)
    (hk : env.scope.kind = .function) (hl1 : env.kindOf x1 = some .local) (hl2 : env.kindOf x2 = some .local) (hd1 : (x1 == ("__debug__" : Str)) = false) (hd2 : (x2 == ("__debug__" : Str)) = false)
    (hse : starEach [.Name x2 p2] env = (false, eval (.Name x2 p2) env) :: starEach [] env) :
    wpAny (model prog w) A (eval (.BinOp (.Name x1 p1) .Add (.List [.Name x2 p2] p3) p4) env) (fun y s₁ => ∃ h' tk', s₁ = { s with heap := h', toks := tk' } ∧ Keep h h' ∧ LnJ env.locals (xss ++ [vs.map (·.1) ++ [i]]) (ys ++ [y]) h') NoE { s with heap := h, toks := tk } := by
  refine wpAny_BinOp (Mine.ldC hn hm1 (wpAny_List (spliced_more (Mine.ldC hn hm2 (spliced_none ⟨Nat.le_of_ble_eq_true rfl, ?_⟩) hk hl2 hd2) hse)) hk hl1 hd1)
  have kp := fun (o : Obj) => (fun b ob e => Heap.get?_push_of_some o e : Keep h (h.push o))
  refine addL (vs := ivals vs) (ws := [.int i t]) ⟨_, kp _ _ _ hro, rfl, _, rfl⟩ ⟨_, Heap.get?_push_size _ rfl, rfl, _, rfl⟩ ?_ ?_
  · intro h3 k3 h3o _
    refine ⟨h3, _, rfl, Keep.trans (kp _) k3, J.snoc (vs := vs ++ [(i, t)]) (c := 0) (Keep.trans (kp _) k3) ?_ ?_ (by simp)⟩
    · show env.locals < (h.push _).objs.size
      rw [Heap.size_push]
      exact Nat.lt_succ_of_lt hn.lt
    · rw [h3o]; simp [ivals]
  · simp [ivals]; exact Nat.le_trans (Nat.succ_le_succ hlen) (by decide)
theorem jn_of {p : List Int → Bool} {L : List (List Int)} {lo k : Nat} {ys : List Value} {h : Heap} {o : List Int} (ho : L[k]? = some o) (hp : p o = true) (J : J2 p L lo k 4 ys h) : J2 p L lo (k + 1) 0 ys h := by
  unfold J2 at J ⊢
  rw [sp_t ho hp]
  have e : L.getD k [] = o := by rw [List.getD_eq_getElem?_getD, ho]; rfl
  rw [e] at J
  simpa using J
theorem js_of {p : List Int → Bool} {L : List (List Int)} {lo k i : Nat} {ys : List Value} {h : Heap} {o : List Int} (ho : L[k]? = some o) (J : LnJ lo ((sp p L k ++ (List.range i).map fun x : Nat => (L.getD k []) ++ [(x : Int)]) ++ [o ++ [(i : Int)]]) ys h) : J2 p L lo k (i + 1) ys h := by
  unfold J2
  have e : L.getD k [] = o := by rw [List.getD_eq_getElem?_getD, ho]; rfl
  rw [List.range_succ, List.map_append, ← List.append_assoc]
  rw [e] at J ⊢
  exact J
theorem jl_of {p : List Int → Bool} {L : List (List Int)} {lo k i : Nat} {ys : List Value} {h : Heap} (J : J2 p L lo k i ys h) : ys.length ≤ k * 4 + i := by
  rw [J.len]
  have := sp_len p L k
  simp only [List.length_append, List.length_map, List.length_range]
  omega
theorem lines_spec {w : World} {p loose mean mg mb} {A : Around} {s : Shared} {R : Result → Shared → Prop}
   (hr : A.depth + 8 < recursionLimit) (hu : A.units + 60 < cLine) (hh : A.handled = none)
   (hret : ∀ (D c : Nat) (rs : List Row) h' tk', Keep s.heap h' → s.heap.get? D = none → h'.get? D = some (listOf (rs.map (fun r : Row => Value.ref r.1)).toArray c) → rs.map (fun r => r.2.1.map (·.1)) = linesL → (∀ r ∈ rs, s.heap.get? r.1 = none ∧ h'.get? r.1 = some (listOf (ivals r.2.1).toArray r.2.2)) → R (.ok (.ret (.ref D))) { s with heap := h', toks := tk' }) 
   (X : (hd.heap_39 w.params).In s.heap) (T : Top p loose mean mg mb s.heap) :
   codeAny (model PySem.Challenge.rw_om0026_01.row.prog w) A (.call (.ref 107) ⟨[], []⟩) R s := by
  w_on
  revert X T; k_fill; intro X T
  refine' enterF (binds := []) X T.nolimit ?ho ?hcd ?hroom ?hbind ?hloc ?h ?c1 ?c2 ?c3 ?c4
  case ho => k_is
  case hcd => k_is
  case hroom => omega
  case hbind => exact BindsTo.of_eq rfl
  case c4 => decide
  case hloc => exact locs rfl
  case c1 => exact rfl
  case c2 => exact rfl
  case c3 => exact rfl
  intro L' h' F' N'


  refine wpAny_execs_cons ?_
  refine compLA (base := s.heap) (cl := []) (n := 4) (P := NatP) F' N' rfl rfl rfl (fun lo i ys h => LnJ lo ((List.range i).map fun x : Nat => [(x : Int)]) ys h) (fun _ _ => true) (by decide) rfl (by decide) rfl (by decide) (fun _ => rfl) lnJ0 (fun _ _ _ _ _ J k => J.k fun b its c hb e => k b _ hb e) (fun _ _ _ _ J => by rw [J.len]; simp) (iterRange ?hh1 X T F'.keep (by k_is) rfl rfl rfl rfl rfl (by decide)) ?ht1 ?he1 ?hq1
  case hh1 => exact hh
  case ht1 => intros; exact tests_none ⟨⟨_, rfl⟩, rfl, fun e => by cases e⟩
  case he1 =>
    rintro C i v ys h tk m hi ⟨tv, rfl⟩ _ J hn hm hK
    refine wpAny_List (spliced_more (Mine.ldC hn hm (spliced_none ⟨Nat.le_of_ble_eq_true rfl, ?_⟩)))
    refine ⟨_, _, rfl, fun b o e => Heap.get?_push_of_some _ e, ?_⟩
    rw [List.range_succ, List.map_append]
    exact J.snoc (vs := [((i : Int), tv)]) (c := 0) (fun b o e => Heap.get?_push_of_some _ e) hn.lt (Heap.get?_push_size _ rfl) rfl
  case hq1 =>
    rintro D1 C1 ys1 c1 h1 tk1 F1 N1 hD1 hDC1 ⟨rs1, rfl, hx1, hr1⟩ hDo1
    have hlen1 : rs1.length = 4 := by have := congrArg List.length hx1; simpa using this
    refine wpAny_execs_cons ?_
    have hl1 : h1.IsList D1 (rs1.map (fun r => Value.ref r.1)).toArray := ⟨_, hDo1, rfl, _, rfl⟩
    have fr1 : ∀ a, h'.objs.size ≤ a → h'.get? a = none := fun a ha => none_of_size ha
    have N1' := News.add F' (News.addAll F' N1 (rowNews rs1) (fun p hp => by
      obtain ⟨r, hr, rfl⟩ := List.mem_map.mp hp
      exact ⟨fr1 _ (Nat.le_of_lt (Nat.lt_of_le_of_lt hD1 (Nat.lt_trans hDC1 (hr1 r hr).1))), (hr1 r hr).2⟩)) (fr1 _ hD1) hDo1
    refine compTwoA (base := s.heap) (cl := []) (n2 := 4) (l := D1) (items := rs1.map (fun r => Value.ref r.1)) F1 N1' rfl rfl rfl (J2 (fun _ => true) onesL) (fun _ _ => true) ?hh2 (by rw [List.length_map, hlen1]; decide) rfl (by decide) rfl (by decide) (fun _ => rfl) (fun _ => rfl) (by decide) ?j0 (fun _ _ _ _ _ _ J k => J.k k) ?jl ?jn (fun Q h => ld F1 rfl h) hl1 ?hrg ?ht2 ?he2 ?hq2
    case hh2 => exact hh
    case j0 => exact fun lo h => lnJ0 lo h
    case jl => exact fun _ _ _ _ _ J => jl_of J
    case jn =>
      intro lo k v ys h hv _ J
      obtain ⟨r, rfl, _, ho⟩ := getLn hx1 hv
      exact jn_of ho rfl J
    case hrg =>
      intro C h tk Q E hK hq
      exact rangeI X T (Keep.trans F1.keep hK) (by k_is) rfl rfl rfl rfl rfl (by decide) hq
    case ht2 => intros; exact tests_none ⟨⟨_, rfl⟩, rfl, fun e => by cases e⟩
    case he2 =>
      intro C k v i t ys h tk m hv hi _ J hn hm1 hm2 hK
      obtain ⟨r, rfl, hrm, ho⟩ := getLn hx1 hv
      have hl : r.2.1.length ≤ 10 := by
        have : ∀ o ∈ onesL, o.length ≤ 10 := by decide
        have := this _ (List.mem_of_getElem? ho)
        simpa using this
      refine wpAny_mono (eltAdd (env := compEnvC _ [] C _) hn hm1 hm2 (hK _ _ (hr1 r hrm).2) hl J rfl rfl rfl (by decide) (by decide) rfl) (fun y s₁ hy => ?_) fun _ _ x => x
      obtain ⟨h', tk', e, k', J'⟩ := hy
      exact ⟨h', tk', e, k', js_of ho J'⟩
    case hq2 =>
      rintro D2 C2 ys2 c2 h2 tk2 F2 N2 hD2 hDC2 ⟨rs2, rfl, hx2, hr2⟩ hDo2
      have hx2' : rs2.map (fun r => r.2.1.map (·.1)) = twosL := by
        rw [hx2, List.length_map, hlen1]; simp [twosL]
      have hlen2 : rs2.length = 16 := by
        have h16 : twosL.length = 16 := by decide
        have := congrArg List.length hx2'; rw [h16] at this; simpa using this
      have hl2 : h2.IsList D2 (rs2.map (fun r => Value.ref r.1)).toArray := ⟨_, hDo2, rfl, _, rfl⟩
      have hl1' : h2.IsList D1 (rs1.map (fun r => Value.ref r.1)).toArray := ⟨_, (N2 _ (.head _)).1, rfl, _, rfl⟩
      have hr1' : ∀ r ∈ rs1, h2.get? r.1 = some (listOf (ivals r.2.1).toArray r.2.2) := fun r hr => (N2 (r.1, listOf (ivals r.2.1).toArray r.2.2) (.tail _ (List.mem_append_left _ (List.mem_map_of_mem (f := fun r : Row => (r.1, listOf (ivals r.2.1).toArray r.2.2)) hr)))).1
      refine wpAny_execs_cons (wpAny_Return_some ?_)
      refine wpAny_BinOp (wpAny_BinOp (ld F2 rfl (ld F2 rfl ?_)))
      refine addL (vs := rs1.map (fun r => Value.ref r.1)) (ws := rs2.map (fun r => Value.ref r.1)) hl1' hl2 ?_ (by simp [hlen1, hlen2]; decide)
      intro h3 k3 hDo3 hz3
      refine compTwo (cl := []) (n2 := 4) (l := D2) (items := rs2.map (fun r => Value.ref r.1)) (J2 lt2 twosL) (fun k _ => lt2 (twosL.getD k [])) ?hh3 (by rw [List.length_map, hlen2]; decide) rfl (by decide) rfl (by decide) (fun _ => rfl) (fun _ => rfl) (by decide) ?j03 (fun _ _ _ _ _ _ J k => J.k k) ?jl3 ?jn3 (fun Q h => ld (Fr.kept F2 k3) rfl h) (Keep.isList k3 hl2) ?hrg3 ?ht3 ?he3 ?hq3
      case hh3 => exact hh
      case j03 => exact fun lo h => lnJ0 lo h
      case jl3 => exact fun _ _ _ _ _ J => jl_of J
      case jn3 =>
        intro lo k v ys h hv hp J
        obtain ⟨r, rfl, _, ho⟩ := getLn hx2' hv
        rw [List.getD_eq_getElem?_getD, ho] at hp
        exact jn_of ho hp J
      case hrg3 =>
        intro C h tk Q E hK hq
        exact rangeI X T (Keep.trans F2.keep (Keep.trans k3 hK)) (by k_is) rfl rfl rfl rfl rfl (by decide) hq
      case ht3 =>
        intro C k v ys h tk m hv J hn hm hK
        obtain ⟨r, rfl, hrm, ho⟩ := getLn hx2' hv
        have hro := hK _ _ (k3 _ _ (hr2 r hrm).2)
        have hl : r.2.1.length = 2 := by
          have : ∀ o ∈ twosL, o.length = 2 := by decide
          have := this _ (List.mem_of_getElem? ho)
          simpa using this
        obtain ⟨ra, ⟨vs, rc⟩⟩ := r
        obtain ⟨⟨v0, t0⟩, ⟨v1, t1⟩, rfl⟩ : ∃ x y, vs = [x, y] := by
          rcases vs with _ | ⟨x, _ | ⟨y, _ | ⟨z, q⟩⟩⟩
          · simp at hl
          · simp at hl
          · exact ⟨x, y, rfl⟩
          · simp at hl
        have hil : h.IsList ra #[.int v0 t0, .int v1 t1] := ⟨_, hro, rfl, _, rfl⟩
        refine tests_1 (wpAny_isTrue_Compare1 (Subscript_ (Mine.ldC hn hm (wpAny_Constant_int (item_list hil (by decide) (by decide) rfl ?_)))))
        refine Subscript_ (Mine.ldC hn hm (wpAny_Constant_int (item_list hil (by decide) (by decide) rfl (PyProof.Rows.lt_int (wpAny_truthy_bool ⟨⟨_, rfl⟩, ?_, ?_⟩)))))
        · rw [List.getD_eq_getElem?_getD, ho]; rfl
        · intro hf
          unfold J2 at J ⊢
          rw [sp_f ho (by exact hf)]
          exact J
      case he3 =>
        intro C k v i t ys h tk m hv hi _ J hn hm1 hm2 hK
        obtain ⟨r, rfl, hrm, ho⟩ := getLn hx2' hv
        have hl : r.2.1.length ≤ 10 := by
          have : ∀ o ∈ twosL, o.length ≤ 10 := by decide
          have := this _ (List.mem_of_getElem? ho)
          simpa using this
        refine wpAny_mono (eltAdd (env := compEnvC _ [] C _) hn hm1 hm2 (hK _ _ (k3 _ _ (hr2 r hrm).2)) hl J rfl rfl rfl (by decide) (by decide) rfl) (fun y s₁ hy => ?_) fun _ _ x => x
        obtain ⟨h', tk', e, k', J'⟩ := hy
        exact ⟨h', tk', e, k', js_of ho J'⟩
      case hq3 =>
        rintro D3 C3 ys3 c3 h4 tk4 k4 hD3 hDC3 ⟨rs3, rfl, hx3, hr3⟩ hDo4
        have hx3' : rs3.map (fun r => r.2.1.map (·.1)) = sp lt2 twosL 16 := by
          rw [hx3, List.length_map, hlen2]; simp
        have hlen3 : rs3.length = 24 := by
          have h24 : (sp lt2 twosL 16).length = 24 := by decide
          have := congrArg List.length hx3'; rw [h24] at this; simpa using this
        refine addL (vs := rs1.map (fun r => Value.ref r.1) ++ rs2.map (fun r => Value.ref r.1)) (ws := rs3.map (fun r => Value.ref r.1)) ⟨_, k4 _ _ hDo3, rfl, _, rfl⟩ ⟨_, hDo4, rfl, _, rfl⟩ ?_ (by simp [hlen1, hlen2, hlen3]; decide)
        intro h5 k5 hDo5 hz5
        have sz1 : s.heap.objs.size ≤ h'.objs.size := Nat.le_of_lt (Nat.lt_of_le_of_lt F'.above F'.ns.lt)
        have sz2 : h'.objs.size ≤ h1.objs.size := Nat.le_of_lt (Nat.lt_of_le_of_lt hD1 (Heap.lt_size hDo1))
        have sz3 : h1.objs.size ≤ h2.objs.size := Nat.le_of_lt (Nat.lt_of_le_of_lt hD2 (Heap.lt_size hDo2))
        have sz4 : h2.objs.size ≤ h3.objs.size := by rw [hz3]; exact Nat.le_succ _
        have sz5 : h3.objs.size ≤ h4.objs.size := Nat.le_of_lt (Nat.lt_of_le_of_lt hD3 (Heap.lt_size hDo4))
        have fresh : ∀ b, s.heap.objs.size ≤ b → s.heap.get? b = none := fun b hb => none_of_size hb
        refine hret _ 0 (rs1 ++ rs2 ++ rs3) h5 _ (Keep.trans F2.keep (Keep.trans k3 (Keep.trans k4 k5))) (fresh _ (Nat.le_trans sz1 (Nat.le_trans sz2 (Nat.le_trans sz3 (Nat.le_trans sz4 sz5))))) ?_ ?_ ?_
        · rw [hDo5]; simp
        · rw [List.map_append, List.map_append, hx1, hx2', hx3']; rfl
        · intro r hr
          rcases List.mem_append.mp hr with hr | hr
          · rcases List.mem_append.mp hr with hr | hr
            · exact ⟨fresh _ (Nat.le_of_lt (Nat.lt_of_le_of_lt sz1 (Nat.lt_of_le_of_lt hD1 (Nat.lt_trans hDC1 (hr1 r hr).1)))), k5 _ _ (k4 _ _ (k3 _ _ (hr1' r hr)))⟩
            · exact ⟨fresh _ (Nat.le_of_lt (Nat.lt_of_le_of_lt (Nat.le_trans sz1 sz2) (Nat.lt_of_le_of_lt hD2 (Nat.lt_trans hDC2 (hr2 r hr).1)))), k5 _ _ (k4 _ _ (k3 _ _ (hr2 r hr).2))⟩
          · exact ⟨fresh _ (Nat.le_of_lt (Nat.lt_of_le_of_lt (Nat.le_trans sz1 (Nat.le_trans sz2 (Nat.le_trans sz3 sz4))) (Nat.lt_of_le_of_lt hD3 (Nat.lt_trans hDC3 (hr3 r hr).1)))), k5 _ _ (hr3 r hr).2⟩
end Mine
namespace Mine
theorem typeCall_dict0 : checkTypeCall "dict" ⟨[], []⟩ = pure () := by kernel_rfl
theorem newCall_dict0 : checkBuiltinCall "dict.__new__" ⟨[.type "dict"], []⟩ = pure () := by kernel_rfl
section
variable {prog : Program} {w : World} {A : Around} {E : Value → Shared → Prop} {s : Shared}
theorem code_dict_new0 {Q₁ : Value → Shared → Prop} (h : Q₁ (.ref s.heap.objs.size) { s with heap := s.heap.push { cls := .type "dict", data := .dict #[] } }) :
    codeAny (model prog w) A (.call (.builtin "dict.__new__") ⟨[.type "dict"], []⟩) (wants Q₁ E) s := by
  refine codeAny_call_builtin PySem.F.kt_plain_dict_new PySem.F.kt_entry_dict_new (wpAny_of_eq newCall_dict0 ?_)
  have hsub := PySem.F.kt_sub_dict
  have hmro := PySem.F.kt_mro_dict
  obtain ⟨hp, g, d, tk, os⟩ := s
  unfold Builtin.«dict.__new__»
  wp_walk
  exact h
theorem call_dict0 {Q : Value → Shared → Prop} (h : Q (.ref s.heap.objs.size) { s with heap := s.heap.push { cls := .type "dict", data := .dict #[] } }) :
    wpAny (model prog w) A (call (.type "dict") []) Q E s := by
  refine callType_codes (Q₁ := fun obj s₁ => obj = .ref s.heap.objs.size ∧ s₁ = { s with heap := s.heap.push { cls := .type "dict", data := .dict #[] } }) PySem.F.kt_called_dict typeCall_dict0 PySem.F.entry_dict_init (code_dict_new0 ⟨rfl, rfl⟩) ?_
  rintro obj s₁ ⟨rfl, rfl⟩
  have hnew : (s.heap.push { cls := .type "dict", data := .dict #[] }).DictOf (strKind prog w) s.heap.objs.size [] := Heap.DictOf.new s.heap
  refine ⟨hnew.typeIs, PySem.F.args_dict_init_1 _, ?_⟩
  unfold Builtin.«dict.__init__»
  refine wpAny_bind ?_
  unfold Builtin.Dict.selfAndRest
  refine wpAny_bind (wpAny_notOrdered_dict hnew.typeIs ?_)
  show wpAny _ _ (pure (s.heap.objs.size, ([] : List Value))) _ _ _
  refine wpAny_pure ?_
  show wpAny _ _ (Builtin.Dict.addKeywords s.heap.objs.size [] >>= _) _ _ _
  exact wpAny_bind (wpAny_pure (wpAny_pure ⟨rfl, h⟩))
end
end Mine
namespace Mine
def boundDF : Obj := { cls := .type "builtin_function_or_method", data := .fields #[.builtin "dict.fromkeys", .type "dict"] }
theorem type_df : typeOf (.builtin "dict.fromkeys") = pure (.type "classmethod_descriptor") := by show builtinType _ = _; rw [builtinType_eq_fast]; kernel_rfl
theorem entry_df : entryFor table "dict.fromkeys" = some Builtin.«dict.fromkeys» := entryFor_of_tree (by kernel_rfl)
theorem entry_dfl : entryFor table "dict.fromkeys.loop" = some Builtin.«dict.fromkeys.loop» := entryFor_of_tree (by kernel_rfl)
theorem quiet_df {as : Args} : (Code.builtin "dict.fromkeys" as).quiet = true := Code.quiet_builtin _ (by decide +kernel)
theorem quiet_dfl {as : Args} : (Code.builtin "dict.fromkeys.loop" as).quiet = true := Code.quiet_builtin _ (by decide +kernel)
theorem isType_dict : isType (.type "dict") = pure true := by first | rfl | kernel_rfl | (unfold isType; rw [isSubtype_type]; kernel_rfl)
theorem owner_df : (kfb_private% "ownerAndName") "dict.fromkeys" = ("dict", "fromkeys") := by first | decide +kernel | kernel_rfl
theorem check_df {a : Addr} : checkBoundCall "dict.fromkeys" ⟨[.type "dict", .ref a], []⟩ = pure () := by first | kernel_rfl | rfl
section
variable {prog : Program} {w : World} {M : Model} {A : Around} {E : Value → Shared → Prop} {s : Shared} {K : Frag} {h₀ : Heap}
theorem run_getD {P : Fin → Shared → Prop} (h : P (.done (.ret (.ref s.heap.objs.size))) { s with heap := s.heap.push boundDF }) :
    wpAny M A (Builtin.«classmethod_descriptor.__get__» ⟨[.builtin "dict.fromkeys", .none, .type "dict"], []⟩) P E s := by
  unfold Builtin.«classmethod_descriptor.__get__»
  refine wpAny_bind (wpAny_of_eq (a := (.builtin "dict.fromkeys", none, some (.type "dict"))) (by first | rfl | kernel_rfl) ?_)
  simp only [owner_df]
  refine wpAny_bind (wpAny_of_eq (a := .type "dict") rfl ?_)
  refine wpAny_bind (wpAny_of_eq (a := true) isType_dict ?_)
  refine KFB.if_not rfl ?_
  refine wpAny_bind (wpAny_of_eq (a := true) PySem.F.kt_sub_dict ?_)
  refine KFB.if_not rfl ?_
  exact wpAny_bind (wpAny_newObj_type (wpAny_pure h))
theorem getmD {pl : Sem Bool} {Q : Value × List Value → Shared → Prop} (X₀ : K.In h₀) (kb : Keep h₀ s.heap)
    (e : findCls K (.type "dict") (.type "type") (PySem.Str.ofString "fromkeys") = some (.get (.builtin "classmethod_descriptor.__get__") (.builtin "dict.fromkeys") .none (.type "dict")))
    (h : Q (.ref s.heap.objs.size, []) { s with heap := s.heap.push boundDF, toks := s.toks + 1 }) :
    wpAny (model prog w) A (getMethod (.type "dict") (PySem.Str.ofString "fromkeys") pl) Q E s := by
  have X := X₀.keeps kb
  have hstub : opaqueClassAbove (.type "dict") = pure none := by unfold opaqueClassAbove; dsimp only; rw [show Manifest.isStub "dict" = false by decide +kernel]; rfl
  have ht : typeOf (.type "dict") = pure (.type "type") := by first | rfl | kernel_rfl
  have L0 : Looks (model prog w) s.heap (typeOf (.type "dict")) (.type "type") := Looks.of_pure ht
  have hg : findIn K (.type "type") "__getattribute__" = some (some (.builtin "type.__getattribute__")) := type_tga
  unfold getMethod specialOf
  refine wpAny_bind (wpAny_bind (L0.here ((looks_findIn X hg).here ?_)))
  dsimp only
  rw [if_pos canon_tga]
  refine wpAny_bind (wpAny_mono (Q := fun v => Q (v, [])) (E := E) ?_ (fun _ _ z => wpAny_pure z) fun _ _ z => z)
  have LO : Looks (model prog w) s.heap (opaqueClassAbove (.type "dict")) none := Looks.of_pure hstub
  refine cls_open X LO L0 hg (looks_hook X (r := none) (by rfl)) (by show subIn K _ _ = _; rfl) e ?_
  show wpAny _ _ (holding [.builtin "dict.fromkeys"] (call (.builtin "classmethod_descriptor.__get__") [.builtin "dict.fromkeys", .none, .type "dict"]) >>= fun v => ret v) _ _ _
  refine wpAny_bind (wpAny_holding (wpAny_call_entry KFB.slot_get type_df KFB.entry_get (run_getD ⟨_, rfl, wpAny_pure (wpAny_pure h)⟩) (KFB.args_get _ _ _)))
theorem callWith_boundD {pos : Pos} {u : Addr} {first : List Value} {args : List (Bool × Sem Value)} {Q : Value → Shared → Prop} (hplain : args.any (·.1) = false)
    (h : wpAny M A (evalArgs (.ref u) true args []) (fun x s₁ => s₁.heap.get? u = some boundDF ∧ wpAny M A (call (.ref u) (first ++ x.pos) x.kw) Q E s₁) E s) : wpAny M A (callWith pos (.ref u) first args []) Q E s := by
  unfold callWith
  refine wpAny_bind (wpAny_holding (wpAny_mono h (fun x s₁ h₁ => wpAny_bind (wpAny_standAt ?_)) fun _ _ x => x))
  obtain ⟨ho, hcall⟩ := h₁
  simp only [hplain, List.any_nil, Bool.or_false]
  refine wpAny_bind (m := keeperOf (.ref u)) ?_
  unfold keeperOf
  refine wpAny_bind (wpAny_load ho ?_)
  simp only [boundDF, show (Value.type "builtin_function_or_method" != Value.type "method") = true by decide, show (Value.type "builtin_function_or_method" == Value.type "builtin_function_or_method" || Value.type "builtin_function_or_method" == Value.type "method-wrapper") = true by decide, if_true]
  refine wpAny_pure ?_
  exact wpAny_bind (wpAny_mono hcall (fun r s₂ hr => wpAny_bind (wpAny_holding (wpAny_point (wpAny_pure hr)))) fun _ _ x => x)
def dk : List (Str × Tok) → List (Str × Value) → List (Str × Value)
  | [], kvs => kvs
  | x :: r, kvs => dk r (stored kvs x.1 .none)
theorem stored_len (kvs : List (Str × Value)) (k : Str) (v : Value) : (stored kvs k v).length ≤ kvs.length + 1 := by
  unfold stored; split <;> simp
theorem df_loop {R : Result → Shared → Prop} {d I l : Nat} {xs : List (Str × Tok)} (hh : A.handled = none) (hdI : d ≠ I) (hlI : l ≠ I) (hld : l ≠ d) (hl8 : xs.length ≤ 8)
    (hret : ∀ h' tk', h'.DictOf (strKind prog w) d (dk xs []) → (∀ b o, b ≠ d → b ≠ I → s.heap.get? b = some o → h'.get? b = some o) → R (.ok (.ret (.ref d))) { s with heap := h', toks := tk' }) :
    ∀ (j i : Nat), i + j = xs.length → ∀ h tk kvs, h.IsListIter I l i → h.IsList l (xs.map fun x => Value.str x.1 x.2).toArray → h.DictOf (strKind prog w) d kvs → kvs.length ≤ i → dk (xs.drop i) kvs = dk xs [] → (∀ b o, b ≠ d → b ≠ I → s.heap.get? b = some o → h.get? b = some o) →
      codeAny (model prog w) A (.builtin "dict.fromkeys.loop" ⟨[.ref d, .ref I, .none], []⟩) R { s with heap := h, toks := tk } := by
  intro j
  induction j with
  | zero =>
    intro i hi h tk kvs hI hL hD hkl hdk hK
    obtain rfl : i = xs.length := by omega
    refine codeAny_builtin entry_dfl ?_
    unfold Builtin.«dict.fromkeys.loop»
    dsimp only
    refine wpAny_bind (wpAny_pyNext_list_end hh hI hL (by simp) fun h' he => ?_)
    refine wpAny_pure ?_
    rw [List.drop_length] at hdk
    refine hret h' _ ?_ fun b o h1 h2 e => he b o h2 (hK b o h1 h2 e)
    rw [← hdk]
    exact hD.extBut he hdI
  | succ j ih =>
    intro i hi h tk kvs hI hL hD hkl hdk hK
    have hin : i < xs.length := by omega
    refine codeAny_builtin entry_dfl ?_
    unfold Builtin.«dict.fromkeys.loop»
    dsimp only
    have hv : (xs.map fun x => Value.str x.1 x.2).toArray[i]? = some (.str (xs[i]).1 (xs[i]).2) := by simp [hin]
    refine wpAny_bind (wpAny_pyNext_list_item hI hL hv fun h₁ hI₁ hs₁ => ?_)
    have hD₁ := hD.sameBut hs₁ hdI
    refine wpAny_bind (wpAny_typeOf hD₁.typeIs ?_)
    refine KFB.if_so (by decide) ?_
    refine wpAny_bind (wpAny_of_eq (a := d) rfl ?_)
    have h8 : 8 ≤ sizeLine := by decide
    refine wpAny_bind (wpAny_holding (wpAny_dictSet_pairs (knd := strKind prog w) (strKind_is prog w _ _) hD₁ (fun h₂ hD₂ hs₂ => ?_) (by omega)))
    refine wpAny_pure ⟨quiet_dfl, ?_⟩
    have hdr : xs.drop i = xs[i] :: xs.drop (i + 1) := List.drop_eq_getElem_cons hin
    refine ih (i + 1) (by omega) h₂ _ _ ?_ ?_ hD₂ (by have := stored_len kvs (xs[i]).1 .none; omega) ?_ ?_
    · obtain ⟨o, ho, r⟩ := hI₁
      exact ⟨o, hs₂.extBut _ _ (Ne.symm hdI) ho, r⟩
    · exact (hL.extBut hs₁.extBut hlI).extBut hs₂.extBut hld
    · rw [← hdk, hdr]; rfl
    · intro b o h1 h2 e
      exact hs₂.extBut b o h1 (hs₁.extBut b o h2 (hK b o h1 h2 e))
theorem df_tree {R : Result → Shared → Prop} {l : Addr} {xs : List (Str × Tok)} (hh : A.handled = none) (hl8 : xs.length ≤ 8) (hL : s.heap.IsList l (xs.map fun x => Value.str x.1 x.2).toArray)
    (hret : ∀ h' tk', h'.DictOf (strKind prog w) s.heap.objs.size (dk xs []) → Keep s.heap h' → R (.ok (.ret (.ref s.heap.objs.size))) { s with heap := h', toks := tk' }) :
    codeAny (model prog w) A (.builtin "dict.fromkeys" ⟨[.type "dict", .ref l], []⟩) R s := by
  refine codeAny_builtin entry_df ?_
  unfold Builtin.«dict.fromkeys»
  dsimp only
  refine wpAny_bind (wpAny_of_eq (a := true) isType_dict ?_)
  refine KFB.if_not rfl ?_
  refine wpAny_bind (wpAny_of_eq (a := true) PySem.F.kt_sub_dict ?_)
  refine KFB.if_not rfl ?_
  refine KFB.if_not rfl ?_
  refine wpAny_bind (wpAny_bind (wpAny_rule ?_))
  refine wpAny_pure ?_
  refine wpAny_bind (wpAny_pure ?_)
  refine wpAny_bind (call_dict0 ?_)
  refine wpAny_holding ?_
  have hk : Keep s.heap (s.heap.push { cls := .type "dict", data := .dict #[] }) := fun b o e => Heap.get?_push_of_some _ e
  have hL' := Keep.isList hk hL
  have hnew : (s.heap.push { cls := .type "dict", data := .dict #[] }).DictOf (strKind prog w) s.heap.objs.size [] := Heap.DictOf.new s.heap
  refine wpAny_bind (wpAny_typeOf (Heap.IsList.typeIs (s := { s with heap := s.heap.push { cls := .type "dict", data := .dict #[] } }) hL') ?_)
  refine wpAny_bind (wpAny_typeOf hnew.typeIs ?_)
  refine KFB.if_not (by decide) ?_
  refine wpAny_bind (wpAny_typeOf hnew.typeIs ?_)
  refine KFB.if_not (by decide) ?_
  refine wpAny_bind (wpAny_pyIter_list hL' ?_)
  refine wpAny_pure ⟨quiet_dfl, ?_⟩
  have hz : (s.heap.push { cls := .type "dict", data := .dict #[] }).objs.size = s.heap.objs.size + 1 := Heap.size_push ..
  have hls : l < s.heap.objs.size := by obtain ⟨o, ho, _⟩ := hL; exact Heap.lt_size ho
  dsimp only
  rw [hz]
  have hit : (Heap.push (s.heap.push { cls := .type "dict", data := .dict #[] }) { cls := .type "list_iterator", data := .fields #[.ref l, .int 0 0] }).IsListIter (s.heap.objs.size + 1) l 0 := ⟨_, by rw [← hz]; exact Heap.get?_push_size _ rfl, rfl, rfl⟩
  refine df_loop (s := s) (d := s.heap.objs.size) (I := s.heap.objs.size + 1) (l := l) hh (Nat.ne_of_lt (Nat.lt_succ_self _)) (Nat.ne_of_lt (Nat.lt_succ_of_lt hls)) (Nat.ne_of_lt hls) hl8 (fun h' tk' hD hK => hret h' tk' hD fun b o e => hK b o (Nat.ne_of_lt (Heap.lt_size e)) (Nat.ne_of_lt (Nat.lt_succ_of_lt (Heap.lt_size e))) e) xs.length 0 (by omega) _ _ [] hit (hL'.push _) (hnew.push _) (Nat.le_refl _) rfl fun b o _ _ e => Heap.get?_push_of_some _ (Heap.get?_push_of_some _ e)
theorem call_df {x l : Addr} {xs : List (Str × Tok)} {Q : Value → Shared → Prop} (hh : A.handled = none) (ho : s.heap.get? x = some boundDF) (hl8 : xs.length ≤ 8) (hL : s.heap.IsList l (xs.map fun x => Value.str x.1 x.2).toArray)
    (h : ∀ h' tk', h'.DictOf (strKind prog w) s.heap.objs.size (dk xs []) → Keep s.heap h' → Q (.ref s.heap.objs.size) { s with heap := h', toks := tk' }) : wpAny (model prog w) A (call (.ref x) [.ref l]) Q E s := by
  refine wpAny_call (codeAny_of_tree ?_)
  show wpAny _ A.in1 (callAny (.ref x) ⟨[.ref l], []⟩) _ _ s
  simp only [callAny]
  refine wpAny_bind (wpAny_load ho ?_)
  simp only [boundDF, show (Value.type "builtin_function_or_method" == Value.type "method" || Value.type "builtin_function_or_method" == Value.type "builtin_function_or_method" || Value.type "builtin_function_or_method" == Value.type "method-wrapper") = true by decide, if_true]
  refine KFB.if_so (by decide) ?_
  refine wpAny_bind (wpAny_of_eq (a := ()) check_df ?_)
  refine wpAny_bind (wpAny_pure (wpAny_pure ?_))
  exact ⟨quiet_df, df_tree hh hl8 hL h⟩
end
end Mine
namespace Mine

theorem dd_spec {w : World} {p loose mean mg mb} {A : Around} {s : Shared} {R : Result → Shared → Prop} {a : Addr} {xs : List (Str × Tok)}
   (hr : A.depth + 8 < recursionLimit) (hu : A.units + 60 < cLine) (hh : A.handled = none)
   (ha : s.heap.IsList a (xs.map fun x => Value.str x.1 x.2).toArray) (hl : xs.length ≤ 8)
   (hret : ∀ (D : Nat) h' tk', Keep s.heap h' → h'.DictOf (PySem.strKind PySem.Challenge.rw_om0026_01.row.prog w) D (dk xs []) → s.heap.objs.size ≤ D → R (.ok (.ret (.ref D))) { s with heap := h', toks := tk' }) 
   (X : (hd.heap_39 w.params).In s.heap) (T : Top p loose mean mg mb s.heap) :
   codeAny (model PySem.Challenge.rw_om0026_01.row.prog w) A (.call (.ref 78) ⟨[.ref a], []⟩) R s := by
  w_on
  revert X T; k_fill; intro X T
  refine' enterF (binds := [(Str.ofString "params", Value.ref a), (Str.ofString "unhashable_fallback", Value.bool false)]) X T.nolimit ?ho ?hcd ?hroom ?hbind ?hloc ?h ?c1 ?c2 ?c3 ?c4
  case ho => k_is
  case hcd => k_is
  case hroom => omega
  case hbind => exact kp_binds X (fun _ => by first | rfl | kernel_rfl | k_is)
  case c4 => decide
  case hloc => exact locs rfl
  case c1 => exact rfl
  case c2 => exact rfl
  case c3 => exact rfl
  intro L' h' F' N'

  k_with "getMethod type:dict" => (refine stop ?_)
  k_steps
  constructor
  refine getmD X F'.keep (by k_is) ?_
  have kp : Keep h' (h'.push boundDF) := fun b o e => Heap.get?_push_of_some _ e
  refine callWith_boundD rfl (evalArgs_plain (spliced_cons (ld (Fr.kept F' kp) rfl (spliced_nil ⟨Heap.get?_push_size _ rfl, ?_⟩))))
  refine call_df hh (Heap.get?_push_size _ rfl) hl (Keep.isList (Keep.trans F'.keep kp) ha) ?_
  intro h2 tk2 hD k2
  refine hret _ _ _ (Keep.trans F'.keep (Keep.trans kp k2)) hD ?_
  refine Nat.le_trans F'.above (Nat.le_trans (Nat.le_of_lt F'.ns.lt) ?_)
  show h'.objs.size ≤ (h'.push boundDF).objs.size
  rw [Heap.size_push]
  exact Nat.le_succ _
end Mine
namespace Mine
section
variable (T : Nat → Nat → Nat)
/-- what the lines of the law ask -/
structure Bl : Prop where
  id : ∀ x, x < 4 → T x x = x
  co : ∀ x y, x < y → y < 4 → T y x = T x y
  ab : ∀ x y, x < y → y < 4 → T (T x y) x = T x y ∧ T (T x y) y = T x y
  as : ∀ x y z, x < y → y < z → z < 4 → T (T x z) y = T (T x y) z ∧ T (T y z) x = T (T x y) z
/-- what the listings ask -/
structure Fa : Prop where
  inj : ∀ a b, a < 4 → b < 4 → (∀ c, c < 4 → (T a c ≠ c ↔ T b c ≠ c)) → a = b
  un : ∀ a b, a < 4 → b < 4 → ∀ c, c < 4 → (T (T a b) c ≠ c ↔ (T a c ≠ c ∨ T b c ≠ c))
end
theorem Bl.of {T : Nat → Nat → Nat} (hT : ∀ a b, a < 4 → b < 4 → T a b < 4) (F : Fa T) : Bl T where
  id := fun x hx => F.inj _ _ (hT x x hx hx) hx fun c hc => by rw [F.un x x hx hx c hc]; exact or_self_iff
  co := fun x y h hy => by
    have hx : x < 4 := by omega
    refine F.inj _ _ (hT y x hy hx) (hT x y hx hy) fun c hc => ?_
    rw [F.un y x hy hx c hc, F.un x y hx hy c hc]
    exact or_comm
  ab := fun x y h hy => by
    have hx : x < 4 := by omega
    have hxy := hT x y hx hy
    constructor
    · refine F.inj _ _ (hT _ x hxy hx) hxy fun c hc => ?_
      rw [F.un _ x hxy hx c hc, F.un x y hx hy c hc]
      constructor
      · rintro (h | h)
        · exact h
        · exact .inl h
      · exact .inl
    · refine F.inj _ _ (hT _ y hxy hy) hxy fun c hc => ?_
      rw [F.un _ y hxy hy c hc, F.un x y hx hy c hc]
      constructor
      · rintro (h | h)
        · exact h
        · exact .inr h
      · exact .inl
  as := fun x y z h1 h2 hz => by
    have hx : x < 4 := by omega
    have hy : y < 4 := by omega
    have hxy := hT x y hx hy
    have hxz := hT x z hx hz
    have hyz := hT y z hy hz
    constructor
    · refine F.inj _ _ (hT _ y hxz hy) (hT _ z hxy hz) fun c hc => ?_
      rw [F.un _ y hxz hy c hc, F.un x z hx hz c hc, F.un _ z hxy hz c hc, F.un x y hx hy c hc]
      constructor
      · rintro ((h | h) | h)
        · exact .inl (.inl h)
        · exact .inr h
        · exact .inl (.inr h)
      · rintro ((h | h) | h)
        · exact .inl (.inl h)
        · exact .inr h
        · exact .inl (.inr h)
    · refine F.inj _ _ (hT _ x hyz hx) (hT _ z hxy hz) fun c hc => ?_
      rw [F.un _ x hyz hx c hc, F.un y z hy hz c hc, F.un _ z hxy hz c hc, F.un x y hx hy c hc]
      constructor
      · rintro ((h | h) | h)
        · exact .inl (.inr h)
        · exact .inr h
        · exact .inl (.inl h)
      · rintro ((h | h) | h)
        · exact .inr h
        · exact .inl (.inl h)
        · exact .inl (.inr h)
theorem Bl.comm {T : Nat → Nat → Nat} (B : Bl T) {x y : Nat} (hx : x < 4) (hy : y < 4) : T x y = T y x := by
  rcases Nat.lt_trichotomy x y with h | h | h
  · exact (B.co x y h hy).symm
  · rw [h]
  · exact B.co y x h hx
theorem Bl.abs {T : Nat → Nat → Nat} (hT : ∀ a b, a < 4 → b < 4 → T a b < 4) (B : Bl T) {x y : Nat} (hx : x < 4) (hy : y < 4) : T (T x y) x = T x y ∧ T (T x y) y = T x y := by
  rcases Nat.lt_trichotomy x y with h | h | h
  · exact B.ab x y h hy
  · subst h
    have e := B.id x hx
    exact ⟨by rw [e, e], by rw [e, e]⟩
  · have e := B.co y x h hx
    have := B.ab y x h hx
    rw [e]
    exact ⟨this.2, this.1⟩
/-- the full law of three -/
theorem Bl.assoc {T : Nat → Nat → Nat} (hT : ∀ a b, a < 4 → b < 4 → T a b < 4) (B : Bl T) {x y z : Nat} (hx : x < 4) (hy : y < 4) (hz : z < 4) : T (T x y) z = T x (T y z) := by
  have hyz := hT y z hy hz
  have hxy := hT x y hx hy
  rw [B.comm hx hyz]
  -- (xy)z = (yz)x
  by_cases exy : x = y
  · subst exy
    rw [B.id x hx, (B.abs hT hx hz).1]
  by_cases eyz : y = z
  · subst eyz
    rw [B.id y hy, (B.abs hT hx hy).2, B.comm hx hy]
  by_cases exz : x = z
  · subst exz
    rw [B.comm hx hy, ]
  rcases Nat.lt_or_gt_of_ne exy with h1 | h1
  · rcases Nat.lt_or_gt_of_ne eyz with h2 | h2
    · exact (B.as x y z h1 h2 hz).2.symm
    · rcases Nat.lt_or_gt_of_ne exz with h3 | h3
      · -- x < z < y
        have := B.as x z y h3 h2 hy
        rw [B.comm hy hz, this.2, ← this.1]
      · -- z < x < y
        have := B.as z x y h3 h1 hy
        rw [B.comm hy hz, this.1, ← this.2]
  · rcases Nat.lt_or_gt_of_ne eyz with h2 | h2
    · rcases Nat.lt_or_gt_of_ne exz with h3 | h3
      · -- y < x < z
        have := B.as y x z h1 h3 hz
        rw [this.1, B.comm hx hy]
      · -- y < z < x
        have := B.as y z x h2 h3 hx
        rw [B.comm hx hy, this.1]
    · -- z < y < x
      have := B.as z y x h2 h1 hx
      rw [B.comm hy hz, B.comm hx hy, this.2]
theorem Fa.of {T : Nat → Nat → Nat} (hT : ∀ a b, a < 4 → b < 4 → T a b < 4) (B : Bl T) : Fa T where
  inj := fun a b ha hb h => by
    have h1 : ¬ T b a ≠ a := fun z => absurd (B.id a ha) ((h a ha).mpr z)
    have h2 : ¬ T a b ≠ b := fun z => absurd (B.id b hb) ((h b hb).mp z)
    have e1 : T b a = a := by simpa using h1
    have e2 : T a b = b := by simpa using h2
    rw [← e1, B.comm hb ha, e2]
  un := fun a b ha hb c hc => by
    have hab := hT a b ha hb
    constructor
    · intro h
      apply Classical.byContradiction
      intro z
      have z1 : T a c = c := Classical.byContradiction fun q => z (.inl q)
      have z2 : T b c = c := Classical.byContradiction fun q => z (.inr q)
      exact h (by rw [B.assoc hT ha hb hc, z2, z1])
    · intro h z
      have k1 : T a c = c := by
        have e : T a (T (T a b) c) = T (T a b) c := by
          rw [← B.assoc hT ha hab hc, B.comm ha hab, (B.abs hT ha hb).1]
        rw [z] at e; exact e
      have k2 : T b c = c := by
        have e : T b (T (T a b) c) = T (T a b) c := by
          rw [← B.assoc hT hb hab hc, B.comm hb hab, (B.abs hT ha hb).2]
        rw [z] at e; exact e
      rcases h with h | h
      · exact h k1
      · exact h k2
end Mine
namespace Mine
def mdk (sh k : Nat) : Int := 32768 + (((List.range 4).filter (fun b => k.testBit b)).map (fun b : Nat => ((2 ^ ((b * 2 + sh) % 9) : Nat) : Int))).foldl (· + ·) 0
def lst (m : Int) : List Nat := fmChars m 0 fmP
def ch (c : Nat) (b : Bool) : Nat := if b then c else 45
def chars (f : Nat → Bool) : List Nat := [45, ch 114 (f 8), ch 119 (f 7), ch 120 (f 6), ch 114 (f 5), ch 119 (f 4), ch 120 (f 3), ch 114 (f 2), ch 119 (f 1), ch 120 (f 0)]
def bitOf (sh k j : Nat) : Bool := (List.range 4).any fun b => k.testBit b && (b * 2 + sh) % 9 == j
theorem lst_chars : ∀ sh, sh < 9 → ∀ k, k < 16 → lst (mdk sh k) = chars (bitOf sh k) := by decide +kernel
theorem bitOf_at : ∀ sh, sh < 9 → ∀ k, k < 16 → ∀ b, b < 4 → bitOf sh k ((b * 2 + sh) % 9) = k.testBit b := by decide +kernel
theorem ch_inj {c : Nat} (hc : c ≠ 45) {a b : Bool} (h : ch c a = ch c b) : a = b := by
  cases a <;> cases b <;> first | rfl | exact absurd h hc | exact absurd h.symm hc
theorem chars_inj {f g : Nat → Bool} (h : chars f = chars g) : ∀ j, j < 9 → f j = g j := by
  unfold chars at h
  simp only [List.cons.injEq, and_true, true_and] at h
  obtain ⟨h8, h7, h6, h5, h4, h3, h2, h1, h0⟩ := h
  intro j hj
  rcases j with _ | _ | _ | _ | _ | _ | _ | _ | _ | j
  · exact ch_inj (by decide) h0
  · exact ch_inj (by decide) h1
  · exact ch_inj (by decide) h2
  · exact ch_inj (by decide) h3
  · exact ch_inj (by decide) h4
  · exact ch_inj (by decide) h5
  · exact ch_inj (by decide) h6
  · exact ch_inj (by decide) h7
  · exact ch_inj (by decide) h8
  · omega
theorem bit4 {k : Nat} (h : k < 16) {i : Nat} (hi : 4 ≤ i) : k.testBit i = false := Nat.testBit_lt_two_pow (Nat.lt_of_lt_of_le h (Nat.pow_le_pow_right (n := 2) (by decide) hi))
theorem kb_ext {k j : Nat} (hk : k < 16) (hj : j < 16) (h : ∀ b, b < 4 → k.testBit b = j.testBit b) : k = j := by
  apply Nat.eq_of_testBit_eq
  intro i
  by_cases hi : i < 4
  · exact h i hi
  · rw [bit4 hk (Nat.le_of_not_lt hi), bit4 hj (Nat.le_of_not_lt hi)]
theorem or_lt {k j : Nat} (hk : k < 16) (hj : j < 16) : k ||| j < 16 := Nat.or_lt_two_pow (n := 4) hk hj
theorem inj_k (sh : Nat) (hs : sh < 9) (k : Nat) (hk : k < 16) (j : Nat) (hj : j < 16) (h : lst (mdk sh k) = lst (mdk sh j)) : k = j := by
  rw [lst_chars sh hs k hk, lst_chars sh hs j hj] at h
  refine kb_ext hk hj fun b hb => ?_
  rw [← bitOf_at sh hs k hk b hb, ← bitOf_at sh hs j hj b hb]
  exact chars_inj h _ (Nat.mod_lt _ (by decide))
theorem or_k : ∀ sh, sh < 9 → ∀ k, k < 16 → ∀ j, j < 16 → Builtin.bitOr (mdk sh k) (mdk sh j) = mdk sh (k ||| j) := by decide +kernel
theorem or_0 : ∀ sh, sh < 9 → ∀ k, k < 16 → Builtin.bitOr 0 (mdk sh k) = mdk sh k := by decide +kernel
theorem chars_all (f : Nat → Bool) : (chars f).length = 10 ∧ (chars f).all (· < 128) = true := by
  refine ⟨rfl, ?_⟩
  unfold chars
  have : ∀ (c : Nat) (b : Bool), c < 128 → ch c b < 128 := fun c b h => by cases b <;> simp [ch, h]
  simp [this]
theorem lst_ok (sh : Nat) (hs : sh < 9) (k : Nat) (hk : k < 16) : (lst (mdk sh k)).length = 10 ∧ (lst (mdk sh k)).all (· < 128) = true := by
  rw [lst_chars sh hs k hk]
  exact chars_all _
theorem laid_ch {c : Nat} (hc : c ≠ 45) (a b : Bool) : laidC (ch c a) (ch c b) = ch c (a || b) := by
  cases a <;> cases b <;> simp [laidC, ch, hc]
theorem any_or (l : List Nat) (f g : Nat → Bool) : l.any (fun b => f b || g b) = (l.any f || l.any g) := by
  induction l with
  | nil => rfl
  | cons a l ih => rw [List.any_cons, List.any_cons, List.any_cons, ih]; cases f a <;> cases g a <;> simp
theorem bitOf_or (sh k j i : Nat) : bitOf sh (k ||| j) i = (bitOf sh k i || bitOf sh j i) := by
  unfold bitOf
  rw [← any_or]
  simp only [Nat.testBit_or, Bool.and_or_distrib_right]
theorem laid_k (sh : Nat) (hs : sh < 9) (k : Nat) (hk : k < 16) (j : Nat) (hj : j < 16) : List.zipWith laidC (lst (mdk sh k)) (lst (mdk sh j)) = lst (mdk sh (k ||| j)) := by
  rw [lst_chars sh hs k hk, lst_chars sh hs j hj, lst_chars sh hs _ (or_lt hk hj)]
  unfold chars
  simp only [List.zipWith_cons_cons, List.zipWith_nil_right, bitOf_or, laid_ch (show (114 : Nat) ≠ 45 by decide), laid_ch (show (119 : Nat) ≠ 45 by decide), laid_ch (show (120 : Nat) ≠ 45 by decide)]
  rfl
end Mine
namespace Mine
/-- the law's own text, as the heap holds it -/
structure LawAt (K : Frag) (body : List Stmt) (scope : Scope) : Prop where
  h : ∃ (oc : Value) (od : Option Addr) (name : Str) (params : Arguments) (dV kV doc pm : Value) (an : Option Addr) (ct : Value) (osl : Array (Option Value)), K.lookup 112 = some ⟨oc, od, .func (fnOf name (Str.ofString "law") params body scope dV kV doc pm an (.ref 111) ct), osl⟩
theorem LawAt.eq {K : Frag} {b b' : List Stmt} {s s' : Scope} (x : LawAt K b s) (y : LawAt K b' s') : b = b' ∧ s = s' := by
  obtain ⟨_, _, _, _, _, _, _, _, _, _, _, e⟩ := x.h
  obtain ⟨_, _, _, _, _, _, _, _, _, _, _, e'⟩ := y.h
  rw [e] at e'
  have := congrArg Obj.data (Option.some.inj e')
  simp only [Data.func.injEq] at this
  have h1 := congrArg FuncData.body this
  have h2 := congrArg FuncData.scope this
  exact ⟨by injection h1, h2⟩
theorem LawAt.use {K : Frag} {P : List Stmt → Scope → Prop} {oc : Value} {od : Option Addr} {name : Str} {params : Arguments} {dV kV doc pm : Value} {an : Option Addr} {ct : Value} {osl : Array (Option Value)} {b b' : List Stmt} {s s' : Scope}
    (ho : K.lookup 112 = some ⟨oc, od, .func (fnOf name (Str.ofString "law") params b s dV kV doc pm an (.ref 111) ct), osl⟩) (h : P b s) (x : LawAt K b' s') : P b' s' := by
  obtain ⟨rfl, rfl⟩ := x.eq ⟨_, _, _, _, _, _, _, _, _, _, _, ho⟩
  exact h
abbrev numsOf (xs : List Int) : List Int := (xs.take 24).map fun k => k.fmod 3456
/-- behind the first two lines -/
def S1 (base : Heap) (L : Addr) (s : Shared) (xs : List Int) (o1 o2 o3 : Obj) (s' : Shared) : Prop :=
  ∃ (h : Heap) (tk : Nat) (m : Str → Option Value) (D : Addr) (t : Tok) (ys : List Value), s' = { s with heap := h, toks := tk } ∧ Fr base L h m ∧ m (Str.ofString "total") = some (.int (numsOf xs).sum t) ∧ m (Str.ofString "numbers") = some (.ref D) ∧
    News base L h [(D, LCg.lst ys), (L + 1 + 1 + 1, o3), (L + 1 + 1, o2), (L + 1, o1), (109, tabObj #[])] ∧ IntsAre ys (numsOf xs) ∧ L + 1 + 1 + 1 ≠ D ∧ L + 1 + 1 ≠ D ∧ L + 1 ≠ D ∧ 109 ≠ D
theorem part1 {w : World} {p loose mean mg mb} {s : Shared} {base : Heap} {L fa a : Addr} {xs : List Int} {vs : List Value} {o1 o2 o3 : Obj} {body : List Stmt} {scope : Scope} {E : Value → Shared → Prop}
   (hb : LawAt (hd.heap_39 w.params) body scope)
   (X : (hd.heap_39 w.params).In base) (T : Top p loose mean mg mb base)
   (F : Fr base L s.heap (fun y => if y = Str.ofString "script" then some (.ref a) else none)) (N : News base L s.heap [(L + 1 + 1 + 1, o3), (L + 1 + 1, o2), (L + 1, o1), (109, tabObj #[])])
   (d1 : o1.data = .cell none) (d2 : o2.data = .cell none) (d3 : o3.data = .cell none)
   (ha : base.IsList a vs.toArray) (hI : IntsAre vs xs) (hlen : xs.length ≤ 63) (hlay : (PyData.list (xs.map .int)).layable0 = true) :
   wpAny (model PySem.Challenge.rw_om0026_01.row.prog w) (callerA.deeper (envOfC (Str.ofString "law") scope L fa (.ref 111))) (execs (body.take 2) (envOfC (Str.ofString "law") scope L fa (.ref 111))) (fun f s' => Box (f = .next ∧ S1 base L s xs o1 o2 o3 s')) E s := by
  w_on
  revert X T; k_fill; intro X T
  refine' LawAt.use (P := fun body scope => wpAny (model PySem.Challenge.rw_om0026_01.row.prog w) (callerA.deeper (envOfC (Str.ofString "law") scope L fa (.ref 111))) (execs (body.take 2) (envOfC (Str.ofString "law") scope L fa (.ref 111))) (fun f s' => Box (f = .next ∧ S1 base L s xs o1 o2 o3 s')) E s) ?ho ?h hb
  case ho => k_is
  clear hb
  dsimp only [List.take]
  k_steps
  rename Fr _ _ _ _ => F3
  rename News _ _ _ _ => N3
  rename _ ≠ _ ∧ _ ≠ _ ∧ _ => o3'
  rename IntsAre ys _ => hI8
  refine ⟨rfl, _, _, _, _, _, ys, rfl, F3, rfl, rfl, ?_, hI8, o3'.2.1, o3'.2.2.1, o3'.2.2.2.1, o3'.2.2.2.2⟩
  intro p hp
  rcases List.mem_cons.mp hp with rfl | hp
  · exact N3 _ (.head _)
  · exact N3 p (.tail _ (.tail _ hp))
end Mine
namespace Mine
theorem News.sub {base h : Heap} {L : Addr} {l l' : List (Addr × Obj)} (N : News base L h l) (hs : ∀ p ∈ l', p ∈ l) : News base L h l' := fun p hp => N p (hs p hp)
theorem stCell {prog : Program} {w : World} {A : Around} {E : Value → Shared → Prop} {s : Shared} {base : Heap} {L c : Addr} {m : Str → Option Value} {rest : List (Addr × Obj)} {env : Env} {o : Obj} {v0 : Option Value} {v : Value} {x : Str} {Q : Unit → Shared → Prop}
    (F : Fr base L s.heap m) (N : News base L s.heap ((c, o) :: rest)) (hr : ∀ p ∈ rest, p.1 ≠ c) (hdat : o.data = .cell v0) (hk : env.scope.kind = .function) (hl : env.kindOf x = some .cell) (hc : env.cells.lookup x = some c)
    (h : ∀ h' o', Fr base L h' m → News base L h' ((c, o') :: rest) → o'.data = .cell (some v) → Q () { s with heap := h' }) : wpAny (model prog w) A (storeName env x v) Q E s := by
  have z := N (c, o) (.head _)
  refine wpAny_storeName_cell hk hl hc ⟨o, z.1, hdat⟩ fun h' hv hs => ?_
  obtain ⟨o', ho', hd'⟩ := hv
  refine h h' o' (F.change hs z.2.1 z.2.2) ?_ hd'
  intro p hp
  rcases List.mem_cons.mp hp with rfl | hp
  · exact ⟨ho', z.2⟩
  · have y := N p (.tail _ hp)
    exact ⟨(hs.2 _ (hr p hp)).trans y.1, y.2⟩
theorem nodup_of {base h : Heap} {L : Addr} {l : List (Addr × Obj)} (N : News base L h l) {a : Addr} (ha : h.get? a = none) : ∀ p ∈ l, p.1 ≠ a := fun p hp e => by
  have := (N p hp).1
  rw [e, ha] at this
  cases this
end Mine
namespace Mine
/-- behind the third line: the table in the ledger -/
def S2 (base : Heap) (L : Addr) (m : Str → Option Value) (D : Addr) (ys : List Value) (o1 o2 : Obj) (s s' : Shared) : Prop :=
  ∃ (h : Heap) (tk : Nat) (a c : Nat) (rs : List Row) (o3 : Obj), s' = { s with heap := h, toks := tk } ∧ Fr base L h m ∧
    News base L h ((L + 1 + 1 + 1, o3) :: (a, listOf (rs.map (fun r => Value.ref r.1)).toArray c) :: ([(D, LCg.lst ys), (L + 1 + 1, o2), (L + 1, o1), (109, tabObj #[])] ++ rowNews rs)) ∧ o3.data = .cell (some (.ref a)) ∧
    rs.length = 4 ∧ (∀ r ∈ rs, (r.2.1.length = 4 ∧ ∀ x ∈ r.2.1, 0 ≤ x.1 ∧ x.1 < 4) ∧ r.1 ≠ a) ∧ rs.Pairwise (fun a b => a.1 < b.1) ∧ (∀ r ∈ rs, r.1 ≠ D ∧ r.1 ≠ L + 1 + 1 + 1 ∧ r.1 ≠ L + 1 + 1 ∧ r.1 ≠ L + 1 ∧ r.1 ≠ 109) ∧ (a ≠ D ∧ a ≠ L + 1 + 1 + 1 ∧ a ≠ L + 1 + 1 ∧ a ≠ L + 1 ∧ a ≠ 109)
theorem part2 {w : World} {p loose mean mg mb} {s : Shared} {base : Heap} {L fa D : Addr} {tot : Int} {t : Tok} {m : Str → Option Value} {ys : List Value} {o1 o2 o3 : Obj} {body : List Stmt} {scope : Scope} {E : Value → Shared → Prop}
   (hb : LawAt (hd.heap_39 w.params) body scope)
   (X : (hd.heap_39 w.params).In base) (T : Top p loose mean mg mb base)
   (F : Fr base L s.heap m) (hmt : m (Str.ofString "total") = some (.int tot t))
   (N : News base L s.heap [(D, LCg.lst ys), (L + 1 + 1 + 1, o3), (L + 1 + 1, o2), (L + 1, o1), (109, tabObj #[])]) (d1 : o1.data = .cell none) (d2 : o2.data = .cell none) (d3 : o3.data = .cell none) (hD3 : L + 1 + 1 + 1 ≠ D) (h109 : 109 ≠ L + 1 + 1 + 1) :
   wpAny (model PySem.Challenge.rw_om0026_01.row.prog w) (callerA.deeper (envOfC (Str.ofString "law") scope L fa (.ref 111))) (execs ((body.drop 2).take 1) (envOfC (Str.ofString "law") scope L fa (.ref 111))) (fun f s' => Box (f = .next ∧ S2 base L m D ys o1 o2 s s')) E s := by
  w_on
  revert X T; k_fill; intro X T
  refine' LawAt.use (P := fun body scope => wpAny (model PySem.Challenge.rw_om0026_01.row.prog w) (callerA.deeper (envOfC (Str.ofString "law") scope L fa (.ref 111))) (execs ((body.drop 2).take 1) (envOfC (Str.ofString "law") scope L fa (.ref 111))) (fun f s' => Box (f = .next ∧ S2 base L m D ys o1 o2 s s')) E s) ?ho ?h hb
  case ho => k_is
  clear hb
  dsimp only [List.take, List.drop]
  rw [fixm hmt] at F
  k_with "call ref" => (refine stop ?_)
  k_steps
  constructor
  obtain ⟨e0, e1⟩ := fmod_lt tot 8 (by decide)
  obtain ⟨f0, f1⟩ := fmod_lt (tot.fdiv 8) 24 (by decide)
  refine wpAny_call (table_spec ?r1 ?r2 ?r3 e0 e1 f0 f1 ?_ (Keep.frag F.keep X) (T.keeps F.keep))
  case r1 => exact Nat.le_of_ble_eq_true rfl
  case r2 => exact Nat.le_of_ble_eq_true rfl
  case r3 => rfl
  intro v h' tk' k Tb
  obtain ⟨a, c, rs, rfl, hao, hl4, hrs, hpw, hna⟩ := Tb
  have F1 : Fr base L h' m := by
    have z := Fr.kept F k
    rw [← fixm hmt] at z
    exact z
  have N1 := News.kept N k
  have N2 : News base L h' ((a, listOf (rs.map (fun r => Value.ref r.1)).toArray c) :: (rowNews rs ++ [(D, LCg.lst ys), (L + 1 + 1 + 1, o3), (L + 1 + 1, o2), (L + 1, o1), (109, tabObj #[])])) := News.add F (News.addAll F N1 (rowNews rs) (fun p hp => by
    obtain ⟨r, hr, rfl⟩ := List.mem_map.mp hp
    exact ⟨(hrs r hr).1, (hrs r hr).2.1.1⟩)) hna hao
  dsimp only
  have hfr : ∀ p ∈ [(D, LCg.lst ys), (L + 1 + 1 + 1, o3), (L + 1 + 1, o2), (L + 1, o1), (109, tabObj #[])], ∀ b, s.heap.get? b = none → b ≠ p.1 := fun p hp b hb e => by
    have := (N p hp).1
    rw [← e, hb] at this
    cases this
  refine stCell (c := L + 1 + 1 + 1) (rest := (a, listOf (rs.map (fun r => Value.ref r.1)).toArray c) :: ([(D, LCg.lst ys), (L + 1 + 1, o2), (L + 1, o1), (109, tabObj #[])] ++ rowNews rs)) F1 (News.sub N2 ?sb) ?hr d3 rfl rfl rfl ?_
  case sb =>
    intro p hp
    simp only [List.mem_cons, List.mem_append, List.not_mem_nil, or_false, List.cons_append, List.nil_append] at hp ⊢
    rcases hp with h | h | h | h | h | h | h
    · exact .inr (.inr (.inr (.inl h)))
    · exact .inl h
    · exact .inr (.inr (.inl h))
    · exact .inr (.inr (.inr (.inr (.inl h))))
    · exact .inr (.inr (.inr (.inr (.inr (.inl h)))))
    · exact .inr (.inr (.inr (.inr (.inr (.inr h)))))
    · exact .inr (.inl h)
  case hr =>
    intro p hp
    simp only [List.mem_cons, List.mem_append, List.not_mem_nil, or_false, List.cons_append, List.nil_append] at hp
    rcases hp with rfl | rfl | rfl | rfl | rfl | h
    · exact hfr _ (.tail _ (.head _)) a hna
    · exact Ne.symm hD3
    · exact Nat.ne_of_lt (Nat.lt_succ_self _)
    · exact Nat.ne_of_lt (Nat.lt_succ_of_lt (Nat.lt_succ_self _))
    · exact h109
    · obtain ⟨r, hr, rfl⟩ := List.mem_map.mp h
      exact hfr _ (.tail _ (.head _)) _ (hrs r hr).1
  intro h2 o3' F2 N2' d3'
  k_steps
  exact ⟨rfl, h2, _, a, c, rs, o3', rfl, F2, N2', d3', hl4, fun r hr => ⟨(hrs r hr).2.1.2, (hrs r hr).2.2⟩, hpw, fun r hr => ⟨hfr _ (.head _) _ (hrs r hr).1, hfr _ (.tail _ (.head _)) _ (hrs r hr).1, hfr _ (.tail _ (.tail _ (.head _))) _ (hrs r hr).1, hfr _ (.tail _ (.tail _ (.tail _ (.head _)))) _ (hrs r hr).1, hfr _ (.tail _ (.tail _ (.tail _ (.tail _ (.head _))))) _ (hrs r hr).1⟩, hfr _ (.head _) _ hna, hfr _ (.tail _ (.head _)) _ hna, hfr _ (.tail _ (.tail _ (.head _))) _ hna, hfr _ (.tail _ (.tail _ (.tail _ (.head _)))) _ hna, hfr _ (.tail _ (.tail _ (.tail _ (.tail _ (.head _))))) _ hna⟩
end Mine
namespace Mine
theorem setAt {prog : Program} {w : World} {A : Around} {E : Value → Shared → Prop} {s : Shared} {D : Addr} {its : Array Value} {n : Nat} {k : Int} {t : Tok} {v : Value} {Q : Unit → Shared → Prop} (ho : s.heap.get? D = some (listOf its n)) (h0 : 0 ≤ k) (hfit : k < 2 ^ 63) (hn : k < its.size)
    (h : ∀ h', Heap.SameBut D s.heap h' → h'.get? D = some (listOf (its.setIfInBounds k.toNat v) n) → Q () { s with heap := h' }) : wpAny (model prog w) A (setItem (.ref D) (.int k t) v) Q E s := by
  refine ki_setAt ho h0 hfit hn (h _ (Heap.SameBut.update ..) ?_)
  have q := PySem.IsL.update ho (·.setIfInBounds k.toNat v)
  simpa using q
/-- an update of one entry of a ledger -/
theorem News.put {base h h' : Heap} {L D : Addr} {pre post : List (Addr × Obj)} {o o' : Obj} (N : News base L h (pre ++ (D, o) :: post)) (a : ∀ p ∈ pre, p.1 ≠ D) (b : ∀ p ∈ post, p.1 ≠ D) (hs : Heap.SameBut D h h') (ho : h'.get? D = some o') : News base L h' (pre ++ (D, o') :: post) := news_set N a b hs ho
end Mine
namespace Mine
theorem intsGet : ∀ {vs : List Value} {ns : List Int}, IntsAre vs ns → ∀ {i : Nat} {v : Value}, vs[i]? = some v → ∃ n t, v = .int n t ∧ ns[i]? = some n
  | _, _, .nil, i, v, h => by simp at h
  | _, _, .cons n t r, 0, v, h => ⟨n, t, (Option.some.inj h).symm, rfl⟩
  | _, _, .cons n t r, i + 1, v, h => by
    have := intsGet r (i := i) (v := v) (by simpa using h)
    simpa using this
/-- x // p % q -/
theorem evalDM {prog : Program} {w : World} {A : Around} {E : Value → Shared → Prop} {s : Shared} {env : Env} {x : Str} {n : Int} {t : Tok} {m : Str → Option Value} {p q : Int} {k1 k2 : Nat} {p1 p2 p3 p4 p5 : Pos} {Q : Value → Shared → Prop}
    (hn : s.heap.Ns env.locals m) (hm : m x = some (.int n t)) (hp : 0 < p) (hp1 : p < 2 ^ 30) (hq : 0 < q)
    (hk : env.scope.kind = .function) (hl : env.kindOf x = some .local) (hd : (x == ("__debug__" : Str)) = false)
    (h : ∀ t' tk', Q (.int ((n.fdiv p).fmod q) t') { s with toks := tk' }) :
    wpAny (model prog w) A (eval (.BinOp (.BinOp (.Name x p1) .FloorDiv (.Constant (.int p) k1 p2) p3) .Mod (.Constant (.int q) k2 p4) p5) env) Q E s := by
  refine wpAny_BinOp (wpAny_BinOp (Mine.ldC hn hm (wpAny_Constant_int (floordiv_int (by omega) (wpAny_Constant_int (PyProof.Rows.mod_int (by omega) (h _ _))) (Or.inl (PyProof.noPylong_small (by omega))))) hk hl hd))
def RowsOk (rs : List Row) (a : Addr) : Prop := rs.length = 4 ∧ (∀ r ∈ rs, (r.2.1.length = 4 ∧ ∀ x ∈ r.2.1, 0 ≤ x.1 ∧ x.1 < 4) ∧ r.1 ≠ a) ∧ rs.Pairwise (fun a b => a.1 < b.1)
/-- one entry of one row set anew -/
def setRow (rs : List Row) (i j : Nat) (q : Int × Tok) : List Row := rs.modify i fun r => (r.1, r.2.1.set j q, r.2.2)
theorem setRow_addr (rs : List Row) (i j : Nat) (q : Int × Tok) : (setRow rs i j q).map (fun r => r.1) = rs.map (fun r => r.1) := by
  unfold setRow
  apply List.ext_getElem?
  intro k
  simp only [List.getElem?_map, List.getElem?_modify]
  cases rs[k]? with
  | none => simp
  | some r => by_cases h : i = k <;> simp [h]
theorem setRow_ok {rs : List Row} {a : Addr} {i j : Nat} {q : Int × Tok} (h : RowsOk rs a) (hq : 0 ≤ q.1 ∧ q.1 < 4) : RowsOk (setRow rs i j q) a := by
  obtain ⟨h1, h2, h3⟩ := h
  refine ⟨by simp [setRow, h1], ?_, ?_⟩
  · intro r hr
    obtain ⟨k, hk⟩ := List.getElem?_of_mem hr
    unfold setRow at hk
    rw [List.getElem?_modify] at hk
    cases e : rs[k]? with
    | none => rw [e] at hk; simp at hk
    | some r0 =>
      rw [e] at hk
      have g := h2 r0 (List.mem_of_getElem? e)
      by_cases hik : i = k
      · simp [hik] at hk
        subst hk
        refine ⟨⟨by simp [g.1.1], fun x hx => ?_⟩, g.2⟩
        rcases List.mem_or_eq_of_mem_set hx with hx | rfl
        · exact g.1.2 x hx
        · exact hq
      · simp [hik] at hk
        subst hk
        exact g
  · have e := setRow_addr rs i j q
    have p1 : (rs.map (fun r => r.1)).Pairwise (· < ·) := List.pairwise_map.mpr h3
    rw [← e] at p1
    exact List.pairwise_map.mp p1
end Mine
namespace Mine
theorem ivals_set (vs : List (Int × Tok)) (j : Nat) (q : Int × Tok) : (ivals vs).toArray.setIfInBounds j (.int q.1 q.2) = (ivals (vs.set j q)).toArray := by
  simp [ivals, List.map_set]
theorem pw_ne {rs : List Row} (h : rs.Pairwise (fun a b => a.1 < b.1)) {i k : Nat} {r r' : Row} (hi : rs[i]? = some r) (hk : rs[k]? = some r') (e : i ≠ k) : r'.1 ≠ r.1 := by
  obtain ⟨li, ei⟩ := List.getElem?_eq_some_iff.mp hi
  obtain ⟨lk, ek⟩ := List.getElem?_eq_some_iff.mp hk
  rcases Nat.lt_or_gt_of_ne e with h1 | h1
  · have := List.pairwise_iff_getElem.mp h i k li lk h1
    rw [ei, ek] at this
    exact Nat.ne_of_gt this
  · have := List.pairwise_iff_getElem.mp h k i lk li h1
    rw [ei, ek] at this
    exact Nat.ne_of_lt this
theorem News.row {base h h' : Heap} {L : Addr} {pre : List (Addr × Obj)} {rs : List Row} {i j : Nat} {q : Int × Tok} {r : Row} (N : News base L h (pre ++ rowNews rs)) (hi : rs[i]? = some r) (hpre : ∀ p ∈ pre, p.1 ≠ r.1) (hpw : rs.Pairwise (fun a b => a.1 < b.1))
    (hs : Heap.SameBut r.1 h h') (ho : h'.get? r.1 = some (listOf (ivals (r.2.1.set j q)).toArray r.2.2)) : News base L h' (pre ++ rowNews (setRow rs i j q)) := by
  intro p hp
  rcases List.mem_append.mp hp with hp | hp
  · have z := N p (List.mem_append_left _ hp)
    exact ⟨(hs.2 _ (hpre p hp)).trans z.1, z.2⟩
  · obtain ⟨r', hr', rfl⟩ := List.mem_map.mp hp
    obtain ⟨k, hk⟩ := List.getElem?_of_mem hr'
    unfold setRow at hk
    rw [List.getElem?_modify] at hk
    cases e : rs[k]? with
    | none => rw [e] at hk; simp at hk
    | some r0 =>
      rw [e] at hk
      have z := N (r0.1, listOf (ivals r0.2.1).toArray r0.2.2) (List.mem_append_right _ (List.mem_map_of_mem (f := fun r : Row => (r.1, listOf (ivals r.2.1).toArray r.2.2)) (List.mem_of_getElem? e)))
      by_cases hik : i = k
      · simp [hik] at hk
        subst hk
        subst hik
        rw [hi] at e
        cases e
        exact ⟨ho, z.2⟩
      · simp [hik] at hk
        subst hk
        exact ⟨(hs.2 _ (pw_ne hpw hi e hik)).trans z.1, z.2⟩
end Mine
namespace Mine
abbrev LG (L a D : Addr) (c : Nat) (rs : List Row) (ys : List Value) (o1 o2 o3 o9 : Obj) : List (Addr × Obj) :=
  (L + 1 + 1 + 1, o3) :: (a, listOf (rs.map (fun r => Value.ref r.1)).toArray c) :: ([(D, LCg.lst ys), (L + 1 + 1, o2), (L + 1, o1), (109, o9)] ++ rowNews rs)
/-- behind the edits of the table -/
def S3 (base : Heap) (L a D : Addr) (c : Nat) (rs : List Row) (m : Str → Option Value) (ys : List Value) (o1 o2 o3 : Obj) (s s' : Shared) : Prop :=
  ∃ (h : Heap) (tk : Nat) (m' : Str → Option Value) (rs' : List Row), s' = { s with heap := h, toks := tk } ∧ Fr base L h m' ∧ (∀ y, y ≠ Str.ofString "x" → m' y = m y) ∧ News base L h (LG L a D c rs' ys o1 o2 o3 (tabObj #[])) ∧ rs'.map (fun r => r.1) = rs.map (fun r => r.1) ∧ RowsOk rs' a
theorem allLt_mem {d : Nat} : ∀ {l : List (Addr × Obj)}, AllLt d l → ∀ p ∈ l, p.1 < d
  | [], _, _, h => nomatch h
  | q :: r, h, p, hp => by
    rcases List.mem_cons.mp hp with rfl | hp
    · exact h.1
    · exact allLt_mem h.2 p hp
theorem part3 {w : World} {p loose mean mg mb} {s : Shared} {base : Heap} {L fa D a : Addr} {c : Nat} {rs : List Row} {xs : List Int} {m : Str → Option Value} {ys : List Value} {o1 o2 o3 : Obj} {body : List Stmt} {scope : Scope} {E : Value → Shared → Prop}
   (hb : LawAt (hd.heap_39 w.params) body scope)
   (X : (hd.heap_39 w.params).In base) (T : Top p loose mean mg mb base)
   (F : Fr base L s.heap m) (hmn : m (Str.ofString "numbers") = some (.ref D)) (hI : IntsAre ys xs)
   (N : News base L s.heap (LG L a D c rs ys o1 o2 o3 (tabObj #[]))) (d3 : o3.data = .cell (some (.ref a))) (hx : xs.length ≤ 24) (hok : RowsOk rs a) (hsep : ∀ r ∈ rs, r.1 ≠ D ∧ r.1 ≠ L + 1 + 1 + 1 ∧ r.1 ≠ L + 1 + 1 ∧ r.1 ≠ L + 1 ∧ r.1 ≠ 109) :
   wpAny (model PySem.Challenge.rw_om0026_01.row.prog w) (callerA.deeper (envOfC (Str.ofString "law") scope L fa (.ref 111))) (execs ((body.drop 3).take 1) (envOfC (Str.ofString "law") scope L fa (.ref 111))) (fun f s' => Box (f = .next ∧ S3 base L a D c rs m ys o1 o2 o3 s s')) E s := by
  w_on
  revert X T; k_fill; intro X T
  refine' LawAt.use (P := fun body scope => wpAny (model PySem.Challenge.rw_om0026_01.row.prog w) (callerA.deeper (envOfC (Str.ofString "law") scope L fa (.ref 111))) (execs ((body.drop 3).take 1) (envOfC (Str.ofString "law") scope L fa (.ref 111))) (fun f s' => Box (f = .next ∧ S3 base L a D c rs m ys o1 o2 o3 s s')) E s) ?ho ?h hb
  case ho => k_is
  clear hb
  dsimp only [List.take, List.drop]
  rw [fixm hmn] at F
  dsimp only [LG, List.cons_append, List.nil_append] at N
  refine wpAny_execs_cons (wpAny_For ?_)
  k_steps
  rename Fr _ _ _ _ => F1
  rename News _ _ _ _ => N1
  rename IntsAre _ (List.take _ _) => hw
  rename List Value => ws
  rename Addr => D2
  rename _ ∧ _ ∧ _ ∧ _ ∧ _ ∧ _ ∧ AllLt _ _ => l1
  refine loopList (base := base) (l := D2) ws (fun i m' news => ∃ rs', (∀ y, y ≠ Str.ofString "x" → m' y = m y) ∧ news = (D2, listOf ws.toArray 0) :: LG L a D c rs' ys o1 o2 o3 (tabObj #[]) ∧ rs'.map (fun r => r.1) = rs.map (fun r => r.1) ∧ RowsOk rs' a) rfl rfl rfl ⟨_, (N1 _ (.head _)).1, rfl, _, rfl⟩ ?src F1 N1 ⟨rs, ?m0, rfl, rfl, hok⟩ ?turn ?done
  case src =>
    rintro i h m' _ _ ⟨rs', _, rfl, _⟩ F N
    exact ⟨_, (N _ (.head _)).1, rfl, _, rfl⟩
  case m0 =>
    intro y _
    by_cases e : y = Str.ofString "numbers"
    · rw [if_pos e, e, hmn]
    · rw [if_neg e]
  case turn =>
    rintro i v m' _ it o h tk hv ⟨rs', hm', rfl, hra, hok'⟩ F N aw
    obtain ⟨n, t, rfl, hn⟩ := intsGet hw hv
    clear N1 F1 hv
    refine wpAny_execs_cons (wpAny_If (wpAny_isTrue_Compare1 (wpAny_BinOp (ldLoc F (if_pos rfl) (wpAny_Constant_int (PyProof.Rows.mod_int (by decide) (wpAny_Constant_int (PyProof.Rows.eq_int (wpAny_truthy_bool ?_)))))))))
    by_cases e : (n.fmod 2 == 1) = true
    · rw [e]
      refine if_t rfl ?_
      have hmx : (fun y => if y = Str.ofString "x" then some (Value.int n t) else m' y) (Str.ofString "x") = some (Value.int n t) := if_pos rfl
      refine wpAny_execs_cons (wpAny_Assign_Subscript ?_)
      refine evalDM F.ns hmx (by decide) (by decide) (by decide) rfl rfl (by decide) fun t1 tk1 => ?_
      have hc3 := N (L + 1 + 1 + 1, o3) (.tail _ (.tail _ (.head _)))
      have hca := N (a, listOf (rs'.map (fun r => Value.ref r.1)).toArray c) (.tail _ (.tail _ (.tail _ (.head _))))
      obtain ⟨i0, i1⟩ := fmod_lt (n.fdiv 2) 4 (by decide)
      obtain ⟨j0, j1⟩ := fmod_lt (n.fdiv 8) 4 (by decide)
      obtain ⟨v0, v1⟩ := fmod_lt (n.fdiv 32) 4 (by decide)
      have hlr : ((n.fdiv 2).fmod 4).toNat < rs'.length := by rw [hok'.1]; omega
      refine Subscript_ (ldCe (s := { s with heap := h, toks := tk1 }) ⟨_, hc3.1, d3⟩ (evalDM F.ns hmx (by decide) (by decide) (by decide) rfl rfl (by decide) fun t2 tk2 => ?_))
      refine item_list (x := .ref (rs'[((n.fdiv 2).fmod 4).toNat]).1) ⟨_, hca.1, rfl, _, rfl⟩ i0 (by omega) (by simp [hlr]) ?_
      refine evalDM F.ns hmx (by decide) (by decide) (by decide) rfl rfl (by decide) fun t3 tk3 => ?_
      generalize hie : ((n.fdiv 2).fmod 4).toNat = ii at hlr
      have hri : rs'[ii]? = some rs'[ii] := List.getElem?_eq_getElem hlr
      have hro := N ((rs'[ii]).1, listOf (ivals (rs'[ii]).2.1).toArray (rs'[ii]).2.2) (.tail _ (.tail _ (.tail _ (.tail _ (List.mem_append_right _ (List.mem_map_of_mem (f := fun r : Row => (r.1, listOf (ivals r.2.1).toArray r.2.2)) (List.getElem_mem hlr)))))))
      have hrl := (hok'.2.1 _ (List.getElem_mem hlr)).1.1
      have hra1 := (hok'.2.1 _ (List.getElem_mem hlr)).2
      refine setAt (s := { s with heap := h, toks := tk3 }) hro.1 j0 (by omega) (by simp [ivals, hrl]; exact j1) fun h2 hs2 ho2 => ?_
      rw [ivals_set _ _ ((n.fdiv 32).fmod 4, t1)] at ho2
      have F2 := F.change hs2 hro.2.1 hro.2.2
      have hmem : (rs'[ii]).1 ∈ rs.map (fun r => r.1) := by rw [← hra]; exact List.mem_map_of_mem (f := fun r : Row => r.1) (List.getElem_mem hlr)
      obtain ⟨r0, hr0, er0⟩ := List.mem_map.mp hmem
      have q := hsep r0 hr0
      rw [er0] at q
      have qD2 : (rs'[ii]).1 < D2 := by
        rw [← er0]
        exact allLt_mem l1.2.2.2.2.2.2 (r0.1, listOf (ivals r0.2.1).toArray r0.2.2) (List.mem_map_of_mem (f := fun r : Row => (r.1, listOf (ivals r.2.1).toArray r.2.2)) hr0)
      have qit : (rs'[ii]).1 ≠ it := aw ((rs'[ii]).1, listOf (ivals (rs'[ii]).2.1).toArray (rs'[ii]).2.2) (.tail _ (.tail _ (.tail _ (List.mem_append_right _ (List.mem_map_of_mem (f := fun r : Row => (r.1, listOf (ivals r.2.1).toArray r.2.2)) (List.getElem_mem hlr))))))
      have N2 := News.row (pre := [(it, o), (D2, listOf ws.toArray 0), (L + 1 + 1 + 1, o3), (a, listOf (rs'.map (fun r => Value.ref r.1)).toArray c), (D, LCg.lst ys), (L + 1 + 1, o2), (L + 1, o1), (109, tabObj #[])]) (rs := rs') (i := ii) (j := ((n.fdiv 8).fmod 4).toNat) (q := ((n.fdiv 32).fmod 4, t1)) N hri ?hp hok'.2.2 hs2 ho2
      case hp =>
        intro p hp
        simp only [List.mem_cons, List.not_mem_nil, or_false] at hp
        rcases hp with rfl | rfl | rfl | rfl | rfl | rfl | rfl | rfl
        · exact Ne.symm qit
        · exact Nat.ne_of_gt qD2
        · exact Ne.symm q.2.1
        · exact Ne.symm hra1
        · exact Ne.symm q.1
        · exact Ne.symm q.2.2.1
        · exact Ne.symm q.2.2.2.1
        · exact Ne.symm q.2.2.2.2
      have eaddr := setRow_addr rs' ii ((n.fdiv 8).fmod 4).toNat ((n.fdiv 32).fmod 4, t1)
      have eref : (setRow rs' ii ((n.fdiv 8).fmod 4).toNat ((n.fdiv 32).fmod 4, t1)).map (fun r => Value.ref r.1) = rs'.map (fun r => Value.ref r.1) := by
        have := congrArg (List.map Value.ref) eaddr
        rw [List.map_map, List.map_map] at this
        exact this
      rw [← eref] at N2
      refine wpAny_execs_nil ?_
      refine wpAny_execs_nil ?_
      refine ⟨h2, _, _, _, rfl, F2, N2, ?_, _, fun y hy => (if_neg hy).trans (hm' y hy), rfl, eaddr.trans hra, setRow_ok hok' ⟨v0, v1⟩⟩
      intro p hp
      have hrow : ∀ r ∈ rs', r.1 ≠ it := fun r hr => aw (r.1, listOf (ivals r.2.1).toArray r.2.2) (.tail _ (.tail _ (.tail _ (List.mem_append_right _ (List.mem_map_of_mem (f := fun r : Row => (r.1, listOf (ivals r.2.1).toArray r.2.2)) hr)))))
      rcases List.mem_append (s := [(D2, listOf ws.toArray 0), (L + 1 + 1 + 1, o3), (a, _), (D, LCg.lst ys), (L + 1 + 1, o2), (L + 1, o1), (109, tabObj #[])]).mp hp with hp | hp
      · simp only [List.mem_cons, List.not_mem_nil, or_false] at hp
        rcases hp with rfl | rfl | rfl | rfl | rfl | rfl | rfl
        · exact aw _ (.head _)
        · exact aw _ (.tail _ (.head _))
        · exact aw (a, listOf (rs'.map (fun r => Value.ref r.1)).toArray c) (.tail _ (.tail _ (.head _)))
        · exact aw _ (.tail _ (.tail _ (.tail _ (.head _))))
        · exact aw _ (.tail _ (.tail _ (.tail _ (.tail _ (.head _)))))
        · exact aw _ (.tail _ (.tail _ (.tail _ (.tail _ (.tail _ (.head _))))))
        · exact aw _ (.tail _ (.tail _ (.tail _ (.tail _ (.tail _ (.tail _ (.head _)))))))
      · obtain ⟨r, hr, rfl⟩ := List.mem_map.mp hp
        have hm2 : r.1 ∈ rs'.map (fun r => r.1) := by rw [← eaddr]; exact List.mem_map_of_mem (f := fun r : Row => r.1) hr
        obtain ⟨r1, hr1, e1⟩ := List.mem_map.mp hm2
        rw [← e1]
        exact hrow r1 hr1
    · have ef : (n.fmod 2 == 1) = false := by simpa using e
      rw [ef]
      k_steps
      exact ⟨h, _, _, _, rfl, F, N, aw, rs', fun y hy => (if_neg hy).trans (hm' y hy), rfl, hra, hok'⟩
  case done =>
    rintro m' _ h tk ⟨rs', hm', rfl, hra, hok'⟩ F N
    refine wpAny_execs_nil ?_
    exact ⟨rfl, h, _, m', rs', rfl, F, hm', News.sub N (fun p hp => .tail _ hp), hra, hok'⟩
end Mine
namespace Mine
abbrev rgObj (i n : Nat) : Obj := { cls := .type "range_iterator", dict := none, data := .fields #[rawInt (i : Int), rawInt ((n : Int) - (i : Nat)), rawInt 1], slots := #[] }
/-- a for over a range, its name stored as asg says -/
theorem forR {prog : Program} {w : World} {A : Around} {env : Env} {base : Heap} {x : Str} {px : Pos} {body : List Stmt} {Q : Flow → Shared → Prop} {s : Shared} {it : Addr} (n : Nat)
    (J : Nat → (Str → Option Value) → List (Addr × Obj) → Prop) (J' : Nat → Tok → (Str → Option Value) → List (Addr × Obj) → Prop)
    {m : Str → Option Value} {news : List (Addr × Obj)} (hh : A.handled = none)
    (away : ∀ p ∈ news, p.1 ≠ it)
    (F : Fr base env.locals s.heap m) (N : News base env.locals s.heap ((it, rgObj 0 n) :: news)) (h0 : J 0 m news)
    (asg : ∀ i t m' news' o h tk (Q : Unit → Shared → Prop) (E : Value → Shared → Prop), i < n → J i m' news' → Fr base env.locals h m' → News base env.locals h ((it, o) :: news') → (∀ p ∈ news', p.1 ≠ it) →
      (∀ h' tk' m'' news'', J' i t m'' news'' → Fr base env.locals h' m'' → News base env.locals h' ((it, o) :: news'') → (∀ p ∈ news'', p.1 ≠ it) → Q () { s with heap := h', toks := tk' }) →
      wpAny (model prog w) A (assign (.Name x px) env (.int (i : Int) t)) Q E { s with heap := h, toks := tk })
    (turn : ∀ i t m' news' o h tk, i < n → J' i t m' news' → Fr base env.locals h m' → News base env.locals h ((it, o) :: news') →
      (∀ p ∈ news', p.1 ≠ it) →
      wpAny (model prog w) A (execs body env) (TurnPost base env.locals it o s (J (i + 1)) Q) NoE { s with heap := h, toks := tk })
    (done : ∀ m' news' h tk, J n m' news' → Fr base env.locals h m' → News base env.locals h news' → Q .next { s with heap := h, toks := tk }) :
    codeAny (model prog w) A (.forLoop (.Name x px) (.ref it) body [] env) (fun r s' => match r with | .ok f => Q f s' | .error _ => False) s := by
  refine codeAny_forLoop (fun k s' => ∃ h tk m' news' i, s' = { s with heap := h, toks := tk } ∧ i ≤ n ∧ k = n + 1 - i ∧ J i m' news' ∧ Fr base env.locals h m' ∧ News base env.locals h ((it, rgObj i n) :: news') ∧ ∀ p ∈ news', p.1 ≠ it) ?_ (n + 1)
    ⟨s.heap, s.toks, m, news, 0, rfl, Nat.zero_le _, rfl, h0, F, N, away⟩
  rintro k s' ⟨h, tk, m', news', i, rfl, hi', rfl, hJ, F', N', aw⟩
  have hit := N' (it, rgObj i n) (.head _)
  by_cases hlt : i < n
  · refine wpAny_pyNext_range_item (s := { s with heap := h, toks := tk }) (x := (i : Int)) (left := (n : Int) - (i : Nat)) (step := 1) hit.1 (by omega) fun h₁ ho₁ hs₁ => ?_
    have e1 : (i : Int) + 1 = ((i + 1 : Nat) : Int) := by push_cast; rfl
    have e2 : (n : Int) - (i : Int) - 1 = (n : Int) - ((i + 1 : Nat) : Int) := by push_cast; omega
    rw [e1, e2] at ho₁
    have F₁ : Fr base env.locals h₁ m' := by
      obtain ⟨oL, es, ep, hL, r⟩ := F'.ns
      refine ⟨⟨oL, es, ep, (hs₁.2 _ (Ne.symm hit.2.1)).trans hL, r⟩, fun b ob e => (hs₁.2 b fun z => ?_).trans (F'.keep b ob e), F'.above⟩
      rw [z] at e; rw [hit.2.2] at e; cases e
    have N₁ : News base env.locals h₁ ((it, rgObj (i + 1) n) :: news') := by
      intro p hp
      rcases List.mem_cons.mp hp with rfl | hp
      · exact ⟨ho₁, hit.2⟩
      · have z := N' p (.tail _ hp)
        exact ⟨(hs₁.2 _ (aw p hp)).trans z.1, z.2⟩
    refine asg i _ m' news' _ h₁ _ _ _ hlt hJ F₁ N₁ aw fun h₂ tk₂ m₂ news₂ hJ₂ F₂ N₂ aw₂ => ?_
    refine wpAny_mono (turn i _ m₂ news₂ _ h₂ _ hlt hJ₂ F₂ N₂ aw₂) (fun f s₂ hf => ?_) (fun _ _ x => x.elim)
    cases f with
    | next => obtain ⟨h', tk', m'', news'', rfl, F2, N2, aw2, hJ2⟩ := hf.out; exact ⟨n + 1 - (i + 1), by omega, h', tk', m'', news'', i + 1, rfl, hlt, rfl, hJ2, F2, N2, aw2⟩
    | cont => obtain ⟨h', tk', m'', news'', rfl, F2, N2, aw2, hJ2⟩ := hf.out; exact ⟨n + 1 - (i + 1), by omega, h', tk', m'', news'', i + 1, rfl, hlt, rfl, hJ2, F2, N2, aw2⟩
    | brk => exact hf
    | ret v => exact hf
  · have hin : i = n := by omega
    subst hin
    refine wpAny_pyNext_range_end (s := { s with heap := h, toks := tk }) hh hit.1 (by omega) fun h₁ hs₁ => ?_
    rw [execs_nil]
    refine wpAny_pure ?_
    refine done m' news' h₁ tk hJ ?_ ?_
    · obtain ⟨oL, es, ep, hL, r⟩ := F'.ns
      refine ⟨⟨oL, es, ep, hs₁ _ _ (Ne.symm hit.2.1) hL, r⟩, fun b ob e => hs₁ b ob (fun z => ?_) (F'.keep b ob e), F'.above⟩
      rw [z] at e; rw [hit.2.2] at e; cases e
    · intro p hp
      have z := N' p (.tail _ hp)
      exact ⟨hs₁ _ _ (aw p hp) z.1, z.2⟩
/-- for x in range(n), x a cell at c -/
theorem loopRC {prog : Program} {w : World} {A : Around} {E : Value → Shared → Prop} {s : Shared} {env : Env} {K : Frag} {base : Heap} {p loose mean mg mb} {rp rpos : Pos} {n : Nat} {k : Nat} {kp : Pos} {x : Str} {px : Pos} {body : List Stmt} {Q : Flow → Shared → Prop} {c : Addr}
    (J : Nat → (Str → Option Value) → List (Addr × Obj) → Prop) {m : Str → Option Value} {news : List (Addr × Obj)} {oc : Obj} {v0 : Option Value}
    (hh : A.handled = none)
    (X : K.In base) (T : Top p loose mean mg mb base) (e : nsIn K mainGlobals (Str.ofString "range") = some none)
    (hg : env.globals = mainGlobals) (hb : env.builtins = builtinsNs) (hk : env.scope.kind = .function) (hx : env.kindOf (Str.ofString "range") = some .globalImplicit)
    (hse : backTo rpos (starEach [.Constant (.int n) k kp] env) = [(false, eval (.Constant (.int n) k kp) env)]) (hn : n < 100)
    (hxc : env.kindOf x = some .cell) (hc : env.cells.lookup x = some c)
    (F : Fr base env.locals s.heap m) (N : News base env.locals s.heap ((c, oc) :: news)) (hdat : oc.data = .cell v0) (hr : ∀ p ∈ news, p.1 ≠ c) (h0 : J 0 m news)
    (turn : ∀ i t m' news' it o oc h tk, i < n → J i m' news' → oc.data = .cell (some (.int (i : Int) t)) → (∀ p ∈ news', p.1 ≠ c) → Fr base env.locals h m' → News base env.locals h ((it, o) :: (c, oc) :: news') →
      (∀ p ∈ (c, oc) :: news', p.1 ≠ it) →
      wpAny (model prog w) A (execs body env) (TurnPost base env.locals it o s (fun m'' l => ∃ oc v news'', l = (c, oc) :: news'' ∧ oc.data = .cell v ∧ (∀ p ∈ news'', p.1 ≠ c) ∧ J (i + 1) m'' news'') Q) NoE { s with heap := h, toks := tk })
    (done : ∀ m' news' oc v h tk, J n m' news' → oc.data = .cell v → (∀ p ∈ news', p.1 ≠ c) → Fr base env.locals h m' → News base env.locals h ((c, oc) :: news') → Q .next { s with heap := h, toks := tk }) :
    wpAny (model prog w) A (eval (.Call (.Name (Str.ofString "range") rp) [.Constant (.int n) k kp] [] rpos) env) (fun xv s₁ => wpAny (model prog w) A (pyIter xv) (fun it s₂ => codeAny (model prog w) A (.forLoop (.Name x px) it body [] env) (fun r s' => match r with | .ok f => Q f s' | .error e => cameBackBy (model prog w) A env E e s') s₂) E s₁) E s := by
  refine rangeI X T F.keep e hg hb hk hx hse hn fun h' tk' hk' hz hI => ?_
  have hfr : s.heap.get? (s.heap.objs.size + 1) = none := none_of_size (Nat.le_succ _)
  have F1 := Fr.kept F hk'
  have hI0 : h'.get? (s.heap.objs.size + 1) = some (rgObj 0 n) := by
    have e0 : ((n : Int) - ((0 : Nat) : Int)) = n := by simp
    rw [rgObj, e0]; exact hI
  have N1 := News.add F (News.kept N hk') hfr hI0
  refine codeAny_mono (forR (s := { s with heap := h', toks := tk' }) (base := base) (Q := Q) n (fun i m' l => ∃ oc v news', l = (c, oc) :: news' ∧ oc.data = .cell v ∧ (∀ p ∈ news', p.1 ≠ c) ∧ J i m' news')
    (fun i t m' l => ∃ oc news', l = (c, oc) :: news' ∧ oc.data = .cell (some (.int (i : Int) t)) ∧ (∀ p ∈ news', p.1 ≠ c) ∧ J i m' news') hh (nodup_of N hfr) F1 N1 ⟨oc, v0, news, rfl, hdat, hr, h0⟩ ?_ ?_ ?_) ?_
  · rintro i t m' _ o h tk Q' E' hi ⟨oc, v, news', rfl, hd, hr', hJ⟩ F' N' aw hq
    have z := N' (c, oc) (.tail _ (.head _))
    refine wpAny_assign_Name (wpAny_storeName_cell hk hxc hc ⟨oc, z.1, hd⟩ fun h2 hv hs => ?_)
    obtain ⟨o', ho', hd'⟩ := hv
    refine hq h2 _ m' ((c, o') :: news') ⟨o', news', rfl, hd', hr', hJ⟩ (F'.change hs z.2.1 z.2.2) ?_ ?_
    · intro p hp
      rcases List.mem_cons.mp hp with rfl | hp
      · have y := N' _ (.head _)
        exact ⟨(hs.2 _ (Ne.symm (aw _ (.head _)))).trans y.1, y.2⟩
      · rcases List.mem_cons.mp hp with rfl | hp
        · exact ⟨ho', z.2⟩
        · have y := N' p (.tail _ (.tail _ hp))
          exact ⟨(hs.2 _ (hr' p hp)).trans y.1, y.2⟩
    · intro p hp
      rcases List.mem_cons.mp hp with rfl | hp
      · exact aw (c, oc) (.head _)
      · exact aw p (.tail _ hp)
  · rintro i t m' _ o h tk hi ⟨oc, news', rfl, hd, hr', hJ⟩ F' N' aw
    exact turn i t m' news' _ o oc h tk hi hJ hd hr' F' N' aw
  · rintro m' _ h tk ⟨oc, v, news', rfl, hd, hr', hJ⟩ F' N'
    exact done m' news' oc v h tk hJ hd hr' F' N'
  · intro r s' h
    cases r with
    | ok f => exact h
    | error e => exact h.elim
/-- for x in range(n), x a local -/
theorem loopRL {prog : Program} {w : World} {A : Around} {E : Value → Shared → Prop} {s : Shared} {env : Env} {K : Frag} {base : Heap} {p loose mean mg mb} {rp rpos : Pos} {n : Nat} {k : Nat} {kp : Pos} {x : Str} {px : Pos} {body : List Stmt} {Q : Flow → Shared → Prop}
    (J : Nat → (Str → Option Value) → List (Addr × Obj) → Prop) {m : Str → Option Value} {news : List (Addr × Obj)}
    (hh : A.handled = none)
    (X : K.In base) (T : Top p loose mean mg mb base) (e : nsIn K mainGlobals (Str.ofString "range") = some none)
    (hg : env.globals = mainGlobals) (hb : env.builtins = builtinsNs) (hk : env.scope.kind = .function) (hx : env.kindOf (Str.ofString "range") = some .globalImplicit)
    (hse : backTo rpos (starEach [.Constant (.int n) k kp] env) = [(false, eval (.Constant (.int n) k kp) env)]) (hn : n < 100)
    (hxc : env.kindOf x = some .local) (hp : (env.scope.kind == .class || (env.scope.kind == .module && env.locals != env.globals)) = false)
    (F : Fr base env.locals s.heap m) (N : News base env.locals s.heap news) (h0 : J 0 m news)
    (turn : ∀ i t m' news' it o h tk, i < n → J i m' news' → Fr base env.locals h (fun y => if y = x then some (.int (i : Int) t) else m' y) → News base env.locals h ((it, o) :: news') →
      (∀ p ∈ news', p.1 ≠ it) →
      wpAny (model prog w) A (execs body env) (TurnPost base env.locals it o s (J (i + 1)) Q) NoE { s with heap := h, toks := tk })
    (done : ∀ m' news' h tk, J n m' news' → Fr base env.locals h m' → News base env.locals h news' → Q .next { s with heap := h, toks := tk }) :
    wpAny (model prog w) A (eval (.Call (.Name (Str.ofString "range") rp) [.Constant (.int n) k kp] [] rpos) env) (fun xv s₁ => wpAny (model prog w) A (pyIter xv) (fun it s₂ => codeAny (model prog w) A (.forLoop (.Name x px) it body [] env) (fun r s' => match r with | .ok f => Q f s' | .error e => cameBackBy (model prog w) A env E e s') s₂) E s₁) E s := by
  refine rangeI X T F.keep e hg hb hk hx hse hn fun h' tk' hk' hz hI => ?_
  have hfr : s.heap.get? (s.heap.objs.size + 1) = none := none_of_size (Nat.le_succ _)
  have F1 := Fr.kept F hk'
  have hI0 : h'.get? (s.heap.objs.size + 1) = some (rgObj 0 n) := by
    have e0 : ((n : Int) - ((0 : Nat) : Int)) = n := by simp
    rw [rgObj, e0]; exact hI
  have N1 := News.add F (News.kept N hk') hfr hI0
  refine codeAny_mono (forR (s := { s with heap := h', toks := tk' }) (base := base) (Q := Q) n J
    (fun i t m' l => ∃ m₀, m' = (fun y => if y = x then some (.int (i : Int) t) else m₀ y) ∧ J i m₀ l) hh (nodup_of N hfr) F1 N1 h0 ?_ ?_ ?_) ?_
  · rintro i t m' news' o h tk Q' E' hi hJ F' N' aw hq
    refine wpAny_assign_Name (wpAny_storeName_local hxc F'.ns (fun h₂ hn₂ hs₂ => ?_) hp)
    exact hq h₂ _ _ news' ⟨m', rfl, hJ⟩ (F'.set hn₂ hs₂) (N'.set hs₂) aw
  · rintro i t _ news' o h tk hi ⟨m₀, rfl, hJ⟩ F' N' aw
    exact turn i t m₀ news' _ o h tk hi hJ F' N' aw
  · intro m' news' h tk hJ F' N'
    exact done m' news' h tk hJ F' N'
  · intro r s' h
    cases r with
    | ok f => exact h
    | error e => exact h.elim
end Mine
namespace Mine
theorem intsAre_i : ∀ vs : List (Int × Tok), IntsAre (ivals vs) (vs.map (·.1))
  | [] => .nil
  | x :: r => .cons x.1 x.2 (intsAre_i r)
/-- a built-in function by its name -/
theorem nmB {prog : Program} {w : World} {A : Around} {E : Value → Shared → Prop} {s : Shared} {env : Env} {K : Frag} {h₀ : Heap} {p loose mean mg mb} {rp : Pos} {x : Str} {v : Value} {Q : Value → Shared → Prop}
    (X : K.In h₀) (T : Top p loose mean mg mb h₀) (kb : Keep h₀ s.heap) (e : nsIn K mainGlobals x = some none) (hb2 : bootBuiltins x = some v) (hne : x ≠ "__name__")
    (h : Q v s)
    (hg : env.globals = mainGlobals := by rfl) (hb : env.builtins = builtinsNs := by rfl) (hk : env.scope.kind = .function := by rfl) (hx : env.kindOf x = some .globalImplicit := by rfl) (hd : (x == ("__debug__" : Str)) = false := by decide) :
    wpAny (model prog w) A (eval (.Name x rp) env) Q E s :=
  Name_function_global hk hx (loadGlobal_builtin (v := v) (hg ▸ (T.keeps kb).g) (mg_none_of X T.g e) (hb ▸ (T.keeps kb).b) ((T.builtins _ hne).trans hb2) h) hd
def kb (T : Nat → Nat → Nat) (a : Nat) : Nat := (if T a 0 ≠ 0 then 1 else 0) + (if T a 1 ≠ 1 then 2 else 0) + (if T a 2 ≠ 2 then 4 else 0) + (if T a 3 ≠ 3 then 8 else 0)
theorem kb_lt (T : Nat → Nat → Nat) (a : Nat) : kb T a < 16 := by unfold kb; split <;> split <;> split <;> split <;> decide
theorem kb_bit (T : Nat → Nat → Nat) (a : Nat) {b : Nat} (hb : b < 4) : (kb T a).testBit b = decide (T a b ≠ b) := by
  unfold kb
  rcases b with _ | _ | _ | _ | b
  · by_cases h : T a 0 = 0 <;> simp only [h, ne_eq, not_true_eq_false, not_false_eq_true, if_true, if_false] <;> split <;> split <;> split <;> decide
  · by_cases h : T a 1 = 1 <;> simp only [h, ne_eq, not_true_eq_false, not_false_eq_true, if_true, if_false, Nat.zero_add] <;> split <;> split <;> split <;> decide
  · by_cases h : T a 2 = 2 <;> simp only [h, ne_eq, not_true_eq_false, not_false_eq_true, if_true, if_false, Nat.zero_add] <;> split <;> split <;> split <;> decide
  · by_cases h : T a 3 = 3 <;> simp only [h, ne_eq, not_true_eq_false, not_false_eq_true, if_true, if_false, Nat.zero_add] <;> split <;> split <;> split <;> decide
  · omega
theorem sum_foldl (l : List Int) : l.sum = l.foldl (· + ·) 0 := by
  have : ∀ (l : List Int) (a : Int), l.foldl (· + ·) a = a + l.sum := by
    intro l
    induction l with
    | nil => intro a; simp
    | cons x r ih => intro a; rw [List.foldl_cons, ih, List.sum_cons, Int.add_assoc]
  rw [this, Int.zero_add]
abbrev bt (sh b : Nat) : Int := ((2 ^ ((b * 2 + sh) % 9) : Nat) : Int)
theorem mdk_kb (T : Nat → Nat → Nat) (a sh : Nat) : mdk sh (kb T a) = 32768 + (((List.range 4).filter (fun b => decide (T a b ≠ b))).map (bt sh)).sum := by
  unfold mdk
  rw [sum_foldl]
  have : (List.range 4).filter (fun b => (kb T a).testBit b) = (List.range 4).filter (fun b => decide (T a b ≠ b)) := List.filter_congr fun b hb => kb_bit T a (List.mem_range.mp hb)
  rw [this]
/-- the table as a function -/
def TT (rs : List Row) (a b : Nat) : Nat := (((rs.getD a default).2.1.getD b default).1).toNat
theorem TT_get {rs : List Row} {a0 : Addr} (hok : RowsOk rs a0) {a b : Nat} (ha : a < 4) (hb : b < 4) : ∃ (r : Row) (t : Tok), rs[a]? = some r ∧ r ∈ rs ∧ r.2.1[b]? = some ((TT rs a b : Int), t) ∧ TT rs a b < 4 := by
  have hla : a < rs.length := by rw [hok.1]; exact ha
  have e1 : rs[a]? = some rs[a] := List.getElem?_eq_getElem hla
  have hm := List.getElem_mem hla
  obtain ⟨⟨hl, hv⟩, _⟩ := hok.2.1 _ hm
  have hlb : b < (rs[a]).2.1.length := by rw [hl]; exact hb
  have e2 : (rs[a]).2.1[b]? = some (rs[a]).2.1[b] := List.getElem?_eq_getElem hlb
  have q := hv _ (List.getElem_mem hlb)
  have e3 : TT rs a b = ((rs[a]).2.1[b]).1.toNat := by
    unfold TT
    simp only [List.getD_eq_getElem?_getD, e1, e2, Option.getD_some]
  refine ⟨rs[a], ((rs[a]).2.1[b]).2, e1, hm, ?_, ?_⟩
  · rw [e2, e3, Int.toNat_of_nonneg q.1]
  · rw [e3]; omega
end Mine
namespace Mine
/-- what stays in the ledger: the table -/
structure Fix (L a : Addr) (rs : List Row) (R : List (Addr × Obj)) : Prop where
  tc : ∃ o3, (L + 1 + 1 + 1, o3) ∈ R ∧ o3.data = .cell (some (.ref a))
  ta : ∃ c, (a, listOf (rs.map (fun r => Value.ref r.1)).toArray c) ∈ R
  tr : ∀ p ∈ rowNews rs, p ∈ R
  ok : RowsOk rs a
/-- table[i][j] in any names that see the table -/
theorem Fix.cell {h : Heap} {L a : Addr} {rs : List Row} {R : List (Addr × Obj)} (x : Fix L a rs R) (N : ∀ p ∈ R, h.get? p.1 = some p.2) : h.IsCell (L + 1 + 1 + 1) (some (.ref a)) := by
  obtain ⟨o3, hm, hd⟩ := x.tc
  exact ⟨o3, N _ hm, hd⟩
theorem Fix.list {h : Heap} {L a : Addr} {rs : List Row} {R : List (Addr × Obj)} (x : Fix L a rs R) (N : ∀ p ∈ R, h.get? p.1 = some p.2) : h.IsList a (rs.map (fun r => Value.ref r.1)).toArray := by
  obtain ⟨c, hm⟩ := x.ta
  exact ⟨_, N _ hm, rfl, _, rfl⟩
theorem Fix.row {h : Heap} {L a : Addr} {rs : List Row} {R : List (Addr × Obj)} (x : Fix L a rs R) (N : ∀ p ∈ R, h.get? p.1 = some p.2) {r : Row} (hr : r ∈ rs) : h.IsList r.1 (ivals r.2.1).toArray :=
  ⟨_, N (r.1, listOf (ivals r.2.1).toArray r.2.2) (x.tr _ (List.mem_map_of_mem (f := fun r : Row => (r.1, listOf (ivals r.2.1).toArray r.2.2)) hr)), rfl, _, rfl⟩
theorem intNe {a b : Nat} : ((a : Int) != (b : Int)) = decide (a ≠ b) := by
  by_cases h : a = b
  · simp [h]
  · have : (a : Int) ≠ b := fun e => h (by exact_mod_cast e)
    simp [h, this]
theorem stL {prog : Program} {w : World} {A : Around} {E : Value → Shared → Prop} {s : Shared} {env : Env} {base : Heap} {m : Str → Option Value} {news : List (Addr × Obj)} {x : Str} {v : Value} {Q : Unit → Shared → Prop} (F : Fr base env.locals s.heap m) (N : News base env.locals s.heap news)
    (h : ∀ h', Fr base env.locals h' (fun y => if y = x then some v else m y) → News base env.locals h' news → Q () { s with heap := h', toks := s.toks + 1 })
    (hx : env.kindOf x = some .local := by rfl) (hp : (env.scope.kind == .class || (env.scope.kind == .module && env.locals != env.globals)) = false := by rfl) : wpAny (model prog w) A (storeName env x v) Q E s :=
  wpAny_storeName_local hx F.ns (fun h' hn hs => h h' (F.set hn hs) (N.set hs)) hp
/-- the same addresses -/
theorem awx {l l' : List (Addr × Obj)} {x : Addr} (h : ∀ p ∈ l, p.1 ≠ x) {k : List Addr} (e : l.map (·.1) = k) (e' : l'.map (·.1) = k) : ∀ p ∈ l', p.1 ≠ x := fun p hp => by
  have : p.1 ∈ l.map (·.1) := by rw [e, ← e']; exact List.mem_map_of_mem hp
  obtain ⟨q, hq, eq⟩ := List.mem_map.mp this
  rw [← eq]; exact h q hq
theorem addT {prog : Program} {w : World} {A : Around} {E : Value → Shared → Prop} {s : Shared} {a b : Int} {t u : Tok} {Q : Value → Shared → Prop} (h : ∀ tz, Q (.int (a + b) tz) { s with toks := s.toks + 1 }) : wpAny (model prog w) A (binaryOp .Add (.int a t) (.int b u)) Q E s := PyProof.Rows.add_int (h _)
theorem shlN {prog : Program} {w : World} {A : Around} {E : Value → Shared → Prop} {s : Shared} {k : Nat} {t u : Tok} {Q : Value → Shared → Prop} (hk : k < 9) (h : ∀ tz, Q (.int ((2 ^ k : Nat) : Int) tz) { s with toks := s.toks + 1 }) :
    wpAny (model prog w) A (binaryOp .LShift (.int 1 t) (.int (k : Int) u)) Q E s := by
  have hb1 : Builtin.Int.intBits 1 = 1 := by decide
  refine lshift_int (by omega) (by rw [hb1]; omega) ?_
  have e : (1 : Int) * 2 ^ ((k : Int).toNat) = ((2 ^ k : Nat) : Int) := by rw [Int.one_mul, Int.toNat_natCast]; push_cast; rfl
  rw [e]
  exact h _
def S4 (base : Heap) (L : Addr) (m : Str → Option Value) (rs : List Row) (sh : Nat) (R : List (Addr × Obj)) (s s' : Shared) : Prop :=
  ∃ (h : Heap) (tk : Nat) (m' : Str → Option Value) (Dm : Addr) (cm : Nat) (vs : List (Int × Tok)) (o1 o2 : Obj) (v1 v2 : Option Value), s' = { s with heap := h, toks := tk } ∧ Fr base L h m' ∧ (∀ y, y ≠ Str.ofString "modes" → m' y = m y) ∧ m' (Str.ofString "modes") = some (.ref Dm) ∧
    News base L h ((Dm, listOf (ivals vs).toArray cm) :: (L + 1 + 1, o2) :: (L + 1, o1) :: R) ∧ vs.map (·.1) = (List.range 4).map (fun a => mdk sh (kb (TT rs) a)) ∧ (∀ p ∈ (L + 1 + 1, o2) :: (L + 1, o1) :: R, p.1 ≠ Dm) ∧ o2.data = .cell v2 ∧ o1.data = .cell v1
theorem part4 {w : World} {p loose mean mg mb} {s : Shared} {base : Heap} {L fa a : Addr} {rs : List Row} {m : Str → Option Value} {o1 o2 : Obj} {R : List (Addr × Obj)} {tot : Int} {t : Tok} {body : List Stmt} {scope : Scope} {v1 v2 : Option Value} {E : Value → Shared → Prop}
   (hb : LawAt (hd.heap_39 w.params) body scope)
   (X : (hd.heap_39 w.params).In base) (T : Top p loose mean mg mb base)
   (F : Fr base L s.heap m) (hmt : m (Str.ofString "total") = some (.int tot t))
   (N : News base L s.heap ((L + 1, o1) :: (L + 1 + 1, o2) :: R)) (d1 : o1.data = .cell v1) (d2 : o2.data = .cell v2) (fx : Fix L a rs R) (hR1 : ∀ p ∈ R, p.1 ≠ L + 1) (hR2 : ∀ p ∈ R, p.1 ≠ L + 1 + 1) :
   wpAny (model PySem.Challenge.rw_om0026_01.row.prog w) (callerA.deeper (envOfC (Str.ofString "law") scope L fa (.ref 111))) (execs ((body.drop 4).take 3) (envOfC (Str.ofString "law") scope L fa (.ref 111))) (fun f s' => Box (f = .next ∧ S4 base L m rs ((tot.fdiv 192).fmod 9).toNat R s s')) E s := by
  w_on
  revert X T; k_fill; intro X T
  refine' LawAt.use (P := fun body scope => wpAny (model PySem.Challenge.rw_om0026_01.row.prog w) (callerA.deeper (envOfC (Str.ofString "law") scope L fa (.ref 111))) (execs ((body.drop 4).take 3) (envOfC (Str.ofString "law") scope L fa (.ref 111))) (fun f s' => Box (f = .next ∧ S4 base L m rs ((tot.fdiv 192).fmod 9).toNat R s s')) E s) ?ho ?h hb
  case ho => k_is
  clear hb
  dsimp only [List.take, List.drop]
  obtain ⟨s0, s9⟩ := fmod_lt (tot.fdiv 192) 9 (by decide)
  generalize hsh : ((tot.fdiv 192).fmod 9).toNat = sh
  have hshe : (tot.fdiv 192).fmod 9 = (sh : Int) := by rw [← hsh, Int.toNat_of_nonneg s0]
  have hsl : sh < 9 := by omega
  refine wpAny_execs_cons (wpAny_Assign_Name ?_)
  refine evalDM F.ns hmt (by decide) (by decide) (by decide) rfl rfl (by decide) fun t1 tk1 => ?_
  rw [hshe]
  refine stCell (c := L + 1) (rest := (L + 1 + 1, o2) :: R) F N ?hr d1 rfl rfl rfl ?_
  case hr =>
    intro p hp
    rcases List.mem_cons.mp hp with rfl | hp
    · exact Nat.succ_ne_self _
    · exact hR1 p hp
  intro h1 o1' F1 N1 d1'
  refine wpAny_execs_cons (wpAny_Assign_Name (List_ ?_))
  refine spliced_none ?_
  refine newList_N F1 N1 (fun h2 F2 N2 => ?_) (Nat.zero_le _)
  have hDm := nodup_of N1 (none_of_size (Nat.le_refl _))
  generalize h1.objs.size = Dm at N2 hDm
  refine stL (env := envOfC (Str.ofString "law") _ L fa (.ref 111)) F2 N2 fun h3 F3 N3 => ?_
  refine wpAny_execs_cons (wpAny_For ?_)
  have N4 : News base L h3 ((L + 1 + 1, o2) :: (Dm, listOf (ivals []).toArray 0) :: (L + 1, o1') :: R) := News.sub N3 fun p hp => by
    simp only [List.mem_cons] at hp ⊢
    rcases hp with h | h | h | h
    · exact .inr (.inr (.inl h))
    · exact .inl h
    · exact .inr (.inl h)
    · exact .inr (.inr (.inr h))
  refine loopRC (n := 4) (c := L + 1 + 1) (base := base) (fun i m' news => ∃ vs c, news = (Dm, listOf (ivals vs).toArray c) :: (L + 1, o1') :: R ∧ m' = (fun y => if y = Str.ofString "modes" then some (.ref Dm) else m y) ∧ vs.map (·.1) = (List.range i).map (fun a => mdk sh (kb (TT rs) a))) rfl X T (by k_is) rfl rfl rfl rfl rfl (by decide) rfl rfl F3 N4 d2 ?hr2 ⟨[], 0, rfl, rfl, rfl⟩ ?turn ?done
  case hr2 =>
    intro p hp
    rcases List.mem_cons.mp hp with rfl | hp
    · exact Ne.symm (hDm _ (.tail _ (.head _)))
    · rcases List.mem_cons.mp hp with rfl | hp
      · exact Nat.ne_of_lt (Nat.lt_succ_self _)
      · exact hR2 p hp
  case done =>
    rintro m' _ oc v h tk ⟨vs, c, rfl, rfl, hvs⟩ hd hr' F5 N5
    refine wpAny_execs_nil ?_
    refine ⟨rfl, h, _, _, Dm, c, vs, o1', oc, _, _, rfl, F5, fun y hy => if_neg hy, if_pos rfl, News.sub N5 fun p hp => ?_, hvs, fun p hp => ?_, hd, d1'⟩
    · simp only [List.mem_cons] at hp ⊢
      rcases hp with h | h | h | h
      · exact .inr (.inl h)
      · exact .inl h
      · exact .inr (.inr (.inl h))
      · exact .inr (.inr (.inr h))
    · rcases List.mem_cons.mp hp with rfl | hp
      · exact hDm (L + 1 + 1, o2) (.tail _ (.head _))
      · rcases List.mem_cons.mp hp with rfl | hp
        · exact hDm _ (.head _)
        · exact hDm _ (.tail _ (.tail _ hp))
  case turn =>
    clear F F1 F2 F3 N N1 N2 N3 N4
    rintro i ti m' _ it o oc h tk hi ⟨vs, c, rfl, rfl, hvs⟩ dc hr' F N aw
    have nDm := N (Dm, _) (.tail _ (.tail _ (.head _)))
    have ncc := N (L + 1 + 1, oc) (.tail _ (.head _))
    have nsh := N (L + 1, o1') (.tail _ (.tail _ (.tail _ (.head _))))
    have nR : ∀ p ∈ R, h.get? p.1 = some p.2 := fun p hp => (N p (.tail _ (.tail _ (.tail _ (.tail _ hp))))).1
    refine wpAny_execs_cons (wpAny_Expr (MethodCall_ (ldLoc F rfl (methList nDm.1 PySem.F.slot_list_append PySem.F.type_list_append ?_))))
    refine callWith_builtin rfl (evalArgs_plain (spliced_cons (wpAny_BinOp (wpAny_Constant_int (wpAny_Call_NameR (nmB X T F.keep (by k_is) (by rfl) (by decide) (callWith_builtin rfl (evalArgs_plain (spliced_cons ?_)))))))))
    refine compL (cl := [(Str.ofString "table", L + 1 + 1 + 1), (Str.ofString "shift", L + 1), (Str.ofString "a", L + 1 + 1)]) (n := 4) (P := NatP) (fun lo j ys h => ∃ us : List (Int × Tok), ys = ivals us ∧ us.map (·.1) = ((List.range j).filter (fun b => decide (TT rs i b ≠ b))).map (bt sh)) (fun j _ => decide (TT rs i j ≠ j)) (by decide) rfl (by decide) rfl (by decide) (fun _ => rfl) (fun _ _ => ⟨[], rfl, rfl⟩) (fun _ _ _ _ _ J k => J) ?jl (iterRange rfl X T F.keep (by k_is) rfl rfl rfl rfl rfl (by decide)) ?ht ?he ?hq
    case jl =>
      rintro lo j ys h ⟨us, rfl, hus⟩
      have e := congrArg List.length hus
      have l := List.length_filter_le (fun b => decide (TT rs i b ≠ b)) (List.range j)
      simp only [List.length_map, List.length_range] at e l
      simp only [ivals, List.length_map]
      omega
    case ht =>
      rintro C j v ys h2 tk2 m2 hj ⟨tv, rfl⟩ ⟨us, rfl, hus⟩ hn hm hK
      obtain ⟨r, tr, hr1, hr2, hr3, hr4⟩ := TT_get fx.ok hi hj
      have nR2 : ∀ p ∈ R, h2.get? p.1 = some p.2 := fun p hp => hK _ _ (nR p hp)
      refine tests_1 (wpAny_isTrue_Compare1 (Subscript_ (Subscript_ (ldCe (fx.cell nR2) (ldCe ⟨oc, hK _ _ ncc.1, dc⟩ ?_)))))
      refine item_list (x := .ref r.1) (fx.list nR2) (by omega) (by omega) (by simp [hr1]) ?_
      refine Mine.ldC hn hm ?_
      refine item_litK (v := .int (TT rs i j) tr) (fx.row nR2 hr2) (by omega) (by omega) (by simp [ivals, hr3]) ?_
      refine Mine.ldC hn hm (PyProof.Rows.ne_int (wpAny_truthy_bool ⟨⟨_, rfl⟩, intNe, fun e => ?_⟩))
      rw [intNe] at e
      refine ⟨us, rfl, ?_⟩
      have e' : TT rs i j = j := by simpa using e
      rw [hus, List.range_succ, List.filter_append]
      simp [e']
    case he =>
      rintro C j v ys h2 tk2 m2 hj ⟨tv, rfl⟩ htt ⟨us, rfl, hus⟩ hn hm hK
      have cs : h2.IsCell (L + 1) (some (.int sh t1)) := ⟨o1', hK _ _ nsh.1, d1'⟩
      have e0 : ((j : Int) * 2 + (sh : Int)).fmod 9 = (((j * 2 + sh) % 9 : Nat) : Int) := by
        rw [Int.fmod_eq_emod_of_nonneg _ (by decide)]; push_cast; rfl
      refine wpAny_BinOp (wpAny_Constant_int (wpAny_BinOp (wpAny_BinOp (wpAny_BinOp (Mine.ldC hn hm (wpAny_Constant_int (PyProof.Rows.mul_int (ldCe cs (PyProof.Rows.add_int (wpAny_Constant_int (PyProof.Rows.mod_int (by decide) ?_)))) (IntMulOk.of_right (by decide)))))))))
      rw [e0]
      refine shlN (Nat.mod_lt _ (by decide)) fun tz => ?_
      refine ⟨h2, _, rfl, Keep.refl _, us ++ [(bt sh j, tz)], ?_, ?_⟩
      · simp only [ivals, List.map_append, List.map_cons, List.map_nil]
      · rw [List.range_succ, List.filter_append, List.map_append, hus, List.map_append]
        simp only [List.filter_cons, List.filter_nil]
        rw [if_pos htt]
        simp only [List.map_cons, List.map_nil]
    case hq =>
      rintro D C ys c2 h2 tk2 k2 hD hDC ⟨us, rfl, hus⟩ hDo
      refine spliced_nil (LSm.sum_ints (Fr.kept F k2) (News.kept N k2) rfl ⟨_, hDo, rfl, _, rfl⟩ (intsAre_i us) fun h3 tk3 t3 F3 N3 => addT fun tz => spliced_nil ?_)
      refine append_at (N3 (Dm, _) (.tail _ (.tail _ (.head _)))).1 (fun h4 hs4 hD4 => ?_) (by rw [List.size_toArray]; simp [ivals]; have := congrArg List.length hvs; simp at this; rw [this]; exact Nat.le_trans (Nat.le_of_lt hi) (by decide))
      have hD4 : h4.get? Dm = some (listOf (ivals (vs ++ [(32768 + (us.map (·.1)).sum, tz)])).toArray (c + 1)) := by rw [hD4]; simp [ivals]
      have F4 := F3.change hs4 nDm.2.1 nDm.2.2
      have N4 := News.put (pre := [(it, o), (L + 1 + 1, oc)]) (post := (L + 1, o1') :: R) N3 ?pa ?pb hs4 hD4
      case pa =>
        intro p hp
        rcases List.mem_cons.mp hp with rfl | hp
        · exact Ne.symm (aw _ (.tail _ (.head _)))
        · rw [List.mem_singleton.mp hp]; exact hDm (L + 1 + 1, o2) (.tail _ (.head _))
      case pb =>
        intro p hp
        rcases List.mem_cons.mp hp with rfl | hp
        · exact hDm _ (.head _)
        · exact hDm _ (.tail _ (.tail _ hp))
      refine wpAny_execs_nil ?_
      refine ⟨h4, _, _, _, rfl, F4, N4, ?_, oc, _, _, rfl, dc, ?_, vs ++ [(32768 + (us.map (·.1)).sum, tz)], c + 1, rfl, rfl, ?_⟩
      · exact awx aw rfl rfl
      · exact awx hr' rfl rfl
      · rw [List.range_succ, List.map_append, List.map_append, hvs, hus, List.map_singleton, List.map_singleton, mdk_kb]
end Mine
namespace Mine
/-- a name of the text's own, at the top -/
theorem nmG {prog : Program} {w : World} {A : Around} {E : Value → Shared → Prop} {s : Shared} {env : Env} {K : Frag} {h₀ : Heap} {p loose mean mg mb} {rp : Pos} {x : Str} {v : Value} {Q : Value → Shared → Prop}
    (X : K.In h₀) (T : Top p loose mean mg mb h₀) (kb : Keep h₀ s.heap) (e : nsIn K mainGlobals x = some (some v))
    (h : Q v s)
    (hg : env.globals = mainGlobals := by rfl) (hk : env.scope.kind = .function := by rfl) (hx : env.kindOf x = some .globalImplicit := by rfl) (hd : (x == ("__debug__" : Str)) = false := by decide) :
    wpAny (model prog w) A (eval (.Name x rp) env) Q E s :=
  Name_function_global hk hx (loadGlobal_global (show s.heap.Ns env.globals mg from hg ▸ (T.keeps kb).g) (mg_of X T.g e) h) hd
theorem callG {prog : Program} {w : World} {A : Around} {E : Value → Shared → Prop} {s : Shared} {env : Env} {K : Frag} {h₀ : Heap} {pos : Pos} {f : Addr} {oc : Value} {od : Option Addr} {fd : FuncData} {osl : Array (Option Value)} {e : Expr} {rest : List Expr} {Q : Value → Shared → Prop}
    (X : K.In h₀) (ho : K.lookup f = some ⟨oc, od, .func fd, osl⟩)
    (h : wpAny (model prog w) A (spliced (backTo pos (starEach (e :: rest) env))) (fun vs s₁ => Keep h₀ s₁.heap ∧ wpAny (model prog w) A (call (.ref f) vs) Q E s₁) E s)
    (he : starEach (e :: rest) env = (false, eval e env) :: starEach rest env := by rfl) :
    wpAny (model prog w) A (callWith pos (.ref f) [] (backTo pos (starEach (e :: rest) env)) []) Q E s :=
  callWith_def (o := ⟨oc, od, .func fd, osl⟩) rfl (wpAny_mono h (fun _ _ h₁ => ⟨h₁.1 _ _ (X _ _ ho), h₁.2⟩) fun _ _ x => x) he
theorem dk_nodup : ∀ (xs : List (Str × Tok)) (kvs : List (Str × Value)), (dk xs kvs).length ≤ kvs.length + xs.length ∧ ((dk xs kvs).length = kvs.length + xs.length ↔ ((xs.map (·.1)).Nodup ∧ ∀ x ∈ xs, ∀ q ∈ kvs, q.1 ≠ x.1))
  | [], kvs => by simp [dk]
  | x :: r, kvs => by
    have ih := dk_nodup r (stored kvs x.1 .none)
    rw [show dk (x :: r) kvs = dk r (stored kvs x.1 .none) from rfl]
    by_cases hm : ∃ q ∈ kvs, q.1 = x.1
    · have hl : (stored kvs x.1 .none).length = kvs.length := by
        unfold stored
        obtain ⟨q, hq, e⟩ := hm
        rw [if_pos (List.any_eq_true.mpr ⟨q, hq, decide_eq_true e⟩), List.length_map]
      refine ⟨by simp only [List.length_cons]; omega, ?_⟩
      constructor
      · intro e; simp only [List.length_cons] at e; omega
      · rintro ⟨_, h2⟩
        obtain ⟨q, hq, e⟩ := hm
        exact absurd e (h2 x (.head _) q hq)
    · have hs : stored kvs x.1 .none = kvs ++ [(x.1, .none)] := by
        unfold stored
        rw [if_neg]
        intro h
        obtain ⟨q, hq, e⟩ := List.any_eq_true.mp h
        exact hm ⟨q, hq, of_decide_eq_true e⟩
      rw [hs] at ih ⊢
      rw [List.length_append, List.length_singleton] at ih
      refine ⟨by simp only [List.length_cons]; omega, ?_⟩
      rw [List.length_cons, show kvs.length + (r.length + 1) = kvs.length + 1 + r.length by omega, ih.2]
      simp only [List.map_cons, List.nodup_cons, List.mem_append, List.mem_singleton, List.mem_cons]
      constructor
      · rintro ⟨h1, h2⟩
        refine ⟨⟨fun hx => ?_, h1⟩, ?_⟩
        · obtain ⟨y, hy, e⟩ := List.mem_map.mp hx
          exact h2 y hy (x.1, .none) (.inr (.inl rfl)) e.symm
        · rintro y (rfl | hy) q hq
          · exact fun e => hm ⟨q, hq, e⟩
          · exact h2 y hy q (.inl hq)
      · rintro ⟨⟨h0, h1⟩, h2⟩
        refine ⟨h1, ?_⟩
        rintro y hy q (hq | rfl | h)
        · exact h2 y (.inr hy) q hq
        · exact fun e => h0 (List.mem_map.mpr ⟨y, hy, e.symm⟩)
        · cases h
theorem dk_four {xs : List (Str × Tok)} (h : xs.length = 4) : (dk xs []).length = 4 ↔ (xs.map (·.1)).Nodup := by
  have := (dk_nodup xs []).2
  simp only [List.length_nil, h, Nat.zero_add, List.not_mem_nil, false_imp_iff, implies_true, and_true] at this
  exact this
end Mine
namespace Mine
def lsS (md : Nat → Int) (a : Nat) : Str := ⟨(lst (md a)).toArray⟩
abbrev svs (ss : List (Str × Tok)) : List Value := ss.map fun x => Value.str x.1 x.2
theorem inLt {K : Frag} {h₀ : Heap} {f : Addr} {o : Obj} (X : K.In h₀) (ho : K.lookup f = some o) : f < h₀.objs.size := Heap.lt_size (X _ _ ho)
def S5 (base : Heap) (L : Addr) (m : Str → Option Value) (md : Nat → Int) (news : List (Addr × Obj)) (s s' : Shared) : Prop :=
  ∃ (h : Heap) (tk : Nat) (m' : Str → Option Value) (Dl : Addr) (cl : Nat) (ss : List (Str × Tok)), s' = { s with heap := h, toks := tk } ∧ Fr base L h m' ∧ (∀ y, y ≠ Str.ofString "listings" → y ≠ Str.ofString "faithful" → m' y = m y) ∧ m' (Str.ofString "listings") = some (.ref Dl) ∧
    m' (Str.ofString "faithful") = some (.bool (((dk ss []).length : Int) == 4)) ∧ News base L h ((Dl, listOf (svs ss).toArray cl) :: news) ∧ (∀ p ∈ news, p.1 ≠ Dl) ∧ ss.map (·.1) = (List.range 4).map (lsS md)
theorem part5 {w : World} {p loose mean mg mb} {s : Shared} {base : Heap} {L fa Dm : Addr} {cm : Nat} {vs : List (Int × Tok)} {m : Str → Option Value} {R : List (Addr × Obj)} {md : Nat → Int} {body : List Stmt} {scope : Scope} {E : Value → Shared → Prop}
   (hb : LawAt (hd.heap_39 w.params) body scope)
   (X : (hd.heap_39 w.params).In base) (T : Top p loose mean mg mb base)
   (F : Fr base L s.heap m) (hmm : m (Str.ofString "modes") = some (.ref Dm))
   (N : News base L s.heap ((Dm, listOf (ivals vs).toArray cm) :: R)) (hvs : vs.map (·.1) = (List.range 4).map md) :
   wpAny (model PySem.Challenge.rw_om0026_01.row.prog w) (callerA.deeper (envOfC (Str.ofString "law") scope L fa (.ref 111))) (execs ((body.drop 7).take 2) (envOfC (Str.ofString "law") scope L fa (.ref 111))) (fun f s' => Box (f = .next ∧ S5 base L m md ((Dm, listOf (ivals vs).toArray cm) :: R) s s')) E s := by
  w_on
  revert X T; k_fill; intro X T
  refine' LawAt.use (P := fun body scope => wpAny (model PySem.Challenge.rw_om0026_01.row.prog w) (callerA.deeper (envOfC (Str.ofString "law") scope L fa (.ref 111))) (execs ((body.drop 7).take 2) (envOfC (Str.ofString "law") scope L fa (.ref 111))) (fun f s' => Box (f = .next ∧ S5 base L m md ((Dm, listOf (ivals vs).toArray cm) :: R) s s')) E s) ?ho ?h hb
  case ho => k_is
  clear hb
  dsimp only [List.take, List.drop]
  have hl4 : vs.length = 4 := by have := congrArg List.length hvs; simpa using this
  have hli : (ivals vs).length = 4 := by simp [ivals, hl4]
  have nDm := N _ (.head _)
  have hD0 : ∀ a, s.heap.objs.size ≤ a → ∀ p ∈ (Dm, listOf (ivals vs).toArray cm) :: R, p.1 ≠ a := fun a ha => nodup_of N (none_of_size ha)
  refine wpAny_execs_cons ?_
  refine compLA (base := base) (env := envOfC (Str.ofString "law") _ L fa (.ref 111)) (cl := []) (n := (ivals vs).length) (P := fun i v => (ivals vs)[i]? = some v) F N rfl rfl rfl (fun lo i ys h => ∃ ss : List (Str × Tok), ys = svs ss ∧ ss.map (·.1) = (List.range i).map (lsS md)) (fun _ _ => true) (by rw [hli]; decide) rfl (by decide) rfl (by decide) (fun _ => rfl) (fun _ _ => ⟨[], rfl, rfl⟩) (fun _ _ _ _ _ J k => J) ?jl (ldLoc F hmm (iterList rfl ⟨_, nDm.1, rfl, _, rfl⟩)) ?ht ?he ?hq
  case jl =>
    rintro lo i ys h ⟨ss, rfl, e⟩
    have := congrArg List.length e
    simp at this
    simp [this]
  case ht => intros; exact tests_none ⟨⟨_, rfl⟩, rfl, fun e => by cases e⟩
  case he =>
    rintro C i v ys h tk m2 hi hv _ ⟨ss, rfl, hss⟩ hn hm hK
    obtain ⟨q, hq, rfl⟩ := ivals_get hv
    have hi4 : i < 4 := by rw [← hli]; exact hi
    have hqe : q.1 = md i := by
      have e1 : (vs.map (·.1))[i]? = some q.1 := by rw [List.getElem?_map, hq]; rfl
      rw [hvs, List.getElem?_map, List.getElem?_range hi4] at e1
      exact (Option.some.inj e1).symm
    have kb : Keep base h := Keep.trans F.keep hK
    refine wpAny_Call_NameR (nmG X T kb (by k_is) (callG X (by k_is) (spliced_more (Mine.ldC hn hm (spliced_none ⟨kb, ?_⟩)))))
    refine wpAny_call (fm_spec ?r1 ?r2 rfl ?_ (Keep.frag kb X) (T.keeps kb))
    case r1 => exact Nat.le_of_ble_eq_true rfl
    case r2 => exact Nat.le_of_ble_eq_true rfl
    intro t2 h2 tk2 k2
    refine ⟨h2, tk2, rfl, k2, ss ++ [(lsS md i, t2)], ?_, ?_⟩
    · rw [hqe]; simp [svs, lsS, lst]
    · rw [List.range_succ, List.map_append, List.map_append, hss]; rfl
  case hq =>
    rintro Dl C ys cl h1 tk1 F1 N1 hDl hDC ⟨ss, rfl, hss⟩ hDo
    rw [hli] at hss
    have hsl : ss.length = 4 := by have := congrArg List.length hss; simpa using this
    have N2 := News.add F N1 (none_of_size hDl) hDo
    refine wpAny_execs_cons (wpAny_Assign_Name (wpAny_Compare1 ?_))
    refine wpAny_Call_NameR (nmB X T F1.keep (by k_is) (by rfl) (by decide) (callWith_builtin rfl (evalArgs_plain (spliced_cons ?_))))
    refine wpAny_Call_NameR (nmG X T F1.keep (by k_is) (callG X (by k_is) (spliced_more (ldLoc F1 (if_pos rfl) (spliced_none ⟨F1.keep, ?_⟩)))))
    refine wpAny_call (dd_spec (xs := ss) ?r1 ?r2 rfl ⟨_, hDo, rfl, _, rfl⟩ (by omega) ?_ (Keep.frag F1.keep X) (T.keeps F1.keep))
    case r1 => exact Nat.le_of_ble_eq_true rfl
    case r2 => exact Nat.le_of_ble_eq_true rfl
    intro D2 h2 tk2 k2 hd2 hD2
    refine spliced_nil (call_len_dict ?nsm hd2 ?fit (wpAny_Constant_int (PyProof.Rows.eq_int ?_)))
    case nsm =>
      have l70 := inLt (f := 70) X (by k_is)
      have l2 : 70 < D2 := Nat.lt_of_lt_of_le (Nat.lt_of_lt_of_le l70 F1.above) (Nat.le_trans (Nat.le_of_lt F1.ns.lt) hD2)
      exact beq_eq_false_iff_ne.mpr (Nat.ne_of_gt (Nat.lt_trans (by decide) l2))
    case fit => have := (dk_nodup ss []).1; simp [hsl] at this; omega
    refine stL (env := envOfC (Str.ofString "law") _ L fa (.ref 111)) (Fr.kept F1 k2) (News.kept N2 k2) fun h3 F3 N3 => ?_
    refine wpAny_execs_nil ?_
    exact ⟨rfl, h3, _, _, Dl, cl, ss, rfl, F3, fun y h1 h2 => (if_neg h2).trans (if_neg h1), rfl, rfl, N3, hD0 _ hDl, hss⟩
end Mine
namespace Mine
def laidOk (md : Nat → Int) (T : Nat → Nat → Nat) (a b : Nat) : Bool := lsS md (T a b) == (⟨(List.zipWith laidC (lst (md a)) (lst (md b))).toArray⟩ : Str)
def fO (md : Nat → Int) (T : Nat → Nat → Nat) (f0 : Bool) (i : Nat) : Bool := f0 && (List.range i).all (fun a => (List.range 4).all (laidOk md T a))
theorem fO_succ (md : Nat → Int) (T : Nat → Nat → Nat) (f0 : Bool) (i : Nat) : fO md T f0 (i + 1) = (fO md T f0 i && (List.range 4).all (laidOk md T i)) := by
  unfold fO
  rw [List.range_succ, List.all_append]
  simp [Bool.and_assoc]
theorem all_succ (f : Nat → Bool) (j : Nat) : (List.range (j + 1)).all f = ((List.range j).all f && f j) := by
  rw [List.range_succ, List.all_append]; simp
theorem svs_get {ss : List (Str × Tok)} {md : Nat → Int} (hss : ss.map (·.1) = (List.range 4).map (lsS md)) {k : Nat} (hk : k < 4) : ∃ t, (svs ss).toArray[((k : Nat) : Int).toNat]? = some (.str (lsS md k) t) := by
  have e1 : (ss.map (·.1))[k]? = some (lsS md k) := by rw [hss, List.getElem?_map, List.getElem?_range hk]; rfl
  rw [List.getElem?_map] at e1
  cases q : ss[k]? with
  | none => rw [q] at e1; cases e1
  | some x =>
    rw [q] at e1
    refine ⟨x.2, ?_⟩
    have : x.1 = lsS md k := Option.some.inj e1
    simp [svs, q, ← this]
def S6 (base : Heap) (L : Addr) (m : Str → Option Value) (f : Bool) (R : List (Addr × Obj)) (s s' : Shared) : Prop :=
  ∃ (h : Heap) (tk : Nat) (m' : Str → Option Value) (o2 : Obj) (v2 : Option Value), s' = { s with heap := h, toks := tk } ∧ Fr base L h m' ∧ (∀ y, y ≠ Str.ofString "b" → y ≠ Str.ofString "faithful" → m' y = m y) ∧
    m' (Str.ofString "faithful") = some (.bool f) ∧ News base L h ((L + 1 + 1, o2) :: R) ∧ o2.data = .cell v2
theorem part6 {w : World} {p loose mean mg mb} {s : Shared} {base : Heap} {L fa a Dl : Addr} {cl : Nat} {rs : List Row} {ss : List (Str × Tok)} {m : Str → Option Value} {R : List (Addr × Obj)} {md : Nat → Int} {f0 : Bool} {o2 : Obj} {v2 : Option Value} {body : List Stmt} {scope : Scope} {E : Value → Shared → Prop}
   (hb : LawAt (hd.heap_39 w.params) body scope)
   (X : (hd.heap_39 w.params).In base) (T : Top p loose mean mg mb base)
   (F : Fr base L s.heap m) (hml : m (Str.ofString "listings") = some (.ref Dl)) (hmf : m (Str.ofString "faithful") = some (.bool f0))
   (N : News base L s.heap ((L + 1 + 1, o2) :: R)) (d2 : o2.data = .cell v2) (hR2 : ∀ p ∈ R, p.1 ≠ L + 1 + 1) (fx : Fix L a rs R)
   (hDl : (Dl, listOf (svs ss).toArray cl) ∈ R) (hss : ss.map (·.1) = (List.range 4).map (lsS md)) (hlk : ∀ a, a < 4 → (lst (md a)).length = 10 ∧ (lst (md a)).all (· < 128) = true) :
   wpAny (model PySem.Challenge.rw_om0026_01.row.prog w) (callerA.deeper (envOfC (Str.ofString "law") scope L fa (.ref 111))) (execs ((body.drop 9).take 1) (envOfC (Str.ofString "law") scope L fa (.ref 111))) (fun f s' => Box (f = .next ∧ S6 base L m (fO md (TT rs) f0 4) R s s')) E s := by
  w_on
  revert X T; k_fill; intro X T
  refine' LawAt.use (P := fun body scope => wpAny (model PySem.Challenge.rw_om0026_01.row.prog w) (callerA.deeper (envOfC (Str.ofString "law") scope L fa (.ref 111))) (execs ((body.drop 9).take 1) (envOfC (Str.ofString "law") scope L fa (.ref 111))) (fun f s' => Box (f = .next ∧ S6 base L m (fO md (TT rs) f0 4) R s s')) E s) ?ho ?h hb
  case ho => k_is
  clear hb
  dsimp only [List.take, List.drop]
  have ax : ∀ a, a < 4 → (lsS md a).cps.all (· < 128) = true ∧ (lsS md a).cps.size = 10 := fun a ha => by
    unfold lsS
    have := hlk a ha
    exact ⟨by simpa using this.2, by simpa using this.1⟩
  refine wpAny_execs_cons (wpAny_For ?_)
  refine loopRC (n := 4) (c := L + 1 + 1) (base := base) (fun i m' news => R = news ∧ (∀ y, y ≠ Str.ofString "b" → y ≠ Str.ofString "faithful" → m' y = m y) ∧ m' (Str.ofString "faithful") = some (.bool (fO md (TT rs) f0 i))) rfl X T (by k_is) rfl rfl rfl rfl rfl (by decide) rfl rfl F N d2 hR2 ⟨rfl, fun _ _ _ => rfl, ?m0⟩ ?turn ?done
  case m0 => rw [hmf]; simp [fO]
  case done =>
    rintro m' _ oc v h tk ⟨rfl, hm1, hm2⟩ hd hr' F5 N5
    refine wpAny_execs_nil ?_
    exact ⟨rfl, h, _, m', oc, v, rfl, F5, hm1, hm2, N5, hd⟩
  case turn =>
    clear F N
    rintro i ti m' _ it o oc h tk hi ⟨rfl, hm1, hm2⟩ dc hr' F N aw
    refine wpAny_execs_cons (wpAny_For ?_)
    refine loopRL (n := 4) (base := base) (fun j m'' news => news = (it, o) :: (L + 1 + 1, oc) :: R ∧ (∀ y, y ≠ Str.ofString "b" → y ≠ Str.ofString "faithful" → m'' y = m y) ∧ m'' (Str.ofString "faithful") = some (.bool (fO md (TT rs) f0 i && (List.range j).all (laidOk md (TT rs) i)))) rfl X T (by k_is) rfl rfl rfl rfl rfl (by decide) rfl rfl F N ⟨rfl, hm1, ?m1⟩ ?turn2 ?done2
    case m1 => rw [hm2]; simp
    case done2 =>
      rintro m'' _ h2 tk2 ⟨rfl, hm1', hm2'⟩ F5 N5
      refine wpAny_execs_nil ?_
      refine ⟨h2, _, m'', _, rfl, F5, N5, aw, oc, _, _, rfl, dc, hr', rfl, hm1', ?_⟩
      rw [hm2', fO_succ]
    case turn2 =>
      clear F N
      rintro j tj m'' _ it2 o2 h2 tk2 hj ⟨rfl, hm1', hm2'⟩ F N aw2
      obtain ⟨r, tr, hr1, hr2, hr3, hr4⟩ := TT_get fx.ok hi hj
      have ncc := N (L + 1 + 1, oc) (.tail _ (.tail _ (.head _)))
      have nR : ∀ p ∈ R, h2.get? p.1 = some p.2 := fun p hp => (N p (.tail _ (.tail _ (.tail _ hp)))).1
      have cA : h2.IsCell (L + 1 + 1) (some (.int i ti)) := ⟨oc, ncc.1, dc⟩
      have hLs : h2.IsList Dl (svs ss).toArray := ⟨_, nR _ hDl, rfl, _, rfl⟩
      have hl1 : (fun y => if y = Str.ofString "b" then some (Value.int j tj) else m'' y) (Str.ofString "listings") = some (.ref Dl) := (if_neg (by decide)).trans ((hm1' _ (by decide) (by decide)).trans hml)
      obtain ⟨t1, g1⟩ := svs_get hss hr4
      obtain ⟨t2, g2⟩ := svs_get hss hi
      obtain ⟨t3, g3⟩ := svs_get hss hj
      refine wpAny_execs_cons (wpAny_If (wpAny_isTrue_Compare1 (Subscript_ (ldLoc F hl1 (Subscript_ (Subscript_ (ldCe (fx.cell nR) (ldCe cA ?_))))))))
      refine item_list (x := .ref r.1) (fx.list nR) (by omega) (by omega) (by simp [hr1]) ?_
      refine ldLoc F (if_pos rfl) ?_
      refine item_litK (v := .int (TT rs i j) tr) (fx.row nR hr2) (by omega) (by omega) (by simp [ivals, hr3]) ?_
      refine item_list hLs (by omega) (by omega) g1 ?_
      refine wpAny_Call_NameR (nmG X T F.keep (by k_is) (callG X (by k_is) (spliced_more (Subscript_ (ldLoc F hl1 (ldCe cA (item_list hLs (by omega) (by omega) g2 (spliced_more (Subscript_ (ldLoc F hl1 (ldLoc F (if_pos rfl) (item_list hLs (by omega) (by omega) g3 (spliced_none ⟨F.keep, ?_⟩)))))))))))))
      refine wpAny_call (laid_spec ?r1 ?r2 rfl (Nat.le_of_eq (ax i hi).2) ((ax j hj).2.trans (ax i hi).2.symm) (ax i hi).1 (ax j hj).1 ?_ (Keep.frag F.keep X) (T.keeps F.keep))
      case r1 => exact Nat.le_of_ble_eq_true rfl
      case r2 => exact Nat.le_of_ble_eq_true rfl
      intro t4 h4 tk4 k4
      have F4 := Fr.kept F k4
      have N4 := News.kept N k4
      refine PyProof.Rows.ne_str (wpAny_truthy_bool ?_)
      have hne : (lsS md (TT rs i j) != (⟨(List.zipWith laidC (lsS md i).cps.toList (lsS md j).cps.toList).toArray⟩ : Str)) = !(laidOk md (TT rs) i j) := rfl
      rw [hne]
      cases ho : laidOk md (TT rs) i j with
      | true =>
        refine if_f rfl ?_
        refine wpAny_execs_nil ?_
        refine wpAny_execs_nil ?_
        refine ⟨h4, _, _, _, rfl, F4, N4, aw2, rfl, fun y h1 h2 => (if_neg h1).trans (hm1' y h1 h2), ?_⟩
        refine (if_neg (by decide)).trans (hm2'.trans ?_)
        rw [all_succ, ho, Bool.and_true]
      | false =>
        refine if_t rfl ?_
        refine wpAny_execs_cons (wpAny_Assign_Name (wpAny_Constant_bool ?_))
        refine stL (env := envOfC (Str.ofString "law") _ L fa (.ref 111)) F4 N4 fun h5 F5 N5 => ?_
        refine wpAny_execs_nil ?_
        refine wpAny_execs_nil ?_
        refine ⟨h5, _, _, _, rfl, F5, N5, aw2, rfl, fun y h1 h2 => (if_neg h2).trans ((if_neg h1).trans (hm1' y h1 h2)), ?_⟩
        refine (if_pos rfl).trans ?_
        rw [all_succ, ho, Bool.and_false, Bool.and_false]
end Mine
namespace Mine
abbrev eN (fs : List Nat) : List (Addr × Obj) := fs.map fun f => (f, listOf #[] 0)
def S7 (base : Heap) (L : Addr) (m : Str → Option Value) (news : List (Addr × Obj)) (s s' : Shared) : Prop :=
  ∃ (h : Heap) (tk : Nat) (m' : Str → Option Value) (Df Dg : Addr) (cf cg : Nat) (fs : List Nat) (gs : List (Int × Tok)), s' = { s with heap := h, toks := tk } ∧ Fr base L h m' ∧ (∀ y, y ≠ Str.ofString "blind" → y ≠ Str.ofString "firsts" → y ≠ Str.ofString "folds" → m' y = m y) ∧
    m' (Str.ofString "blind") = some (.bool true) ∧ m' (Str.ofString "firsts") = some (.ref Df) ∧ m' (Str.ofString "folds") = some (.ref Dg) ∧
    News base L h ((Dg, listOf (ivals gs).toArray cg) :: (Df, listOf (fs.map Value.ref).toArray cf) :: (eN fs ++ news)) ∧ fs.length = 16 ∧ gs.length = 16 ∧ (∀ p ∈ eN fs ++ news, p.1 ≠ Df ∧ p.1 ≠ Dg) ∧ Df ≠ Dg ∧ (∀ f ∈ fs, ∀ p ∈ news, p.1 ≠ f)
theorem part7 {w : World} {p loose mean mg mb} {s : Shared} {base : Heap} {L fa : Addr} {m : Str → Option Value} {news : List (Addr × Obj)} {body : List Stmt} {scope : Scope} {E : Value → Shared → Prop}
   (hb : LawAt (hd.heap_39 w.params) body scope)
   (X : (hd.heap_39 w.params).In base) (T : Top p loose mean mg mb base)
   (F : Fr base L s.heap m) (N : News base L s.heap news) :
   wpAny (model PySem.Challenge.rw_om0026_01.row.prog w) (callerA.deeper (envOfC (Str.ofString "law") scope L fa (.ref 111))) (execs ((body.drop 10).take 3) (envOfC (Str.ofString "law") scope L fa (.ref 111))) (fun f s' => Box (f = .next ∧ S7 base L m news s s')) E s := by
  w_on
  revert X T; k_fill; intro X T
  refine' LawAt.use (P := fun body scope => wpAny (model PySem.Challenge.rw_om0026_01.row.prog w) (callerA.deeper (envOfC (Str.ofString "law") scope L fa (.ref 111))) (execs ((body.drop 10).take 3) (envOfC (Str.ofString "law") scope L fa (.ref 111))) (fun f s' => Box (f = .next ∧ S7 base L m news s s')) E s) ?ho ?h hb
  case ho => k_is
  clear hb
  dsimp only [List.take, List.drop]
  refine wpAny_execs_cons (wpAny_Assign_Name (wpAny_Constant_bool ?_))
  refine stL (env := envOfC (Str.ofString "law") _ L fa (.ref 111)) F N fun h1 F1 N1 => ?_
  refine wpAny_execs_cons ?_
  refine compLA (base := base) (env := envOfC (Str.ofString "law") _ L fa (.ref 111)) (cl := []) (n := 16) (P := NatP) F1 N1 rfl rfl rfl (fun lo i ys h => ∃ fs : List Nat, ys = fs.map Value.ref ∧ fs.length = i ∧ ∀ f ∈ fs, lo < f ∧ h.get? f = some (listOf #[] 0)) (fun _ _ => true) (by decide) rfl (by decide) rfl (by decide) (fun _ => rfl) (fun _ _ => ⟨[], rfl, rfl, fun _ z => nomatch z⟩) ?jk ?jl (iterRange rfl X T F1.keep (by k_is) rfl rfl rfl rfl rfl (by decide)) ?ht ?he ?hq
  case jk =>
    rintro lo i ys h h' ⟨fs, e1, e2, q⟩ k
    exact ⟨fs, e1, e2, fun f hf => ⟨(q f hf).1, k _ _ (q f hf).1 (q f hf).2⟩⟩
  case jl => rintro lo i ys h ⟨fs, rfl, rfl, _⟩; simp
  case ht => intros; exact tests_none ⟨⟨_, rfl⟩, rfl, fun e => by cases e⟩
  case he =>
    rintro C i v ys h tk m2 hi ⟨tv, rfl⟩ _ ⟨fs, rfl, rfl, q⟩ hn hm hK
    refine wpAny_List (spliced_none ⟨Nat.le_of_ble_eq_true rfl, ?_⟩)
    refine ⟨_, _, rfl, fun b o e => Heap.get?_push_of_some _ e, fs ++ [h.objs.size], by simp, by simp, ?_⟩
    intro f hf
    rcases List.mem_append.mp hf with hf | hf
    · exact ⟨(q f hf).1, Heap.get?_push_of_some _ (q f hf).2⟩
    · rw [List.mem_singleton.mp hf]; exact ⟨hn.lt, Heap.get?_push_size _ rfl⟩
  case hq =>
    rintro Df C ys cf h2 tk2 F2 N2 hDf hDC ⟨fs, rfl, hfl, q⟩ hDo
    have hfN : ∀ f ∈ fs, ∀ p ∈ news, p.1 ≠ f := fun f hf => nodup_of N1 (none_of_size (Nat.le_trans hDf (Nat.le_of_lt (Nat.lt_trans hDC (q f hf).1))))
    have hDN : ∀ p ∈ news, p.1 ≠ Df := nodup_of N1 (none_of_size hDf)
    have N3 : News base L h2 (eN fs ++ news) := News.addAll F1 N2 (eN fs) (fun p hp => by
      obtain ⟨f, hf, rfl⟩ := List.mem_map.mp hp
      exact ⟨none_of_size (Nat.le_trans hDf (Nat.le_of_lt (Nat.lt_trans hDC (q f hf).1))), (q f hf).2⟩)
    have N4 := News.add F1 N3 (none_of_size hDf) hDo
    have hfD : ∀ p ∈ eN fs ++ news, p.1 ≠ Df := fun p hp => by
      rcases List.mem_append.mp hp with hp | hp
      · obtain ⟨f, hf, rfl⟩ := List.mem_map.mp hp
        exact Nat.ne_of_gt (Nat.lt_trans hDC (q f hf).1)
      · exact hDN p hp
    refine wpAny_execs_cons ?_
    refine compLA (base := base) (env := envOfC (Str.ofString "law") _ L fa (.ref 111)) (cl := []) (n := 16) (P := NatP) F2 N4 rfl rfl rfl (IntsJ fun _ => 0) (fun _ _ => true) (by decide) rfl (by decide) rfl (by decide) (fun _ => rfl) (intsJ0 _) (fun _ _ _ _ _ J k => J) (fun _ _ _ _ J => J.len) (iterRange rfl X T F2.keep (by k_is) rfl rfl rfl rfl rfl (by decide)) ?ht2 ?he2 ?hq2
    case ht2 => intros; exact tests_none ⟨⟨_, rfl⟩, rfl, fun e => by cases e⟩
    case he2 =>
      rintro C2 i v ys h tk m2 hi ⟨tv, rfl⟩ _ J hn hm hK
      exact wpAny_Constant_int ⟨h, _, rfl, Keep.refl _, J.snoc rfl⟩
    case hq2 =>
      rintro Dg C2 ys cg h3 tk3 F3 N5 hDg hDC2 ⟨gs, rfl, hgs⟩ hDo2
      have hgl : gs.length = 16 := by have := congrArg List.length hgs; simpa using this
      have N6 := News.add F2 N5 (none_of_size hDg) hDo2
      have hg := nodup_of N4 (none_of_size hDg)
      refine wpAny_execs_nil ?_
      refine ⟨rfl, h3, _, _, Df, Dg, cf, cg, fs, gs, rfl, F3, fun y h1 h2 h3 => (if_neg h3).trans ((if_neg h2).trans (if_neg h1)), rfl, rfl, rfl, N6, hfl, hgl, fun p hp => ⟨hfD p hp, hg p (.tail _ hp)⟩, hg _ (.head _), hfN⟩
end Mine
namespace Mine
def zz (x : Int × Tok) : Int × Tok := (x.1, 0)
theorem rem1_z (x : Int) : ∀ l : List (Int × Tok), rem1 x (l.map zz) = (rem1 x l).map (List.map zz)
  | [] => rfl
  | q :: l => by
    rw [List.map_cons]
    unfold rem1
    rw [rem1_z x l]
    show (if q.1 == x then _ else _) = _
    by_cases h : (q.1 == x) = true
    · rw [if_pos h, if_pos h]; rfl
    · rw [if_neg h, if_neg h]
      cases rem1 x l <;> rfl
theorem cmpRun_z : ∀ (ps t : List (Int × Tok)), cmpRun (ps.map zz) (t.map zz) = (cmpRun ps t).map (List.map zz)
  | [], t => rfl
  | p :: ps, t => by
    rw [List.map_cons]
    unfold cmpRun
    show (match rem1 p.1 (t.map zz) with | none => none | some t' => cmpRun (ps.map zz) t') = _
    rw [rem1_z]
    cases rem1 p.1 t with
    | none => rfl
    | some t' => exact cmpRun_z ps t'
theorem ded_z (vs : List (Int × Tok)) : ded (vs.map zz) = (ded vs).map zz := by
  have : ∀ (l acc : List (Int × Tok)), (l.map zz).foldl dedStep (acc.map zz) = (l.foldl dedStep acc).map zz := by
    intro l
    induction l with
    | nil => intro acc; rfl
    | cons a l ih =>
      intro acc
      rw [List.map_cons, List.foldl_cons, List.foldl_cons, ← ih]
      congr 1
      unfold dedStep
      have e : ((acc.map zz).any fun q => q.1 == (zz a).1) = acc.any fun q => q.1 == a.1 := by rw [List.any_map]; rfl
      rw [e]
      split
      · rfl
      · rw [List.map_append]; rfl
  exact this vs []
theorem cmpo_z (vs us : List (Int × Tok)) : cmpo (vs.map zz) (us.map zz) = cmpo vs us := by
  unfold cmpo
  rw [ded_z, ded_z, cmpRun_z]
  cases cmpRun (ded vs) (ded us) with
  | none => rfl
  | some t => cases t <;> rfl
def cmpI (xs ys : List Int) : Bool := cmpo (xs.map fun x => (x, 0)) (ys.map fun x => (x, 0))
theorem cmpo_I {vs us : List (Int × Tok)} {xs ys : List Int} (h1 : vs.map (·.1) = xs) (h2 : us.map (·.1) = ys) : cmpo vs us = cmpI xs ys := by
  rw [← cmpo_z, ← h1, ← h2]
  unfold cmpI
  rw [List.map_map, List.map_map]
  rfl
def ln (i : Nat) : List Int := linesL.getD i []
def mkI (l : List Int) : Int := l.foldl (fun acc x => Builtin.bitOr acc ((2 ^ x.toNat : Nat) : Int)) 0
def mk (l : List Int) : Nat := (mkI l).toNat
def ft (i : Nat) : Nat := ((List.range 44).find? (fun j => mk (ln j) == mk (ln i))).getD 0
def foldT (T : Nat → Nat → Nat) : List Int → Int
  | [] => 0
  | x :: xs => xs.foldl (fun acc y => (T acc.toNat y.toNat : Int)) x
def rt (md : Nat → Int) (l : List Int) : Int := l.foldl (fun acc x => Builtin.bitOr acc (md x.toNat)) 0
theorem lines_len : linesL.length = 44 := by decide +kernel
theorem ln_get {i : Nat} (h : i < 44) : linesL[i]? = some (ln i) := by
  have hl : i < linesL.length := by rw [lines_len]; exact h
  unfold ln
  rw [List.getD_eq_getElem?_getD, List.getElem?_eq_getElem hl, Option.getD_some]
theorem ln_ok : ∀ i, i < 44 → (ln i) ≠ [] ∧ (ln i).length ≤ 3 ∧ (∀ x ∈ ln i, 0 ≤ x ∧ x < 4) ∧ 0 ≤ mkI (ln i) ∧ mkI (ln i) < 16 := by decide +kernel
theorem ft_ok : ∀ i, i < 44 → ft i ≤ i ∧ mk (ln (ft i)) = mk (ln i) ∧ ft (ft i) = ft i := by decide +kernel
theorem ft_first : ∀ i, i < 44 → ft i = i → ∀ j, j < i → mk (ln j) ≠ mk (ln i) := by decide +kernel
theorem ft_cmp : ∀ i, i < 44 → (ft i = i → cmpI (ln i).dropLast (ln i) = false ∧ cmpI (ln i) (ln i).dropLast = false) ∧ (ft i ≠ i → cmpI (ln (ft i)) (ln i) = true) := by decide +kernel
theorem ft_mem : ∀ i, i < 44 → (∀ x ∈ ln i, x ∈ ln (ft i)) ∧ (∀ x ∈ ln (ft i), x ∈ ln i) := by decide +kernel
end Mine
namespace Mine
section
variable {T : Nat → Nat → Nat} (hT : ∀ a b, a < 4 → b < 4 → T a b < 4)
theorem kb_eq {a b : Nat} : kb T a = kb T b ↔ ∀ c, c < 4 → (T a c ≠ c ↔ T b c ≠ c) := by
  constructor
  · intro h c hc
    have := congrArg (fun k : Nat => k.testBit c) h
    simp only [kb_bit T a hc, kb_bit T b hc] at this
    exact decide_eq_decide.mp this
  · intro h
    refine kb_ext (kb_lt T a) (kb_lt T b) fun c hc => ?_
    rw [kb_bit T a hc, kb_bit T b hc]
    exact decide_eq_decide.mpr (h c hc)
theorem kb_or {a b d : Nat} : kb T d = (kb T a ||| kb T b) ↔ ∀ c, c < 4 → (T d c ≠ c ↔ (T a c ≠ c ∨ T b c ≠ c)) := by
  constructor
  · intro h c hc
    have := congrArg (fun k : Nat => k.testBit c) h
    simp only [Nat.testBit_or, kb_bit T a hc, kb_bit T b hc, kb_bit T d hc] at this
    rw [← Bool.decide_or] at this
    exact decide_eq_decide.mp this
  · intro h
    refine kb_ext (kb_lt T d) (or_lt (kb_lt T a) (kb_lt T b)) fun c hc => ?_
    rw [Nat.testBit_or, kb_bit T a hc, kb_bit T b hc, kb_bit T d hc, ← Bool.decide_or]
    exact decide_eq_decide.mpr (h c hc)
abbrev mdT (T : Nat → Nat → Nat) (sh : Nat) (a : Nat) : Int := mdk sh (kb T a)
variable {sh : Nat} (hs : sh < 9)
theorem lsS_eq {md : Nat → Int} {a : Nat} {l : List Nat} : lsS md a = (⟨l.toArray⟩ : Str) ↔ lst (md a) = l := by
  unfold lsS
  constructor
  · intro h
    have := congrArg Str.cps h
    simpa using this
  · intro h; rw [h]
include hs in
theorem lsS_inj {a b : Nat} : lsS (mdT T sh) a = lsS (mdT T sh) b ↔ kb T a = kb T b := by
  rw [show lsS (mdT T sh) b = (⟨(lst (mdT T sh b)).toArray⟩ : Str) from rfl, lsS_eq]
  constructor
  · exact inj_k sh hs _ (kb_lt T a) _ (kb_lt T b)
  · intro h; unfold mdT; rw [h]
include hs in
theorem laidOk_iff {a b : Nat} : laidOk (mdT T sh) T a b = true ↔ ∀ c, c < 4 → (T (T a b) c ≠ c ↔ (T a c ≠ c ∨ T b c ≠ c)) := by
  unfold laidOk
  rw [beq_iff_eq, lsS_eq, laid_k sh hs _ (kb_lt T a) _ (kb_lt T b), ← kb_or]
  constructor
  · exact inj_k sh hs _ (kb_lt T _) _ (or_lt (kb_lt T a) (kb_lt T b))
  · intro h; unfold mdT; rw [h]
include hs in
theorem nodup_iff {ss : List (Str × Tok)} (hss : ss.map (·.1) = (List.range 4).map (lsS (mdT T sh))) : (((dk ss []).length : Int) == 4) = true ↔ ∀ a b, a < 4 → b < 4 → (∀ c, c < 4 → (T a c ≠ c ↔ T b c ≠ c)) → a = b := by
  have hl : ss.length = 4 := by have := congrArg List.length hss; simpa using this
  rw [beq_iff_eq, show (((dk ss []).length : Int) = 4) = (((dk ss []).length : Int) = ((4 : Nat) : Int)) from rfl, Int.ofNat_inj, dk_four hl, hss]
  unfold List.Nodup
  rw [List.pairwise_map]
  constructor
  · intro h a b ha hb hc
    have e := (lsS_inj hs).mpr (kb_eq.mpr hc)
    rcases Nat.lt_trichotomy a b with h1 | h1 | h1
    · have := List.pairwise_iff_getElem.mp h a b (by simpa using ha) (by simpa using hb) h1
      simp only [List.getElem_range] at this
      exact absurd e this
    · exact h1
    · have := List.pairwise_iff_getElem.mp h b a (by simpa using hb) (by simpa using ha) h1
      simp only [List.getElem_range] at this
      exact absurd e.symm this
  · intro h
    refine List.pairwise_iff_getElem.mpr fun a b ha hb hab e => ?_
    simp only [List.getElem_range] at e
    simp only [List.length_range] at ha hb
    exact absurd (h a b ha hb (kb_eq.mp ((lsS_inj hs).mp e))) (Nat.ne_of_lt hab)
include hs in
theorem faith_iff {ss : List (Str × Tok)} (hss : ss.map (·.1) = (List.range 4).map (lsS (mdT T sh))) : fO (mdT T sh) T (((dk ss []).length : Int) == 4) 4 = true ↔ Fa T := by
  unfold fO
  rw [Bool.and_eq_true, nodup_iff hs hss, List.all_eq_true]
  constructor
  · rintro ⟨h1, h2⟩
    refine ⟨h1, fun a b ha hb => ?_⟩
    have := h2 a (List.mem_range.mpr ha)
    rw [List.all_eq_true] at this
    exact (laidOk_iff hs).mp (this b (List.mem_range.mpr hb))
  · rintro ⟨h1, h2⟩
    refine ⟨h1, fun a ha => ?_⟩
    rw [List.all_eq_true]
    exact fun b hb => (laidOk_iff hs).mpr (h2 a b (List.mem_range.mp ha) (List.mem_range.mp hb))
include hT in
theorem fold_ok : ∀ (xs : List Int) (acc : Int), 0 ≤ acc ∧ acc < 4 → (∀ x ∈ xs, 0 ≤ x ∧ x < 4) → 0 ≤ xs.foldl (fun acc y => (T acc.toNat y.toNat : Int)) acc ∧ xs.foldl (fun acc y => (T acc.toNat y.toNat : Int)) acc < 4
  | [], acc, h, _ => h
  | x :: xs, acc, h, hx => by
    rw [List.foldl_cons]
    have hx0 := hx x (.head _)
    have := hT acc.toNat x.toNat (by omega) (by omega)
    exact fold_ok xs _ ⟨by omega, by omega⟩ fun y hy => hx y (.tail _ hy)
include hT in
theorem foldT_ok {l : List Int} (hl : l ≠ []) (hx : ∀ x ∈ l, 0 ≤ x ∧ x < 4) : 0 ≤ foldT T l ∧ foldT T l < 4 := by
  cases l with
  | nil => exact absurd rfl hl
  | cons x xs => exact fold_ok hT xs x (hx x (.head _)) fun y hy => hx y (.tail _ hy)
include hT hs in
theorem rt_go (F : Fa T) : ∀ (xs : List Int) (acc : Int), 0 ≤ acc ∧ acc < 4 → (∀ x ∈ xs, 0 ≤ x ∧ x < 4) →
    xs.foldl (fun acc x => Builtin.bitOr acc (mdT T sh x.toNat)) (mdT T sh acc.toNat) = mdT T sh (xs.foldl (fun acc y => (T acc.toNat y.toNat : Int)) acc).toNat
  | [], acc, _, _ => rfl
  | x :: xs, acc, h, hx => by
    have hx0 := hx x (.head _)
    have h1 : acc.toNat < 4 := by omega
    have h2 : x.toNat < 4 := by omega
    rw [List.foldl_cons, List.foldl_cons]
    have e : Builtin.bitOr (mdT T sh acc.toNat) (mdT T sh x.toNat) = mdT T sh ((T acc.toNat x.toNat : Int)).toNat := by
      rw [Int.toNat_natCast]
      unfold mdT
      rw [or_k sh hs _ (kb_lt T _) _ (kb_lt T _), kb_or.mpr (F.un _ _ h1 h2)]
    rw [e]
    have := hT acc.toNat x.toNat h1 h2
    exact rt_go F xs _ ⟨by omega, by omega⟩ fun y hy => hx y (.tail _ hy)
include hT hs in
theorem rt_ok (F : Fa T) {l : List Int} (hl : l ≠ []) (hx : ∀ x ∈ l, 0 ≤ x ∧ x < 4) : mdT T sh (foldT T l).toNat = rt (mdT T sh) l := by
  cases l with
  | nil => exact absurd rfl hl
  | cons x xs =>
    unfold rt foldT
    rw [List.foldl_cons, or_0 sh hs _ (kb_lt T _)]
    exact (rt_go hT hs F xs x (hx x (.head _)) fun y hy => hx y (.tail _ hy)).symm
include hT in
theorem mem_go (F : Fa T) {c : Nat} (hc : c < 4) : ∀ (xs : List Int) (acc : Int), 0 ≤ acc ∧ acc < 4 → (∀ x ∈ xs, 0 ≤ x ∧ x < 4) →
    (T (xs.foldl (fun acc y => (T acc.toNat y.toNat : Int)) acc).toNat c ≠ c ↔ (T acc.toNat c ≠ c ∨ ∃ x ∈ xs, T x.toNat c ≠ c))
  | [], acc, _, _ => by simp
  | x :: xs, acc, h, hx => by
    have hx0 := hx x (.head _)
    have h1 : acc.toNat < 4 := by omega
    have h2 : x.toNat < 4 := by omega
    have h3 := hT acc.toNat x.toNat h1 h2
    rw [List.foldl_cons, mem_go F hc xs _ ⟨by omega, by omega⟩ fun y hy => hx y (.tail _ hy), Int.toNat_natCast, F.un _ _ h1 h2 c hc]
    simp only [List.mem_cons, exists_eq_or_imp, or_assoc]
include hT in
theorem mem_ok (F : Fa T) {c : Nat} (hc : c < 4) {l : List Int} (hl : l ≠ []) (hx : ∀ x ∈ l, 0 ≤ x ∧ x < 4) : (T (foldT T l).toNat c ≠ c ↔ ∃ x ∈ l, T x.toNat c ≠ c) := by
  cases l with
  | nil => exact absurd rfl hl
  | cons x xs =>
    unfold foldT
    rw [mem_go hT F hc xs x (hx x (.head _)) fun y hy => hx y (.tail _ hy)]
    simp only [List.mem_cons, exists_eq_or_imp]
def bl (T : Nat → Nat → Nat) (i : Nat) : Bool := (List.range i).all fun j => foldT T (ln j) == foldT T (ln (ft j))
theorem li2 : ∀ x : Nat, x < 4 → ∃ j, j < 44 ∧ ln j = [(x : Int), x] ∧ ln (ft j) = [(x : Int)] := by decide +kernel
theorem lic : ∀ x : Nat, x < 4 → ∀ y : Nat, y < 4 → x < y → ∃ j, j < 44 ∧ ln j = [(y : Int), x] ∧ ln (ft j) = [(x : Int), y] := by decide +kernel
theorem lia : ∀ x : Nat, x < 4 → ∀ y : Nat, y < 4 → x < y → (∃ j, j < 44 ∧ ln j = [(x : Int), y, x] ∧ ln (ft j) = [(x : Int), y]) ∧ (∃ j, j < 44 ∧ ln j = [(x : Int), y, y] ∧ ln (ft j) = [(x : Int), y]) := by decide +kernel
def hasLn (a b : List Int) : Bool := (List.range 44).any fun j => ln j == a && ln (ft j) == b
theorem hasLn_ex {a b : List Int} (h : hasLn a b = true) : ∃ j, j < 44 ∧ ln j = a ∧ ln (ft j) = b := by
  unfold hasLn at h
  obtain ⟨j, hj, e⟩ := List.any_eq_true.mp h
  rw [Bool.and_eq_true, beq_iff_eq, beq_iff_eq] at e
  exact ⟨j, List.mem_range.mp hj, e⟩
theorem lisB : ((List.range 4).all fun x => (List.range 4).all fun y => (List.range 4).all fun z => !(decide (x < y) && decide (y < z)) || (hasLn [(x : Int), z, y] [(x : Int), y, z] && hasLn [(y : Int), z, x] [(x : Int), y, z])) = true := by decide +kernel
theorem lis {x y z : Nat} (hx : x < 4) (hy : y < 4) (hz : z < 4) (h1 : x < y) (h2 : y < z) : hasLn [(x : Int), z, y] [(x : Int), y, z] = true ∧ hasLn [(y : Int), z, x] [(x : Int), y, z] = true := by
  have a := List.all_eq_true.mp (List.all_eq_true.mp (List.all_eq_true.mp lisB x (List.mem_range.mpr hx)) y (List.mem_range.mpr hy)) z (List.mem_range.mpr hz)
  rw [decide_eq_true h1, decide_eq_true h2] at a
  simpa using a
include hT in
theorem blind_iff : bl T 44 = true ↔ Bl T := by
  unfold bl
  rw [List.all_eq_true]
  constructor
  · intro h
    have go : ∀ {j : Nat} {l l' : List Int}, j < 44 → ln j = l → ln (ft j) = l' → foldT T l = foldT T l' := fun {j l l'} hj e e' => by
      have := h j (List.mem_range.mpr hj)
      rw [beq_iff_eq, e, e'] at this
      exact this
    have cn : ∀ {a b : Nat}, ((a : Int)) = b → a = b := fun e => by exact_mod_cast e
    refine ⟨fun x hx => ?_, fun x y h1 hy => ?_, fun x y h1 hy => ?_, fun x y z h1 h2 hz => ?_⟩
    · obtain ⟨j, hj, e, e'⟩ := li2 x hx
      have := go hj e e'
      simp only [foldT, List.foldl_cons, List.foldl_nil, Int.toNat_natCast] at this
      exact cn this
    · obtain ⟨j, hj, e, e'⟩ := lic x (by omega) y hy h1
      have := go hj e e'
      simp only [foldT, List.foldl_cons, List.foldl_nil, Int.toNat_natCast] at this
      exact cn this
    · obtain ⟨⟨j, hj, e, e'⟩, j2, hj2, e2, e2'⟩ := lia x (by omega) y hy h1
      have g1 := go hj e e'
      have g2 := go hj2 e2 e2'
      simp only [foldT, List.foldl_cons, List.foldl_nil, Int.toNat_natCast] at g1 g2
      exact ⟨cn g1, cn g2⟩
    · obtain ⟨j, hj, e, e'⟩ := hasLn_ex (lis (by omega) (by omega) hz h1 h2).1
      obtain ⟨j2, hj2, e2, e2'⟩ := hasLn_ex (lis (by omega) (by omega) hz h1 h2).2
      have g1 := go hj e e'
      have g2 := go hj2 e2 e2'
      simp only [foldT, List.foldl_cons, List.foldl_nil, Int.toNat_natCast] at g1 g2
      exact ⟨cn g1, cn g2⟩
  · intro B j hj
    have hj := List.mem_range.mp hj
    have F := Fa.of hT B
    have hf := (ft_ok j hj).1
    obtain ⟨n1, _, x1, _⟩ := ln_ok j hj
    obtain ⟨n2, _, x2, _⟩ := ln_ok (ft j) (by omega)
    obtain ⟨a0, a4⟩ := foldT_ok hT n1 x1
    obtain ⟨b0, b4⟩ := foldT_ok hT n2 x2
    have := F.inj (foldT T (ln j)).toNat (foldT T (ln (ft j))).toNat (by omega) (by omega) fun c hc => by
      rw [mem_ok hT F hc n1 x1, mem_ok hT F hc n2 x2]
      constructor
      · rintro ⟨x, hx, e⟩; exact ⟨x, (ft_mem j hj).1 x hx, e⟩
      · rintro ⟨x, hx, e⟩; exact ⟨x, (ft_mem j hj).2 x hx, e⟩
    rw [beq_iff_eq]
    omega
include hT hs in
/-- the law's last line -/
theorem law_eq {ss : List (Str × Tok)} (hss : ss.map (·.1) = (List.range 4).map (lsS (mdT T sh))) : (bl T 44 == fO (mdT T sh) T (((dk ss []).length : Int) == 4) 4) = true := by
  rw [beq_iff_eq, Bool.eq_iff_iff, blind_iff hT, faith_iff hs hss]
  exact ⟨Fa.of hT, Bl.of hT⟩
end
end Mine
namespace Mine
/-- what stands at the table of codes: nothing yet, or the lambda's code -/
def TabOk (pos : Pos) (qual : Str) (ps : Array Value) (ext : List (Addr × Obj)) : Prop :=
  (ps = #[] ∧ ext = []) ∨ ∃ c' oc vs t, ps = #[rawInt pos.line, rawInt pos.col, .ref c'] ∧ ext = [(c', oc)] ∧ oc.data = .fields vs ∧ vs[1]? = some (.str qual t)
theorem lamMake {M : Model} {A : Around} {E : Value → Shared → Prop} {s : Shared} {base : Heap} {L fa : Addr} {m mg mb : Str → Option Value} {cs : Scope} {p : Program} {loose : List Str} {mean : ExcName → Option Value} {params : Arguments} {body : Expr} {scope : Scope} {ps : Array Value} {pos : Pos} {clos : List (Str × Addr)} {ext rest : List (Addr × Obj)} {Q : Value → Shared → Prop}
    (F : Fr base L s.heap m) (N : News base L s.heap ((109, tabObj ps) :: (ext ++ rest))) (T : Top p loose mean mg mb base) (C : CodeHd base 111 109)
    (hok : TabOk pos ((envOfC (Str.ofString "law") cs L fa (.ref 111)).qual ++ "<lambda>") ps ext) (hr : ∀ q ∈ rest, q.1 ≠ 109) (he : ∀ q ∈ ext, q.1 ≠ 109 ∧ ∀ r ∈ rest, r.1 ≠ q.1)
    (hdef : defaultsOf params (envOfC (Str.ofString "law") cs L fa (.ref 111)) = ([], []))
    (hcl : closureFor scope (envOfC (Str.ofString "law") cs L fa (.ref 111)) = pure clos)
    (hA : codeAmong pos [] = none) (hB : ∀ c', codeAmong pos [rawInt pos.line, rawInt pos.col, .ref c'] = some (.ref c'))
    (h : ∀ f c' ctv ps' ext' h' tk, TabOk pos ((envOfC (Str.ofString "law") cs L fa (.ref 111)).qual ++ "<lambda>") ps' ext' → (∀ q ∈ ext', q.1 ≠ 109 ∧ ∀ r ∈ rest, r.1 ≠ q.1) → Fr base L h' m →
      News base L h' ((f, kla_obj "<lambda>" ((envOfC (Str.ofString "law") cs L fa (.ref 111)).qual ++ "<lambda>") params body scope clos ((mg "__name__").getD .none) c' ctv) :: (109, tabObj ps') :: (ext' ++ rest)) →
      h'.CodeRec (.ref c') ((envOfC (Str.ofString "law") cs L fa (.ref 111)).qual ++ "<lambda>") → (∀ q ∈ (109, tabObj ps') :: (ext' ++ rest), q.1 ≠ f) → Q (.ref f) { s with heap := h', toks := tk }) :
    wpAny M A (eval (.Lambda params body scope pos) (envOfC (Str.ofString "law") cs L fa (.ref 111))) Q E s := by
  refine kla_eval hdef ?_
  rcases hok with ⟨rfl, rfl⟩ | ⟨c', oc, vs, t, rfl, rfl, hd, hv⟩
  · refine kla_nest (cn := Str.ofString "law") (cs := cs) (a := fa) (ccd := .ref 111) (cl := cellsFrom (L + 1) cs.names []) (ps := #[]) (g := fun o' => (109, o') :: ([] ++ rest)) F N T C rfl (UpdF.head hr) True.intro hA hcl ?_
    intro f c' oc vs t ctv h' tk F' N' hd hv hlt hcf
    refine h f c' ctv _ [(c', oc)] h' tk (.inr ⟨c', oc, vs, t, rfl, rfl, hd, hv⟩) ?_ F' (News.sub N' fun q hq => ?_) ⟨c', oc, vs, t, rfl, (N' _ (.tail _ (.head _))).1, hd, hv⟩ ?_
    · intro q hq
      rw [List.mem_singleton.mp hq]
      exact ⟨Nat.ne_of_gt (hlt (109, tabObj #[]) (.head _)), fun r hr' => Nat.ne_of_lt (hlt r (.tail _ hr'))⟩
    · simp only [List.mem_cons, List.mem_append, List.not_mem_nil, or_false, List.nil_append, false_or] at hq ⊢
      rcases hq with e | e | e | e
      · exact .inl e
      · exact .inr (.inr (.inl e))
      · exact .inr (.inl e)
      · exact .inr (.inr (.inr e))
    · intro q hq
      simp only [List.mem_cons, List.mem_append, List.not_mem_nil, or_false] at hq
      rcases hq with rfl | rfl | e
      · exact Nat.ne_of_lt (Nat.lt_trans (hlt (109, tabObj #[]) (.head _)) hcf)
      · exact Nat.ne_of_lt hcf
      · exact Nat.ne_of_lt (Nat.lt_trans (hlt q (.tail _ e)) hcf)
  · refine kla_hit (cn := Str.ofString "law") (cs := cs) (a := fa) (ccd := .ref 111) (cl := cellsFrom (L + 1) cs.names []) (c' := c') F N T C rfl (.head _) (by simp [TriplesOk, rawInt]) (hB c') hcl ?_
    intro f ctv h' tk F' N' hlt
    have nc := N' (c', oc) (.tail _ (.tail _ (.head _)))
    exact h f c' ctv _ [(c', oc)] h' tk (.inr ⟨c', oc, vs, t, rfl, rfl, hd, hv⟩) he F' N' ⟨c', oc, vs, t, rfl, nc.1, hd, hv⟩ fun q hq => Nat.ne_of_lt (hlt q hq)
abbrev lamP (q1 q2 : Pos) : Arguments := { posonlyargs := [], args := [{ arg := Str.ofString "a", annotation := none, pos := q1 }, { arg := Str.ofString "b", annotation := none, pos := q2 }], vararg := none, kwonlyargs := [], kw_defaults := [], kwarg := none, defaults := [] }
abbrev lamB (p1 p2 p3 p4 p5 : Pos) : Expr := .Subscript (.Subscript (.Name (Str.ofString "table") p1) (.Name (Str.ofString "a") p2) p3) (.Name (Str.ofString "b") p4) p5
abbrev lamS : Scope := { kind := .function, names := [(Str.ofString "a", .local), (Str.ofString "b", .local), (Str.ofString "table", .free)], isGenerator := false, isCoroutine := false, more := [] }
theorem lamCall {prog : Program} {w : World} {A : Around} {R : Result → Shared → Prop} {s : Shared} {f c' tc a0 : Addr} {ctv pm : Value} {name qual : Str} {q1 q2 p1 p2 p3 p4 p5 : Pos} {rs : List Row} {x y : Int} {tx ty : Tok}
    (hroom : A.depth < recursionLimit) (ho : s.heap.get? f = some (kla_obj name qual (lamP q1 q2) (lamB p1 p2 p3 p4 p5) lamS [(Str.ofString "table", tc)] pm c' ctv))
    (hcd : s.heap.CodeRec (.ref c') qual) (hlim : s.heap.NoLimit)
    (hcell : s.heap.IsCell tc (some (.ref a0))) (hlist : s.heap.IsList a0 (rs.map (fun r => Value.ref r.1)).toArray) (hrow : ∀ r ∈ rs, s.heap.IsList r.1 (ivals r.2.1).toArray) (ok : RowsOk rs a0)
    (hx : 0 ≤ x ∧ x < 4) (hy : 0 ≤ y ∧ y < 4)
    (hret : ∀ t h' tk', Keep s.heap h' → R (.ok (.ret (.int (TT rs x.toNat y.toNat) t))) { s with heap := h', toks := tk' }) :
    codeAny (model prog w) A (.call (.ref f) ⟨[.int x tx, .int y ty], []⟩) R s := by
  refine kla_callFunE hroom ho rfl rfl rfl rfl hcd ?_
  have hb : bindArgs (kla_fn name qual (lamP q1 q2) (lamB p1 p2 p3 p4 p5) lamS [(Str.ofString "table", tc)] pm (.ref c') ctv) ⟨[.int x tx, .int y ty], []⟩ = pure [(Str.ofString "a", .int x tx), (Str.ofString "b", .int y ty)] := by rfl
  rw [hb]
  refine wpAny_pure (wpAny_newFunctionEnv (show ∀ x ∈ lamS.names, x.2 ≠ NameKind.cell by decide) (locs rfl) (fun h₁ hns hsb => ⟨hlim.fresh _ hsb, ?_⟩) rfl)
  have hk₁ : Keep s.heap h₁ := fun b o e => hsb.extBut b o (Nat.ne_of_lt (Heap.lt_size e)) (Heap.get?_push_of_some _ e)
  refine kla_codeExpr ?_
  obtain ⟨r, tr, hr1, hr2, hr3, hr4⟩ := TT_get ok (show x.toNat < 4 by omega) (show y.toNat < 4 by omega)
  refine Subscript_ (Subscript_ (ldF (Keep.cell hk₁ hcell) (Mine.ldC hns rfl ?_)))
  refine item_list (x := .ref r.1) (Keep.isList hk₁ hlist) hx.1 (by omega) (by simp [hr1]) ?_
  refine Mine.ldC hns rfl ?_
  refine item_litK (v := .int (TT rs x.toNat y.toNat) tr) (Keep.isList hk₁ (hrow r hr2)) hy.1 (by omega) (by simp [ivals, hr3]) ?_
  exact hret _ _ _ hk₁
end Mine
namespace Mine
theorem callG0 {prog : Program} {w : World} {A : Around} {E : Value → Shared → Prop} {s : Shared} {env : Env} {K : Frag} {h₀ : Heap} {pos : Pos} {f : Addr} {oc : Value} {od : Option Addr} {fd : FuncData} {osl : Array (Option Value)} {Q : Value → Shared → Prop}
    (X : K.In h₀) (kb : Keep h₀ s.heap) (ho : K.lookup f = some ⟨oc, od, .func fd, osl⟩)
    (h : wpAny (model prog w) A (call (.ref f) []) Q E s) :
    wpAny (model prog w) A (callWith pos (.ref f) [] (backTo pos (starEach [] env)) []) Q E s := by
  refine callWith_function (o := ⟨oc, od, .func fd, osl⟩) (fd := fd) ?_
  exact evalArgs_nil3 ⟨⟨kb _ _ (X _ _ ho), rfl⟩, h⟩
theorem ints_getI {vs : List (Int × Tok)} {f : Nat → Int} {n : Nat} (e : vs.map (·.1) = (List.range n).map f) {k : Nat} (hk : k < n) : ∃ t, vs[k]? = some (f k, t) := by
  have e1 : (vs.map (·.1))[k]? = some (f k) := by rw [e, List.getElem?_map, List.getElem?_range hk]; rfl
  rw [List.getElem?_map] at e1
  cases q : vs[k]? with
  | none => rw [q] at e1; cases e1
  | some x =>
    rw [q] at e1
    exact ⟨x.2, by rw [← Option.some.inj e1]⟩
theorem mkI_snoc (l : List Int) (x : Int) : mkI (l ++ [x]) = Builtin.bitOr (mkI l) ((2 ^ x.toNat : Nat) : Int) := by unfold mkI; rw [List.foldl_append]; rfl
theorem rt_snoc (md : Nat → Int) (l : List Int) (x : Int) : rt md (l ++ [x]) = Builtin.bitOr (rt md l) (md x.toNat) := by unfold rt; rw [List.foldl_append]; rfl
theorem shlI {prog : Program} {w : World} {A : Around} {E : Value → Shared → Prop} {s : Shared} {x : Int} {t u : Tok} {Q : Value → Shared → Prop} (h0 : 0 ≤ x) (h4 : x < 4) (h : ∀ tz, Q (.int ((2 ^ x.toNat : Nat) : Int) tz) { s with toks := s.toks + 1 }) :
    wpAny (model prog w) A (binaryOp .LShift (.int 1 t) (.int x u)) Q E s := by
  have e : x = ((x.toNat : Nat) : Int) := (Int.toNat_of_nonneg h0).symm
  generalize hk : x.toNat = k at e h
  subst e
  exact shlN (by omega) h
theorem orT {prog : Program} {w : World} {A : Around} {E : Value → Shared → Prop} {s : Shared} {a b : Int} {t u : Tok} {Q : Value → Shared → Prop} (h : ∀ tz, Q (.int (Builtin.bitOr a b) tz) { s with toks := s.toks + 1 }) : wpAny (model prog w) A (binaryOp .BitOr (.int a t) (.int b u)) Q E s := or_int (h _)
/-- line[:-1] -/
theorem pick_last (l : List Value) : kms_pick l none (some (-1)) = l.dropLast := by
  unfold kms_pick
  rw [List.dropLast_eq_take]
  show List.take (kms_hi (some (-1)) l.length - 0) (List.drop 0 l) = _
  rw [List.drop_zero]
  congr 1
theorem ivals_dropLast (vs : List (Int × Tok)) : (ivals vs).dropLast = ivals vs.dropLast := by unfold ivals; rw [List.map_dropLast]
end Mine
namespace Mine
theorem News.upd {base h h' : Heap} {L D : Addr} {o o' : Obj} {l l' : List (Addr × Obj)} (N : News base L h l) (hm : (D, o) ∈ l) (hs : Heap.SameBut D h h') (ho : h'.get? D = some o') (hl : ∀ p ∈ l', p = (D, o') ∨ (p ∈ l ∧ p.1 ≠ D)) : News base L h' l' := fun p hp => by
  rcases hl p hp with rfl | ⟨h1, h2⟩
  · exact ⟨ho, (N _ hm).2⟩
  · exact ⟨(hs.2 _ h2).trans (N p h1).1, (N p h1).2⟩
/-- x[:-1] -/
theorem dropLast_at {prog : Program} {w : World} {A : Around} {E : Value → Shared → Prop} {s : Shared} {env : Env} {base : Heap} {m : Str → Option Value} {news : List (Addr × Obj)} {x : Str} {l : Addr} {vs : List (Int × Tok)} {k : Nat} {p1 p2 p3 p4 p5 : Pos} {Q : Value → Shared → Prop}
    (F : Fr base env.locals s.heap m) (N : News base env.locals s.heap news) (hm : m x = some (.ref l)) (hl : s.heap.IsList l (ivals vs).toArray) (hz : vs.length ≤ 8)
    (h : ∀ D h' tk', Fr base env.locals h' m → News base env.locals h' ((D, listOf (ivals vs.dropLast).toArray 0) :: news) → (∀ p ∈ news, p.1 < D) → Q (.ref D) { s with heap := h', toks := tk' })
    (hk : env.scope.kind = .function := by rfl) (hx : env.kindOf x = some .local := by rfl) (hd : (x == ("__debug__" : Str)) = false := by decide) :
    wpAny (model prog w) A (eval (.Subscript (.Name x p1) (.Slice none (some (.UnaryOp .USub (.Constant (.int 1) k p2) p3)) none p4) p5) env) Q E s := by
  refine Subscript_ (Mine.ldC F.ns hm ?_ hk hx hd)
  refine wpAny_Slice (wpAny_of_eq (evalPart_none _) ?_)
  refine UnaryOp_ (wpAny_Constant_int (PyProof.Rows.neg_int (wpAny_of_eq (evalPart_none _) ?_)))
  refine kms_slice_lit (s := { s with toks := s.toks + 1 + 1 }) (lo := none) (hi := some (-1)) (zs := ivals vs.dropLast) F N hl .none (.int _ _) ?_ (fun D h' F' N' lt => h D h' _ F' N' lt) ?_ (fun _ => rfl) ?_
  · rw [List.toList_toArray, pick_last, ivals_dropLast]
  · with_unfolding_all rfl
  · rw [List.size_toArray]; simp only [ivals, List.length_map]; exact Nat.le_trans hz (by decide)
/-- a call of _compare_args_orderless from law's own frame -/
theorem cmpAt {w : World} {p loose mean mg mb} {E : Value → Shared → Prop} {s : Shared} {base : Heap} {L fa a b : Addr} {scope : Scope} {m : Str → Option Value} {vs us : List (Int × Tok)} {Q : Value → Shared → Prop}
    (X : (hd.heap_39 w.params).In base) (T : Top p loose mean mg mb base)
    (hVE : Str.ofString "ValueError" ∉ loose ∧ Str.ofString "ValueError" ∉ (recsOf p).map (·.name) ∧ Str.ofString "ValueError" ∉ (litsOf p).map (·.1) ∧ Str.ofString "ValueError" ∉ (clssOf p loose).map (·.name))
    (hks : scope.kind = .function)
    (F : Fr base L s.heap m) (ha : s.heap.IsList a (ivals vs).toArray) (hb : s.heap.IsList b (ivals us).toArray) (h1 : vs.length ≤ 8) (h2 : us.length ≤ 8)
    (h : ∀ h' tk', Fr base L h' m → (∀ news, News base L s.heap news → News base L h' news) → Q (.bool (cmpo vs us)) { s with heap := h', toks := tk' }) :
    wpAny (model PySem.Challenge.rw_om0026_01.row.prog w) (callerA.deeper (envOfC (Str.ofString "law") scope L fa (.ref 111))) (call (.ref 92) [.ref a, .ref b]) Q E s := by
  obtain ⟨oL, es, ep, hL, hd, _⟩ := id F.ns
  refine wpAny_call (cmp_spec (envL := envOfC (Str.ofString "law") scope L fa (.ref 111)) (oL := oL) (hT := base) ?r1 ?r2 rfl h1 h2 ha hb rfl ?r3 rfl hL ?r4 F.keep (none_of_size F.above) ?r5 ?_ X T hVE)
  case r1 => exact Nat.le_of_ble_eq_true rfl
  case r2 => exact Nat.le_of_ble_eq_true rfl
  case r3 => show scope.kind ≠ _; rw [hks]; decide
  case r4 => intro vs e; rw [hd] at e; cases e
  case r5 => exact Nat.le_trans F.above (Nat.le_of_lt F.ns.lt)
  intro h' tk' k
  exact h h' tk' (Fr.keptS F k) fun news N => News.keptS N k
end Mine
namespace Mine
abbrev lamPos : Pos := ⟨125, 22, 125, 46⟩
abbrev lamQ : Str := Str.ofString "law" ++ ".<locals>." ++ "<lambda>"
def la (lrs : List Row) (j : Nat) : Addr := (lrs.getD j default).1
/-- firsts and folds behind i lines -/
structure St8 (T : Nat → Nat → Nat) (lrs : List Row) (fs : List Nat) (i : Nat) (fl : List Nat) (gs : List (Int × Tok)) : Prop where
  fl16 : fl.length = 16
  gs16 : gs.length = 16
  a : ∀ j, j < i → fl[mk (ln j)]? = some (la lrs (ft j)) ∧ ∃ t, gs[mk (ln j)]? = some (foldT T (ln (ft j)), t)
  b : ∀ k, k < 16 → (∀ j, j < i → mk (ln j) ≠ k) → ∃ f ∈ fs, fl[k]? = some f
/-- the names of law that a turn leaves -/
structure M8 (m' : Str → Option Value) (Dm Df Dg : Addr) (f b : Bool) : Prop where
  mo : m' (Str.ofString "modes") = some (.ref Dm)
  fa : m' (Str.ofString "faithful") = some (.bool f)
  fi : m' (Str.ofString "firsts") = some (.ref Df)
  fo : m' (Str.ofString "folds") = some (.ref Dg)
  bl : m' (Str.ofString "blind") = some (.bool b)
theorem M8.of {m m' : Str → Option Value} {Dm Df Dg : Addr} {f b : Bool} (x : M8 m Dm Df Dg f b) (h : ∀ y, y ∈ [Str.ofString "modes", Str.ofString "faithful", Str.ofString "firsts", Str.ofString "folds", Str.ofString "blind"] → m' y = m y) : M8 m' Dm Df Dg f b :=
  ⟨(h _ (by simp)).trans x.mo, (h _ (by simp)).trans x.fa, (h _ (by simp)).trans x.fi, (h _ (by simp)).trans x.fo, (h _ (by simp)).trans x.bl⟩
abbrev LD (ps : Array Value) (ext : List (Addr × Obj)) (Dg Df : Addr) (cg cf : Nat) (gs : List (Int × Tok)) (fl : List Nat) (R : List (Addr × Obj)) : List (Addr × Obj) :=
  (109, tabObj ps) :: (ext ++ ((Dg, listOf (ivals gs).toArray cg) :: (Df, listOf (fl.map Value.ref).toArray cf) :: R))
def J8 (T : Nat → Nat → Nat) (lrs : List Row) (fs : List Nat) (Dm Df Dg : Addr) (f : Bool) (R : List (Addr × Obj)) (i : Nat) (m' : Str → Option Value) (news : List (Addr × Obj)) : Prop :=
  ∃ ps ext gs cg fl cf, news = LD ps ext Dg Df cg cf gs fl R ∧ TabOk lamPos lamQ ps ext ∧ (∀ q ∈ ext, q.1 ≠ 109 ∧ q.1 ≠ Dg ∧ q.1 ≠ Df ∧ ∀ r ∈ R, r.1 ≠ q.1) ∧ M8 m' Dm Df Dg f (bl T i) ∧ St8 T lrs fs i fl gs
structure R8 (L Dm : Addr) (cm : Nat) (vs : List (Int × Tok)) (fs : List Nat) (lrs : List Row) (R : List (Addr × Obj)) : Prop where
  mo : (Dm, listOf (ivals vs).toArray cm) ∈ R
  em : ∀ f ∈ fs, (f, listOf #[] 0) ∈ R
  li : ∀ r ∈ lrs, (r.1, listOf (ivals r.2.1).toArray r.2.2) ∈ R
theorem awAll {ps : Array Value} {ext : List (Addr × Obj)} {Dg Df it : Addr} {cg cf : Nat} {gs : List (Int × Tok)} {fl : List Nat} {R : List (Addr × Obj)} (h1 : ∀ q ∈ ext, q.1 ≠ it) (h2 : 109 ≠ it) (h3 : Dg ≠ it) (h4 : Df ≠ it) (h5 : ∀ q ∈ R, q.1 ≠ it) : ∀ q ∈ LD ps ext Dg Df cg cf gs fl R, q.1 ≠ it := fun q hq => by
  simp only [List.mem_cons, List.mem_append] at hq
  rcases hq with rfl | e | rfl | rfl | e
  · exact h2
  · exact h1 q e
  · exact h3
  · exact h4
  · exact h5 q e
theorem turn8 {w : World} {p loose mean mg mb} {s : Shared} {base : Heap} {L fa a Dm Df Dg it : Addr} {cm i : Nat} {o : Obj} {rs lrs : List Row} {vs : List (Int × Tok)} {fs : List Nat} {m : Str → Option Value} {R news : List (Addr × Obj)} {md : Nat → Int} {f : Bool} {scope : Scope} {bd : List Stmt} {Q : Flow → Shared → Prop} {r : Row} {body : List Stmt} {h : Heap} {tk : Nat} {iter tgt : Expr} {fp : Pos}
   (hb : LawAt (hd.heap_39 w.params) body scope) (hbd : body[13]? = some (.For tgt iter bd [] fp))
   (X : (hd.heap_39 w.params).In base) (T : Top p loose mean mg mb base) (C : CodeHd base 111 109)
   (hVE : Str.ofString "ValueError" ∉ loose ∧ Str.ofString "ValueError" ∉ (recsOf p).map (·.name) ∧ Str.ofString "ValueError" ∉ (litsOf p).map (·.1) ∧ Str.ofString "ValueError" ∉ (clssOf p loose).map (·.name))
   (fx : Fix L a rs R) (r8 : R8 L Dm cm vs fs lrs R) (hvs : vs.map (·.1) = (List.range 4).map md)
   (hR : ∀ q ∈ R, q.1 ≠ 109 ∧ q.1 ≠ Df ∧ q.1 ≠ Dg) (hDD : Dg ≠ Df ∧ 109 ≠ Dg ∧ 109 ≠ Df)
   (hgood : f = true → ∀ i, i < 44 → md (foldT (TT rs) (ln i)).toNat = rt md (ln i))
   (hlr : lrs.map (fun r => r.2.1.map (·.1)) = linesL)
   (hi : i < 44) (hri : lrs[i]? = some r)
   (hJ : J8 (TT rs) lrs fs Dm Df Dg f R i m news)
   (F : Fr base L h (fun y => if y = Str.ofString "line" then some (.ref r.1) else m y)) (N : News base L h ((it, o) :: news)) (aw : ∀ q ∈ news, q.1 ≠ it) :
   wpAny (model PySem.Challenge.rw_om0026_01.row.prog w) (callerA.deeper (envOfC (Str.ofString "law") scope L fa (.ref 111))) (execs bd (envOfC (Str.ofString "law") scope L fa (.ref 111))) (TurnPost base L it o s (J8 (TT rs) lrs fs Dm Df Dg f R (i + 1)) Q) NoE { s with heap := h, toks := tk } := by
  w_on
  revert X T; k_fill; intro X T
  refine' LawAt.use (P := fun body scope => ∀ (_ : body[13]? = some (.For tgt iter bd [] fp)), wpAny (model PySem.Challenge.rw_om0026_01.row.prog w) (callerA.deeper (envOfC (Str.ofString "law") scope L fa (.ref 111))) (execs bd (envOfC (Str.ofString "law") scope L fa (.ref 111))) (TurnPost base L it o s (J8 (TT rs) lrs fs Dm Df Dg f R (i + 1)) Q) NoE { s with heap := h, toks := tk }) ?ho ?h hb hbd
  case ho => k_is
  clear hb hbd
  intro hbd
  replace hbd := Option.some.inj hbd
  injection hbd with _ _ hbd _ _
  subst hbd
  have hl44 : lrs.length = 44 := by have := congrArg List.length hlr; rw [lines_len] at this; simpa using this
  have hrm : r ∈ lrs := List.mem_of_getElem? hri
  have hlv : r.2.1.map (·.1) = ln i := by
    have e : (lrs.map (fun r => r.2.1.map (·.1)))[i]? = some (r.2.1.map (·.1)) := by rw [List.getElem?_map, hri]; rfl
    rw [hlr, ln_get hi] at e
    exact (Option.some.inj e).symm
  have hla : la lrs i = r.1 := by unfold la; rw [List.getD_eq_getElem?_getD, hri]; rfl
  obtain ⟨lnn, lnl, lnx, lk0, lk16⟩ := ln_ok i hi
  have hrl : r.2.1.length = (ln i).length := by rw [← hlv, List.length_map]
  obtain ⟨ps, ext, gs, cg, fl, cf, rfl, tok, sep, m8, st⟩ := hJ
  have nR : ∀ {h' : Heap} {pre : List (Addr × Obj)} {ps ext cg cf gs fl}, News base L h' (pre ++ LD ps ext Dg Df cg cf gs fl R) → ∀ q ∈ R, h'.get? q.1 = some q.2 := fun N q hq => (N q (List.mem_append_right _ (.tail _ (List.mem_append_right _ (.tail _ (.tail _ hq)))))).1
  refine wpAny_execs_cons (wpAny_Assign_Name (wpAny_Constant_int ?_))
  refine stL (env := envOfC (Str.ofString "law") _ L fa (.ref 111)) F N fun h1 F1 N1 => ?_
  refine wpAny_execs_cons (wpAny_Assign_Name (wpAny_Constant_int ?_))
  refine stL (env := envOfC (Str.ofString "law") _ L fa (.ref 111)) F1 N1 fun h2 F2 N2 => ?_
  clear F N F1 N1
  refine wpAny_execs_cons (wpAny_For (ldLoc F2 rfl ?_))
  have lineAt : ∀ {h' : Heap} {pre : List (Addr × Obj)} {ps ext cg cf gs fl}, News base L h' (pre ++ LD ps ext Dg Df cg cf gs fl R) → h'.IsList r.1 (ivals r.2.1).toArray := fun N => ⟨_, nR N _ (r8.li r hrm), rfl, _, rfl⟩
  refine loopList (base := base) (l := r.1) (ivals r.2.1) (fun k m' l => l = (it, o) :: LD ps ext Dg Df cg cf gs fl R ∧ M8 m' Dm Df Dg f (bl (TT rs) i) ∧ m' (Str.ofString "line") = some (.ref r.1) ∧ (∃ t, m' (Str.ofString "mask") = some (.int (mkI ((ln i).take k)) t)) ∧ ∃ t, m' (Str.ofString "rights") = some (.int (rt md ((ln i).take k)) t)) rfl rfl rfl (lineAt (pre := [(it, o)]) N2) ?src F2 N2 ⟨rfl, ?m0, rfl, ⟨_, rfl⟩, ⟨_, rfl⟩⟩ ?turn ?done
  case src =>
    rintro k h' m' _ _ ⟨rfl, _⟩ F N
    exact lineAt (pre := [(it, o)]) N
  case m0 =>
    refine m8.of fun y hy => ?_
    simp only [List.mem_cons, List.not_mem_nil, or_false] at hy
    rcases hy with rfl | rfl | rfl | rfl | rfl <;> rfl
  case turn =>
    clear F2 N2
    rintro k v m' _ it2 o2 h3 tk3 hv ⟨rfl, m8', hml, ⟨t1, hmk⟩, t2, hrt⟩ F N aw2
    obtain ⟨q, hq, rfl⟩ := ivals_get hv
    obtain ⟨qv, qt⟩ := q
    have hqk : (ln i)[k]? = some qv := by rw [← hlv, List.getElem?_map, hq]; rfl
    obtain ⟨q0, q4⟩ := lnx qv (List.mem_of_getElem? hqk)
    have etk : (ln i).take (k + 1) = (ln i).take k ++ [qv] := by rw [List.take_add_one, hqk]; rfl
    refine wpAny_execs_cons (wpAny_Assign_Name (wpAny_BinOp (ldLoc F ((if_neg (by decide)).trans hmk) (wpAny_BinOp (wpAny_Constant_int (ldLoc F (if_pos rfl) (shlI q0 q4 fun tz => ?_)))))))
    refine orT fun tx => ?_
    refine stL (env := envOfC (Str.ofString "law") _ L fa (.ref 111)) F N fun h4 F4 N4 => ?_
    obtain ⟨tm, gm⟩ := ints_getI hvs (show qv.toNat < 4 by omega)
    have hM : h4.IsList Dm (ivals vs).toArray := ⟨_, nR (pre := [(it2, o2), (it, o)]) N4 _ r8.mo, rfl, _, rfl⟩
    refine wpAny_execs_cons (wpAny_Assign_Name (wpAny_BinOp (ldLoc F4 ((if_neg (by decide)).trans ((if_neg (by decide)).trans hrt)) (Subscript_ (ldLoc F4 ((if_neg (by decide)).trans ((if_neg (by decide)).trans m8'.mo)) (ldLoc F4 ((if_neg (by decide)).trans (if_pos rfl)) ?_))))))
    refine item_list (x := .int (md qv.toNat) tm) hM q0 (by omega) (by simp [ivals, gm]) (orT fun ty => ?_)
    refine stL (env := envOfC (Str.ofString "law") _ L fa (.ref 111)) F4 N4 fun h5 F5 N5 => ?_
    refine wpAny_execs_nil ?_
    refine ⟨h5, _, _, _, rfl, F5, N5, aw2, rfl, ?_, hml, ⟨tx, ?_⟩, ⟨ty, ?_⟩⟩
    · refine m8'.of fun y hy => ?_
      simp only [List.mem_cons, List.not_mem_nil, or_false] at hy
      rcases hy with rfl | rfl | rfl | rfl | rfl <;> rfl
    · rw [etk, mkI_snoc]; exact (if_neg (by decide)).trans (if_pos rfl)
    · rw [etk, rt_snoc]; exact if_pos rfl
  case done =>
    clear F2 N2
    rintro m3 _ h3 tk3 ⟨rfl, m8', hml, ⟨t1, hmk⟩, t2, hrt⟩ F N
    have etk : (ln i).take (ivals r.2.1).length = ln i := by rw [show (ivals r.2.1).length = (ln i).length by rw [← hrl]; simp [ivals]]; exact List.take_length
    rw [etk] at hmk hrt
    clear etk m8
    have hTlt : ∀ a b, a < 4 → b < 4 → TT rs a b < 4 := fun a b ha hb => by obtain ⟨_, _, _, _, _, q⟩ := TT_get fx.ok ha hb; exact q
    have N' : News base L h3 ((109, tabObj ps) :: (ext ++ ((it, o) :: (Dg, listOf (ivals gs).toArray cg) :: (Df, listOf (fl.map Value.ref).toArray cf) :: R))) := News.sub N fun q hq => by
      simp only [List.mem_cons, List.mem_append] at hq ⊢
      rcases hq with e | e | e | e | e | e
      · exact .inr (.inl e)
      · exact .inr (.inr (.inl e))
      · exact .inl e
      · exact .inr (.inr (.inr (.inl e)))
      · exact .inr (.inr (.inr (.inr (.inl e))))
      · exact .inr (.inr (.inr (.inr (.inr e))))
    have awR : ∀ q ∈ R, q.1 ≠ it := fun q hq => aw q (.tail _ (List.mem_append_right _ (.tail _ (.tail _ hq))))
    have awE : ∀ q ∈ ext, q.1 ≠ it := fun q hq => aw q (.tail _ (List.mem_append_left _ hq))
    have aw9 : 109 ≠ it := aw (109, tabObj ps) (.head _)
    have awg : Dg ≠ it := aw (Dg, listOf (ivals gs).toArray cg) (.tail _ (List.mem_append_right _ (.head _)))
    have awf : Df ≠ it := aw (Df, listOf (fl.map Value.ref).toArray cf) (.tail _ (List.mem_append_right _ (.tail _ (.head _))))
    refine wpAny_execs_cons (wpAny_Assign_Name (wpAny_Call_NameR (nmG X T F.keep (by k_is) (callG X (by k_is) (spliced_more (lamMake F N' T C tok ?hr ?he rfl rfl rfl (fun _ => rfl) ?_))))))
    case hr =>
      intro q hq
      simp only [List.mem_cons] at hq
      rcases hq with rfl | rfl | rfl | e
      · exact Ne.symm aw9
      · exact Ne.symm hDD.2.1
      · exact Ne.symm hDD.2.2
      · exact (hR q e).1
    case he =>
      intro q hq
      refine ⟨(sep q hq).1, fun r' hr' => ?_⟩
      simp only [List.mem_cons] at hr'
      rcases hr' with rfl | rfl | rfl | e
      · exact Ne.symm (awE q hq)
      · exact Ne.symm (sep q hq).2.1
      · exact Ne.symm (sep q hq).2.2.1
      · exact (sep q hq).2.2.2 r' e
    intro lf c' ctv ps' ext' h4 tk4 tok' he' F4 N4 crec hne
    have nR4 : ∀ q ∈ R, h4.get? q.1 = some q.2 := fun q hq => (N4 q (.tail _ (.tail _ (List.mem_append_right _ (.tail _ (.tail _ (.tail _ hq))))))).1
    have nlf := N4 _ (.head _)
    refine spliced_more (ldLoc F4 hml (spliced_none ⟨F4.keep, ?_⟩))
    have hL4 : h4.IsList r.1 (ivals r.2.1).toArray := ⟨_, nR4 _ (r8.li r hrm), rfl, _, rfl⟩
    obtain ⟨x0, xs0, hx0⟩ : ∃ x xs, r.2.1 = x :: xs := by
      cases hq : r.2.1 with
      | nil => rw [hq] at hlv; exact absurd hlv.symm lnn
      | cons x xs => exact ⟨x, xs, rfl⟩
    have hl0 : ln i = x0.1 :: xs0.map (·.1) := by rw [← hlv, hx0]; rfl
    have hxs0 : ∀ q ∈ xs0, 0 ≤ q.1 ∧ q.1 < 4 := fun q hq => lnx _ (by rw [hl0]; exact .tail _ (List.mem_map_of_mem hq))
    have X4 := Keep.frag F4.keep X
    have T4 := T.keeps F4.keep
    refine wpAny_call (reduce_spec (x := x0) (xs := xs0) (f := fun a b => (TT rs a.toNat b.toNat : Int)) (P := fun a => 0 ≤ a ∧ a < 4) ?r1 ?r2 rfl ?r3 (hx0 ▸ hL4) (lnx _ (by rw [hl0]; exact .head _)) hxs0 ?r4 nlf.1 rfl ?r5 ?_ X4 T4)
    case r1 => exact Nat.le_of_ble_eq_true rfl
    case r2 => exact Nat.le_of_ble_eq_true rfl
    case r3 => rw [hl0] at lnl; simp at lnl; omega
    case r4 =>
      intro a b ha hb
      have := hTlt a.toNat b.toNat (by omega) (by omega)
      exact ⟨by omega, by omega⟩
    case r5 =>
      intro env s' a b ta tb R' k ha hb hret
      refine lamCall (Nat.le_of_ble_eq_true rfl) (k _ _ nlf.1) (crec.keeps k) ((T4.keeps k).nolimit) (fx.cell fun q hq => k _ _ (nR4 q hq)) (fx.list fun q hq => k _ _ (nR4 q hq)) (fun r' hr' => fx.row (fun q hq => k _ _ (nR4 q hq)) hr') fx.ok ha hb hret
    intro t5 h5 tk5 k5
    have efold : xs0.foldl (fun acc q => (TT rs acc.toNat q.1.toNat : Int)) x0.1 = foldT (TT rs) (ln i) := by
      rw [hl0]
      show _ = List.foldl (fun acc y => (TT rs acc.toNat y.toNat : Int)) x0.1 (xs0.map (·.1))
      rw [List.foldl_map]
    rw [efold]
    refine stL (env := envOfC (Str.ofString "law") _ L fa (.ref 111)) (Fr.kept F4 k5) (News.kept N4 k5) fun h6 F6 N6' => ?_
    have N6 : News base L h6 ((it, o) :: LD ps' ext' Dg Df cg cf gs fl R) := News.sub N6' fun q hq => by
      simp only [List.mem_cons, List.mem_append] at hq ⊢
      rcases hq with e | e | e | e | e | e
      · exact .inr (.inr (.inr (.inl e)))
      · exact .inr (.inl e)
      · exact .inr (.inr (.inl e))
      · exact .inr (.inr (.inr (.inr (.inl e))))
      · exact .inr (.inr (.inr (.inr (.inr (.inl e)))))
      · exact .inr (.inr (.inr (.inr (.inr (.inr e)))))
    have sep' : ∀ q ∈ ext', q.1 ≠ 109 ∧ q.1 ≠ Dg ∧ q.1 ≠ Df ∧ ∀ r ∈ R, r.1 ≠ q.1 := fun q hq => ⟨(he' q hq).1, Ne.symm ((he' q hq).2 (Dg, listOf (ivals gs).toArray cg) (.tail _ (.head _))), Ne.symm ((he' q hq).2 (Df, listOf (fl.map Value.ref).toArray cf) (.tail _ (.tail _ (.head _)))), fun r' hr' => (he' q hq).2 r' (.tail _ (.tail _ (.tail _ hr')))⟩
    have awE' : ∀ q ∈ ext', q.1 ≠ it := fun q hq => Ne.symm ((he' q hq).2 (it, o) (.head _))
    clear N N' N4 N6' F F4 he' hne crec tok sep awE
    have hf0 := foldT_ok hTlt lnn lnx
    have hm6 : M8 (fun y => if y = Str.ofString "told" then some (Value.int (foldT (TT rs) (ln i)) t5) else m3 y) Dm Df Dg f (bl (TT rs) i) := m8'.of fun y hy => by
      simp only [List.mem_cons, List.not_mem_nil, or_false] at hy
      rcases hy with rfl | rfl | rfl | rfl | rfl <;> rfl
    have hto : (fun y => if y = Str.ofString "told" then some (Value.int (foldT (TT rs) (ln i)) t5) else m3 y) (Str.ofString "told") = some (Value.int (foldT (TT rs) (ln i)) t5) := if_pos rfl
    have hli : (fun y => if y = Str.ofString "told" then some (Value.int (foldT (TT rs) (ln i)) t5) else m3 y) (Str.ofString "line") = some (.ref r.1) := hml
    have hma : (fun y => if y = Str.ofString "told" then some (Value.int (foldT (TT rs) (ln i)) t5) else m3 y) (Str.ofString "mask") = some (.int (mkI (ln i)) t1) := hmk
    have hri2 : (fun y => if y = Str.ofString "told" then some (Value.int (foldT (TT rs) (ln i)) t5) else m3 y) (Str.ofString "rights") = some (.int (rt md (ln i)) t2) := hrt
    generalize (fun y => if y = Str.ofString "told" then some (Value.int (foldT (TT rs) (ln i)) t5) else m3 y) = m6 at F6 hm6 hto hli hma hri2
    clear hml hmk hrt m8'
    have nR6 : ∀ q ∈ R, h6.get? q.1 = some q.2 := nR (pre := [(it, o)]) N6
    have hM : h6.IsList Dm (ivals vs).toArray := ⟨_, nR6 _ r8.mo, rfl, _, rfl⟩
    refine wpAny_execs_cons (wpAny_mono (Q := fun fl s' => fl = .next ∧ ∃ tk, s' = { s with heap := h6, toks := tk }) (wpAny_If (isTrue_and (wpAny_isTrue_value (ldLoc F6 hm6.fa (wpAny_truthy_bool ?_))))) ?rest fun _ _ x => x)
    · cases f with
      | false => exact if_f rfl (if_f rfl (wpAny_execs_nil ⟨rfl, _, rfl⟩))
      | true =>
        refine if_t rfl ?_
        obtain ⟨tm, gm⟩ := ints_getI hvs (show (foldT (TT rs) (ln i)).toNat < 4 by omega)
        refine isTrue_and (wpAny_isTrue_Compare1 (Subscript_ (ldLoc F6 hm6.mo (ldLoc F6 hto ?_))))
        refine item_list (x := .int (md (foldT (TT rs) (ln i)).toNat) tm) hM hf0.1 (by omega) (by simp [ivals, gm]) ?_
        refine ldLoc F6 hri2 (PyProof.Rows.ne_int (wpAny_truthy_bool ?_))
        have e : (md (foldT (TT rs) (ln i)).toNat != rt md (ln i)) = false := by rw [hgood rfl i hi]; simp
        rw [e]
        exact if_f rfl (if_f rfl (wpAny_execs_nil ⟨rfl, _, rfl⟩))
    case rest =>
    rintro _ _ ⟨rfl, tk6, rfl⟩
    dsimp only
    obtain ⟨hft1, hft2, hft3⟩ := ft_ok i hi
    have hmk : (mkI (ln i)).toNat = mk (ln i) := rfl
    have hk16 : mk (ln i) < 16 := by rw [← hmk]; omega
    have nDf := N6 (Df, listOf (fl.map Value.ref).toArray cf) (.tail _ (.tail _ (List.mem_append_right _ (.tail _ (.head _)))))
    have nDg := N6 (Dg, listOf (ivals gs).toArray cg) (.tail _ (.tail _ (List.mem_append_right _ (.head _))))
    have blS : bl (TT rs) (i + 1) = (bl (TT rs) i && (foldT (TT rs) (ln i) == foldT (TT rs) (ln (ft i)))) := all_succ _ i
    by_cases hft : ft i = i
    · obtain ⟨fe, hfe, hfl⟩ := st.b (mk (ln i)) hk16 (ft_first i hi hft)
      refine wpAny_execs_cons (wpAny_If (wpAny_isTrue_Compare1 (Subscript_ (ldLoc F6 hm6.fi (ldLoc F6 hma ?_)))))
      refine item_list (x := .ref fe) ⟨_, nDf.1, rfl, _, rfl⟩ lk0 (by omega) (by rw [hmk]; simp [hfl]) ?_
      refine wpAny_List (spliced_none ⟨Nat.le_of_ble_eq_true rfl, ?_⟩)
      have kp : Keep h6 (h6.push { cls := .type "list", data := .seq [].toArray }) := fun b o e => Heap.get?_push_of_some _ e
      refine ke_eq_ints (xs := []) (ys := []) (ns := []) (ms := []) ⟨_, kp _ _ (nR6 _ (r8.em fe hfe)), rfl, _, rfl⟩ ⟨_, Heap.get?_push_size _ rfl, rfl, _, rfl⟩ .nil .nil (Nat.le_of_ble_eq_true rfl) (wpAny_truthy_bool ?_)
      refine if_t (by decide) ?_
      have F7 := Fr.kept F6 kp
      have N7 := News.kept N6 kp
      generalize h6.push { cls := .type "list", data := .seq [].toArray } = h7 at F7 N7
      clear F6 N6 nDf nDg hM nR6 kp
      have c1 := (ft_cmp i hi).1 hft
      have rl8 : r.2.1.length ≤ 8 := by omega
      have rd8 : r.2.1.dropLast.length ≤ 8 := by rw [List.length_dropLast]; omega
      have ed : r.2.1.dropLast.map (·.1) = (ln i).dropLast := by rw [← hlv, List.map_dropLast]
      refine wpAny_execs_cons (wpAny_mono (Q := fun fl' s' => fl' = .next ∧ ∃ h tk, s' = { s with heap := h, toks := tk } ∧ Fr base L h m6 ∧ News base L h ((it, o) :: LD ps' ext' Dg Df cg cf gs fl R)) (wpAny_If (isTrue_or (wpAny_isTrue_value (wpAny_Call_NameR (nmG X T F7.keep (by k_is) (callG X (by k_is) (spliced_more (dropLast_at (env := envOfC (Str.ofString "law") _ L fa (.ref 111)) F7 N7 hli (lineAt (pre := [(it, o)]) N7) rl8 ?_)))))))) ?rest2 fun _ _ x => x)
      · intro D8 h8 tk8 F8 N8 lt8
        refine spliced_more (ldLoc F8 hli (spliced_none ⟨F8.keep, ?_⟩))
        refine cmpAt X T hVE rfl F8 ⟨_, (N8 _ (.head _)).1, rfl, _, rfl⟩ (lineAt (pre := [_, (it, o)]) N8) rd8 rl8 fun h9 tk9 F9 k9 => ?_
        have N9 := News.sub (k9 _ N8) fun q hq => List.mem_cons_of_mem _ hq
        rw [cmpo_I ed hlv, c1.1]
        refine wpAny_truthy_bool (if_f rfl ?_)
        refine isTrue_or (wpAny_isTrue_value (wpAny_Call_NameR (nmG X T F9.keep (by k_is) (callG X (by k_is) (spliced_more (ldLoc F9 hli (spliced_more (dropLast_at (env := envOfC (Str.ofString "law") _ L fa (.ref 111)) F9 N9 hli (lineAt (pre := [(it, o)]) N9) rl8 ?_))))))))
        intro D10 h10 tk10 F10 N10 lt10
        refine spliced_none ⟨F10.keep, ?_⟩
        refine cmpAt X T hVE rfl F10 (lineAt (pre := [_, (it, o)]) N10) ⟨_, (N10 _ (.head _)).1, rfl, _, rfl⟩ rl8 rd8 fun h11 tk11 F11 k11 => ?_
        have N11 := News.sub (k11 _ N10) fun q hq => List.mem_cons_of_mem _ hq
        rw [cmpo_I hlv ed, c1.2]
        refine wpAny_truthy_bool (if_f rfl ?_)
        refine isTrue_or_nil (if_f rfl ?_)
        exact wpAny_execs_nil ⟨rfl, h11, _, rfl, F11, N11⟩
      case rest2 =>
      rintro _ _ ⟨rfl, h8, tk8, rfl, F8, N8⟩
      dsimp only
      have nDf := N8 (Df, listOf (fl.map Value.ref).toArray cf) (.tail _ (.tail _ (List.mem_append_right _ (.tail _ (.head _)))))
      refine wpAny_execs_cons (wpAny_Assign_Subscript (ldLoc F8 hli (ldLoc F8 hm6.fi (ldLoc F8 hma ?_))))
      refine setAt nDf.1 lk0 (by omega) (by simp [st.fl16]; exact lk16) fun h9 hs9 ho9 => ?_
      have e9 : (fl.map Value.ref).toArray.setIfInBounds (mkI (ln i)).toNat (Value.ref r.1) = ((fl.set (mk (ln i)) r.1).map Value.ref).toArray := by rw [hmk]; simp [List.map_set]
      rw [e9] at ho9
      have F9 := F8.change hs9 nDf.2.1 nDf.2.2
      have N9 : News base L h9 ((it, o) :: LD ps' ext' Dg Df cg cf gs (fl.set (mk (ln i)) r.1) R) := News.upd (D := Df) (o := listOf (fl.map Value.ref).toArray cf) N8 (by simp) hs9 ho9 fun q hq => by
        simp only [List.mem_cons, List.mem_append] at hq ⊢
        rcases hq with rfl | rfl | e | rfl | rfl | e
        · exact .inr ⟨.inl rfl, Ne.symm awf⟩
        · exact .inr ⟨.inr (.inl rfl), hDD.2.2⟩
        · exact .inr ⟨.inr (.inr (.inl e)), (sep' q e).2.2.1⟩
        · exact .inr ⟨.inr (.inr (.inr (.inl rfl))), hDD.1⟩
        · exact .inl rfl
        · exact .inr ⟨.inr (.inr (.inr (.inr (.inr e)))), (hR q e).2.1⟩
      have nDg := N9 (Dg, listOf (ivals gs).toArray cg) (.tail _ (.tail _ (List.mem_append_right _ (.head _))))
      refine wpAny_execs_cons (wpAny_Assign_Subscript (ldLoc F9 hto (ldLoc F9 hm6.fo (ldLoc F9 hma ?_))))
      refine setAt nDg.1 lk0 (by omega) (by simp [ivals, st.gs16]; exact lk16) fun h10 hs10 ho10 => ?_
      rw [ivals_set _ _ (foldT (TT rs) (ln i), t5), hmk] at ho10
      have F10 := F9.change hs10 nDg.2.1 nDg.2.2
      have N10 : News base L h10 ((it, o) :: LD ps' ext' Dg Df cg cf (gs.set (mk (ln i)) (foldT (TT rs) (ln i), t5)) (fl.set (mk (ln i)) r.1) R) := News.upd (D := Dg) (o := listOf (ivals gs).toArray cg) N9 (by simp) hs10 ho10 fun q hq => by
        simp only [List.mem_cons, List.mem_append] at hq ⊢
        rcases hq with rfl | rfl | e | rfl | rfl | e
        · exact .inr ⟨.inl rfl, Ne.symm awg⟩
        · exact .inr ⟨.inr (.inl rfl), hDD.2.1⟩
        · exact .inr ⟨.inr (.inr (.inl e)), (sep' q e).2.1⟩
        · exact .inl rfl
        · exact .inr ⟨.inr (.inr (.inr (.inr (.inl rfl)))), Ne.symm hDD.1⟩
        · exact .inr ⟨.inr (.inr (.inr (.inr (.inr e)))), (hR q e).2.2⟩
      refine wpAny_execs_nil ?_
      refine wpAny_execs_nil ?_
      refine ⟨h10, _, m6, _, rfl, F10, N10, ?_, ps', ext', _, cg, _, cf, rfl, tok', sep', ?_, ?_, ?_, ?_, ?_⟩
      · exact awAll awE' aw9 awg awf awR
      · rw [blS, hft, beq_self_eq_true, Bool.and_true]; exact hm6
      · rw [List.length_set]; exact st.fl16
      · rw [List.length_set]; exact st.gs16
      · intro j hj
        by_cases hji : j = i
        · subst hji
          rw [hft, hla]
          exact ⟨by rw [List.getElem?_set_self (by rw [st.fl16]; exact hk16)], t5, by rw [List.getElem?_set_self (by rw [st.gs16]; exact hk16)]⟩
        · have hji' : j < i := by omega
          have hne := ft_first i hi hft j hji'
          rw [List.getElem?_set_ne (Ne.symm hne), List.getElem?_set_ne (Ne.symm hne)]
          exact st.a j hji'
      · intro k hk hkj
        rw [List.getElem?_set_ne (hkj i (Nat.lt_succ_self _))]
        exact st.b k hk fun j hj => hkj j (Nat.lt_succ_of_lt hj)
    · have hlt : ft i < i := by omega
      obtain ⟨sa1, tg, sa2⟩ := st.a (ft i) hlt
      rw [hft2, hft3] at sa1 sa2
      have hf44 : ft i < 44 := by omega
      obtain ⟨r', hr', hr'm⟩ : ∃ r', lrs[ft i]? = some r' ∧ r' ∈ lrs := ⟨_, List.getElem?_eq_getElem (by rw [hl44]; exact hf44), List.getElem_mem _⟩
      have hla' : la lrs (ft i) = r'.1 := by unfold la; rw [List.getD_eq_getElem?_getD, hr']; rfl
      have hlv' : r'.2.1.map (·.1) = ln (ft i) := by
        have e : (lrs.map (fun r => r.2.1.map (·.1)))[ft i]? = some (r'.2.1.map (·.1)) := by rw [List.getElem?_map, hr']; rfl
        rw [hlr, ln_get hf44] at e
        exact (Option.some.inj e).symm
      obtain ⟨lnn', lnl', _⟩ := ln_ok (ft i) hf44
      have hrl' : r'.2.1.length = (ln (ft i)).length := by rw [← hlv', List.length_map]
      rw [hla'] at sa1
      have lineAt' : ∀ {h' : Heap} {pre : List (Addr × Obj)} {ps ext cg cf gs fl}, News base L h' (pre ++ LD ps ext Dg Df cg cf gs fl R) → h'.IsList r'.1 (ivals r'.2.1).toArray := fun N => ⟨_, nR N _ (r8.li r' hr'm), rfl, _, rfl⟩
      refine wpAny_execs_cons (wpAny_If (wpAny_isTrue_Compare1 (Subscript_ (ldLoc F6 hm6.fi (ldLoc F6 hma ?_)))))
      refine item_list (x := .ref r'.1) ⟨_, nDf.1, rfl, _, rfl⟩ lk0 (by omega) (by rw [hmk]; simp [sa1]) ?_
      refine wpAny_List (spliced_none ⟨Nat.le_of_ble_eq_true rfl, ?_⟩)
      have kp : Keep h6 (h6.push { cls := .type "list", data := .seq [].toArray }) := fun b o e => Heap.get?_push_of_some _ e
      refine ke_eq_ints (xs := ivals r'.2.1) (ys := []) (ns := ln (ft i)) (ms := []) (Keep.isList kp (lineAt' (pre := [(it, o)]) N6)) ⟨_, Heap.get?_push_size _ rfl, rfl, _, rfl⟩ (hlv' ▸ intsAre_i _) .nil (Nat.le_of_ble_eq_true rfl) (wpAny_truthy_bool ?_)
      refine if_f (decide_eq_false lnn') ?_
      have F7 := Fr.kept F6 kp
      have N7 := News.kept N6 kp
      generalize h6.push { cls := .type "list", data := .seq [].toArray } = h7 at F7 N7
      clear F6 N6 nDf nDg hM nR6 kp
      have nDf := N7 (Df, listOf (fl.map Value.ref).toArray cf) (.tail _ (.tail _ (List.mem_append_right _ (.tail _ (.head _)))))
      refine wpAny_execs_cons (wpAny_If (isTrue_not (wpAny_isTrue_value (wpAny_Call_NameR (nmG X T F7.keep (by k_is) (callG X (by k_is) (spliced_more (Subscript_ (ldLoc F7 hm6.fi (ldLoc F7 hma ?_))))))))))
      refine item_list (x := .ref r'.1) ⟨_, nDf.1, rfl, _, rfl⟩ lk0 (by omega) (by rw [hmk]; simp [sa1]) ?_
      refine spliced_more (ldLoc F7 hli (spliced_none ⟨F7.keep, ?_⟩))
      refine cmpAt X T hVE rfl F7 (lineAt' (pre := [(it, o)]) N7) (lineAt (pre := [(it, o)]) N7) (by omega) (by omega) fun h8 tk8 F8 k8 => ?_
      have N8 := k8 _ N7
      rw [cmpo_I hlv' hlv, (ft_cmp i hi).2 hft]
      refine wpAny_truthy_bool (if_f rfl ?_)
      have nDg := N8 (Dg, listOf (ivals gs).toArray cg) (.tail _ (.tail _ (List.mem_append_right _ (.head _))))
      refine wpAny_execs_cons (wpAny_If (wpAny_isTrue_Compare1 (ldLoc F8 hto (Subscript_ (ldLoc F8 hm6.fo (ldLoc F8 hma ?_))))))
      refine item_list (x := .int (foldT (TT rs) (ln (ft i))) tg) ⟨_, nDg.1, rfl, _, rfl⟩ lk0 (by omega) (by rw [hmk]; simp [ivals, sa2]) ?_
      refine PyProof.Rows.ne_int (wpAny_truthy_bool ?_)
      have stN : St8 (TT rs) lrs fs (i + 1) fl gs := by
        refine ⟨st.fl16, st.gs16, fun j hj => ?_, fun k hk hkj => st.b k hk fun j hj => hkj j (Nat.lt_succ_of_lt hj)⟩
        by_cases hji : j = i
        · subst hji
          rw [hla']
          exact ⟨sa1, tg, sa2⟩
        · exact st.a j (by omega)
      cases hq : (foldT (TT rs) (ln i) == foldT (TT rs) (ln (ft i))) with
      | true =>
        refine if_f (by rw [bne, hq]; rfl) ?_
        refine wpAny_execs_nil (wpAny_execs_nil (wpAny_execs_nil (wpAny_execs_nil ?_)))
        refine ⟨h8, _, m6, _, rfl, F8, N8, awAll awE' aw9 awg awf awR, ps', ext', _, cg, _, cf, rfl, tok', sep', ?_, stN⟩
        rw [blS, hq, Bool.and_true]; exact hm6
      | false =>
        refine if_t (by rw [bne, hq]; rfl) ?_
        refine wpAny_execs_cons (wpAny_Assign_Name (wpAny_Constant_bool ?_))
        refine stL (env := envOfC (Str.ofString "law") _ L fa (.ref 111)) F8 N8 fun h9 F9 N9 => ?_
        refine wpAny_execs_nil (wpAny_execs_nil (wpAny_execs_nil (wpAny_execs_nil ?_)))
        refine ⟨h9, _, _, _, rfl, F9, N9, awAll awE' aw9 awg awf awR, ps', ext', _, cg, _, cf, rfl, tok', sep', ?_, stN⟩
        rw [blS, hq, Bool.and_false]
        exact ⟨hm6.mo, hm6.fa, hm6.fi, hm6.fo, if_pos rfl⟩
end Mine
namespace Mine
theorem part8 {w : World} {p loose mean mg mb} {s : Shared} {base : Heap} {L fa a Dm Df Dg : Addr} {cm cf cg : Nat} {rs : List Row} {vs gs : List (Int × Tok)} {fs : List Nat} {m : Str → Option Value} {R : List (Addr × Obj)} {md : Nat → Int} {f : Bool} {scope : Scope} {body : List Stmt} {E : Value → Shared → Prop}
   (hb : LawAt (hd.heap_39 w.params) body scope)
   (X : (hd.heap_39 w.params).In base) (T : Top p loose mean mg mb base) (C : CodeHd base 111 109)
   (hVE : Str.ofString "ValueError" ∉ loose ∧ Str.ofString "ValueError" ∉ (recsOf p).map (·.name) ∧ Str.ofString "ValueError" ∉ (litsOf p).map (·.1) ∧ Str.ofString "ValueError" ∉ (clssOf p loose).map (·.name))
   (fx : Fix L a rs R) (hmo : (Dm, listOf (ivals vs).toArray cm) ∈ R) (hem : ∀ f ∈ fs, (f, listOf #[] 0) ∈ R) (hvs : vs.map (·.1) = (List.range 4).map md)
   (hR : ∀ q ∈ R, q.1 ≠ 109 ∧ q.1 ≠ Df ∧ q.1 ≠ Dg) (hDD : Dg ≠ Df ∧ 109 ≠ Dg ∧ 109 ≠ Df) (hfl : fs.length = 16) (hgl : gs.length = 16)
   (hgood : f = true → ∀ i, i < 44 → md (foldT (TT rs) (ln i)).toNat = rt md (ln i))
   (m8 : M8 m Dm Df Dg f true)
   (F : Fr base L s.heap m) (N : News base L s.heap (LD #[] [] Dg Df cg cf gs fs R)) :
   wpAny (model PySem.Challenge.rw_om0026_01.row.prog w) (callerA.deeper (envOfC (Str.ofString "law") scope L fa (.ref 111))) (execs (body.drop 13) (envOfC (Str.ofString "law") scope L fa (.ref 111))) (fun fl s' => Box (fl = .ret (.bool (bl (TT rs) 44 == f)) ∧ ∃ h tk m' ps, s' = { s with heap := h, toks := tk } ∧ Fr base L h m' ∧ News base L h [(109, tabObj ps)])) E s := by
  w_on
  revert X T; k_fill; intro X T
  refine' LawAt.use (P := fun body scope => ∀ (_ : LawAt (hd.heap_39 w.params) body scope), wpAny (model PySem.Challenge.rw_om0026_01.row.prog w) (callerA.deeper (envOfC (Str.ofString "law") scope L fa (.ref 111))) (execs (body.drop 13) (envOfC (Str.ofString "law") scope L fa (.ref 111))) (fun fl s' => Box (fl = .ret (.bool (bl (TT rs) 44 == f)) ∧ ∃ h tk m' ps, s' = { s with heap := h, toks := tk } ∧ Fr base L h m' ∧ News base L h [(109, tabObj ps)])) E s) ?ho ?h hb hb
  case ho => k_is
  clear hb
  intro hb
  dsimp only [List.take, List.drop]
  refine wpAny_execs_cons (wpAny_For ?_)
  refine wpAny_Call_NameR (nmG X T F.keep (by k_is) (callG0 X F.keep (by k_is) ?_))
  refine wpAny_call (lines_spec ?r1 ?r2 rfl ?_ (Keep.frag F.keep X) (T.keeps F.keep))
  case r1 => exact Nat.le_of_ble_eq_true rfl
  case r2 => exact Nat.le_of_ble_eq_true rfl
  intro Dn cn lrs h1 tk1 k1 hDn hDo hlr hrows
  have F1 := Fr.kept F k1
  have N1 := News.kept N k1
  have hl44 : lrs.length = 44 := by have := congrArg List.length hlr; rw [lines_len] at this; simpa using this
  have hfr : ∀ q ∈ LD #[] [] Dg Df cg cf gs fs R, ∀ b, s.heap.get? b = none → b ≠ q.1 := fun q hq b hb e => by
    have := (N q hq).1
    rw [← e, hb] at this
    cases this
  have n9 : ∀ b, s.heap.get? b = none → b ≠ 109 ∧ b ≠ Df ∧ b ≠ Dg := fun b hb => ⟨hfr (109, tabObj #[]) (.head _) b hb, hfr (Df, listOf (fs.map Value.ref).toArray cf) (.tail _ (.tail _ (.head _))) b hb, hfr (Dg, listOf (ivals gs).toArray cg) (.tail _ (.head _)) b hb⟩
  have N2 : News base L h1 (LD #[] [] Dg Df cg cf gs fs ((Dn, listOf (lrs.map (fun r => Value.ref r.1)).toArray cn) :: (rowNews lrs ++ R))) := by
    have z := News.add F (News.addAll F N1 (rowNews lrs) (fun q hq => by
      obtain ⟨r, hr, rfl⟩ := List.mem_map.mp hq
      exact hrows r hr)) hDn hDo
    refine News.sub z fun q hq => ?_
    simp only [List.mem_cons, List.mem_append, List.nil_append] at hq ⊢
    rcases hq with e | e | e | e | e | e
    · exact .inr (.inr (.inl e))
    · exact .inr (.inr (.inr (.inl e)))
    · exact .inr (.inr (.inr (.inr (.inl e))))
    · exact .inl e
    · exact .inr (.inl e)
    · exact .inr (.inr (.inr (.inr (.inr e))))
  have fx' : Fix L a rs ((Dn, listOf (lrs.map (fun r => Value.ref r.1)).toArray cn) :: (rowNews lrs ++ R)) := by
    have up : ∀ q ∈ R, q ∈ (Dn, listOf (lrs.map (fun r => Value.ref r.1)).toArray cn) :: (rowNews lrs ++ R) := fun q hq => .tail _ (List.mem_append_right _ hq)
    exact ⟨let ⟨o3, h1, h2⟩ := fx.tc; ⟨o3, up _ h1, h2⟩, let ⟨c, h1⟩ := fx.ta; ⟨c, up _ h1⟩, fun q hq => up _ (fx.tr q hq), fx.ok⟩
  have r8 : R8 L Dm cm vs fs lrs ((Dn, listOf (lrs.map (fun r => Value.ref r.1)).toArray cn) :: (rowNews lrs ++ R)) :=
    ⟨.tail _ (List.mem_append_right _ hmo), fun f hf => .tail _ (List.mem_append_right _ (hem f hf)), fun r hr => .tail _ (List.mem_append_left _ (List.mem_map_of_mem (f := fun r : Row => (r.1, listOf (ivals r.2.1).toArray r.2.2)) hr))⟩
  have hR' : ∀ q ∈ (Dn, listOf (lrs.map (fun r => Value.ref r.1)).toArray cn) :: (rowNews lrs ++ R), q.1 ≠ 109 ∧ q.1 ≠ Df ∧ q.1 ≠ Dg := fun q hq => by
    rcases List.mem_cons.mp hq with rfl | hq
    · exact n9 _ hDn
    · rcases List.mem_append.mp hq with hq | hq
      · obtain ⟨r, hr, rfl⟩ := List.mem_map.mp hq
        exact n9 _ (hrows r hr).1
      · exact hR q hq
  have hDnR : (Dn, listOf (lrs.map (fun r => Value.ref r.1)).toArray cn) ∈ (Dn, listOf (lrs.map (fun r => Value.ref r.1)).toArray cn) :: (rowNews lrs ++ R) := .head _
  generalize (Dn, listOf (lrs.map (fun r => Value.ref r.1)).toArray cn) :: (rowNews lrs ++ R) = R' at N2 fx' r8 hR' hDnR
  refine loopList (base := base) (l := Dn) (lrs.map (fun r => Value.ref r.1)) (J8 (TT rs) lrs fs Dm Df Dg f R') rfl rfl rfl ⟨_, hDo, rfl, _, rfl⟩ ?src F1 N2 ⟨#[], [], gs, cg, fs, cf, rfl, .inl ⟨rfl, rfl⟩, (fun _ z => nomatch z), m8, ⟨hfl, hgl, fun j hj => absurd hj (Nat.not_lt_zero _), fun k hk _ => ⟨fs[k], List.getElem_mem _, List.getElem?_eq_getElem (by rw [hfl]; exact hk)⟩⟩⟩ ?turn ?done
  case src =>
    rintro i h m' _ _ ⟨ps, ext, gs', cg', fl', cf', rfl, _⟩ F N
    exact ⟨_, (N _ (.tail _ (List.mem_append_right _ (.tail _ (.tail _ hDnR))))).1, rfl, _, rfl⟩
  case turn =>
    intro i v m' news' it o h tk hv hJ F N aw
    obtain ⟨r, hr, rfl⟩ : ∃ r, lrs[i]? = some r ∧ v = Value.ref r.1 := by
      rw [List.getElem?_map] at hv
      cases q : lrs[i]? with
      | none => rw [q] at hv; cases hv
      | some r => rw [q] at hv; exact ⟨r, rfl, (Option.some.inj hv).symm⟩
    have hi : i < 44 := by rw [← hl44]; exact (List.getElem?_eq_some_iff.mp hr).1
    exact turn8 hb rfl X T C hVE fx' r8 hvs hR' hDD hgood hlr hi hr hJ F N aw
  case done =>
    intro m' news' h tk hJ F N
    obtain ⟨ps, ext, gs', cg', fl', cf', rfl, _, _, m8', _⟩ := hJ
    rw [List.length_map, hl44] at m8'
    refine wpAny_execs_cons (wpAny_Return_some (wpAny_Compare1 (ldLoc F m8'.bl (ldLoc F m8'.fa (PyProof.Rows.eq_bool ?_)))))
    exact ⟨rfl, h, _, m', ps, rfl, F, News.sub N fun q hq => by rw [List.mem_singleton.mp hq]; exact .head _⟩
end Mine
namespace Mine
theorem LawAt.of {K : Frag} {oc : Value} {od : Option Addr} {name : Str} {params : Arguments} {dV kV doc pm : Value} {an : Option Addr} {ct : Value} {osl : Array (Option Value)} {b : List Stmt} {s : Scope}
    (ho : K.lookup 112 = some ⟨oc, od, .func (fnOf name (Str.ofString "law") params b s dV kV doc pm an (.ref 111) ct), osl⟩) : LawAt K b s := ⟨_, _, _, _, _, _, _, _, _, _, _, ho⟩
theorem rows_ne {rs rs' : List Row} {P : Addr → Prop} (e : rs'.map (fun r => r.1) = rs.map (fun r => r.1)) (h : ∀ r ∈ rs, P r.1) : ∀ r ∈ rs', P r.1 := fun r hr => by
  have : r.1 ∈ rs.map (fun r => r.1) := by rw [← e]; exact List.mem_map_of_mem (f := fun r : Row => r.1) hr
  obtain ⟨q, hq, eq⟩ := List.mem_map.mp this
  rw [← eq]; exact h q hq
theorem Fix.mono {L a : Addr} {rs : List Row} {R R' : List (Addr × Obj)} (fx : Fix L a rs R) (up : ∀ q ∈ R, q ∈ R') : Fix L a rs R' :=
  ⟨let ⟨o3, h1, h2⟩ := fx.tc; ⟨o3, up _ h1, h2⟩, let ⟨c, h1⟩ := fx.ta; ⟨c, up _ h1⟩, fun q hq => up _ (fx.tr q hq), fx.ok⟩
theorem lawBody {w : World} {p loose mean mg mb} {s : Shared} {base : Heap} {L fa a : Addr} {xs : List Int} {vs : List Value} {o1 o2 o3 : Obj} {body : List Stmt} {scope : Scope} {E : Value → Shared → Prop}
   (hb : LawAt (hd.heap_39 w.params) body scope)
   (X : (hd.heap_39 w.params).In base) (T : Top p loose mean mg mb base) (C : CodeHd base 111 109)
   (hVE : Str.ofString "ValueError" ∉ loose ∧ Str.ofString "ValueError" ∉ (recsOf p).map (·.name) ∧ Str.ofString "ValueError" ∉ (litsOf p).map (·.1) ∧ Str.ofString "ValueError" ∉ (clssOf p loose).map (·.name))
   (F : Fr base L s.heap (fun y => if y = Str.ofString "script" then some (.ref a) else none)) (N : News base L s.heap [(L + 1 + 1 + 1, o3), (L + 1 + 1, o2), (L + 1, o1), (109, tabObj #[])])
   (d1 : o1.data = .cell none) (d2 : o2.data = .cell none) (d3 : o3.data = .cell none)
   (ha : base.IsList a vs.toArray) (hI : IntsAre vs xs) (hlen : xs.length ≤ 63) (hlay : (PyData.list (xs.map .int)).layable0 = true) (h9L : 109 < L) :
   wpAny (model PySem.Challenge.rw_om0026_01.row.prog w) (callerA.deeper (envOfC (Str.ofString "law") scope L fa (.ref 111))) (execs body (envOfC (Str.ofString "law") scope L fa (.ref 111))) (fun fl s' => Box (fl = .ret (.bool true) ∧ ∃ h tk m' ps, s' = { s with heap := h, toks := tk } ∧ Fr base L h m' ∧ News base L h [(109, tabObj ps)])) E s := by
  have l1 : 109 ≠ L + 1 := Nat.ne_of_lt (Nat.lt_succ_of_lt h9L)
  have l2 : 109 ≠ L + 1 + 1 := Nat.ne_of_lt (Nat.lt_succ_of_lt (Nat.lt_succ_of_lt h9L))
  have l3 : 109 ≠ L + 1 + 1 + 1 := Nat.ne_of_lt (Nat.lt_succ_of_lt (Nat.lt_succ_of_lt (Nat.lt_succ_of_lt h9L)))
  have l12 : L + 1 ≠ L + 1 + 1 := Nat.ne_of_lt (Nat.lt_succ_self _)
  have l13 : L + 1 ≠ L + 1 + 1 + 1 := Nat.ne_of_lt (Nat.lt_succ_of_lt (Nat.lt_succ_self _))
  have l23 : L + 1 + 1 ≠ L + 1 + 1 + 1 := Nat.ne_of_lt (Nat.lt_succ_self _)
  refine seqAt 2 _ (part1 hb X T F N d1 d2 d3 ha hI hlen hlay) ?_
  rintro _ ⟨h1, tk1, m1, D, t1, ys, rfl, F1, hmt, hmn, N1, hI1, n3D, n2D, n1D, n9D⟩
  refine seqAt 1 _ (part2 hb X T F1 hmt N1 d1 d2 d3 n3D l3) ?_
  rintro _ ⟨h2, tk2, a2, c2, rs, o3', rfl, F2, N2, d3', hl4, hrs, hpw, hsep, asep⟩
  rw [List.drop_drop]
  have hnl : (numsOf xs).length ≤ 24 := by simp only [numsOf, List.length_map, List.length_take]; omega
  refine seqAt 1 _ (part3 hb X T F2 hmn hI1 N2 d3' hnl ⟨hl4, hrs, hpw⟩ hsep) ?_
  rintro _ ⟨h3, tk3, m3, rs', rfl, F3, hm3, N3, hra, hok⟩
  rw [List.drop_drop]
  have hsep' := rows_ne (P := fun r => r ≠ D ∧ r ≠ L + 1 + 1 + 1 ∧ r ≠ L + 1 + 1 ∧ r ≠ L + 1 ∧ r ≠ 109) hra hsep
  have hrw : ∀ q ∈ rowNews rs', q.1 ≠ D ∧ q.1 ≠ L + 1 + 1 + 1 ∧ q.1 ≠ L + 1 + 1 ∧ q.1 ≠ L + 1 ∧ q.1 ≠ 109 := fun q hq => by
    obtain ⟨r, hr, rfl⟩ := List.mem_map.mp hq
    exact hsep' r hr
  clear F N N1 F1 N2 F2
  -- what stays
  have N4 : News base L h3 ((L + 1, o1) :: (L + 1 + 1, o2) :: (109, tabObj #[]) :: (L + 1 + 1 + 1, o3') :: (a2, listOf (rs'.map (fun r => Value.ref r.1)).toArray c2) :: (D, LCg.lst ys) :: rowNews rs') := News.sub N3 fun q hq => by
    simp only [List.mem_cons, List.mem_append, List.cons_append, List.nil_append] at hq ⊢
    rcases hq with e | e | e | e | e | e | e
    · exact .inr (.inr (.inr (.inr (.inl e))))
    · exact .inr (.inr (.inr (.inl e)))
    · exact .inr (.inr (.inr (.inr (.inr (.inl e)))))
    · exact .inl e
    · exact .inr (.inl e)
    · exact .inr (.inr (.inl e))
    · exact .inr (.inr (.inr (.inr (.inr (.inr e)))))
  have hmt3 : m3 (Str.ofString "total") = some (.int (numsOf xs).sum t1) := (hm3 _ (by decide)).trans hmt
  have hB : ∀ q ∈ (L + 1 + 1 + 1, o3') :: (a2, listOf (rs'.map (fun r => Value.ref r.1)).toArray c2) :: (D, LCg.lst ys) :: rowNews rs', q.1 ≠ L + 1 ∧ q.1 ≠ L + 1 + 1 ∧ q.1 ≠ 109 := fun q hq => by
    simp only [List.mem_cons] at hq
    rcases hq with rfl | rfl | rfl | e
    · exact ⟨Ne.symm l13, Ne.symm l23, Ne.symm l3⟩
    · exact ⟨asep.2.2.2.1, asep.2.2.1, asep.2.2.2.2⟩
    · exact ⟨Ne.symm n1D, Ne.symm n2D, Ne.symm n9D⟩
    · exact ⟨(hrw q e).2.2.2.1, (hrw q e).2.2.1, (hrw q e).2.2.2.2⟩
  have fxB : Fix L a2 rs' ((L + 1 + 1 + 1, o3') :: (a2, listOf (rs'.map (fun r => Value.ref r.1)).toArray c2) :: (D, LCg.lst ys) :: rowNews rs') :=
    ⟨⟨o3', .head _, d3'⟩, ⟨c2, .tail _ (.head _)⟩, fun q hq => .tail _ (.tail _ (.tail _ hq)), hok⟩
  generalize (L + 1 + 1 + 1, o3') :: (a2, listOf (rs'.map (fun r => Value.ref r.1)).toArray c2) :: (D, LCg.lst ys) :: rowNews rs' = B at N4 hB fxB
  clear N3
  refine seqAt 3 _ (part4 (R := (109, tabObj #[]) :: B) hb X T F3 hmt3 N4 d1 d2 (fxB.mono fun q hq => .tail _ hq) ?hR1 ?hR2) ?_
  case hR1 =>
    intro q hq
    rcases List.mem_cons.mp hq with rfl | hq
    · exact l1
    · exact (hB q hq).1
  case hR2 =>
    intro q hq
    rcases List.mem_cons.mp hq with rfl | hq
    · exact l2
    · exact (hB q hq).2.1
  rintro _ ⟨h4, tk4, m4, Dm, cm, vs4, o1', o2', v1, v2, rfl, F4, hm4, hmm4, N5, hvs, nDm, d2', d1'⟩
  rw [List.drop_drop]
  have hs9 : (((numsOf xs).sum.fdiv 192).fmod 9).toNat < 9 := by have := fmod_lt ((numsOf xs).sum.fdiv 192) 9 (by decide); omega
  generalize (((numsOf xs).sum.fdiv 192).fmod 9).toNat = sh at hvs hs9
  have hTl : ∀ a b, a < 4 → b < 4 → TT rs' a b < 4 := fun a b ha hb => by obtain ⟨_, _, _, _, _, q⟩ := TT_get hok ha hb; exact q
  refine seqAt 2 _ (part5 (md := mdT (TT rs') sh) hb X T F4 hmm4 N5 hvs) ?_
  rintro _ ⟨h5, tk5, m5, Dl, cl, ss, rfl, F5, hm5, hml5, hmf5, N6, nDl, hss⟩
  rw [List.drop_drop]
  have N7 : News base L h5 ((L + 1 + 1, o2') :: (Dl, listOf (svs ss).toArray cl) :: (Dm, listOf (ivals vs4).toArray cm) :: (L + 1, o1') :: (109, tabObj #[]) :: B) := News.sub N6 fun q hq => by
    simp only [List.mem_cons] at hq ⊢
    rcases hq with e | e | e | e | e | e
    · exact .inr (.inr (.inl e))
    · exact .inl e
    · exact .inr (.inl e)
    · exact .inr (.inr (.inr (.inl e)))
    · exact .inr (.inr (.inr (.inr (.inl e))))
    · exact .inr (.inr (.inr (.inr (.inr e))))
  have hlk : ∀ a, a < 4 → (lst (mdT (TT rs') sh a)).length = 10 ∧ (lst (mdT (TT rs') sh a)).all (· < 128) = true := fun a _ => lst_ok sh hs9 _ (kb_lt _ _)
  refine seqAt 1 _ (part6 (R := (Dl, listOf (svs ss).toArray cl) :: (Dm, listOf (ivals vs4).toArray cm) :: (L + 1, o1') :: (109, tabObj #[]) :: B) hb X T F5 hml5 hmf5 N7 d2' ?hR3 (fxB.mono fun q hq => .tail _ (.tail _ (.tail _ (.tail _ hq)))) (.head _) hss hlk) ?_
  case hR3 =>
    intro q hq
    simp only [List.mem_cons] at hq
    rcases hq with rfl | rfl | rfl | rfl | e
    · exact Ne.symm (nDl (L + 1 + 1, o2') (.tail _ (.head _)))
    · exact Ne.symm (nDm (L + 1 + 1, o2') (.head _))
    · exact l12
    · exact l2
    · exact (hB q e).2.1
  rintro _ ⟨h6, tk6, m6, o2'', v2', rfl, F6, hm6, hmf6, N8, d2''⟩
  rw [List.drop_drop]
  refine seqAt 3 _ (part7 hb X T F6 N8) ?_
  rintro _ ⟨h7, tk7, m7, Df, Dg, cf, cg, fs, gs, rfl, F7, hm7, hmb7, hmfi7, hmfo7, N9, hfl, hgl, nE, nfg, nfs⟩
  rw [List.drop_drop]
  have mem9 : (109, tabObj #[]) ∈ (L + 1 + 1, o2'') :: (Dl, listOf (svs ss).toArray cl) :: (Dm, listOf (ivals vs4).toArray cm) :: (L + 1, o1') :: (109, tabObj #[]) :: B := .tail _ (.tail _ (.tail _ (.tail _ (.head _))))
  have N10 : News base L h7 (LD #[] [] Dg Df cg cf gs fs (eN fs ++ ((L + 1 + 1, o2'') :: (Dl, listOf (svs ss).toArray cl) :: (Dm, listOf (ivals vs4).toArray cm) :: (L + 1, o1') :: B))) := News.sub N9 fun q hq => by
    simp only [List.mem_cons, List.mem_append, List.nil_append] at hq ⊢
    rcases hq with e | e | e | e | e | e | e | e | e
    · exact .inr (.inr (.inr (.inr (.inr (.inr (.inr (.inl e)))))))
    · exact .inl e
    · exact .inr (.inl e)
    · exact .inr (.inr (.inl e))
    · exact .inr (.inr (.inr (.inl e)))
    · exact .inr (.inr (.inr (.inr (.inl e))))
    · exact .inr (.inr (.inr (.inr (.inr (.inl e)))))
    · exact .inr (.inr (.inr (.inr (.inr (.inr (.inl e))))))
    · exact .inr (.inr (.inr (.inr (.inr (.inr (.inr (.inr e)))))))
  have sub8 : ∀ q ∈ eN fs ++ ((L + 1 + 1, o2'') :: (Dl, listOf (svs ss).toArray cl) :: (Dm, listOf (ivals vs4).toArray cm) :: (L + 1, o1') :: B), q ∈ eN fs ++ ((L + 1 + 1, o2'') :: (Dl, listOf (svs ss).toArray cl) :: (Dm, listOf (ivals vs4).toArray cm) :: (L + 1, o1') :: (109, tabObj #[]) :: B) := fun q hq => by
    simp only [List.mem_cons, List.mem_append] at hq ⊢
    rcases hq with e | e | e | e | e | e
    · exact .inl e
    · exact .inr (.inl e)
    · exact .inr (.inr (.inl e))
    · exact .inr (.inr (.inr (.inl e)))
    · exact .inr (.inr (.inr (.inr (.inl e))))
    · exact .inr (.inr (.inr (.inr (.inr (.inr e)))))
  have n9 := nE _ (List.mem_append_right _ mem9)
  refine wpAny_mono (part8 (md := mdT (TT rs') sh) (rs := rs') (f := fO (mdT (TT rs') sh) (TT rs') (((dk ss []).length : Int) == 4) 4) hb X T C hVE (fxB.mono fun q hq => List.mem_append_right _ (.tail _ (.tail _ (.tail _ (.tail _ hq))))) (List.mem_append_right _ (.tail _ (.tail _ (.head _)))) (fun f hf => List.mem_append_left _ (List.mem_map_of_mem (f := fun f : Nat => (f, listOf #[] 0)) hf)) hvs ?hR8 ⟨Ne.symm nfg, n9.2, n9.1⟩ hfl hgl ?hgood ?m8 F7 N10) ?fin fun _ _ x => x
  case hR8 =>
    intro q hq
    refine ⟨?_, nE q (sub8 q hq)⟩
    simp only [List.mem_cons, List.mem_append] at hq
    rcases hq with e | rfl | rfl | rfl | rfl | e
    · obtain ⟨f, hf, rfl⟩ := List.mem_map.mp e
      exact Ne.symm (nfs f hf _ mem9)
    · exact Ne.symm l2
    · exact Ne.symm (nDl (109, tabObj #[]) (.tail _ (.tail _ (.tail _ (.head _)))))
    · exact Ne.symm (nDm (109, tabObj #[]) (.tail _ (.tail _ (.head _))))
    · exact Ne.symm l1
    · exact (hB q e).2.2
  case hgood =>
    intro hf i hi
    obtain ⟨lnn, _, lnx, _⟩ := ln_ok i hi
    exact rt_ok hTl hs9 ((faith_iff hs9 hss).mp hf) lnn lnx
  case m8 =>
    refine ⟨?_, ?_, hmfi7, hmfo7, hmb7⟩
    · exact (hm7 _ (by decide) (by decide) (by decide)).trans ((hm6 _ (by decide) (by decide)).trans ((hm5 _ (by decide) (by decide)).trans hmm4))
    · exact (hm7 _ (by decide) (by decide) (by decide)).trans hmf6
  case fin =>
    rintro fl s' hq
    obtain ⟨rfl, h8, tk8, m8', ps8, rfl, k8⟩ := hq.out
    refine ⟨?_, h8, tk8, m8', ps8, rfl, k8⟩
    rw [law_eq hTl hs9 hss]
end Mine
theorem PySem.Challenge.cw_om0026_01_holds : PySem.Challenge.rw_om0026_01.Holds :=
  hd (by
  k_go0
  rename Top topProg _ _ _ _ _ => T'
  rename Frag.In _ _ => X'
  rename Fr _ _ _ _ => F'
  rename News _ _ _ _ => N'
  rename 109 < _ => l9
  rename IntsAre _ _ => hI
  rename PyData.layable0 _ = true => hlay
  rename ¬ _ < _ => hc
  rename Obj.data _ = Data.cell (bindC _ _ _ (Str.ofString "shift")) => e1
  rename Obj.data _ = Data.cell (bindC _ _ _ (Str.ofString "a")) => e2
  rename Obj.data _ = Data.cell (bindC _ _ _ (Str.ofString "table")) => e3
  refine' wpAny_mono (Mine.lawBody (Mine.LawAt.of ?ho) X' T' codeHd ?hVE F' N' e1 e2 e3 lifted hI ?hlen hlay l9) ?fin fun _ _ x => x
  case ho => k_is
  case hVE => decide
  case hlen => omega
  case fin =>
    intro fl s' hq
    obtain ⟨rfl, h8, tk8, m8, ps8, rfl, F8, N8⟩ := hq.out
    clear F' N' hq
    refine ⟨?_, GrownAt.of N8 (.head _), True.intro⟩
    k_steps)

import PyProof.Rows.All
import Wide.All
import OpenK.AllK
import Wide.FinOn
import PySem.Challenge.RW_nb0071_01
set_option Elab.async false
namespace Mine
section PartTop71
open PySem PySem.W PyProof.Rows
set_option maxRecDepth 100000
set_option maxHeartbeats 8000000
open_top hd for PySem.Challenge.rw_nb0071_01
end PartTop71

section PartL1
open PySem PySem.W PyProof.Rows PySem.Calls

/-- what a frame's map says of some names -/
def Pins (m : Str → Option Value) : List (Str × Option Value) → Prop
  | [] => True
  | p :: r => m p.1 = p.2 ∧ Pins m r
def pinned (m : Str → Option Value) (ps : List (Str × Option Value)) (y : Str) : Option Value :=
  match ps.lookup y with
  | some v => v
  | none => m y
theorem Pins.lookup {m : Str → Option Value} : ∀ {ps : List (Str × Option Value)}, Pins m ps → ∀ y v, ps.lookup y = some v → m y = v
  | [], _, _, _, h => by cases h
  | (x, w) :: r, hp, y, v, h => by
    rw [List.lookup_cons] at h
    by_cases e : (y == x) = true
    · rw [e] at h
      have e' : y = x := by simpa using e
      rw [e', hp.1]; exact Option.some.inj h
    · have e2 : (y == x) = false := by simpa using e
      rw [e2] at h
      exact Pins.lookup hp.2 y v h
theorem pinned_eq {m : Str → Option Value} {ps : List (Str × Option Value)} (hp : Pins m ps) : pinned m ps = m := by
  funext y
  unfold pinned
  cases e : ps.lookup y with
  | none => rfl
  | some v => exact (hp.lookup y v e).symm
theorem fr_pins {h₀ h : Heap} {L : Addr} {m : Str → Option Value} {ps : List (Str × Option Value)} (F : Fr h₀ L h m) (hp : Pins m ps) : Fr h₀ L h (pinned m ps) := by
  rw [pinned_eq hp]; exact F
theorem news_sub {h₀ h : Heap} {L : Addr} {news news' : List (Addr × Obj)} (N : News h₀ L h news) (hs : ∀ p ∈ news', p ∈ news) : News h₀ L h news' := fun p hp => N p (hs p hp)

/-- the end of a turn: a return or a break leaves, all else goes on -/
def TurnEnd (Q : Flow → Shared → Prop) (K : Shared → Prop) (f : Flow) (s₃ : Shared) : Prop :=
  match f with
  | .ret v => Q (.ret v) s₃
  | .brk => Q .next s₃
  | _ => K s₃

section
variable {prog : Program} {w : World} {A : Around} {E : Value → Shared → Prop} {s : Shared} {env : Env} {Q : Flow → Shared → Prop} {target : Expr} {body : List Stmt}

def LoopAtM (prog : Program) (w : World) (A : Around) (env : Env) (target : Expr) (body : List Stmt) (Q : Flow → Shared → Prop) (E : Value → Shared → Prop) (it : Value) (s₂ : Shared) : Prop :=
  codeAny (model prog w) A (.forLoop target it body [] env) (fun r s' => match r with | .ok f => Q f s' | .error e => cameBackBy (model prog w) A env E e s') s₂

theorem For_M {iter : Expr} {pos : Pos} (h : wpAny (model prog w) A (eval iter env) (fun x s₁ => wpAny (model prog w) A (pyIter x) (fun it s₂ => LoopAtM prog w A env target body Q E it s₂) E s₁) E s)
    (hs : ∀ x, foldedSetIterable iter env x = pure x) : wpAny (model prog w) A (exec (.For target iter body [] pos) env) Q E s := wpAny_For h hs

def Mid (mid : Shared → Prop) (Q : Flow → Shared → Prop) (f : Flow) (s' : Shared) : Prop :=
  match f with
  | .next => mid s'
  | f => Q f s'
theorem LoopAtM.mono {Q' : Flow → Shared → Prop} {it : Value} (h : LoopAtM prog w A env target body Q' E it s) (hq : ∀ f s', Q' f s' → Q f s') : LoopAtM prog w A env target body Q E it s :=
  codeAny_mono h fun r s' x => by
    cases r with
    | ok f => exact hq f s' x
    | error e => exact x
/-- what holds behind a loop, said once, wherever it is left -/
theorem loop_mid {it : Value} (mid : Shared → Prop) (h : LoopAtM prog w A env target body (Mid mid Q) E it s) (hq : ∀ s', mid s' → Q .next s') : LoopAtM prog w A env target body Q E it s :=
  h.mono fun f s' x => by cases f with
    | next => exact hq s' x
    | brk => exact x
    | cont => exact x
    | ret v => exact x
theorem iter_mid {x : Value} (mid : Shared → Prop) (h : wpAny (model prog w) A (pyIter x) (fun it s₂ => LoopAtM prog w A env target body (Mid mid Q) E it s₂) E s) (hq : ∀ s', mid s' → Q .next s') :
    wpAny (model prog w) A (pyIter x) (fun it s₂ => LoopAtM prog w A env target body Q E it s₂) E s := wpAny_mono h (fun _ _ y => loop_mid mid y hq) fun _ _ e => e
theorem call_mid {t : Sem Value} (mid : Shared → Prop) (h : wpAny (model prog w) A t (fun x s₁ => wpAny (model prog w) A (pyIter x) (fun it s₂ => LoopAtM prog w A env target body (Mid mid Q) E it s₂) E s₁) E s) (hq : ∀ s', mid s' → Q .next s') :
    wpAny (model prog w) A t (fun x s₁ => wpAny (model prog w) A (pyIter x) (fun it s₂ => LoopAtM prog w A env target body Q E it s₂) E s₁) E s := wpAny_mono h (fun _ _ y => iter_mid mid y hq) fun _ _ e => e

/-- any loop, turn by turn, over states -/
theorem loopM {it : Value} (hE : PassesOwn (model prog w) A env E) (I : Nat → Shared → Prop)
    (turn : ∀ n s, I n s → wpAny (model prog w) A (pyNext it) (fun r s₁ => match r with
      | none => Q .next s₁
      | some v => wpAny (model prog w) A (letOwnedTupleGo target it v) (fun _ s₁' =>
          wpAny (model prog w) A (assign target env v) (fun _ s₂ => wpAny (model prog w) A (execs body env) (TurnEnd Q fun s₃ => ∃ m, m < n ∧ I m s₃) E s₂) E s₁') E s₁) E s)
    (n : Nat) (h : I n s) : LoopAtM prog w A env target body Q E it s := by
  refine codeAny_forLoop_any I (fun n s hI => ?_) n h
  refine wpAny_mono (turn n s hI) (fun r s₁ h₁ => ?_) hE
  cases r with
  | none => exact wpAny_execs_nil h₁
  | some v =>
    refine wpAny_mono h₁ (fun _ s₂ h₂ => ?_) hE
    refine wpAny_mono h₂ (fun _ s₃ h₃ => ?_) hE
    refine wpAny_mono h₃ (fun f s₄ h₄ => ?_) hE
    cases f <;> exact h₄

/-- an iterator that bears n items (Walks, less what a for does not ask) -/
structure Runs (prog : Program) (w : World) (A : Around) (I : Addr) (n : Nat) (P : Nat → Value → Prop) (St : Nat → Heap → Prop) : Prop where
  item : ∀ i (s : Shared) (Q : Option Value → Shared → Prop) (E : Value → Shared → Prop), i < n → St i s.heap →
    (∀ v h' tk, P i v → St (i + 1) h' → (∀ b o, b ∉ [I] → s.heap.get? b = some o → h'.get? b = some o) → Q (some v) { s with heap := h', toks := tk }) → wpAny (model prog w) A (pyNext (.ref I)) Q E s
  done : ∀ (s : Shared) (Q : Option Value → Shared → Prop) (E : Value → Shared → Prop), St n s.heap →
    (∀ h' tk, (∀ b o, b ∉ [I] → s.heap.get? b = some o → h'.get? b = some o) → Q none { s with heap := h', toks := tk }) → wpAny (model prog w) A (pyNext (.ref I)) Q E s
theorem runs_of {I : Addr} {fp : List Addr} {n : Nat} {P : Nat → Value → Prop} {St : Nat → Heap → Prop} (W : Walks prog w A I fp [I] n P St) : Runs prog w A I n P St := ⟨W.item, W.done⟩

/-- a loop over one iterator that bears n items, by an invariant over the frame's map and the ledger -/
theorem loopF {h₀ : Heap} {L I : Addr} {x : Str} {px : Pos} {n : Nat} {P : Nat → Value → Prop} {St : Nat → Heap → Prop} {m : Str → Option Value} {news : List (Addr × Obj)}
    (W : Runs prog w A I n P St) (hE : PassesOwn (model prog w) A env E) (hLI : L ≠ I) (hI₀ : h₀.get? I = none)
    (J : Nat → (Str → Option Value) → List (Addr × Obj) → Prop)
    (hIo : ∀ i h, St i h → ∃ o, h.get? I = some o)
    (hSt : ∀ i h h' o m' nw, St i h → h.get? I = some o → h'.get? I = some o → (∀ b o, h₀.get? b = some o → h'.get? b = some o) → News h₀ L h' nw → J i m' nw → St i h')
    (F : Fr h₀ L s.heap m) (N : News h₀ L s.heap news) (hst : St 0 s.heap) (h0 : J 0 m news) (off : ∀ p ∈ news, p.1 ≠ I)
    (step : ∀ i v m₁ news₁ h₁ tk₁ dr₁ oI, i < n → P i v → J i m₁ news₁ → Fr h₀ L h₁ m₁ → News h₀ L h₁ ((I, oI) :: news₁) → (∀ p ∈ news₁, p.1 ≠ I) →
      wpAny (model prog w) A (storeName env x v) (fun _ s₂ => wpAny (model prog w) A (execs body env) (TurnEnd Q fun s₃ => ∃ h₃ tk₃ dr₃ m₃ news₃, s₃ = { s with heap := h₃, toks := tk₃, drawn := dr₃ } ∧ Fr h₀ L h₃ m₃ ∧
        News h₀ L h₃ ((I, oI) :: news₃) ∧ (∀ p ∈ news₃, p.1 ≠ I) ∧ J (i + 1) m₃ news₃) E s₂) E { s with heap := h₁, toks := tk₁, drawn := dr₁ })
    (done : ∀ m₁ news₁ h₁ tk₁ dr₁, J n m₁ news₁ → Fr h₀ L h₁ m₁ → News h₀ L h₁ news₁ → Q .next { s with heap := h₁, toks := tk₁, drawn := dr₁ }) :
    LoopAtM prog w A env (.Name x px) body Q E (.ref I) s := by
  refine loopM hE (fun k s' => ∃ h' tk dr m' news' i, s' = { s with heap := h', toks := tk, drawn := dr } ∧ St i h' ∧ Fr h₀ L h' m' ∧ News h₀ L h' news' ∧ (∀ p ∈ news', p.1 ≠ I) ∧ J i m' news' ∧ i ≤ n ∧ k = n + 1 - i) ?_ (n + 1)
    ⟨s.heap, s.toks, s.drawn, m, news, 0, rfl, hst, F, N, off, h0, Nat.zero_le _, rfl⟩
  rintro k s' ⟨h', tk, dr, m', news', i, rfl, hst', F', N', off', hJ, hi, rfl⟩
  have next : ∀ h₁ : Heap, (∀ b o, b ∉ [I] → h'.get? b = some o → h₁.get? b = some o) → Fr h₀ L h₁ m' ∧ News h₀ L h₁ news' := fun h₁ hk₁ =>
    ⟨LCg.fr_but F' hk₁ hLI hI₀, LCg.news_but N' hk₁ off'⟩
  by_cases hlt : i < n
  · refine W.item i _ _ _ hlt hst' fun v h₁ tk₁ hP hst₁ hk₁ => ?_
    obtain ⟨F₁, N₁⟩ := next h₁ hk₁
    obtain ⟨oI, heI⟩ := hIo _ _ hst₁
    refine wpAny_pure ?_
    refine wpAny_assign_Name ?_
    refine wpAny_mono (step i v m' news' h₁ tk₁ dr oI hlt hP hJ F₁ (fun p hp => ?_) off') (fun _ s₂ h₂ => wpAny_mono h₂ (fun f s₃ h₃ => ?_) fun _ _ e => e) fun _ _ e => e
    · rcases List.mem_cons.mp hp with rfl | hp
      · exact ⟨heI, Ne.symm hLI, hI₀⟩
      · exact N₁ p hp
    · have go : (∃ h₃ tk₃ dr₃ m₃ news₃, s₃ = { s with heap := h₃, toks := tk₃, drawn := dr₃ } ∧ Fr h₀ L h₃ m₃ ∧ News h₀ L h₃ ((I, oI) :: news₃) ∧ (∀ p ∈ news₃, p.1 ≠ I) ∧ J (i + 1) m₃ news₃) →
          ∃ m_1, m_1 < n + 1 - i ∧ ∃ h' tk dr m' news' i, s₃ = { s with heap := h', toks := tk, drawn := dr } ∧ St i h' ∧ Fr h₀ L h' m' ∧ News h₀ L h' news' ∧ (∀ p ∈ news', p.1 ≠ I) ∧ J i m' news' ∧ i ≤ n ∧ m_1 = n + 1 - i := by
        rintro ⟨H₃, tk₃, dr₃, m₃, news₃, e₃, F₃, N₃, off₃, hJ₃⟩
        have N₃' : News h₀ L H₃ news₃ := fun p hp => N₃ p (List.mem_cons_of_mem _ hp)
        exact ⟨n + 1 - (i + 1), by omega, H₃, tk₃, dr₃, m₃, news₃, i + 1, e₃, hSt _ _ _ _ _ _ hst₁ heI (N₃ (I, oI) List.mem_cons_self).1 F₃.keep N₃' hJ₃, F₃, N₃', off₃, hJ₃, hlt, rfl⟩
      cases f with
      | ret v => exact h₃
      | brk => exact h₃
      | next => exact go h₃
      | cont => exact go h₃
  · have hin : i = n := by omega
    subst hin
    refine W.done _ _ _ hst' fun h₁ tk₁ hk₁ => ?_
    obtain ⟨F₁, N₁⟩ := next h₁ hk₁
    exact done m' news' h₁ tk₁ dr hJ F₁ N₁
end
end PartL1

section PartL2
open PySem PySem.W PyProof.Rows PySem.Calls

section
variable {prog : Program} {w : World} {A : Around} {E : Value → Shared → Prop} {s : Shared} {env : Env} {Q : Flow → Shared → Prop} {body : List Stmt}

/-- a list whose items may change behind the place that is read -/
theorem drawsMut (hh : A.handled = none) (it l : Addr) (hne : l ≠ it) (orig : Array Value) :
    Draws prog w A it [it, l] orig.size (fun i v => orig[i]? = some v) (fun i h => h.IsListIter it l i ∧ ∃ items, h.IsList l items ∧ items.size = orig.size ∧ ∀ j, i ≤ j → items[j]? = orig[j]?) where
  live := fun _ _ st => let ⟨o, ho, _⟩ := st.1; ⟨o, ho⟩
  frame := fun _ _ _ st hk => ⟨st.1.at fun o e => hk it (by simp) o e, let ⟨items, hl, r⟩ := st.2; ⟨items, hl.at fun o e => hk l (by simp) o e, r⟩⟩
  item := fun i s Q E hi st hQ => by
    obtain ⟨hit, items, hl, hsz, hj⟩ := st
    have hx : items[i]? = some orig[i] := by rw [hj i (Nat.le_refl _)]; simp [hi]
    refine wpAny_nextOf_list_item hit hl hx fun h' hit' hs' => ?_
    exact hQ _ h' s.toks (by simp [hi]) ⟨hit', items, hl.extBut hs'.extBut hne, hsz, fun j hjj => hj j (by omega)⟩ hs'
  done := fun s Q E st hE => by
    obtain ⟨hit, items, hl, hsz, hj⟩ := st
    exact wpAny_nextOf_list_end hh hit hl (by simp [hsz]) hE

/-- a loop over enumerate(..) with two names, by an invariant over the frame's map and the ledger -/
theorem loopE {h₀ : Heap} {L e it : Addr} {xi xv : Str} {pi pv pt : Pos} {x1 : Nat} {fp : List Addr} {n : Nat} {P : Nat → Value → Prop} {St : Nat → Heap → Prop} {m : Str → Option Value} {news : List (Addr × Obj)} {old : Value}
    (D : Draws prog w A.in1 it fp n P St) (hE : PassesOwn (model prog w) A env E) (hh : A.handled = none) (hloc : env.locals = L) (hxi : env.kindOf xi = some .local) (hxv : env.kindOf xv = some .local)
    (hp : (env.scope.kind == .class || (env.scope.kind == .module && env.locals != env.globals)) = false)
    (hei : e ≠ it) (hef : e ∉ fp) (hLe : L ≠ e) (hLi : L ≠ it) (he₀ : h₀.get? e = none) (hi₀ : h₀.get? it = none)
    (J : Nat → (Str → Option Value) → List (Addr × Obj) → Prop)
    (hSt : ∀ i h h' o m' nw, St i h → h.get? it = some o → h'.get? it = some o → (∀ b o, h₀.get? b = some o → h'.get? b = some o) → News h₀ L h' nw → J i m' nw → St i h')
    (F : Fr h₀ L s.heap m) (N : News h₀ L s.heap news) (hen : IsEnum s.heap e it 0 old) (hst : St 0 s.heap) (h0 : J 0 m news) (off : ∀ p ∈ news, p.1 ≠ e ∧ p.1 ≠ it)
    (step : ∀ i v t m₁ news₁ h₁ tk₁ oe oi, i < n → P i v → J i m₁ news₁ → Fr h₀ L h₁ (fun y => if y = xv then some v else if y = xi then some (.int (i : Int) t) else m₁ y) → News h₀ L h₁ ((e, oe) :: (it, oi) :: news₁) → (∀ p ∈ news₁, p.1 ≠ e ∧ p.1 ≠ it) →
      wpAny (model prog w) A (execs body env) (TurnEnd Q fun s₃ => ∃ h₃ tk₃ m₃ news₃, s₃ = { s with heap := h₃, toks := tk₃ } ∧ Fr h₀ L h₃ m₃ ∧
        News h₀ L h₃ ((e, oe) :: (it, oi) :: news₃) ∧ (∀ p ∈ news₃, p.1 ≠ e ∧ p.1 ≠ it) ∧ J (i + 1) m₃ news₃) E { s with heap := h₁, toks := tk₁ })
    (done : ∀ m₁ news₁ h₁ tk₁, J n m₁ news₁ → Fr h₀ L h₁ m₁ → News h₀ L h₁ news₁ → Q .next { s with heap := h₁, toks := tk₁ }) :
    LoopAtM prog w A env (.Tuple [.Name xi pi, .Name xv pv] x1 pt) body Q E (.ref e) s := by
  subst hloc
  refine loopM hE (fun k s' => ∃ h' tk m' news' i old, s' = { s with heap := h', toks := tk } ∧ IsEnum h' e it ((i : Nat) : Int) old ∧ St i h' ∧ Fr h₀ env.locals h' m' ∧ News h₀ env.locals h' news' ∧ (∀ p ∈ news', p.1 ≠ e ∧ p.1 ≠ it) ∧ J i m' news' ∧ i ≤ n ∧ k = n + 1 - i) ?_ (n + 1)
    ⟨s.heap, s.toks, m, news, 0, old, rfl, hen, hst, F, N, off, h0, Nat.zero_le _, rfl⟩
  rintro k s' ⟨H, tk, m', news', i, old', rfl, hen', hst', F', N', off', hJ, hi, rfl⟩
  by_cases hlt : i < n
  · refine wpAny_pyNext_enum_itemD D hen' hst' hlt hei hef fun v h₁ tk₁ hP heo hst₁ hT₁ hz₁ hk₁ => ?_
    have heH : e < H.objs.size := Heap.lt_size hen'
    have hLH : env.locals < H.objs.size := F'.ns.lt
    have hiH : it < H.objs.size := by obtain ⟨_, y⟩ := D.live _ _ hst'; exact Heap.lt_size y
    refine wpAny_letOwnedTupleGo_enum heo fun h₂ he₂ hs₂ => ?_
    replace hs₂ : Heap.SameBut e h₁ h₂ := hs₂
    have ht₂ : h₂.IsTuple H.objs.size #[.int i tk₁, v] := ⟨_, (hs₂.2 _ (Nat.ne_of_gt heH)).trans hT₁, rfl, _, rfl⟩
    have hz₂ : h₂.objs.size = H.objs.size + 1 := hs₂.1.trans hz₁
    refine wpAny_assign_Tuple hh ht₂ rfl rfl fun h₃ hx₃ => ?_
    replace hx₃ : Heap.ExtBut h₂.objs.size h₂ h₃ := hx₃
    have old₃ : ∀ b o, b < H.objs.size → h₂.get? b = some o → h₃.get? b = some o := fun b o hb x => hx₃ b o (by rw [hz₂]; exact Nat.ne_of_lt (Nat.lt_succ_of_lt hb)) x
    have up₃ : ∀ b o, b ≠ e → b ≠ it → H.get? b = some o → h₃.get? b = some o := fun b o hbe hbi x => old₃ b o (Heap.lt_size x) (hs₂.extBut b o hbe (hk₁ b o hbe hbi x))
    have F₃ : Fr h₀ env.locals h₃ m' := ⟨F'.ns.at' fun o x => up₃ _ o hLe hLi x, fun b o x => up₃ b o (fun q => by rw [q, he₀] at x; cases x) (fun q => by rw [q, hi₀] at x; cases x) (F'.keep b o x), F'.above⟩
    have N₃ : News h₀ env.locals h₃ news' := fun p hp => ⟨up₃ _ _ (off' p hp).1 (off' p hp).2 (N' p hp).1, (N' p hp).2⟩
    have he₃ : IsEnum h₃ e it (((i + 1 : Nat)) : Int) v := by
      have : ((i + 1 : Nat) : Int) = (i : Int) + 1 := by push_cast; rfl
      rw [this]; exact old₃ e _ heH he₂
    obtain ⟨oi, hoi⟩ := D.live _ _ hst₁
    obtain ⟨oe, hoe⟩ : ∃ oe : Obj, oe = { cls := .type "enumerate", dict := none, data := .fields #[.none, .bool false, .ref it, rawInt ((i + 1 : Nat) : Int), .none, v], slots := #[] } := ⟨_, rfl⟩
    have hi₃ : h₃.get? it = some oi := old₃ it _ hiH (hs₂.extBut it _ (Ne.symm hei) hoi)
    show wpAny _ A (do holding [v] (assign (.Name xi pi) env (.int i tk₁)); do holding [] (assign (.Name xv pv) env v); pure ()) _ _ _
    refine wpAny_bind (wpAny_holding (wpAny_assign_Name (wpAny_storeName_local hxi F₃.ns (fun h₄ hn₄ hs₄ => ?_) hp)))
    replace hs₄ : Heap.SameBut env.locals h₃ h₄ := hs₄
    refine wpAny_bind (wpAny_holding (wpAny_assign_Name (wpAny_storeName_local hxv hn₄ (fun h₅ hn₅ hs₅ => wpAny_pure ?_) hp)))
    replace hs₅ : Heap.SameBut env.locals h₄ h₅ := hs₅
    have F₅ := (F₃.set hn₄ hs₄).set hn₅ hs₅
    have up₅ : ∀ b o, b ≠ env.locals → h₃.get? b = some o → h₅.get? b = some o := fun b o hb x => hs₅.extBut b o hb (hs₄.extBut b o hb x)
    have N₅ : News h₀ env.locals h₅ ((e, oe) :: (it, oi) :: news') := fun p hp => by
      rcases List.mem_cons.mp hp with rfl | hp
      · exact ⟨up₅ e _ (Ne.symm hLe) (hoe ▸ he₃), Ne.symm hLe, he₀⟩
      · rcases List.mem_cons.mp hp with rfl | hp
        · exact ⟨up₅ it _ (Ne.symm hLi) hi₃, Ne.symm hLi, hi₀⟩
        · exact ⟨up₅ _ _ (N₃ p hp).2.1 (N₃ p hp).1, (N₃ p hp).2⟩
    refine wpAny_mono (step i v tk₁ m' news' h₅ _ oe oi hlt hP hJ F₅ N₅ off') (fun f s₃ h₃ => ?_) fun _ _ x => x
    have go : (∃ h₃ tk₃ m₃ news₃, s₃ = { s with heap := h₃, toks := tk₃ } ∧ Fr h₀ env.locals h₃ m₃ ∧ News h₀ env.locals h₃ ((e, oe) :: (it, oi) :: news₃) ∧ (∀ p ∈ news₃, p.1 ≠ e ∧ p.1 ≠ it) ∧ J (i + 1) m₃ news₃) →
        ∃ m_1, m_1 < n + 1 - i ∧ ∃ h' tk m' news' i old, s₃ = { s with heap := h', toks := tk } ∧ IsEnum h' e it ((i : Nat) : Int) old ∧ St i h' ∧ Fr h₀ env.locals h' m' ∧ News h₀ env.locals h' news' ∧ (∀ p ∈ news', p.1 ≠ e ∧ p.1 ≠ it) ∧ J i m' news' ∧ i ≤ n ∧ m_1 = n + 1 - i := by
      rintro ⟨H₃, tk₃, m₃, news₃, e₃, F₆, N₆, off₆, hJ₆⟩
      have N₆' : News h₀ env.locals H₃ news₃ := fun p hp => N₆ p (List.mem_cons_of_mem _ (List.mem_cons_of_mem _ hp))
      exact ⟨n + 1 - (i + 1), by omega, H₃, tk₃, m₃, news₃, i + 1, v, e₃, (N₆ _ List.mem_cons_self).1.trans (congrArg some hoe), hSt _ _ _ _ _ _ hst₁ hoi (N₆ _ (List.mem_cons_of_mem _ List.mem_cons_self)).1 F₆.keep N₆' hJ₆, F₆, N₆', off₆, hJ₆, hlt, rfl⟩
    cases f with
    | ret v => exact h₃
    | brk => exact h₃
    | next => exact go h₃
    | cont => exact go h₃
  · have hin : i = n := by omega
    subst hin
    refine wpAny_pyNext_enum_endD D hen' hst' fun h₁ hx₁ => ?_
    have hk : ∀ b o, b ∉ [it] → H.get? b = some o → h₁.get? b = some o := fun b o hb x => hx₁ b o (by simpa using hb) x
    exact done m' news' h₁ tk hJ (LCg.fr_but F' hk hLi hi₀) (LCg.news_but N' hk fun p hp => (off' p hp).2)
end
end PartL2

section PartL3
open PySem PySem.W PyProof.Rows PySem.Calls

section
variable {prog : Program} {w : World} {A : Around} {E : Value → Shared → Prop} {s : Shared} {env : Env} {Q : Flow → Shared → Prop} {body : List Stmt} {h₀ : Heap} {L : Addr} {m : Str → Option Value} {news : List (Addr × Obj)}

theorem get_none_of_fr {b : Addr} (F : Fr h₀ L s.heap m) (hb : s.heap.objs.size ≤ b) : h₀.get? b = none := by
  cases e : h₀.get? b with
  | none => rfl
  | some o => exact absurd (Heap.lt_size (F.keep b o e)) (Nat.not_lt.mpr hb)

theorem enumAny {e it : Addr} {v₀ : Value} {xi xv : Str} {pi pv pt : Pos} {x1 : Nat} {fp : List Addr} {n : Nat} {P : Nat → Value → Prop} {St : Nat → Heap → Prop} {h' : Heap}
    (D : Draws prog w A.in1 it fp n P St) (hE : PassesOwn (model prog w) A env E) (hh : A.handled = none) (hloc : env.locals = L) (hxi : env.kindOf xi = some .local) (hxv : env.kindOf xv = some .local)
    (hp : (env.scope.kind == .class || (env.scope.kind == .module && env.locals != env.globals)) = false)
    (he : e = s.heap.objs.size + 1) (hi : it = s.heap.objs.size) (hef : e ∉ fp)
    (J : Nat → (Str → Option Value) → List (Addr × Obj) → Prop)
    (hSt : ∀ i h h' o m' nw, St i h → h.get? it = some o → h'.get? it = some o → (∀ b o, h₀.get? b = some o → h'.get? b = some o) → News h₀ L h' nw → J i m' nw → St i h')
    (F : Fr h₀ L s.heap m) (N : News h₀ L s.heap news) (hen : IsEnum h' e it 0 v₀) (hst : St 0 h') (hk : ∀ b o, s.heap.get? b = some o → h'.get? b = some o) (h0 : J 0 m news)
    (step : ∀ i v t m₁ news₁ h₁ tk₁ e oe it oi, i < n → P i v → J i m₁ news₁ → Fr h₀ L h₁ (fun y => if y = xv then some v else if y = xi then some (.int (i : Int) t) else m₁ y) → News h₀ L h₁ ((e, oe) :: (it, oi) :: news₁) → (∀ p ∈ news₁, p.1 ≠ e ∧ p.1 ≠ it) →
      wpAny (model prog w) A (execs body env) (TurnEnd Q fun s₃ => ∃ h₃ tk₃ m₃ news₃, s₃ = { s with heap := h₃, toks := tk₃ } ∧ Fr h₀ L h₃ m₃ ∧
        News h₀ L h₃ ((e, oe) :: (it, oi) :: news₃) ∧ (∀ p ∈ news₃, p.1 ≠ e ∧ p.1 ≠ it) ∧ J (i + 1) m₃ news₃) E { s with heap := h₁, toks := tk₁ })
    (done : ∀ m₁ news₁ h₁ tk₁, J n m₁ news₁ → Fr h₀ L h₁ m₁ → News h₀ L h₁ news₁ → Q .next { s with heap := h₁, toks := tk₁ }) :
    LoopAtM prog w A env (.Tuple [.Name xi pi, .Name xv pv] x1 pt) body Q E (.ref e) { s with heap := h' } := by
  have hL : L < s.heap.objs.size := F.ns.lt
  refine loopE (h₀ := h₀) (L := L) (m := m) (news := news) D hE hh hloc hxi hxv hp (by rw [he, hi]; exact Nat.succ_ne_self _) hef (by rw [he]; exact Nat.ne_of_lt (Nat.lt_succ_of_lt hL)) (by rw [hi]; exact Nat.ne_of_lt hL)
    (get_none_of_fr F (by rw [he]; omega)) (get_none_of_fr F (by rw [hi]; omega)) J hSt (F.keeps hk) (fun p hp => ⟨hk _ _ (N p hp).1, (N p hp).2⟩) hen hst h0
    (fun p hp => ⟨by rw [he]; exact Nat.ne_of_lt (Nat.lt_succ_of_lt (Heap.lt_size (N p hp).1)), by rw [hi]; exact Nat.ne_of_lt (Heap.lt_size (N p hp).1)⟩)
    (fun i v t m₁ news₁ h₁ tk₁ oe oi hlt hP hJ F₁ N₁ off => step i v t m₁ news₁ h₁ tk₁ _ oe _ oi hlt hP hJ F₁ N₁ off) done

theorem drawsText (hh : A.handled = none) (it : Addr) (x : Str) (t : Tok) :
    Draws prog w A it [it] x.cps.size (fun i v => ∃ c u, x.cps[i]? = some c ∧ v = .str ⟨#[c]⟩ u) (fun i h => h.IsStrIter it (strIterType x) x t i) := by
  unfold strIterType
  cases x.cps.all (· < 128)
  · simpa using Draws.strWide hh it x t
  · simpa using Draws.strAscii hh it x t

/-- for i, ch in enumerate(a text) -/
theorem enumText {f : Str} {tf : Tok} {xi xv : Str} {pi pv pt : Pos} {x1 : Nat}
    (hE : PassesOwn (model prog w) A env E) (hh : A.handled = none) (hloc : env.locals = L) (hxi : env.kindOf xi = some .local) (hxv : env.kindOf xv = some .local)
    (hp : (env.scope.kind == .class || (env.scope.kind == .module && env.locals != env.globals)) = false)
    (J : Nat → (Str → Option Value) → List (Addr × Obj) → Prop)
    (F : Fr h₀ L s.heap m) (N : News h₀ L s.heap news) (h0 : J 0 m news)
    (step : ∀ i c u t m₁ news₁ h₁ tk₁ e oe it oi, f.cps[i]? = some c → J i m₁ news₁ → Fr h₀ L h₁ (fun y => if y = xv then some (.str ⟨#[c]⟩ u) else if y = xi then some (.int (i : Int) t) else m₁ y) → News h₀ L h₁ ((e, oe) :: (it, oi) :: news₁) → (∀ p ∈ news₁, p.1 ≠ e ∧ p.1 ≠ it) →
      wpAny (model prog w) A (execs body env) (TurnEnd Q fun s₃ => ∃ h₃ tk₃ m₃ news₃, s₃ = { s with heap := h₃, toks := tk₃ } ∧ Fr h₀ L h₃ m₃ ∧
        News h₀ L h₃ ((e, oe) :: (it, oi) :: news₃) ∧ (∀ p ∈ news₃, p.1 ≠ e ∧ p.1 ≠ it) ∧ J (i + 1) m₃ news₃) E { s with heap := h₁, toks := tk₁ })
    (done : ∀ m₁ news₁ h₁ tk₁, J f.cps.size m₁ news₁ → Fr h₀ L h₁ m₁ → News h₀ L h₁ news₁ → Q .next { s with heap := h₁, toks := tk₁ }) :
    wpAny (model prog w) A (call (.type "enumerate") [.str f tf]) (fun x s₁ => wpAny (model prog w) A (pyIter x) (fun it s₂ => LoopAtM prog w A env (.Tuple [.Name xi pi, .Name xv pv] x1 pt) body Q E it s₂) E s₁) E s := by
  refine call_enumerate_str fun h' he hi hz hk => wpAny_pyIter_enum he ?_
  refine enumAny (drawsText (by simpa using hh) _ f tf) hE hh hloc hxi hxv hp rfl rfl (by simp) J (fun i h h'' o m' nw st e e' _ _ _ => ?_) F N he hi hk h0 ?_ done
  · obtain ⟨o', q, r⟩ := st
    rw [e] at q; cases q; exact ⟨o, e', r⟩
  · rintro i v t m₁ news₁ h₁ tk₁ e oe it oi hlt ⟨c, u, hc, rfl⟩ hJ F₁ N₁ off
    exact step i c u t m₁ news₁ h₁ tk₁ e oe it oi hc hJ F₁ N₁ off

/-- for j, l in enumerate(a list of the ledger's), whose items may be set behind the place -/
theorem enumList {D : Addr} {orig : Array Value} {k : Nat} {xi xv : Str} {pi pv pt : Pos} {x1 : Nat}
    (hE : PassesOwn (model prog w) A env E) (hh : A.handled = none) (hloc : env.locals = L) (hxi : env.kindOf xi = some .local) (hxv : env.kindOf xv = some .local)
    (hp : (env.scope.kind == .class || (env.scope.kind == .module && env.locals != env.globals)) = false)
    (J : Nat → (Str → Option Value) → List (Addr × Obj) → Prop)
    (hJl : ∀ i m' nw, J i m' nw → ∃ items k, (D, listOf items k) ∈ nw ∧ items.size = orig.size ∧ ∀ j, i ≤ j → items[j]? = orig[j]?)
    (F : Fr h₀ L s.heap m) (N : News h₀ L s.heap news) (hD : (D, listOf orig k) ∈ news) (h0 : J 0 m news)
    (step : ∀ i v t m₁ news₁ h₁ tk₁ e oe it oi, orig[i]? = some v → J i m₁ news₁ → Fr h₀ L h₁ (fun y => if y = xv then some v else if y = xi then some (.int (i : Int) t) else m₁ y) → News h₀ L h₁ ((e, oe) :: (it, oi) :: news₁) → (∀ p ∈ news₁, p.1 ≠ e ∧ p.1 ≠ it) →
      wpAny (model prog w) A (execs body env) (TurnEnd Q fun s₃ => ∃ h₃ tk₃ m₃ news₃, s₃ = { s with heap := h₃, toks := tk₃ } ∧ Fr h₀ L h₃ m₃ ∧
        News h₀ L h₃ ((e, oe) :: (it, oi) :: news₃) ∧ (∀ p ∈ news₃, p.1 ≠ e ∧ p.1 ≠ it) ∧ J (i + 1) m₃ news₃) E { s with heap := h₁, toks := tk₁ })
    (done : ∀ m₁ news₁ h₁ tk₁, J orig.size m₁ news₁ → Fr h₀ L h₁ m₁ → News h₀ L h₁ news₁ → Q .next { s with heap := h₁, toks := tk₁ }) :
    wpAny (model prog w) A (call (.type "enumerate") [.ref D]) (fun x s₁ => wpAny (model prog w) A (pyIter x) (fun it s₂ => LoopAtM prog w A env (.Tuple [.Name xi pi, .Name xv pv] x1 pt) body Q E it s₂) E s₁) E s := by
  have hl : s.heap.IsList D orig := ⟨_, (N _ hD).1, rfl, _, rfl⟩
  have hDlt : D < s.heap.objs.size := Heap.lt_size (N _ hD).1
  refine call_enumerate_list hl fun h' he hi hz hk => wpAny_pyIter_enum he ?_
  have hne : D ≠ s.heap.objs.size := Nat.ne_of_lt hDlt
  refine enumAny (drawsMut (by simpa using hh) _ D hne orig) hE hh hloc hxi hxv hp rfl rfl ?_ J (fun i h h'' o m' nw st e e' _ Nw hJ => ?_) F N he ⟨hi, orig, hl.at fun o e => hk _ _ e, rfl, fun _ _ => rfl⟩ hk h0 ?_ done
  · simp only [List.mem_cons, List.not_mem_nil, or_false, not_or]
    exact ⟨Nat.succ_ne_self _, Nat.ne_of_gt (Nat.lt_succ_of_lt hDlt)⟩
  · refine ⟨?_, ?_⟩
    · obtain ⟨o', q, r⟩ := st.1
      rw [e] at q; cases q; exact ⟨o, e', r⟩
    · obtain ⟨items, k', hm, r⟩ := hJl _ _ _ hJ
      exact ⟨items, ⟨_, (Nw _ hm).1, rfl, _, rfl⟩, r⟩
  · intro i v t m₁ news₁ h₁ tk₁ e oe it oi hlt hP hJ F₁ N₁ off
    exact step i v t m₁ news₁ h₁ tk₁ e oe it oi hP hJ F₁ N₁ off
end
end PartL3

section PartL4
open PySem PySem.W PyProof.Rows PySem.Calls

/-- a new exception whose traceback is still empty, whatever its own members -/
structure OwnExc (h h' : Heap) (e : Addr) (cls : Value) : Prop where
  keeps : ∀ b o, h.get? b = some o → h'.get? b = some o
  new : h.get? e = none
  there : ∃ (oe : Obj) (vs : Array Value) (tp : Value), h'.get? e = some oe ∧ oe.cls = cls ∧ oe.data = .fields vs ∧ vs[0]? = some tp ∧ vs[1]? = some .none

section
variable {M : Model} {A : Around} {E : Value → Shared → Prop} {s s' : Shared} {base g h : Heap} {outer : List Env} {L a e : Addr} {m : Str → Option Value} {name : Str} {scope : Scope} {cd : Value} {news : List (Addr × Obj)}

theorem raise_unbound {α : Type} {msg : String} {Q : α → Shared → Prop} (hh : A.handled = none) (hm : (msg : Str).length ≤ sizeLine)
    (h : ∀ h' tk e, OwnExc s.heap h' e (.type "UnboundLocalError") → E (.ref e) { s with heap := h', toks := tk }) :
    wpAny M A (raiseErrorMade "UnboundLocalError" msg : Sem α) Q E s := by
  unfold raiseErrorMade
  refine wpAny_bind (wpAny_mkStr (wpAny_bind ?_) hm)
  unfold newExc newTuple
  refine wpAny_bind (wpAny_newObj_type ?_)
  refine wpAny_bind (m := firstArgMember _ _) (wpAny_of_eq (a := Value.none) (by
    have hp : ((Manifest.find? "UnboundLocalError").elim false fun t => t.mro.contains "StopIteration" || t.mro.contains "SystemExit") = false := by decide +kernel
    simp only [firstArgMember, hp]; rfl) ?_)
  refine wpAny_newObj_type ?_
  unfold raiseNew
  refine wpAny_bind (wpAny_handled ?_)
  rw [hh]
  refine wpAny_bind (wpAny_pure (wpAny_throw ?_))
  exact h _ _ _ ⟨fun b o hb => Heap.get?_push_of_some _ (Heap.get?_push_of_some _ hb), Heap.get?_none_of_le (by simp), _, _, _, Heap.get?_push_size _ rfl, rfl, rfl, rfl, rfl⟩

theorem load_unbound {env : Env} {x : Str} {pos : Pos} {Q : Value → Shared → Prop} (hh : A.handled = none) (hk : env.scope.kind = .function) (hl : env.kindOf x = some .local) (hn : s.heap.Ns env.locals m) (hv : m x = none)
    (hm : (s!"cannot access local variable '{x.toString}' where it is not associated with a value" : Str).length ≤ sizeLine)
    (h : ∀ h' tk e, OwnExc s.heap h' e (.type "UnboundLocalError") → E (.ref e) { s with heap := h', toks := tk })
    (hd : (x == ("__debug__" : Str)) = false := by decide) : wpAny M A (eval (.Name x pos) env) Q E s := by
  refine wpAny_Name ?_ hd
  have hload : loadName env x = (do
      match ← nsGet env.locals x with
      | some v => pure v
      | none => do
        rule "name.local.unbound"
        raiseErrorMade "UnboundLocalError" s!"cannot access local variable '{x.toString}' where it is not associated with a value") := by
    simp only [loadName, Env.blockKind, hk, hl, ScopeKind.isAnnotationScope, Bool.false_and, Bool.false_eq_true, if_false]
    rfl
  rw [hload]
  refine wpAny_bind (wpAny_nsGet hn ?_)
  rw [hv]
  exact wpAny_bind (wpAny_rule (raise_unbound hh hm h))

/-- such an exception leaves the frame in which it rose; the caller's things stand -/
theorem leave_own {cls : Value} {Q : Unit → Shared → Prop} (K : Below A base outer g) (F : Fr g L h m) (N : News g L h news) (hx : OwnExc h s'.heap e cls)
    (hQ : ∀ h', RaisedN base outer e cls news h' → g.UpToSlots h' → Q () { s' with heap := h' }) (hk : scope.kind = .function := by rfl) :
    wpAny M (A.deeper (envOf name scope L a cd)) (leaving (envOf name scope L a cd) (.ref e)) Q E s' := by
  have K' := K.push (name := name) (a := a) (cd := cd) F hk
  obtain ⟨B, hB⟩ : ∃ B, B = hideAll h ((envOf name scope L a cd :: outer).filterMap (·.frame)) := ⟨_, rfl⟩
  have hin : ∀ env ∈ (envOf name scope L a cd :: outer), ∀ b, env.frame = some b → b ∈ (envOf name scope L a cd :: outer).filterMap (·.frame) := fun env he b hb => List.mem_filterMap.mpr ⟨env, he, hb⟩
  have st : base.StaysIn B := fun b o q => by
    rw [hB]
    refine hideAll_get _ (K'.stays b o q) fun hm => ?_
    rw [(K'.frames.mem hm).1] at q; cases q
  have hl : ∀ q ∈ news, B.get? q.1 = some q.2 ∧ base.get? q.1 = none := fun q hq => by
    refine ⟨?_, fresh_of_stays K.stays (N q hq).2.2⟩
    rw [hB]
    refine hideAll_get _ (N q hq).1 fun hm => ?_
    obtain ⟨env, he, hf⟩ := List.mem_filterMap.mp hm
    rcases List.mem_cons.mp he with rfl | he
    · exact (N q hq).2.1 (Option.some.inj hf).symm
    · obtain ⟨o, ho, _⟩ := (K.frames.mem (List.mem_filterMap.mpr ⟨env, he, hf⟩)).2
      rw [(N q hq).2.2] at ho; cases ho
  obtain ⟨oe, vs, tp, he, hcls, hd, h0, h1⟩ := hx.there
  have hen : B.get? e = none := by
    cases q : B.get? e with
    | none => rfl
    | some o => rw [hB] at q; have := of_hideAll _ q; rw [hx.new] at this; cases this
  refine wpAny_leaving_firstW (base := B) (a0 := tp) K'.stack ?_ rfl he (fun b o hb => ?_) hen hd h1 h0 fun h' hL => ?_
  · rw [hB]
    exact (funFrames_hide K'.frames hin).of_keeps fun b o hb _ => ⟨o, hx.keeps b o hb, rfl⟩
  · rw [hB] at hb; exact hx.keeps b o (of_hideAll _ hb)
  · obtain ⟨k1, ⟨_, _, k2⟩, k3, k4⟩ := hL
    exact hQ h' ⟨B, tp, st, hl, k1, hen, k2, by rw [← hcls]; exact k3⟩ (((Heap.UpToSlots.of_keeps F.keep).trans (Heap.UpToSlots.of_keeps hx.keeps)).trans k4)
end

section
variable {prog : Program} {w : World} {A : Around} {E : Value → Shared → Prop} {s : Shared} {h₀ : Heap} {L D : Addr} {m : Str → Option Value} {news news' : List (Addr × Obj)} {vs : List Value} {n : Nat} {k : Int} {t : Tok} {y : Value}
/-- an item of a list of the ledger's is set, whatever the value -/
theorem setAt_any {Q : Unit → Shared → Prop} (F : Fr h₀ L s.heap m) (N : News h₀ L s.heap news) (U : Upd D (listOf vs.toArray n) (listOf (vs.set k.toNat y).toArray n) news news') (h0 : 0 ≤ k) (h1 : k < vs.length) (hfit : k < 2 ^ 63)
    (h : ∀ h', Fr h₀ L h' m → News h₀ L h' news' → Q () { s with heap := h' }) : wpAny (model prog w) A (setItem (.ref D) (.int k t) y) Q E s := by
  obtain ⟨pre, post, rfl, rfl, a, b⟩ := U.split
  have z := N (D, listOf vs.toArray n) (List.mem_append.mpr (.inr (.head _)))
  have hs : vs.toArray.size = vs.length := List.size_toArray
  refine ki_setAt z.1 h0 hfit (by omega) (h _ (F.change (Heap.SameBut.update ..) z.2.1 z.2.2) (ki_turn _ N a b ?_ ?_))
  · apply Array.toList_inj.mp
    simp
  · simp
end
end PartL4

section PartL5
open PySem PySem.W PyProof.Rows PySem.Calls

section
variable {prog : Program} {w : World} {A : Around} {E : Value → Shared → Prop} {s : Shared} {env : Env} {Q : Flow → Shared → Prop} {body : List Stmt} {h₀ : Heap} {L : Addr} {m : Str → Option Value} {news : List (Addr × Obj)} {x : Str} {px : Pos}

theorem walksText (hh : A.handled = none) (I : Addr) (y : Str) (t : Tok) :
    Walks prog w A I [I] [I] y.cps.size (SignAt y) (fun i h => h.IsStrIter I (strIterType y) y t i) := by
  unfold strIterType
  cases y.cps.all (· < 128)
  · simpa using Walks.strWide hh I y t
  · simpa using Walks.strAscii hh I y t

/-- for c in a text -/
theorem loopText {y : Str} {t : Tok} (hE : PassesOwn (model prog w) A env E) (hh : A.handled = none)
    (J : Nat → (Str → Option Value) → List (Addr × Obj) → Prop) (F : Fr h₀ L s.heap m) (N : News h₀ L s.heap news) (h0 : J 0 m news)
    (step : ∀ i c u m₁ news₁ h₁ tk₁ dr₁ I oI, y.cps[i]? = some c → J i m₁ news₁ → Fr h₀ L h₁ m₁ → News h₀ L h₁ ((I, oI) :: news₁) → (∀ p ∈ news₁, p.1 ≠ I) →
      wpAny (model prog w) A (storeName env x (.str ⟨#[c]⟩ u)) (fun _ s₂ => wpAny (model prog w) A (execs body env) (TurnEnd Q fun s₃ => ∃ h₃ tk₃ dr₃ m₃ news₃, s₃ = { s with heap := h₃, toks := tk₃, drawn := dr₃ } ∧ Fr h₀ L h₃ m₃ ∧
        News h₀ L h₃ ((I, oI) :: news₃) ∧ (∀ p ∈ news₃, p.1 ≠ I) ∧ J (i + 1) m₃ news₃) E s₂) E { s with heap := h₁, toks := tk₁, drawn := dr₁ })
    (done : ∀ m₁ news₁ h₁ tk₁ dr₁, J y.cps.size m₁ news₁ → Fr h₀ L h₁ m₁ → News h₀ L h₁ news₁ → Q .next { s with heap := h₁, toks := tk₁, drawn := dr₁ }) :
    wpAny (model prog w) A (pyIter (.str y t)) (fun it s₂ => LoopAtM prog w A env (.Name x px) body Q E it s₂) E s := by
  refine wpAny_pyIter_strU ?_
  refine loopF (h₀ := h₀) (L := L) (m := m) (news := news) (runs_of (walksText hh _ y t)) hE (Nat.ne_of_lt F.ns.lt) (next_is_new F) J (fun i h st => let ⟨o, ho, _⟩ := st; ⟨o, ho⟩) (fun i h h' o m' nw st e e' _ _ _ => ?_)
    (F.push _) (fun p hp => ⟨Heap.get?_push_of_some _ (N p hp).1, (N p hp).2⟩) ⟨_, Heap.get?_push_size _ rfl, rfl, rfl⟩ h0 (fun p hp => Nat.ne_of_lt (Heap.lt_size (N p hp).1)) ?_ done
  · obtain ⟨o', q, r⟩ := st
    rw [e] at q; cases q; exact ⟨o, e', r⟩
  · rintro i v m₁ news₁ h₁ tk₁ dr₁ oI hlt ⟨c, u, hc, rfl⟩ hJ F₁ N₁ off
    exact step i c u m₁ news₁ h₁ tk₁ dr₁ _ oI hc hJ F₁ N₁ off

/-- for v in a list of the ledger's that stands -/
theorem loopList {D : Addr} {items : Array Value} {k : Nat} (hE : PassesOwn (model prog w) A env E) (hh : A.handled = none)
    (J : Nat → (Str → Option Value) → List (Addr × Obj) → Prop) (hJl : ∀ i m' nw, J i m' nw → (D, listOf items k) ∈ nw)
    (F : Fr h₀ L s.heap m) (N : News h₀ L s.heap news) (h0 : J 0 m news)
    (step : ∀ i v m₁ news₁ h₁ tk₁ dr₁ I oI, items[i]? = some v → J i m₁ news₁ → Fr h₀ L h₁ m₁ → News h₀ L h₁ ((I, oI) :: news₁) → (∀ p ∈ news₁, p.1 ≠ I) →
      wpAny (model prog w) A (storeName env x v) (fun _ s₂ => wpAny (model prog w) A (execs body env) (TurnEnd Q fun s₃ => ∃ h₃ tk₃ dr₃ m₃ news₃, s₃ = { s with heap := h₃, toks := tk₃, drawn := dr₃ } ∧ Fr h₀ L h₃ m₃ ∧
        News h₀ L h₃ ((I, oI) :: news₃) ∧ (∀ p ∈ news₃, p.1 ≠ I) ∧ J (i + 1) m₃ news₃) E s₂) E { s with heap := h₁, toks := tk₁, drawn := dr₁ })
    (done : ∀ m₁ news₁ h₁ tk₁ dr₁, J items.size m₁ news₁ → Fr h₀ L h₁ m₁ → News h₀ L h₁ news₁ → Q .next { s with heap := h₁, toks := tk₁, drawn := dr₁ }) :
    wpAny (model prog w) A (pyIter (.ref D)) (fun it s₂ => LoopAtM prog w A env (.Name x px) body Q E it s₂) E s := by
  have hD := hJl _ _ _ h0
  have hl : s.heap.IsList D items := ⟨_, (N _ hD).1, rfl, _, rfl⟩
  have hlt : D < s.heap.objs.size := Heap.lt_size (N _ hD).1
  refine wpAny_pyIter_list hl ?_
  refine loopF (h₀ := h₀) (L := L) (m := m) (news := news) (runs_of (Walks.list hh _ D (Nat.ne_of_lt hlt) items)) hE (Nat.ne_of_lt F.ns.lt) (next_is_new F) J (fun i h st => let ⟨o, ho, _⟩ := st.1; ⟨o, ho⟩) (fun i h h' o m' nw st e e' _ Nw hJ => ?_)
    (F.push _) (fun p hp => ⟨Heap.get?_push_of_some _ (N p hp).1, (N p hp).2⟩) ⟨⟨_, Heap.get?_push_size _ rfl, rfl, rfl⟩, hl.push _⟩ h0 (fun p hp => Nat.ne_of_lt (Heap.lt_size (N p hp).1)) ?_ done
  · refine ⟨?_, ⟨_, (Nw _ (hJl _ _ _ hJ)).1, rfl, _, rfl⟩⟩
    obtain ⟨o', q, r⟩ := st.1
    rw [e] at q; cases q; exact ⟨o, e', r⟩
  · intro i v m₁ news₁ h₁ tk₁ dr₁ oI hlt hP hJ F₁ N₁ off
    exact step i v m₁ news₁ h₁ tk₁ dr₁ _ oI hP hJ F₁ N₁ off
end
end PartL5

section PartL6
open PySem PySem.W PyProof.Rows PySem.Calls

theorem isExc_ULE : isSubtype (.type "UnboundLocalError") (.type "BaseException") = pure true := by rw [isSubtype_type]; kernel_rfl
theorem notTuple_ULE : isSubtype (.type ((Manifest.find? "UnboundLocalError").elim "type" fun x => x.metatype)) (.type "tuple") = pure false := by
  rw [show ((Manifest.find? "UnboundLocalError").elim "type" fun x => x.metatype) = "type" from by kernel_rfl, isSubtype_type]; kernel_rfl
theorem self_ULE : isSubtype (.type "UnboundLocalError") (.type "UnboundLocalError") = pure true := by rw [isSubtype_type]; kernel_rfl

section
variable {prog : Program} {w : World} {A : Around} {E : Value → Shared → Prop} {s' : Shared} {h₀ h : Heap} {outer : List Env} {L e : Addr} {m mg mb : Str → Option Value} {env : Env}
  {b₀ : Stmt} {suite : List Stmt} {pos np : Pos} {rest : List ExceptHandler} {Q : Flow → Shared → Prop} {news : List (Addr × Obj)}

/-- an UnboundLocalError out of a callee, caught by name in a frame that may bear cells -/
theorem caught_env (hfr : A.frames = some (env :: outer)) (hf : env.frame = some L) (hk : env.scope.kind = .function) (hx : env.kindOf (Str.ofString "UnboundLocalError") = some .globalImplicit)
    (F : Fr h₀ L h m) (hsm : h.UpToSlots s'.heap) (R : RaisedN h₀ (env :: outer) e (.type "UnboundLocalError") news s'.heap)
    (hg : h₀.Ns env.globals mg) (hmiss : mg (Str.ofString "UnboundLocalError") = none) (hb : h₀.Ns env.builtins mb) (hv : mb (Str.ofString "UnboundLocalError") = some (.type "UnboundLocalError"))
    (k : ∀ h', Fr h₀ L h' m → News h₀ L h' news → wpAny (model prog w) (A.mark (some (.ref e))) (execs (b₀ :: suite) env) Q E { s' with heap := h' })
    (hE : PassesOwnAt (model prog w) (A.mark (some (.ref e))) A env E) :
    wpAny (model prog w) A (noteFrame (.ref e) env)
      (fun _ s₂ => wpAny (model prog w) A (setFlight (.ref e) none) (fun _ s₃ =>
        wpAny (model prog w) A (handleBy (.ref e) env (.ExceptHandler (some (.Name (Str.ofString "UnboundLocalError") np)) none (b₀ :: suite) pos :: rest)) Q E s₃) E s₂) E s' := by
  obtain ⟨B, a0, hB, hl, hfl⟩ := R
  have hL : B.get? L = none := by
    obtain ⟨_, ⟨L', _, hf', hn', _⟩, _⟩ := hfl.2.2.1
    rw [hf] at hf'
    obtain rfl : L = L' := Option.some.inj hf'
    exact hn'
  refine wpAny_looks_onW hfr hf hfl fun h₄ hheld₄ hsm₄ => ?_
  refine wpAny_landsW hheld₄ fun h₅ hheld hsm₅' => ?_
  have hsm₅ := hsm₄.trans hsm₅'
  have hheld' := flyingW_base hB hheld
  have F₅ := F.of_stays hheld'.1 (hsm.trans hsm₅)
  obtain ⟨ob, hob, hobc⟩ := hheld'.there
  refine wpAny_handleBy_builtin (X := "UnboundLocalError") (T := "UnboundLocalError") (b := true) isExc_ULE notTuple_ULE self_ULE
    (Calls.Name_function_global hk hx (Calls.loadGlobal_builtin (hg.keeps F₅.keep) hmiss (hb.keeps F₅.keep) hv ⟨rfl, ⟨ob, hob, hobc⟩, ?_⟩) (by decide +kernel))
  refine lands_againW hheld fun h₆ hfl₆ hsm₆ => ?_
  have F₆ := F.of_stays (flyingW_base hB hfl₆).1 ((hsm.trans hsm₅).trans hsm₆)
  exact wpAny_passesOwnAt hE (k h₆ F₆ fun q hq => ⟨hfl₆.1 _ _ (hl q hq).1, (fun z => by have := (hl q hq).1; rw [z, hL] at this; cases this), (hl q hq).2⟩)
end
end PartL6

section PartP1
open PySem PySem.W PyProof.Rows PySem.Calls

/-- a text's rows, as lists of signs -/
def spl : List Nat → List (List Nat)
  | [] => [[]]
  | c :: r => if c = 10 then [] :: spl r else match spl r with
    | [] => [[c]]
    | h :: t => (c :: h) :: t
def jn : List (List Nat) → List Nat
  | [] => []
  | [p] => p
  | p :: r => p ++ 10 :: jn r
abbrev nl : Str := Str.ofString "\n"
theorem nl_eq : nl = ⟨#[10]⟩ := by decide +kernel

theorem spl_ne (l : List Nat) : spl l ≠ [] := by
  cases l with
  | nil => simp [spl]
  | cons c r => unfold spl; split <;> (try split) <;> simp
theorem spl_plain : ∀ p : List Nat, 10 ∉ p → spl p = [p]
  | [], _ => rfl
  | c :: r, h => by
    have h1 : c ≠ 10 := fun e => h (by simp [e])
    have h2 : 10 ∉ r := fun e => h (List.mem_cons_of_mem _ e)
    unfold spl
    rw [if_neg h1, spl_plain r h2]
theorem spl_app : ∀ (p r : List Nat), 10 ∉ p → spl (p ++ 10 :: r) = p :: spl r
  | [], r, _ => by show spl (10 :: r) = _; rw [spl, if_pos rfl]
  | c :: p, r, h => by
    have h1 : c ≠ 10 := fun e => h (by simp [e])
    have h2 : 10 ∉ p := fun e => h (List.mem_cons_of_mem _ e)
    show spl (c :: (p ++ 10 :: r)) = _
    rw [spl, if_neg h1, spl_app p r h2]
theorem spl_jn : ∀ ps : List (List Nat), ps ≠ [] → (∀ p ∈ ps, 10 ∉ p) → spl (jn ps) = ps
  | [], h, _ => absurd rfl h
  | [p], _, h => spl_plain p (h p (by simp))
  | p :: q :: r, _, h => by
    show spl (p ++ 10 :: jn (q :: r)) = _
    rw [spl_app p _ (h p (by simp)), spl_jn (q :: r) (by simp) fun x hx => h x (List.mem_cons_of_mem _ hx)]
theorem jn_spl : ∀ l : List Nat, jn (spl l) = l
  | [] => rfl
  | c :: r => by
    have ih := jn_spl r
    unfold spl
    split
    · rename_i h
      subst h
      cases hs : spl r with
      | nil => exact absurd hs (spl_ne r)
      | cons a b => rw [hs] at ih; show [] ++ 10 :: jn (a :: b) = _; rw [ih]; rfl
    · cases hs : spl r with
      | nil => exact absurd hs (spl_ne r)
      | cons a b =>
        rw [hs] at ih
        show jn ((c :: a) :: b) = _
        cases b with
        | nil => show c :: a = _; rw [← ih]; rfl
        | cons b bs => show (c :: a) ++ 10 :: jn (b :: bs) = _; rw [← ih]; rfl
theorem spl_free : ∀ (l : List Nat), ∀ p ∈ spl l, 10 ∉ p
  | [], p, h => by simp [spl] at h; simp [h]
  | c :: r, p, h => by
    have ih := spl_free r
    unfold spl at h
    split at h
    · rcases List.mem_cons.mp h with rfl | h
      · simp
      · exact ih p h
    · rename_i hc
      cases hs : spl r with
      | nil => exact absurd hs (spl_ne r)
      | cons a b =>
        rw [hs] at h
        rcases List.mem_cons.mp h with rfl | h
        · intro e
          rcases List.mem_cons.mp e with e | e
          · exact hc e.symm
          · exact ih a (by rw [hs]; exact List.mem_cons_self) e
        · exact ih p (by rw [hs]; exact List.mem_cons_of_mem _ h)

theorem join_list : ∀ ps : List Str, (Str.join nl ps).cps.toList = jn (ps.map fun p => p.cps.toList)
  | [] => rfl
  | [p] => rfl
  | p :: q :: r => by
    have ih := join_list (q :: r)
    show (p ++ nl ++ Str.join nl (q :: r)).cps.toList = p.cps.toList ++ 10 :: jn ((q :: r).map fun p => p.cps.toList)
    rw [← ih, nl_eq]
    show ((p.cps ++ #[10]) ++ (Str.join ⟨#[10]⟩ (q :: r)).cps).toList = _
    simp
theorem split_ne (x y : Str) : Txt.split x y ≠ [] := by
  unfold Txt.split
  split
  · simp
  · split
    · simp
    · unfold Builtin.Str.partsBetween
      simp

theorem split_list (x : Str) : (Txt.split x nl).map (fun p => p.cps.toList) = spl x.cps.toList := by
  have h1 := StrLaws.join_split x nl
  have h2 : ∀ p ∈ Txt.split x nl, 10 ∉ p.cps.toList := by rw [nl_eq]; exact StrLaws.split_free x 10
  have h3 := join_list (Txt.split x nl)
  rw [h1] at h3
  rw [h3, spl_jn]
  · intro e
    exact split_ne x nl (List.map_eq_nil_iff.mp e)
  · intro p hp
    obtain ⟨q, hq, rfl⟩ := List.mem_map.mp hp
    exact h2 q hq
theorem split_eq (x : Str) : Txt.split x nl = (spl x.cps.toList).map fun p => ⟨p.toArray⟩ := by
  rw [← split_list, List.map_map]
  conv => lhs; rw [← List.map_id (Txt.split x nl)]
  exact List.map_congr_left fun p _ => by cases p; rfl

theorem spl_length : ∀ l : List Nat, (spl l).length ≤ l.length + 1
  | [] => by simp [spl]
  | c :: r => by
    have ih := spl_length r
    unfold spl
    split
    · simp; exact ih
    · cases hs : spl r with
      | nil => exact absurd hs (spl_ne r)
      | cons a b => rw [hs] at ih; simp at ih ⊢; omega
theorem spl_each : ∀ (l : List Nat), ∀ p ∈ spl l, p.length ≤ l.length
  | [], p, h => by simp [spl] at h; simp [h]
  | c :: r, p, h => by
    have ih := spl_each r
    unfold spl at h
    split at h
    · rcases List.mem_cons.mp h with rfl | h
      · simp
      · exact Nat.le_succ_of_le (ih p h)
    · cases hs : spl r with
      | nil => exact absurd hs (spl_ne r)
      | cons a b =>
        rw [hs] at h ih
        rcases List.mem_cons.mp h with rfl | h
        · simpa using ih a List.mem_cons_self
        · exact Nat.le_succ_of_le (ih p (List.mem_cons_of_mem _ h))
theorem split_length (x : Str) : (Txt.split x nl).length ≤ x.length + 1 := by
  rw [split_eq, List.length_map]
  simpa [Str.length] using spl_length x.cps.toList
theorem split_each (x : Str) : ∀ p ∈ Txt.split x nl, p.length ≤ x.length := by
  intro p hp
  rw [split_eq] at hp
  obtain ⟨q, hq, rfl⟩ := List.mem_map.mp hp
  simpa [Str.length] using spl_each x.cps.toList q hq
end PartP1

section PartT71
open PySem PySem.W PyProof.Rows PySem.Calls
abbrev A71 (d : Nat) (env : Env) (outer : List Env) (g : Option (List Code)) (u : Nat) : Around := { handled := none, depth := d, frames := some (env :: outer), guards := g, units := u }
/-- a halt for the walk -/
def Halt (P : Prop) : Prop := P
theorem halt {P : Prop} (h : Halt P) : P := h
theorem go_on {P : Prop} (h : P) : Halt P := h
end PartT71

section PartDed
open PySem PySem.W PyProof.Rows PySem.Calls
set_option maxRecDepth 100000
set_option maxHeartbeats 8000000



def lead (l : List Nat) : Nat := (l.takeWhile (· == 32)).length
def marg (f : Str) : Nat := min (lead f.cps.toList) (f.cps.size - 1)

def dedentT (x : Str) : Str := Txt.join nl ((Txt.split x nl).map fun r => Txt.slice r (some (marg ((Txt.split x nl).headD default) : Int)) none)
theorem joinOk_of {sep : Str} {texts : List Str} {B : Nat} (hB : ∀ y ∈ texts, y.length ≤ B) (h : texts.length * B + texts.length * sep.length ≤ 16777216) : JoinOk sep texts = true := by
  unfold JoinOk
  rw [StrLaws.joinFits hB h]; rfl
theorem takeWhile_all {p : Nat → Bool} : ∀ (l : List Nat) (k : Nat), (∀ j, j < k → ∃ c, l[j]? = some c ∧ p c = true) → (∀ c, l[k]? = some c → p c = false) → (l.takeWhile p).length = k
  | [], k, h, _ => by
    cases k with
    | zero => rfl
    | succ k => obtain ⟨c, hc, _⟩ := h 0 (Nat.succ_pos _); simp at hc
  | a :: r, 0, _, h => by
    have := h a (by simp)
    simp [List.takeWhile_cons, this]
  | a :: r, k + 1, h, h2 => by
    obtain ⟨c, hc, hp⟩ := h 0 (Nat.succ_pos _)
    simp at hc; subst hc
    rw [List.takeWhile_cons, hp, if_pos rfl, List.length_cons, takeWhile_all r k (fun j hj => by simpa using h (j + 1) (Nat.succ_lt_succ hj)) (fun c hc => h2 c (by simpa using hc))]
theorem lead_break {f : Str} {i c : Nat} (hb : ∀ j, j < i → f.cps[j]? = some 32) (hc : f.cps[i]? = some c) (hne : c ≠ 32) : lead f.cps.toList = i :=
  takeWhile_all _ _ (fun j hj => ⟨32, by simpa using hb j hj, rfl⟩) (fun c' hc' => by
    have : f.cps[i]? = some c' := by simpa using hc'
    rw [hc] at this; cases this; simpa using hne)
theorem lead_done {f : Str} (hb : ∀ j, j < f.cps.size → f.cps[j]? = some 32) : lead f.cps.toList = f.cps.size :=
  takeWhile_all _ _ (fun j hj => ⟨32, by simpa using hb j hj, rfl⟩) (fun c' hc' => by simp at hc')
theorem marg_break {f : Str} {i c : Nat} (hb : ∀ j, j < i → f.cps[j]? = some 32) (hc : f.cps[i]? = some c) (hne : c ≠ 32) : marg f = i := by
  have hlt : i < f.cps.size := (Array.getElem?_eq_some_iff.mp hc).1
  unfold marg; rw [lead_break hb hc hne]; omega
theorem marg_done {f : Str} (hb : ∀ j, j < f.cps.size → f.cps[j]? = some 32) : marg f = f.cps.size - 1 := by
  unfold marg; rw [lead_done hb]; omega

local macro_rules | `(tactic| walk_at "exec For Tuple Call cons nil") => `(tactic| (refine For_M ?_ (by intro _; rfl)))
local macro_rules | `(tactic| walk_at "call builtin:str.split") => `(tactic| refine halt ?_)
local macro_rules | `(tactic| walk_at "call type:enumerate") => `(tactic| refine halt ?_)
local macro_rules | `(tactic| walk_at "subscriptTail Name Constant ref int") => `(tactic| refine halt ?_)
local macro_rules | `(tactic| walk_at "subscriptTail Name Slice str") => `(tactic| refine halt ?_)
local macro_rules | `(tactic| walk_at "setItem ref int") => `(tactic| refine halt ?_)

theorem dedent_call {w : World} {A₀ : Around} {base h₀ : Heap} {d u : Nat} {g : Option (List Code)} {outer : List Env} {env : Env} {L : Addr} {s : Shared} {m mg mb : Str → Option Value} {mean : ExcName → Option Value} {news : List (Addr × Obj)} {R : Result → Shared → Prop}
   {x : Str} {t : Tok}
   (B : Below A₀ base outer h₀) (F : Fr h₀ L s.heap m) (X₀ : (hd.heap_39 w.params).In h₀) (N : News h₀ L s.heap news) (T : Top hd.view_39 (looseW hd.view_39 []) mean mg mb h₀)
   (hf : env.frame = some L) (hke : env.scope.kind = .function) (hdp : d < recursionLimit) (hx : x.length ≤ 100)
   (hok : ((Txt.split x nl).headD default).cps.size ≠ 0 → ∀ h' tk t', Fr h₀ L h' m → News h₀ L h' news → R (.ok (.ret (.str (dedentT x) t'))) { s with heap := h', toks := tk })
   (hbad : ((Txt.split x nl).headD default).cps.size = 0 → ∀ gx h' tk e, Fr h₀ L gx m → gx.UpToSlots h' → RaisedN base (env :: outer) e (.type "UnboundLocalError") news h' → R (.error (.ref e)) { s with heap := h', toks := tk }) :
   codeAny (model Challenge.rw_nb0071_01.row.prog w) (A71 d env outer g u) (.call (.ref 90) ⟨[.str x t], []⟩) R s := by
  revert X₀; k_fill; intro X₀
  refine' code_def (binds := [(Str.ofString "text", .str x t)]) B F X₀ N T ?kA hf hke ?k6 ?k7 ?k8 ?k9 ?kB ?_ ?c2 ?c3 ?c4 ?c5; (case kA => exact rfl); (case k6 => k_is); (case k7 => k_is); (case k8 => exact hdp); (case k9 => exact BindsTo.of_eq rfl); (case c5 => decide); (case kB => exact locs rfl); (case c2 => exact rfl); (case c3 => exact rfl); (case c4 => exact rfl)
  intro g' L' h' FG' F' N' B' X' T'; (try dsimp only); k_fold
  replace F' : Fr g' L' h' (fun y => List.lookup y [(Str.ofString "text", .str x t)]) := F'
  k_steps
  refine go_on (KSpl.split1 F' N' (by decide) ?_ (by rw [sizeLine_eq]; omega))
  intro D l h₁ k₁ e₁ a₁ F₁ N₁ l₁
  obtain ⟨f, tf, l', rfl⟩ : ∃ f tf l', l = (f, tf) :: l' := by
    cases l with
    | nil => exact absurd e₁.symm (split_ne x nl)
    | cons p r => exact ⟨p.1, p.2, r, rfl⟩
  clear F' N'
  k_steps
  (rename Fr g' L' _ _ => F₂); (rename News g' L' _ _ => N₂)
  have hD : ∀ h, News g' L' h ((D, listOf (strValues ((f, tf) :: l')).toArray 0) :: news) → h.IsList D (strValues ((f, tf) :: l')).toArray := fun h N => ⟨_, (N _ List.mem_cons_self).1, rfl, _, rfl⟩
  refine go_on (item_litK (hD _ N₂) (by decide) (by decide) rfl ?_ (by with_unfolding_all rfl))
  k_steps
  refine go_on (call_mid (fun s' => (f.cps.size = 0 ∧ ∃ h tk, s' = { s with heap := h, toks := tk } ∧ Fr g' L' h (fun y => if y = Str.ofString "lines" then some (Value.ref D) else List.lookup y [(Str.ofString "text", Value.str x t)]) ∧ News g' L' h ((D, listOf (strValues ((f, tf) :: l')).toArray 0) :: news)) ∨
      (f.cps.size ≠ 0 ∧ ∃ h tk uc ti, s' = { s with heap := h, toks := tk } ∧ Fr g' L' h (fun y => if y = Str.ofString "ch" then uc else if y = Str.ofString "i" then some (.int (marg f : Int) ti) else if y = Str.ofString "lines" then some (Value.ref D) else List.lookup y [(Str.ofString "text", Value.str x t)]) ∧ News g' L' h ((D, listOf (strValues ((f, tf) :: l')).toArray 0) :: news)))
    (enumText (L := L') (h₀ := g') (J := fun i m₁ n₁ => n₁ = ((D, listOf (strValues ((f, tf) :: l')).toArray 0) :: news) ∧ (∀ j, j < i → f.cps[j]? = some 32) ∧
      ((i = 0 ∧ m₁ = fun y => if y = Str.ofString "lines" then some (Value.ref D) else List.lookup y [(Str.ofString "text", Value.str x t)]) ∨
       (0 < i ∧ ∃ uc ti, m₁ = fun y => if y = Str.ofString "ch" then uc else if y = Str.ofString "i" then some (.int ((i - 1 : Nat) : Int) ti) else if y = Str.ofString "lines" then some (Value.ref D) else List.lookup y [(Str.ofString "text", Value.str x t)]))) ?hE rfl rfl rfl rfl rfl F₂ N₂ ⟨rfl, fun j hj => absurd hj (Nat.not_lt_zero _), .inl ⟨rfl, rfl⟩⟩ ?step ?done) ?rest)
  case hE => passes_own
  case step =>
    rintro i c u ti m₁ news₁ h₃ tk₃ e oe it oi hc ⟨rfl, hb, hm⟩ F₃ N₃ off₃
    replace F₃ : Fr g' L' h₃ (fun y => if y = Str.ofString "ch" then some (.str ⟨#[c]⟩ u) else if y = Str.ofString "i" then some (.int (i : Int) ti) else if y = Str.ofString "lines" then some (Value.ref D) else List.lookup y [(Str.ofString "text", Value.str x t)]) := by
      rcases hm with ⟨_, rfl⟩ | ⟨_, uc, ti', rfl⟩
      · exact F₃
      · refine cast (congrArg (Fr g' L' h₃) ?_) F₃
        funext y
        by_cases h1 : y = Str.ofString "ch"
        · simp [h1]
        · by_cases h2 : y = Str.ofString "i" <;> simp [h1, h2]
    clear F₂ N₂ hm
    k_steps
    · rename (_ != _) = true => hne
      have hlt : i < f.cps.size := by have := Array.getElem?_eq_some_iff.mp hc; exact this.1
      refine .inr ⟨by omega, h₃, _, some (.str ⟨#[c]⟩ u), ti, rfl, ?_, fun p hp => N₃ p (List.mem_cons_of_mem _ (List.mem_cons_of_mem _ hp))⟩
      rw [marg_break hb hc (by rintro rfl; exact absurd hne (by decide))]
      exact F₃
    · rename (_ != _) = false => heq
      have hc32 : c = 32 := by
        have : (⟨#[c]⟩ : Str) = ⟨#[32]⟩ := by simpa [show Str.ofString " " = ⟨#[32]⟩ from by decide +kernel] using heq
        simpa using congrArg Str.cps this
      subst hc32
      refine ⟨h₃, _, _, _, rfl, F₃, N₃, off₃, rfl, fun j hj => ?_, .inr ⟨Nat.succ_pos _, _, _, rfl⟩⟩
      rcases Nat.lt_succ_iff_lt_or_eq.mp hj with h | rfl
      · exact hb j h
      · exact hc
  case done =>
    rintro m₁ news₁ h₃ tk₃ ⟨rfl, hb, hm⟩ F₃ N₃
    rcases hm with ⟨h0, rfl⟩ | ⟨h0, uc, ti, rfl⟩
    · exact .inl ⟨h0, h₃, tk₃, rfl, F₃, N₃⟩
    · refine .inr ⟨Nat.ne_of_gt h0, h₃, tk₃, uc, ti, rfl, ?_, N₃⟩
      rw [marg_done hb]
      exact F₃
  case rest =>
    clear F₂ N₂
    rintro s' (⟨hz, h₃, tk₃, rfl, F₃, N₃⟩ | ⟨hz, h₃, tk₃, uc, ti, rfl, F₃, N₃⟩)
    · k_steps
      refine go_on (enumList (L := L') (h₀ := g') (orig := (strValues ((f, tf) :: l')).toArray) (J := fun i m₁ n₁ => i = 0 ∧ n₁ = ((D, listOf (strValues ((f, tf) :: l')).toArray 0) :: news) ∧
        m₁ = fun y => if y = Str.ofString "lines" then some (Value.ref D) else List.lookup y [(Str.ofString "text", Value.str x t)]) ?hE rfl rfl rfl rfl rfl ?hJl F₃ N₃ (.head _) ⟨rfl, rfl, rfl⟩ ?step ?done)
      case hE => passes_own
      case hJl =>
        rintro i m' nw ⟨rfl, rfl, rfl⟩
        exact ⟨_, 0, .head _, rfl, fun _ _ => rfl⟩
      case done =>
        rintro m₁ news₁ h₄ tk₄ ⟨hn, _, _⟩
        simp [strValues] at hn
      case step =>
        rintro i v tj m₁ news₁ h₄ tk₄ e oe it oi hv ⟨rfl, rfl, rfl⟩ F₄ N₄ off₄
        k_steps
        (rename Fr g' L' _ _ => F₅); (rename News g' L' _ _ => N₅)
        refine load_unbound rfl rfl rfl F₅.ns rfl (by rw [sizeLine_eq]; decide +kernel) ?_
        intro h₆ tk₆ e₆ hx₆
        try k_unfold
        refine leave_own B' F₅ (fun p hp => N₅ p (List.mem_cons_of_mem _ (List.mem_cons_of_mem _ (List.mem_cons_of_mem _ hp)))) hx₆ ?_
        intro h₇ R₇ U₇
        exact hbad (by rw [← e₁]; exact hz) g' h₇ tk₆ e₆ FG' U₇ R₇
    · k_steps
      obtain ⟨l, hl⟩ : ∃ l, l = (f, tf) :: l' := ⟨_, rfl⟩
      refine go_on (enumList (L := L') (h₀ := g') (orig := (strValues l).toArray) (k := 0) (J := fun i m₁ n₁ => i ≤ l.length ∧ ∃ ul uj lp, lp.map (·.1) = ((l.map (·.1)).take i).map (fun r => Txt.slice r (some (marg f : Int)) none) ∧
        n₁ = ((D, listOf (strValues (lp ++ l.drop i)).toArray 0) :: news) ∧
        m₁ = fun y => if y = Str.ofString "l" then ul else if y = Str.ofString "j" then uj else if y = Str.ofString "ch" then uc else if y = Str.ofString "i" then some (.int (marg f : Int) ti) else if y = Str.ofString "lines" then some (Value.ref D) else List.lookup y [(Str.ofString "text", Value.str x t)]) ?hE rfl rfl rfl rfl rfl ?hJl F₃ N₃ (by rw [hl]; exact .head _) ⟨Nat.zero_le _, none, none, [], rfl, by rw [hl]; rfl, ?hm0⟩ ?step ?done)
      case hE => passes_own
      case hm0 =>
        funext y
        by_cases h1 : y = Str.ofString "l"
        · subst h1; rfl
        · by_cases h2 : y = Str.ofString "j"
          · subst h2; rfl
          · simp only [if_neg h1, if_neg h2]
      case hJl =>
        rintro i m' nw ⟨hi, ul, uj, lp, hlp, rfl, rfl⟩
        have hlen : lp.length = i := by
          have := congrArg List.length hlp
          simp at this; omega
        refine ⟨_, 0, .head _, ?_, fun j hj => ?_⟩
        · simp [strValues, hlen]; omega
        · simp only [strValues, List.getElem?_toArray, List.map_append, List.map_drop]
          rw [List.getElem?_append_right (by rw [List.length_map, hlen]; exact hj), List.getElem?_drop, List.length_map, hlen]
          congr 1; omega
      case done =>
        rintro m₁ news₁ h₄ tk₄ ⟨hi, ul, uj, lp, hlp, rfl, rfl⟩ F₄ N₄
        k_steps
        have hsz : (strValues l).toArray.size = l.length := by simp [strValues]
        rw [hsz, List.drop_length, List.append_nil] at N₄
        rw [hsz] at hlp
        have hrows : lp.map (·.1) = (Txt.split x nl).map fun r => Txt.slice r (some (marg f : Int)) none := by
          rw [hlp, ← e₁, ← hl, List.take_of_length_le (by simp)]
        have hf0 : (Txt.split x nl).headD default = f := by rw [← e₁]; rfl
        have hcnt : (lp.map (·.1)).length ≤ 101 := by
          rw [hrows, List.length_map]; exact Nat.le_trans (split_length x) (by omega)
        have hDl : h₄.IsList D (strValues lp).toArray := ⟨_, (N₄ _ (.head _)).1, rfl, _, rfl⟩
        refine SC.join hDl rfl ?_ ?_
        · refine joinOk_of (B := 100) ?_ ?_
          · intro y hy
            rw [hrows] at hy
            obtain ⟨r, hr, rfl⟩ := List.mem_map.mp hy
            exact Nat.le_trans (Txt.slice_le r _ _) (Nat.le_trans (split_each x r hr) hx)
          · have : (Str.ofString "\n").length = 1 := by decide +kernel
            rw [this]; omega
        · intro t' k
          try k_unfold
          refine leaveK_ F₄ N₄ ?_
          intro FL NL
          have := hok (by rw [hf0]; exact hz) h₄ k t' FL (fun p hp => NL p (.tail _ hp))
          unfold dedentT at this
          rw [hf0, ← hrows] at this
          exact this
      case step =>
        rintro i v tj m₁ news₁ h₄ tk₄ e oe it oi hv ⟨hi, ul, uj, lp, hlp, rfl, rfl⟩ F₄ N₄ off₄
        obtain ⟨r, tr, hr, rfl⟩ : ∃ r tr, l[i]? = some (r, tr) ∧ v = .str r tr := by
          simp only [strValues, List.getElem?_toArray, List.getElem?_map] at hv
          cases hq : l[i]? with
          | none => rw [hq] at hv; cases hv
          | some p => rw [hq] at hv; exact ⟨p.1, p.2, rfl, (Option.some.inj hv).symm⟩
        have hrl : r.length ≤ 100 := Nat.le_trans (split_each x r (by rw [← e₁, ← hl]; exact List.mem_map.mpr ⟨_, List.mem_of_getElem? hr, rfl⟩)) hx
        have hil : i < l.length := (List.getElem?_eq_some_iff.mp hr).1
        have hlen : lp.length = i := by
          have := congrArg List.length hlp
          simp at this; omega
        k_steps
        rename_i t'' _ _ _ _
        (rename Fr g' L' _ _ => F₅); (rename News g' L' _ _ => N₅)
        have hset : (strValues (lp ++ l.drop i)).set (Int.toNat (i : Int)) (.str (Txt.slice r (some (marg f : Int)) none) t'') = strValues ((lp ++ [(Txt.slice r (some (marg f : Int)) none, t'')]) ++ l.drop (i + 1)) := by
          have hd : l.drop i = (r, tr) :: l.drop (i + 1) := by
            rw [List.drop_eq_getElem_cons hil]
            congr 1
            exact (List.getElem?_eq_some_iff.mp hr).2
          rw [hd]
          simp only [strValues, List.map_append, List.map_cons, Int.toNat_natCast, List.append_assoc]
          rw [List.set_append_right _ _ (by rw [List.length_map, hlen]; exact Nat.le_refl _), List.length_map, hlen, Nat.sub_self]
          rfl
        refine go_on (setAt_any F₅ N₅ (Upd.tail (Ne.symm (off₄ _ (.head _)).1) (Upd.tail (Ne.symm (off₄ _ (.head _)).2) (Upd.head fun p hp => Nat.ne_of_lt (l₁ p hp)))) (Int.natCast_nonneg _) ?_ ?_ ?_)
        · simp [strValues, hlen]; omega
        · have := split_length x; have h2 : l.length = (Txt.split x nl).length := by rw [← e₁, ← hl, List.length_map]
          omega
        · intro h₆ F₆ N₆
          rw [hset] at N₆
          k_steps
          refine ⟨h₆, _, _, _, rfl, F₆, N₆, ?_, by omega, some (Value.str r tr), some (Value.int (i : Int) tj), _, ?_, rfl, ?_⟩
          · intro p hp
            rcases List.mem_cons.mp hp with rfl | hp
            · exact off₄ (D, listOf (strValues (lp ++ l.drop i)).toArray 0) (.head _)
            · exact off₄ _ (.tail _ hp)
          · rw [List.map_append, hlp, List.take_add_one, List.map_append]
            simp [hr]
          · funext y
            by_cases h1 : y = Str.ofString "l"
            · simp [h1]
            · by_cases h2 : y = Str.ofString "j" <;> simp [h1, h2]
end PartDed

section PartP2
open PySem PySem.W PyProof.Rows PySem.Calls

def rowStep (mg : Nat) (st : List (List Nat) × List Nat × Nat) (c : Nat) : List (List Nat) × List Nat × Nat :=
  if c = 10 then (st.1 ++ [st.2.1], [], 0) else (st.1, if mg ≤ st.2.2 then st.2.1 ++ [c] else st.2.1, st.2.2 + 1)
def rowFold (mg : Nat) (l : List Nat) : List (List Nat) × List Nat × Nat := l.foldl (rowStep mg) ([], [], 0)

theorem rowFold_from (mg : Nat) : ∀ (l : List Nat) (rs : List (List Nat)) (row : List Nat) (pl : Nat),
    (l.foldl (rowStep mg) (rs, row, pl)).1 ++ [(l.foldl (rowStep mg) (rs, row, pl)).2.1] = rs ++ (match spl l with | [] => [] | h :: t => (row ++ h.drop (mg - pl)) :: t.map (List.drop mg))
  | [], rs, row, pl => by simp [spl]
  | c :: r, rs, row, pl => by
    rw [List.foldl_cons]
    by_cases hc : c = 10
    · rw [show rowStep mg (rs, row, pl) c = (rs ++ [row], [], 0) from if_pos hc, rowFold_from mg r]
      rw [spl, if_pos hc]
      cases hs : spl r with
      | nil => exact absurd hs (spl_ne r)
      | cons a b => simp
    · rw [show rowStep mg (rs, row, pl) c = (rs, if mg ≤ pl then row ++ [c] else row, pl + 1) from if_neg hc, rowFold_from mg r]
      rw [spl, if_neg hc]
      cases hs : spl r with
      | nil => exact absurd hs (spl_ne r)
      | cons a b =>
        dsimp only
        by_cases hm : mg ≤ pl
        · rw [if_pos hm, Nat.sub_eq_zero_of_le hm, Nat.sub_eq_zero_of_le (Nat.le_succ_of_le hm)]
          simp
        · rw [if_neg hm, show mg - pl = (mg - (pl + 1)) + 1 by omega]
          simp
theorem rowFold_eq (mg : Nat) (l : List Nat) : (rowFold mg l).1 ++ [(rowFold mg l).2.1] = (spl l).map (List.drop mg) := by
  unfold rowFold
  rw [rowFold_from]
  cases hs : spl l with
  | nil => exact absurd hs (spl_ne l)
  | cons a b => simp
theorem rowFold_snoc (mg : Nat) (l : List Nat) (c : Nat) : rowFold mg (l ++ [c]) = rowStep mg (rowFold mg l) c := by
  unfold rowFold; rw [List.foldl_append]; rfl
theorem rowFold_len (mg : Nat) (l : List Nat) : ∀ st : List (List Nat) × List Nat × Nat, (l.foldl (rowStep mg) st).1.length ≤ st.1.length + l.length ∧ (l.foldl (rowStep mg) st).2.1.length ≤ st.2.1.length + l.length ∧ (l.foldl (rowStep mg) st).2.2 ≤ st.2.2 + l.length := by
  induction l with
  | nil => intro st; simp
  | cons c r ih =>
    intro st
    rw [List.foldl_cons]
    have := ih (rowStep mg st c)
    have h2 : (rowStep mg st c).1.length ≤ st.1.length + 1 ∧ (rowStep mg st c).2.1.length ≤ st.2.1.length + 1 ∧ (rowStep mg st c).2.2 ≤ st.2.2 + 1 := by
      unfold rowStep
      split
      · simp
      · dsimp only
        refine ⟨by omega, ?_, Nat.le_refl _⟩
        split <;> simp
    rw [List.length_cons]
    omega

theorem lstrip_len (f : Str) : (Txt.lstripChars f (Str.ofString " ")).length = f.cps.size - lead f.cps.toList := by
  have hg : (Str.ofString " ").cps.contains = fun c => c == 32 := by
    rw [show Str.ofString " " = ⟨#[32]⟩ from by decide +kernel]
    funext c
    simp [Array.contains]
  have hlo : stripLo (Str.ofString " ").cps.contains true f = lead f.cps.toList := by
    unfold stripLo lead; rw [hg]; rfl
  have hhi : ∀ lo, stripHi (Str.ofString " ").cps.contains false f lo = f.cps.size := fun lo => rfl
  unfold Txt.lstripChars Txt.stripBy
  split
  · rename_i h
    unfold stripSame at h
    rw [hlo] at h
    have h0 : lead f.cps.toList = 0 := by
      have := Bool.and_eq_true_iff.mp h
      simpa using this.1
    rw [h0]; rfl
  · unfold PySem.stripped
    rw [hlo, hhi]
    show (f.cps.extract (lead f.cps.toList) f.cps.size).size = _
    simp
theorem lead_le (l : List Nat) : lead l ≤ l.length := (List.takeWhile_sublist _).length_le
theorem margin_eq {f : Str} (hf : f.cps.size ≠ 0) : (f.length : Int) - (if ((Txt.lstripChars f (Str.ofString " ")).length : Int) > 1 then ((Txt.lstripChars f (Str.ofString " ")).length : Int) else 1) = (marg f : Int) := by
  rw [lstrip_len]
  unfold marg
  have h1 : lead f.cps.toList ≤ f.cps.size := by simpa using lead_le f.cps.toList
  have h2 : f.length = f.cps.size := rfl
  rw [h2]
  split <;> omega
end PartP2

section PartRows
open PySem PySem.W PyProof.Rows PySem.Calls
set_option maxRecDepth 100000
set_option maxHeartbeats 8000000



def rowsT (x : Str) : List Str := ((spl x.cps.toList).map (List.drop (marg ((Txt.split x nl).headD default)))).map fun r => ⟨r.toArray⟩
theorem not_nl {c : Nat} (h : ((⟨#[c]⟩ : Str) == Str.ofString "\n") = false) : ¬ c = 10 := by
  rintro rfl
  exact absurd h (by decide +kernel)

local macro_rules | `(tactic| walk_at "exec For Name Name cons nil") => `(tactic| (refine For_M ?_ (by intro _; rfl)))
local macro_rules | `(tactic| walk_at "call builtin:str.split") => `(tactic| refine halt ?_)
local macro_rules | `(tactic| walk_at "subscriptTail Call Attribute cons nil Constant ref int") => `(tactic| refine halt ?_)

theorem rows_call {w : World} {A₀ : Around} {base h₀ : Heap} {d u : Nat} {g : Option (List Code)} {outer : List Env} {env : Env} {L : Addr} {s : Shared} {m mg mb : Str → Option Value} {mean : ExcName → Option Value} {news : List (Addr × Obj)} {R : Result → Shared → Prop}
   {x : Str} {t : Tok}
   (B : Below A₀ base outer h₀) (F : Fr h₀ L s.heap m) (X₀ : (hd.heap_39 w.params).In h₀) (N : News h₀ L s.heap news) (T : Top hd.view_39 (looseW hd.view_39 []) mean mg mb h₀)
   (hf : env.frame = some L) (hke : env.scope.kind = .function) (hdp : d < recursionLimit) (hx : x.length ≤ 100) (hne : ((Txt.split x nl).headD default).cps.size ≠ 0)
   (hok : ∀ h' tk dr D lst k, Fr h₀ L h' m → News h₀ L h' ((D, listOf (strValues lst).toArray k) :: news) → lst.map (·.1) = rowsT x → (∀ p ∈ news, p.1 < D) → R (.ok (.ret (.ref D))) { s with heap := h', toks := tk, drawn := dr }) :
   codeAny (model Challenge.rw_nb0071_01.row.prog w) (A71 d env outer g u) (.call (.ref 97) ⟨[.str x t], []⟩) R s := by
  revert X₀; k_fill; intro X₀
  refine' code_def (binds := [(Str.ofString "text", .str x t)]) B F X₀ N T ?kA hf hke ?k6 ?k7 ?k8 ?k9 ?kB ?_ ?c2 ?c3 ?c4 ?c5; (case kA => exact rfl); (case k6 => k_is); (case k7 => k_is); (case k8 => exact hdp); (case k9 => exact BindsTo.of_eq rfl); (case c5 => decide); (case kB => exact locs rfl); (case c2 => exact rfl); (case c3 => exact rfl); (case c4 => exact rfl)
  intro g' L' h' FG' F' N' B' X' T'; (try dsimp only); k_fold
  replace F' : Fr g' L' h' (fun y => List.lookup y [(Str.ofString "text", .str x t)]) := F'
  k_steps
  refine go_on (KSpl.split1 F' N' (by decide) ?_ (by rw [sizeLine_eq]; omega))
  intro D l h₁ k₁ e₁ a₁ F₁ N₁ l₁
  obtain ⟨f, tf, l', rfl⟩ : ∃ f tf l', l = (f, tf) :: l' := by
    cases l with
    | nil => exact absurd e₁.symm (split_ne x nl)
    | cons p r => exact ⟨p.1, p.2, r, rfl⟩
  clear F' N'
  have hf0 : f.cps.size ≠ 0 := by
    have : (Txt.split x nl).headD default = f := by rw [← e₁]; rfl
    rw [← this]; exact hne
  have hfl : f.length ≤ 100 := Nat.le_trans (split_each x f (by rw [← e₁]; exact .head _)) hx
  k_steps
  (rename Fr g' L' _ _ => F₂); (rename News g' L' _ _ => N₂)
  have hD : ∀ h, News g' L' h ((D, listOf (strValues ((f, tf) :: l')).toArray 0) :: news) → h.IsList D (strValues ((f, tf) :: l')).toArray := fun h N => ⟨_, (N _ List.mem_cons_self).1, rfl, _, rfl⟩
  refine go_on (item_litK (hD _ N₂) (by decide) (by decide) rfl ?_ (by with_unfolding_all rfl))
  k_steps
  rename_i Rl _ lR Tl _ lT _ _ _ _ F₃ N₃
  have hRD : ∀ p ∈ news, p.1 < Rl := fun p hp => Nat.lt_trans (l₁ p hp) lR.1
  rw [margin_eq hf0] at F₃
  replace N₃ : News g' L' _ ((Rl, listOf #[] 0) :: news) := fun p hp => by
    rcases List.mem_cons.mp hp with rfl | hp
    · exact N₃ _ (.tail _ (.head _))
    · exact N₃ _ (.tail _ (.tail _ (.tail _ hp)))
  have hx3 : x.cps.size ≤ 100 := hx
  refine loopText (L := L') (h₀ := g') (J := fun i m₁ n₁ => ∃ rw tr pl tp tm lst k, lst.map (·.1) = (rowFold (marg f) (x.cps.toList.take i)).1.map (fun r => (⟨r.toArray⟩ : Str)) ∧ rw = (⟨(rowFold (marg f) (x.cps.toList.take i)).2.1.toArray⟩ : Str) ∧
      pl = ((rowFold (marg f) (x.cps.toList.take i)).2.2 : Int) ∧ n₁ = ((Rl, listOf (strValues lst).toArray k) :: news) ∧
      Pins m₁ [(Str.ofString "rows", some (Value.ref Rl)), (Str.ofString "row", some (Value.str rw tr)), (Str.ofString "place", some (Value.int pl tp)), (Str.ofString "margin", some (Value.int (marg f : Int) tm))])
    ?hE rfl F₃ N₃ ⟨Str.ofString "", _, 0, _, _, [], 0, rfl, (by show Str.ofString "" = ⟨#[]⟩; decide +kernel), rfl, rfl, rfl, rfl, rfl, rfl, trivial⟩ ?step ?done
  case hE => passes_own
  case step =>
    rintro i c u m₁ news₁ h₄ tk₄ dr₄ I oI hc ⟨rw, tr, pl, tp, tm, lst, k, hlst, hrw, hpl, rfl, hpin⟩ F₄ N₄ off₄
    have hlt : i < x.cps.size := (Array.getElem?_eq_some_iff.mp hc).1
    have hsize := rowFold_len (marg f) (x.cps.toList.take i) ([], [], 0)
    have htk : (x.cps.toList.take i).length = i := by simp; omega
    have hrl : rw.length ≤ 100 := by
      rw [hrw]; show (rowFold (marg f) (x.cps.toList.take i)).2.1.toArray.size ≤ 100
      have := hsize.2.1
      rw [htk] at this
      rw [List.size_toArray]
      unfold rowFold
      simp only [List.length_nil] at this
      omega
    have hll : lst.length ≤ 100 := by
      have h1 := congrArg List.length hlst
      rw [List.length_map, List.length_map] at h1
      have := hsize.1
      rw [htk] at this
      unfold rowFold at h1
      simp only [List.length_nil] at this
      omega
    have htake : rowFold (marg f) (x.cps.toList.take (i + 1)) = rowStep (marg f) (rowFold (marg f) (x.cps.toList.take i)) c := by
      rw [List.take_add_one, show x.cps.toList[i]? = some c from by simpa using hc]
      exact rowFold_snoc _ _ _
    replace F₄ := fr_pins F₄ hpin
    clear F₃ N₃ hpin
    k_steps
    · rename (_ == _) = true => hnl
      have hc10 : c = 10 := by
        have : (⟨#[c]⟩ : Str) = ⟨#[10]⟩ := by simpa [show Str.ofString "\n" = ⟨#[10]⟩ from by decide +kernel] using hnl
        simpa using congrArg Str.cps this
      (rename Fr g' L' _ _ => F₅); (rename News g' L' _ _ => N₅)
      refine append_K F₅ N₅ (Upd.tail (Ne.symm (off₄ _ (.head _))) (Upd.head fun p hp => Nat.ne_of_lt (hRD p hp))) ?_ (by rw [sizeLine_eq]; simp [strValues]; omega)
      intro h₆ F₆ N₆
      clear F₅ N₅
      rw [show (strValues lst).toArray.push (Value.str rw tr) = (strValues (lst ++ [(rw, tr)])).toArray from by simp [strValues]] at N₆
      k_steps
      (rename Fr g' L' _ _ => F₇); (rename News g' L' _ _ => N₇)
      have hst : rowStep (marg f) (rowFold (marg f) (x.cps.toList.take i)) c = ((rowFold (marg f) (x.cps.toList.take i)).1 ++ [(rowFold (marg f) (x.cps.toList.take i)).2.1], [], 0) := if_pos hc10
      refine ⟨_, _, _, _, _, rfl, F₇, news_sub N₇ (fun p hp => .tail _ hp), ?_, Str.ofString "", _, 0, _, _, lst ++ [(rw, tr)], k + 1, ?_, ?_, ?_, rfl, rfl, rfl, rfl, rfl, trivial⟩
      · intro p hp
        rcases List.mem_cons.mp hp with rfl | hp
        · exact off₄ (Rl, listOf (strValues lst).toArray k) (.head _)
        · exact off₄ _ (.tail _ hp)
      · rw [htake, hst, List.map_append, hlst, hrw]; simp
      · rw [htake, hst]; show Str.ofString "" = ⟨#[]⟩; decide +kernel
      · rw [htake, hst]; rfl
    · rename (_ == _) = false => hnl
      rename (_ : Int) ≤ pl => hmp
      have hst : rowStep (marg f) (rowFold (marg f) (x.cps.toList.take i)) c = ((rowFold (marg f) (x.cps.toList.take i)).1, (rowFold (marg f) (x.cps.toList.take i)).2.1 ++ [c], (rowFold (marg f) (x.cps.toList.take i)).2.2 + 1) := by
        unfold rowStep
        rw [if_neg (not_nl hnl), if_pos (by omega)]
      (rename Fr g' L' _ _ => F₇); (rename News g' L' _ _ => N₇)
      refine ⟨_, _, _, _, _, rfl, F₇, N₇, off₄, rw ++ ⟨#[c]⟩, _, pl + 1, _, _, lst, k, ?_, ?_, ?_, rfl, rfl, rfl, rfl, rfl, trivial⟩
      · rw [htake, hst, hlst]
      · rw [htake, hst, hrw]
        show (⟨(_ : List Nat).toArray ++ #[c]⟩ : Str) = _
        simp
      · rw [htake, hst, hpl]; simp
    · rename (_ == _) = false => hnl
      rename ¬ (_ : Int) ≤ pl => hmp
      have hst : rowStep (marg f) (rowFold (marg f) (x.cps.toList.take i)) c = ((rowFold (marg f) (x.cps.toList.take i)).1, (rowFold (marg f) (x.cps.toList.take i)).2.1, (rowFold (marg f) (x.cps.toList.take i)).2.2 + 1) := by
        unfold rowStep
        rw [if_neg (not_nl hnl), if_neg (by omega)]
      (rename Fr g' L' _ _ => F₇); (rename News g' L' _ _ => N₇)
      refine ⟨_, _, _, _, _, rfl, F₇, N₇, off₄, rw, _, pl + 1, _, _, lst, k, ?_, ?_, ?_, rfl, rfl, rfl, rfl, rfl, trivial⟩
      · rw [htake, hst, hlst]
      · rw [htake, hst, hrw]
      · rw [htake, hst, hpl]; simp
  case done =>
    rintro m₁ news₁ h₄ tk₄ dr₄ ⟨rw, tr, pl, tp, tm, lst, k, hlst, hrw, hpl, rfl, hpin⟩ F₄ N₄
    replace F₄ := fr_pins F₄ hpin
    clear F₃ N₃ hpin
    rw [List.take_of_length_le (by simp)] at hlst hrw hpl
    have hsize := rowFold_len (marg f) x.cps.toList ([], [], 0)
    have hll : lst.length ≤ 100 := by
      have h1 := congrArg List.length hlst
      rw [List.length_map, List.length_map] at h1
      have := hsize.1
      unfold rowFold at h1
      simp only [List.length_nil, Array.length_toList] at this
      omega
    k_steps
    (rename Fr g' L' _ _ => F₇); (rename News g' L' _ _ => N₇)
    refine add_arrays (its := (strValues lst).toArray) (its2 := #[Value.str rw tr]) F₇ N₇ ⟨_, (N₇ _ (.tail _ (.head _))).1, rfl, _, rfl⟩ ⟨_, (N₇ _ (.head _)).1, rfl, _, rfl⟩ ?_ (by rw [sizeLine_eq]; simp [strValues]; omega)
    intro h₈ F₈ N₈
    try k_unfold
    refine leaveK_ F₈ N₈ ?_
    intro FL NL
    rw [show ((strValues lst).toArray.toList ++ (#[Value.str rw tr] : Array Value).toList) = strValues (lst ++ [(rw, tr)]) from by simp [strValues]] at NL
    refine hok _ _ dr₄ _ (lst ++ [(rw, tr)]) 0 FL (news_sub NL ?_) ?_ (fun p hp => Heap.lt_size (N₇ p (.tail _ (.tail _ hp))).1)
    · intro p hp
      rcases List.mem_cons.mp hp with rfl | hp
      · exact .head _
      · exact .tail _ (.tail _ (.tail _ hp))
    · have hff : (Txt.split x nl).headD default = f := by rw [← e₁]; rfl
      unfold rowsT
      rw [hff, ← rowFold_eq, List.map_append, List.map_append, hlst, hrw]
      rfl
end PartRows

section PartP3
open PySem PySem.W PyProof.Rows PySem.Calls

theorem carried_strs : ∀ {ss : List Str} {ys : List Value}, CarriedAll ys (ss.map PyData.str) → ∃ lst : List (Str × Tok), ys = strValues lst ∧ lst.map (·.1) = ss
  | [], ys, h => by cases h; exact ⟨[], rfl, rfl⟩
  | s :: r, ys, h => by
    cases h with
    | cons c h' =>
      cases c with
      | str x t =>
        obtain ⟨lst, e1, e2⟩ := carried_strs h'
        exact ⟨(s, t) :: lst, by rw [e1]; rfl, by rw [← e2]; rfl⟩

/-- the text that the law builds -/
def textOf (ns : List Int) : Str := Txt.join (Str.ofString "") (ns.map fun k => Txt.item (Str.ofString " \na.b ") (k.fmod 6))
theorem join_empty : ∀ ps : List Str, (Str.join (Str.ofString "") ps).cps.toList = (ps.map fun p => p.cps.toList).flatten
  | [] => rfl
  | [p] => by simp [Str.join]
  | p :: q :: r => by
    have ih := join_empty (q :: r)
    show (p ++ Str.ofString "" ++ Str.join (Str.ofString "") (q :: r)).cps.toList = p.cps.toList ++ ((q :: r).map fun p => p.cps.toList).flatten
    rw [← ih, show Str.ofString "" = ⟨#[]⟩ from by decide +kernel]
    show ((p.cps ++ #[]) ++ (Str.join ⟨#[]⟩ (q :: r)).cps).toList = _
    simp
theorem fmod6 (k : Int) : k.fmod 6 = 0 ∨ k.fmod 6 = 1 ∨ k.fmod 6 = 2 ∨ k.fmod 6 = 3 ∨ k.fmod 6 = 4 ∨ k.fmod 6 = 5 := by
  have h1 := Int.fmod_nonneg_of_pos k (b := 6) (by decide)
  have h2 := Int.fmod_lt_of_pos k (b := 6) (by decide)
  omega
def plainSign (c : Nat) : Prop := c = 32 ∨ c = 10 ∨ c = 97 ∨ c = 46 ∨ c = 98
theorem item_sign (k : Int) : ∃ c, (Txt.item (Str.ofString " \na.b ") (k.fmod 6)).cps.toList = [c] ∧ plainSign c := by
  rcases fmod6 k with h | h | h | h | h | h <;> rw [h]
  · exact ⟨32, by decide +kernel, by simp [plainSign]⟩
  · exact ⟨10, by decide +kernel, by simp [plainSign]⟩
  · exact ⟨97, by decide +kernel, by simp [plainSign]⟩
  · exact ⟨46, by decide +kernel, by simp [plainSign]⟩
  · exact ⟨98, by decide +kernel, by simp [plainSign]⟩
  · exact ⟨32, by decide +kernel, by simp [plainSign]⟩
theorem item_len (k : Int) : (Txt.item (Str.ofString " \na.b ") (k.fmod 6)).length = 1 := rfl
theorem textOf_list (ns : List Int) : (textOf ns).cps.toList = (ns.map fun k => (Txt.item (Str.ofString " \na.b ") (k.fmod 6)).cps.toList).flatten := by
  unfold textOf Txt.join
  rw [StrLaws.glued_eq_join, join_empty, List.map_map]
  rfl
theorem textOf_len (ns : List Int) : (textOf ns).cps.toList.length = ns.length := by
  rw [textOf_list]
  induction ns with
  | nil => rfl
  | cons k r ih =>
    obtain ⟨c, hc, _⟩ := item_sign k
    simp only [List.map_cons, List.flatten_cons, List.length_append, hc, ih, List.length_cons, List.length_nil]
    omega
theorem textOf_signs (ns : List Int) : ∀ c ∈ (textOf ns).cps.toList, plainSign c := by
  rw [textOf_list]
  intro c hc
  obtain ⟨l, hl, hcl⟩ := List.mem_flatten.mp hc
  obtain ⟨k, _, rfl⟩ := List.mem_map.mp hl
  obtain ⟨d, hd, hs⟩ := item_sign k
  rw [hd] at hcl
  rw [List.mem_singleton.mp hcl]; exact hs

theorem text_facts {ns : List Int} {ys : List Value} (hn : ns.length ≤ 18) (h : CarriedAll ys (ns.map fun k => PyData.str (Txt.item (Str.ofString " \na.b ") (k.fmod 6)))) :
    ∃ lst : List (Str × Tok), ys = strValues lst ∧ ∃ x : Str, Txt.join (Str.ofString "") (lst.map (·.1)) = x ∧ x.length ≤ 18 ∧ (∀ c ∈ x.cps.toList, plainSign c) ∧ JoinOk (Str.ofString "") (lst.map (·.1)) = true := by
  have h' : CarriedAll ys ((ns.map fun k => Txt.item (Str.ofString " \na.b ") (k.fmod 6)).map PyData.str) := by rw [List.map_map]; exact h
  obtain ⟨lst, e, hlst⟩ := carried_strs h'
  refine ⟨lst, e, _, rfl, ?_, ?_, joinOk_of (B := 1) ?_ ?_⟩
  · rw [hlst]
    have h1 := textOf_len ns
    rw [Array.length_toList] at h1
    exact Nat.le_trans (Nat.le_of_eq h1) hn
  · rw [hlst]; exact textOf_signs ns
  · rw [hlst]; intro y hy
    obtain ⟨k, _, rfl⟩ := List.mem_map.mp hy
    exact Nat.le_refl 1
  · have h1 : (Str.ofString "").length = 0 := by decide +kernel
    have h2 := congrArg List.length hlst
    rw [List.length_map, List.length_map] at h2
    rw [h1, List.length_map]; omega
end PartP3

section PartP4
open PySem PySem.W PyProof.Rows PySem.Calls
open Builtin.Str (strSliceIndices)

theorem clip_lo {i : Int} {u : Option Int} {len : Nat} (h : (len : Int) ≤ i) : strSliceIndices (some i) u 1 len = strSliceIndices (some (len : Int)) u 1 len := by
  have a : ¬ (i < 0) := by omega
  have b : ¬ ((len : Int) < 0) := by omega
  have e : min i (len : Int) = len := by omega
  simp [strSliceIndices, a, b, e]
theorem clip_hi {i : Int} {l : Option Int} {len : Nat} (h : (len : Int) ≤ i) : strSliceIndices l (some i) 1 len = strSliceIndices l (some (len : Int)) 1 len := by
  have a : ¬ (i < 0) := by omega
  have b : ¬ ((len : Int) < 0) := by omega
  have e : min i (len : Int) = len := by omega
  simp [strSliceIndices, a, b, e]
theorem slice_from (x : Str) (i : Nat) : Txt.slice x (some (i : Int)) none = ⟨(x.cps.toList.drop i).toArray⟩ := by
  by_cases h : i ≤ x.cps.size
  · have := StrLaws.sliceText_from (x := x) (i := (i : Int)) ⟨Int.natCast_nonneg _, by simpa using h⟩
    refine Eq.trans (this : Txt.slice x (some (i : Int)) none = _) ?_
    rw [List.take_of_length_le (by simp)]
    simp
  · have e : Txt.slice x (some (i : Int)) none = Txt.slice x (some (x.cps.size : Int)) none := by
      unfold Txt.slice
      rw [clip_lo (len := x.length) (i := (i : Int)) (by show ((x.cps.size : Nat) : Int) ≤ _; omega)]
      rfl
    rw [e]
    have := StrLaws.sliceText_from (x := x) (i := (x.cps.size : Int)) ⟨Int.natCast_nonneg _, by simp⟩
    refine Eq.trans (this : Txt.slice x (some (x.cps.size : Int)) none = _) ?_
    rw [List.drop_eq_nil_of_le (by simp), List.drop_eq_nil_of_le (by simp; omega)]
    simp
theorem slice_to (x : Str) (j : Nat) : Txt.slice x none (some (j : Int)) = ⟨(x.cps.toList.take j).toArray⟩ := by
  by_cases h : j ≤ x.cps.size
  · have := StrLaws.sliceText_to (x := x) (j := (j : Int)) ⟨Int.natCast_nonneg _, by simpa using h⟩
    refine Eq.trans (this : Txt.slice x none (some (j : Int)) = _) ?_
    simp
  · have e : Txt.slice x none (some (j : Int)) = Txt.slice x none (some (x.cps.size : Int)) := by
      unfold Txt.slice
      rw [clip_hi (len := x.length) (i := (j : Int)) (by show ((x.cps.size : Nat) : Int) ≤ _; omega)]
      rfl
    rw [e]
    have := StrLaws.sliceText_to (x := x) (j := (x.cps.size : Int)) ⟨Int.natCast_nonneg _, by simp⟩
    refine Eq.trans (this : Txt.slice x none (some (x.cps.size : Int)) = _) ?_
    have e2 : x.cps.toList.take j = x.cps.toList := List.take_of_length_le (by simp; omega)
    have e3 : x.cps.toList.take x.cps.size = x.cps.toList := List.take_of_length_le (by simp)
    rw [e2]
    simp [e3]

theorem head_split (x : Str) : ((Txt.split x nl).headD default).cps.toList = (spl x.cps.toList).headD [] := by
  rw [split_eq]
  cases h : spl x.cps.toList with
  | nil => exact absurd h (spl_ne _)
  | cons a b => rfl
theorem head_zero (x : Str) : ((Txt.split x nl).headD default).cps.size = 0 ↔ (x.cps.toList = [] ∨ ∃ r, x.cps.toList = 10 :: r) := by
  rw [← Array.length_toList, head_split]
  cases h : x.cps.toList with
  | nil => simp [spl]
  | cons c r =>
    unfold spl
    by_cases hc : c = 10
    · simp [hc]
    · rw [if_neg hc]
      cases hs : spl r with
      | nil => simp [hc]
      | cons a b => simp [hc]
theorem first_test (x : Str) : ([Str.ofString "", Str.ofString "\n"].any fun y => y == Txt.slice x none (some 1)) = decide (((Txt.split x nl).headD default).cps.size = 0) := by
  have e := slice_to x 1
  rw [show ((1 : Nat) : Int) = 1 from rfl] at e
  rw [e, show Str.ofString "" = ⟨#[]⟩ from by decide +kernel, show Str.ofString "\n" = ⟨#[10]⟩ from by decide +kernel]
  rw [Bool.eq_iff_iff, decide_eq_true_iff, head_zero]
  cases h : x.cps.toList with
  | nil => simp
  | cons c r =>
    simp only [List.take_succ_cons, List.take_zero, List.any_cons, List.any_nil, Bool.or_false]
    by_cases hc : c = 10
    · subst hc; simp
    · have h1 : ((⟨#[]⟩ : Str) == ⟨[c].toArray⟩) = false := by simp
      have h2 : ((⟨#[10]⟩ : Str) == ⟨[c].toArray⟩) = false := by simp; omega
      rw [h1, h2]
      simp [hc]
theorem head_a (x : Str) : ((Txt.split (Str.ofString "a" ++ x) nl).headD default).cps.size ≠ 0 := by
  rw [Ne, head_zero]
  have : (Str.ofString "a" ++ x).cps.toList = 97 :: x.cps.toList := by
    rw [show Str.ofString "a" = ⟨#[97]⟩ from by decide +kernel]
    show (#[97] ++ x.cps).toList = _
    simp
  rw [this]
  simp

theorem rows_eq (x : Str) : ((Txt.split x nl).map fun r => Txt.slice r (some (marg ((Txt.split x nl).headD default) : Int)) none) = rowsT x := by
  unfold rowsT
  generalize marg ((Txt.split x nl).headD default) = mg
  rw [split_eq, List.map_map, List.map_map]
  refine List.map_congr_left fun p _ => ?_
  show Txt.slice ⟨p.toArray⟩ (some (mg : Int)) none = ⟨(p.drop mg).toArray⟩
  rw [slice_from]
theorem dedent_rows (x : Str) : dedentT x = Txt.join nl (rowsT x) := by
  unfold dedentT; rw [rows_eq]
theorem rowsT_list (x : Str) : (rowsT x).map (fun r => r.cps.toList) = (spl x.cps.toList).map (List.drop (marg ((Txt.split x nl).headD default))) := by
  unfold rowsT
  rw [List.map_map]
  conv => rhs; rw [← List.map_id ((spl x.cps.toList).map _)]
  exact List.map_congr_left fun p _ => rfl
theorem rowsT_ne (x : Str) : rowsT x ≠ [] := by
  unfold rowsT
  intro h
  exact spl_ne _ (List.map_eq_nil_iff.mp (List.map_eq_nil_iff.mp h))
theorem rowsT_free (x : Str) : ∀ r ∈ rowsT x, 10 ∉ r.cps.toList := by
  intro r hr
  have h2 : r.cps.toList ∈ (rowsT x).map (fun r => r.cps.toList) := List.mem_map.mpr ⟨r, hr, rfl⟩
  rw [rowsT_list] at h2
  obtain ⟨p, hp, e⟩ := List.mem_map.mp h2
  rw [← e]
  exact fun h => spl_free _ p hp (List.drop_subset _ _ h)
theorem split_dedent (x : Str) : Txt.split (dedentT x) nl = rowsT x := by
  rw [split_eq, dedent_rows]
  unfold Txt.join
  rw [StrLaws.glued_eq_join, join_list, spl_jn _ (fun h => rowsT_ne x (List.map_eq_nil_iff.mp h)) ?_]
  · rw [List.map_map]
    conv => rhs; rw [← List.map_id (rowsT x)]
    exact List.map_congr_left fun p _ => by cases p; rfl
  · intro p hp
    obtain ⟨r, hr, rfl⟩ := List.mem_map.mp hp
    exact rowsT_free x r hr
theorem rowsT_len (x : Str) : (rowsT x).length ≤ x.length + 1 := by
  unfold rowsT
  rw [List.length_map, List.length_map]
  simpa [Str.length] using spl_length x.cps.toList
theorem rowsT_each (x : Str) : ∀ r ∈ rowsT x, r.length ≤ x.length := by
  intro r hr
  have h2 : r.cps.toList ∈ (rowsT x).map (fun r => r.cps.toList) := List.mem_map.mpr ⟨r, hr, rfl⟩
  rw [rowsT_list] at h2
  obtain ⟨p, hp, e⟩ := List.mem_map.mp h2
  have h3 := spl_each _ p hp
  have h4 : r.length = (p.drop (marg ((Txt.split x nl).headD default))).length := by rw [e]; simp [Str.length]
  rw [h4, List.length_drop]
  have h5 : x.length = x.cps.toList.length := by simp [Str.length]
  omega
theorem dedent_len {x : Str} (h : x.length ≤ 19) : (dedentT x).length ≤ 400 := by
  rw [dedent_rows]
  unfold Txt.join
  rw [StrLaws.glued_eq_join]
  have h1 := StrLaws.join_length_le nl (rowsT x)
  have h2 := StrLaws.sumLen_le (B := 19) (rowsT x) (fun r hr => Nat.le_trans (rowsT_each x r hr) h)
  have h3 := rowsT_len x
  have h4 : nl.length = 1 := by decide +kernel
  rw [h4] at h1
  omega
theorem spl_mem : ∀ (l : List Nat) (p : List Nat), p ∈ spl l → ∀ c ∈ p, c ∈ l
  | [], p, h, c, hc => by simp [spl] at h; subst h; simp at hc
  | a :: r, p, h, c, hc => by
    have ih := spl_mem r
    unfold spl at h
    split at h
    · rcases List.mem_cons.mp h with rfl | h
      · simp at hc
      · exact List.mem_cons_of_mem _ (ih p h c hc)
    · cases hs : spl r with
      | nil => exact absurd hs (spl_ne r)
      | cons b t =>
        rw [hs] at h ih
        rcases List.mem_cons.mp h with rfl | h
        · rcases List.mem_cons.mp hc with rfl | hc
          · exact List.mem_cons_self
          · exact List.mem_cons_of_mem _ (ih b List.mem_cons_self c hc)
        · exact List.mem_cons_of_mem _ (ih p (List.mem_cons_of_mem _ h) c hc)
theorem rowsT_signs {x : Str} {P : Nat → Prop} (h : ∀ c ∈ x.cps.toList, P c) : ∀ r ∈ rowsT x, ∀ c ∈ r.cps.toList, P c := by
  intro r hr c hc
  have h2 : r.cps.toList ∈ (rowsT x).map (fun r => r.cps.toList) := List.mem_map.mpr ⟨r, hr, rfl⟩
  rw [rowsT_list] at h2
  obtain ⟨p, hp, e⟩ := List.mem_map.mp h2
  rw [← e] at hc
  exact h c (spl_mem _ p hp c (List.drop_subset _ _ hc))
end PartP4

section PartS1
open PySem PySem.W PyProof.Rows PySem.Calls
set_option maxRecDepth 100000

abbrev setObj (es : Array (Int × Value)) (ep : Nat) (t : SetTable) : Obj := { cls := .type "set", data := .set es ep t }

/-- a set of texts: what is known of its table -/
structure SInv (prog : Program) (w : World) (led : Bool) (es : Array (Int × Value)) (t : SetTable) : Prop where
  elems : ElemsOf (PySem.strKind prog w) es.toList
  fits : t.fits es.size = true
  bound : es.size < scanBound
  led : t.led = led
  plain : es.size ≠ 0 → t.plain = false
def InS (es : Array (Int × Value)) (y : Str) : Prop := ∃ e ∈ es.toList, Value.isStrOf y e.2 = true

theorem orStandIn_led (t : SetTable) (n : Nat) : (t.orStandIn n).led = t.led := by
  unfold SetTable.orStandIn; split <;> rfl
theorem layNew_led (t : SetTable) (es : Array (Int × Value)) (h : Int) (x : Value) : (layNew t es h x).2.1.led = t.led := by
  unfold layNew
  split
  · rename_i slot wasDummy _
    show (((t.put slot).1).orStandIn _).led = t.led
    rw [orStandIn_led]; rfl
  · rfl
theorem relaid_keeps {t t' : SetTable} {hs : Array Int} {n : Nat} {o : Array Nat} (h : t.relaid hs n = some (t', o)) : t'.led = t.led ∧ t'.plain = t.plain := by
  unfold SetTable.relaid SetTable.laid at h
  cases e : SetTable.layClean (SetTable.sizeAbove n - 1) hs with
  | none => rw [e] at h; cases h
  | some owner =>
    rw [e] at h
    have h' := Option.some.inj h
    have := congrArg Prod.fst h'
    dsimp only at this
    rw [← this]; exact ⟨rfl, rfl⟩
theorem relayAll_keeps (t : SetTable) (es : Array (Int × Value)) (n : Nat) : (relayAll t es n).2.1.led = t.led ∧ (t.plain = false → (relayAll t es n).2.1.plain = false) := by
  unfold relayAll
  split
  · rename_i t' order e
    have hk := relaid_keeps e
    dsimp only
    split
    · exact ⟨hk.1, fun hp => hk.2.trans hp⟩
    · exact ⟨rfl, fun _ => rfl⟩
  · exact ⟨rfl, fun _ => rfl⟩

section
variable {prog : Program} {w : World} {A : Around} {E : Value → Shared → Prop} {s : Shared} {a : Addr} {es : Array (Int × Value)} {ep : Nat} {t : SetTable} {led : Bool}

theorem get_putSet {h : Heap} {es' : Array (Int × Value)} {t' : SetTable} (ho : h.get? a = some (setObj es ep t)) : (h.update a (Obj.putSet es' t')).get? a = some (setObj es' (ep + 1) t') :=
  Heap.get?_update_self (Obj.putSet es' t') ho rfl

theorem add_str {x : Str} {tk : Tok} {Q : Bool → Shared → Prop} (ho : s.heap.get? a = some (setObj es ep t)) (I : SInv prog w led es t) (hroom : es.size + 1 < scanBound)
    (h : ∀ b h' es' ep' t', Heap.SameBut a s.heap h' → h'.get? a = some (setObj es' ep' t') → SInv prog w led es' t' → (∀ y, InS es' y ↔ InS es y ∨ y = x) → es'.size ≤ es.size + 1 → Q b { s with heap := h' }) :
    wpAny (model prog w) A (setAddHashed a (.str x tk) ((PySem.strKind prog w).hash x)) Q E s := by
  have hkey : (PySem.strKind prog w).is x (.str x tk) = true := PySem.strKind_is prog w x tk
  unfold setAddHashed setAddHashedIn
  refine wpAny_holding (wpAny_bind (wpAny_setState_of ho rfl I.fits ?_))
  dsimp only
  rw [byScan_of rfl I.bound I.elems]
  simp only [↓reduceIte]
  unfold setAddByScan
  refine wpAny_bind (wpAny_bind (wpAny_rule (wpAny_bind (wpAny_setScan_of hkey ho rfl I.fits I.elems ?_))))
  cases hr : List.findIdx? (fun e => (PySem.strKind prog w).is x e.2) es.toList with
  | some j =>
    obtain ⟨hj, hpj, _⟩ := List.findIdx?_eq_some_iff_getElem.mp hr
    have hin : InS es x := ⟨_, List.getElem_mem hj, hpj⟩
    refine wpAny_pure (wpAny_pure ?_)
    have := h false s.heap es ep t (Heap.SameBut.refl a s.heap) ho I (fun y => ⟨.inl, fun q => q.elim id fun e => e ▸ hin⟩) (Nat.le_succ _)
    exact this
  | none =>
    dsimp only
    have hperm := layNew_perm t es ((PySem.strKind prog w).hash x) (.str x tk)
    have hfits := layNew_fits t es ((PySem.strKind prog w).hash x) (.str x tk)
    have hled := layNew_led t es ((PySem.strKind prog w).hash x) (.str x tk)
    generalize layNew t es ((PySem.strKind prog w).hash x) (.str x tk) = Ln at hperm hfits hled ⊢
    obtain ⟨es1, t1, wasDummy, gave⟩ := Ln
    dsimp only at hperm hfits hled ⊢
    rw [Array.toList_push] at hperm
    have hel1 : ElemsOf (PySem.strKind prog w) es1.toList := (I.elems.push hkey rfl).perm hperm
    have hsz1 : es1.size = es.size + 1 := by rw [← Array.length_toList, hperm.length_eq, List.length_append, Array.length_toList]; rfl
    have hmem1 : ∀ y, InS es1 y ↔ InS es y ∨ y = x := fun y => by
      constructor
      · rintro ⟨e, he, hp⟩
        rcases List.mem_append.mp (hperm.mem_iff.mp he) with he | he
        · exact .inl ⟨e, he, hp⟩
        · rw [List.mem_singleton] at he; subst he
          exact .inr ((PySem.strKind prog w).inj (.str x tk) y x hp hkey)
      · rintro (⟨e, he, hp⟩ | rfl)
        · exact ⟨e, hperm.mem_iff.mpr (List.mem_append_left _ he), hp⟩
        · exact ⟨_, hperm.mem_iff.mpr (List.mem_append_right _ (List.mem_singleton.mpr rfl)), hkey⟩
    have gone : ∀ (b : Bool) {s₁ : Shared} {Q' : Unit → Shared → Prop}, Q' () s₁ → wpAny (model prog w) A (match b with | true => rule "set.scan.the-table-gave-way" | false => pure ()) Q' E s₁ :=
      fun b s₁ Q' hq => by cases b <;> first | exact wpAny_pure hq | exact wpAny_rule hq
    refine wpAny_bind (gone _ ?_)
    -- the table's mark: no set of texts is plain
    have tail : ∀ t2 : SetTable, t2.fits es1.size = true → t2.led = led → t2.plain = false → wpAny (model prog w) A (do
        storeSet a es1 t2
        if (!wasDummy && t2.tooFull) = true then do
            (match (relayAll t2 es1 (SetTable.grown es1.size)).2.2 with | true => rule "set.scan.the-table-gave-way" | false => pure ())
            storeSet a (relayAll t2 es1 (SetTable.grown es1.size)).1 (relayAll t2 es1 (SetTable.grown es1.size)).2.1
            pure (some true)
          else pure (some true)) (fun r s' => wpAny (model prog w) A (match r with | some added => pure added | none => setAddHashedIn a (.str x tk) ((PySem.strKind prog w).hash x) 99999) Q E s') E s := by
      intro t2 hf2 hl2 hp2
      have hb1 : es1.size < scanBound := by omega
      refine wpAny_bind (wpAny_storeSet_of ho rfl ?_ (fits_of_scanBound hb1))
      have hsb1 := Heap.SameBut.update s.heap a (Obj.putSet es1 t2)
      have ho1 : (s.heap.update a (Obj.putSet es1 t2)).get? a = some (setObj es1 (ep + 1) t2) := get_putSet ho
      split
      · have hp := relayAll_perm t2 es1 (SetTable.grown es1.size)
        have hfr := relayAll_fits t2 es1 (SetTable.grown es1.size)
        have hkp := relayAll_keeps t2 es1 (SetTable.grown es1.size)
        generalize relayAll t2 es1 (SetTable.grown es1.size) = Rl at hp hfr hkp ⊢
        obtain ⟨es2, t3, gave2⟩ := Rl
        dsimp only at hp hfr hkp ⊢
        have hsz : es2.size = es1.size := by rw [← Array.length_toList, hp.length_eq, Array.length_toList]
        refine wpAny_bind (gone _ ?_)
        refine wpAny_bind (wpAny_storeSet_of ho1 rfl ?_ (fits_of_scanBound (by omega)))
        refine wpAny_pure (wpAny_pure (h true _ es2 (ep + 1 + 1) t3 (hsb1.trans (Heap.SameBut.update _ a _)) (get_putSet ho1) ⟨hel1.perm hp, hfr, by omega, hkp.1.trans hl2, fun _ => hkp.2 hp2⟩ (fun y => ?_) (by omega)))
        rw [← hmem1 y]
        exact ⟨fun ⟨e, he, q⟩ => ⟨e, hp.mem_iff.mp he, q⟩, fun ⟨e, he, q⟩ => ⟨e, hp.mem_iff.mpr he, q⟩⟩
      · exact wpAny_pure (wpAny_pure (h true _ es1 (ep + 1) t2 hsb1 ho1 ⟨hel1, hf2, hb1, hl2, fun _ => hp2⟩ hmem1 (by omega)))
    split
    · refine wpAny_bind ?_
      rw [hashByValue_scannable 8 (show (Value.str x tk).scannable = true from rfl)]
      refine wpAny_pure ?_
      exact tail { t1 with plain := false } (SetTable.fits_plain_off hfits) (hled.trans I.led) rfl
    · rename_i hpl
      refine wpAny_bind (wpAny_pure ?_)
      exact tail t1 hfits (hled.trans I.led) (by simpa using hpl)
end
end PartS1

section PartS2
open PySem PySem.W PyProof.Rows PySem.Calls
set_option maxRecDepth 100000

section
variable {prog : Program} {w : World} {A : Around} {E : Value → Shared → Prop} {s : Shared} {led : Bool}

theorem update_loop {I l S : Addr} {lst : List (Str × Tok)} {R : Result → Shared → Prop} (hh : A.handled = none) (hIS : I ≠ S) (hlI : l ≠ I) (hlS : l ≠ S) (hb : lst.length + 1 < scanBound) :
    ∀ (k i : Nat) (s : Shared) (es : Array (Int × Value)) (ep : Nat) (t : SetTable), lst.length - i = k → i ≤ lst.length → s.heap.IsListIter I l i → s.heap.IsList l (strValues lst).toArray → s.heap.get? S = some (setObj es ep t) →
      SInv prog w led es t → (∀ y, InS es y ↔ y ∈ (lst.take i).map (·.1)) → es.size ≤ i →
      (∀ h' tk es' ep' t', (∀ b o, b ≠ S → b ≠ I → s.heap.get? b = some o → h'.get? b = some o) → h'.get? S = some (setObj es' ep' t') → SInv prog w led es' t' → (∀ y, InS es' y ↔ y ∈ lst.map (·.1)) → es'.size ≤ lst.length →
        R (.ok (.ret .none)) { s with heap := h', toks := tk }) →
      codeAny (model prog w) A (.builtin "set.update.loop" ⟨[.ref S, .ref I], []⟩) R s := by
  intro k
  induction k with
  | zero =>
    intro i s es ep t hk hi hit hl hS hI hmem hsz hR
    have hin : i = lst.length := by omega
    subst hin
    refine codeAny_builtin F.entry_set_update_loop ?_
    rw [Around.under_plainId F.plain_set_update_loop _]
    show wpAny _ A.in1 (pyNext (.ref I) >>= _) _ _ s
    refine wpAny_bind (wpAny_pyNext_list_end (by simpa using hh) hit hl (by simp [strValues]) fun h' he' => ?_)
    show wpAny _ A.in1 (ret Value.none) _ _ _
    exact wpAny_pure (hR h' s.toks es ep t (fun b o _ hbI e => he' b o hbI e) (he' S _ (Ne.symm hIS) hS) hI (by simpa using hmem) hsz)
  | succ k ih =>
    intro i s es ep t hk hi hit hl hS hI hmem hsz hR
    have hlt : i < lst.length := by omega
    refine codeAny_builtin F.entry_set_update_loop ?_
    rw [Around.under_plainId F.plain_set_update_loop _]
    show wpAny _ A.in1 (pyNext (.ref I) >>= _) _ _ s
    have hx : (strValues lst).toArray[i]? = some (.str lst[i].1 lst[i].2) := by simp [strValues, hlt]
    refine wpAny_bind (wpAny_pyNext_list_item hit hl hx fun h₁ hit₁ hs₁ => ?_)
    replace hs₁ : Heap.SameBut I s.heap h₁ := hs₁
    have hS₁ : h₁.get? S = some (setObj es ep t) := hs₁.extBut S _ (Ne.symm hIS) hS
    have hl₁ : h₁.IsList l (strValues lst).toArray := hl.extBut hs₁.extBut hlI
    show wpAny _ A.in1 (holding [Value.str lst[i].1 lst[i].2] (setAdd S (.str lst[i].1 lst[i].2)) >>= _) _ _ _
    refine wpAny_bind (wpAny_holding ?_)
    unfold setAdd
    refine wpAny_holding ?_
    refine wpAny_bind ((PySem.strKind prog w).pyHash (k := lst[i].1) (PySem.strKind_is _ _ _ _) ?_)
    refine add_str (s := { s with heap := h₁, toks := s.toks + 1 }) hS₁ hI (by omega) fun b h₂ es₂ ep₂ t₂ hs₂ hS₂ hI₂ hm₂ hz₂ => ?_
    replace hs₂ : Heap.SameBut S h₁ h₂ := hs₂
    refine wpAny_pure ⟨plainId_quiet F.plain_set_update_loop _, ih (i + 1) _ es₂ ep₂ t₂ (by omega) hlt (hit₁.extBut hs₂.extBut hIS) (hl₁.extBut hs₂.extBut hlS) hS₂ hI₂ (fun y => ?_) (by omega) fun h' tk es' ep' t' hk' hS' hI' hm' hz' => ?_⟩
    · rw [hm₂ y, hmem y, List.take_add_one, List.map_append, List.mem_append]
      simp [hlt]
    · exact hR h' tk es' ep' t' (fun b o hbS hbI e => hk' b o hbS hbI (hs₂.extBut b o hbS (hs₁.extBut b o hbI e))) hS' hI' hm' hz'

/-- set.__new__, with the mark that the world gives -/
theorem new_set_led (a : Value) {Q₁ : Value → Shared → Prop}
    (h : Q₁ (.ref s.heap.objs.size) { s with heap := s.heap.push (setObj #[] 0 (.fresh 0 0 (!w.params.followText "set-order"))) }) :
    codeAny (model prog w) A (.call (.builtin "set.__new__") ⟨[.type "set", a], []⟩) (wants Q₁ E) s := by
  refine codeAny_of_tree ?_
  show wpAny _ A.in1 (do checkBuiltinCall "set.__new__" ⟨[.type "set", a], []⟩; again (.builtin "set.__new__" ⟨[.type "set", a], []⟩)) _ _ s
  refine wpAny_bind (wpAny_of_eq (F.newCall_set_1 a) (wpAny_pure ⟨plainId_quiet F.plain_set_new _, codeAny_builtin F.entry_set_new ?_⟩))
  rw [Around.under_plainId F.plain_set_new _]
  unfold Builtin.«set.__new__» Builtin.Frozenset.newClass
  have hsub := sub_set_self
  obtain ⟨hp, g, d, tk, os⟩ := s
  dsimp only
  wp_walk
  refine wpAny_askSetting (wpAny_pure ?_)
  dsimp only
  simp only [newObj]
  exact wpAny_bind (wpAny_alloc (wpAny_pure (wpAny_pure h)))

set_option maxHeartbeats 3200000 in
/-- set(xs), xs a list of texts -/
theorem call_set_strs {l : Addr} {lst : List (Str × Tok)} {Q : Value → Shared → Prop} (hh : A.handled = none) (hl : s.heap.IsList l (strValues lst).toArray) (hb : lst.length + 1 < scanBound)
    (h : ∀ h' tk es ep t, h'.get? s.heap.objs.size = some (setObj es ep t) → SInv prog w (!w.params.followText "set-order") es t → (∀ y, InS es y ↔ y ∈ lst.map (·.1)) →
      (∀ b o, b < s.heap.objs.size → s.heap.get? b = some o → h'.get? b = some o) → Q (.ref s.heap.objs.size) { s with heap := h', toks := tk }) :
    wpAny (model prog w) A (call (.type "set") [.ref l]) Q E s := by
  obtain ⟨c, tl, hmro⟩ := F.called_set.mro
  have hmade := F.called_set.made
  have hsub := F.called_set.sub
  refine wpAny_call (codeAny_of_tree ?_)
  show wpAny _ _ (callAny (.type "set") _) _ _ _
  refine wpAny_pure ⟨Code.quiet_builtin _ (by decide +kernel), codeAny_builtin F.entry_type_call ?_⟩
  rw [Around.under_plain (weight_type_call_type "set" [.ref l] []) rfl]
  have h1 := F.called_set.notType
  have h2 := F.called_set.canCreate
  have hct := F.typeCall_set_1 (.ref l)
  repeat (any_goals (first | assumption | wp_step))
  refine codeAny_mono (new_set_led (.ref l) (E := E) (Q₁ := fun obj s₁ => obj = .ref s.heap.objs.size ∧ s₁ = { s with heap := s.heap.push (setObj #[] 0 (.fresh 0 0 (!w.params.followText "set-order"))) }) ⟨rfl, rfl⟩) fun r s₁ hr => ?_
  cases r with
  | error e => exact hr
  | ok fl =>
    cases fl with
    | ret obj =>
      obtain ⟨rfl, rfl⟩ := hr
      obtain ⟨h₁, eh₁⟩ : ∃ h₁, h₁ = s.heap.push (setObj #[] 0 (.fresh 0 0 (!w.params.followText "set-order"))) := ⟨_, rfl⟩
      have hS : h₁.get? s.heap.objs.size = some (setObj #[] 0 (.fresh 0 0 (!w.params.followText "set-order"))) := by rw [eh₁]; exact Heap.get?_push_size _ rfl
      have hz : h₁.objs.size = s.heap.objs.size + 1 := by rw [eh₁, Heap.size_push]
      have hup : ∀ b o, s.heap.get? b = some o → h₁.get? b = some o := fun b o e => by rw [eh₁]; exact Heap.get?_push_of_some _ e
      rw [← eh₁]
      have hT : Shared.TypeIs { s with heap := h₁ } (.ref s.heap.objs.size) "set" := ⟨_, hS, rfl⟩
      have hli := F.called_set.init.lookup
      have hbi := F.called_set.init.bind (.ref s.heap.objs.size)
      repeat (any_goals (first | assumption | wp_step))
      refine codeAny_mono (codeAny_call_builtin (R := wants (fun r s₂ => r = .none ∧ ∃ h' tk es ep t, s₂ = { s with heap := h', toks := tk } ∧ h'.get? s.heap.objs.size = some (setObj es ep t) ∧
          SInv prog w (!w.params.followText "set-order") es t ∧ (∀ y, InS es y ↔ y ∈ lst.map (·.1)) ∧ (∀ b o, b < s.heap.objs.size → s.heap.get? b = some o → h'.get? b = some o)) E) F.called_set.init.plain F.entry_set_init (check_set_init_1 hT ?_)) fun r₂ s₂ hr₂ => ?_
      · have hlS : l < s.heap.objs.size := by obtain ⟨_, e, _⟩ := hl; exact Heap.lt_size e
        have hl1 : h₁.IsList l (strValues lst).toArray := hl.at fun o e => hup _ _ e
        obtain ⟨ol, hol, hcl, nl, hdl⟩ := id hl1
        obtain ⟨ocls, odict, odata, oslots⟩ := ol
        simp only at hcl hdl
        subst hcl; subst hdl
        have hsls := F.sub_list_set
        have hslf := F.sub_list_frozenset
        have hne : (Value.type "list" == Value.type "dict") = false := by decide
        unfold Builtin.«set.__init__» noKeywords Builtin.Frozenset.updateFrom
        generalize hPI : pyIter = PI
        wp_walk
        subst hPI
        refine wpAny_pyIter_list hl1 ?_
        refine wpAny_bind (wpAny_runValue ?_)
        have hIS : h₁.objs.size ≠ s.heap.objs.size := by rw [hz]; exact Nat.succ_ne_self _
        have hlI : l ≠ h₁.objs.size := by rw [hz]; exact Nat.ne_of_lt (Nat.lt_succ_of_lt hlS)
        refine update_loop (led := !w.params.followText "set-order") (lst := lst) (by simp [hh]) hIS hlI (Nat.ne_of_lt hlS) hb lst.length 0 _ #[] 0 _ (by omega) (Nat.zero_le _)
          ⟨_, Heap.get?_push_size _ rfl, rfl, rfl⟩ (hl1.push _) (Heap.get?_push_of_some _ hS) ⟨fun e he => by simp at he, rfl, by decide, rfl, fun q => absurd rfl q⟩ (fun y => by simp [InS]) (Nat.zero_le _) ?_
        intro h' tk es' ep' t' hk hS' hI' hm' hz'
        refine wpAny_pure ?_
        show wpAny _ _ (ret Value.none) _ _ _
        refine wpAny_pure ⟨rfl, h', tk, es', ep', t', rfl, hS', hI', hm', fun b o hb' e => ?_⟩
        exact hk b o (Nat.ne_of_lt hb') (by rw [hz]; exact Nat.ne_of_lt (Nat.lt_succ_of_lt hb')) (Heap.get?_push_of_some _ (hup _ _ e))
      · cases r₂ with
        | error e => exact hr₂
        | ok fl₂ =>
          cases fl₂ with
          | ret r =>
            obtain ⟨rfl, h', tk, es', ep', t', rfl, hS', hI', hm', hk'⟩ := hr₂
            repeat (any_goals (first | assumption | wp_step))
            exact h _ _ _ _ _ hS' hI' hm' hk'
          | _ => exact hr₂.elim
    | _ => exact hr.elim
end
end PartS2

section PartS3
open PySem PySem.W PyProof.Rows PySem.Calls
set_option maxRecDepth 100000

theorem slot_si_next : Slot "set_iterator" "__next__" "set_iterator.__next__" :=
  .of (owner := "set_iterator") (n := "__next__") (by rw [typeLookup_type, builtinLookup_eq_fast]; kernel_rfl) (by decide +kernel) (by decide +kernel) (by decide +kernel)
    (by first | exact .inl (by decide +kernel) | exact .inr (by decide +kernel)) (by rw [isSubtype_type]; kernel_rfl)
theorem entry_si_next : entryFor table "set_iterator.__next__" = some Builtin.«set_iterator.__next__» := entryFor_of_tree (by kernel_rfl)
theorem args_si_next (a : Value) : argsOk "set_iterator.__next__" ⟨[a], []⟩ := by unfold argsOk; kernel_rfl
theorem entry_set_iter : entryFor table "set.__iter__" = some Builtin.«frozenset.__iter__» :=
  entryFor_alias (id' := "frozenset.__iter__") (by kernel_rfl) rfl (by decide +kernel) (by kernel_rfl)

theorem erase_perm {α : Type} : ∀ (l : List α) (i : Nat) (h : i < l.length), (l[i] :: l.eraseIdx i).Perm l
  | [], i, h => by simp at h
  | a :: r, 0, h => by simp
  | a :: r, i + 1, h => by
    have ih := erase_perm r i (by simpa using h)
    simp only [List.getElem_cons_succ, List.eraseIdx_cons_succ]
    exact (List.Perm.swap a _ _).trans (List.Perm.cons a ih)
theorem pick_perm {α : Type} (next : Nat → Nat) : ∀ (fuel k : Nat) (left : List α) (out : Array α), left.length ≤ fuel → (pickOrder.go next fuel k left out).toList.Perm (out.toList ++ left)
  | 0, k, left, out, h => by
    have : left = [] := List.length_eq_zero_iff.mp (by omega)
    subst this
    unfold pickOrder.go
    simp
  | fuel + 1, k, left, out, h => by
    unfold pickOrder.go
    cases left with
    | nil => simp
    | cons a r =>
      have hlt : next k % (a :: r).length < (a :: r).length := Nat.mod_lt _ (by simp)
      rw [List.getElem?_eq_getElem hlt]
      dsimp only
      refine (pick_perm next fuel (k + 1) _ _ (by rw [List.length_eraseIdx_of_lt hlt]; simp at h ⊢; omega)).trans ?_
      rw [Array.toList_push, List.append_assoc]
      exact List.Perm.append_left _ (erase_perm _ _ hlt)
theorem pickOrder_perm {α : Type} (next : Nat → Nat) (xs : Array α) : (pickOrder next xs).toList.Perm xs.toList := by
  unfold pickOrder
  exact (pick_perm next xs.size 0 xs.toList #[] (by simp)).trans (by simp)

section
variable {prog : Program} {w : World} {A : Around} {E : Value → Shared → Prop} {s : Shared} {a : Addr} {es : Array (Int × Value)} {ep : Nat} {t : SetTable} {led : Bool}

theorem choose_any {src : Source} {n : Nat} {Q : Nat → Shared → Prop} (hn : n ≠ 0) (h : ∀ i dr, i < n → Q i { s with drawn := dr }) : wpAny (model prog w) A (choose src n) Q E s :=
  fun _ _ _ => ⟨hn, h _ _ (Nat.mod_lt _ (Nat.pos_of_ne_zero hn))⟩

theorem drawOrder_any {α : Type} : ∀ (n : Nat) (xs : List α) (s : Shared) {Q : List α → Shared → Prop}, xs.length ≤ n → (∀ ys dr, ys.Perm xs → Q ys { s with drawn := dr }) → wpAny (model prog w) A (drawOrder n xs) Q E s
  | 0, xs, s, Q, hn, h => by
    have : xs = [] := List.length_eq_zero_iff.mp (by omega)
    subst this
    unfold drawOrder
    exact wpAny_pure (h [] s.drawn (.refl _))
  | n + 1, [], s, Q, hn, h => by
    unfold drawOrder
    exact wpAny_pure (h [] s.drawn (.refl _))
  | n + 1, x :: r, s, Q, hn, h => by
    unfold drawOrder
    refine wpAny_bind (choose_any (by simp) fun i dr hi => ?_)
    rw [List.getElem?_eq_getElem hi]
    dsimp only
    refine wpAny_bind (drawOrder_any n _ _ (by rw [List.length_eraseIdx_of_lt hi]; simp at hn ⊢; omega) fun ys dr' hp => wpAny_pure ?_)
    exact h _ dr' ((List.Perm.cons _ hp).trans (erase_perm _ _ hi))

theorem setsByText_is {Q : Bool → Shared → Prop} (h : Q (w.params.followText "set-order") s) : wpAny (model prog w) A setsByText Q E s := by
  unfold setsByText
  exact wpAny_bind (wpAny_askSetting (wpAny_pure h))

abbrev setIt (first : Value) (i : Nat) (S : Addr) (n ep : Nat) : Obj := { cls := .type "set_iterator", data := .fields #[first, rawInt i, .ref S, rawInt n, rawInt ep] }


theorem stop_end {I : Addr} {h₁ : Heap} {Q : Option Value → Shared → Prop} (hh : A.handled = none) (hx : Heap.ExtBut I s.heap h₁) (hQ : ∀ h', Heap.ExtBut I s.heap h' → Q none { s with heap := h' }) :
    wpAny (model prog w) A.in1 (do raiseNew (← newExc (.type "StopIteration") []) : Sem Fin) (fun fin s' => ∃ v, fin = .done (.ret v) ∧ Q (some v) s')
      (fun e s' => wpAny (model prog w) A (do if ← isInstance e (.type "StopIteration") then pure none else throw e) Q E s') { s with heap := h₁ } := by
  refine wpAny_bind ?_
  simp only [newExc, newTuple]
  refine wpAny_bind (wpAny_newObj_type ?_ (by size_fits))
  refine wpAny_bind (m := firstArgMember _ _) (wpAny_of_eq (a := Value.none) (by first | rfl | (simp only [firstArgMember]; rfl)) ?_)
  refine wpAny_newObj_type ?_ (by size_fits)
  simp only [raiseNew]
  refine wpAny_bind (wpAny_handled ?_)
  rw [show A.in1.handled = none from hh]
  refine wpAny_bind (wpAny_pure (wpAny_throw ?_))
  refine wpAny_bind (wpAny_isInstance (T := "StopIteration") (b := true) ⟨_, Heap.get?_push_size _ rfl, rfl⟩ isSubtype_stop ?_)
  exact wpAny_pure (hQ _ ((hx.push _).push _))

theorem next_int_item {I S : Addr} {n i slot nx : Nat} {x : Value} {Q : Option Value → Shared → Prop} (hI : s.heap.get? I = some (setIt (rawInt slot) i S n ep)) (hS : s.heap.get? S = some (setObj es ep t)) (hf : t.fits es.size = true) (hn : n = es.size)
    (hr : ∀ (Q' : Option (Value × Nat) → Shared → Prop) (E' : Value → Shared → Prop), Q' (some (x, nx)) s → wpAny (model prog w) A.in1 (setNext S slot i ep) Q' E' s)
    (hQ : ∀ h', h'.get? I = some (setIt (rawInt nx) (i + 1) S n ep) → Heap.SameBut I s.heap h' → Q (some x) { s with heap := h' }) : wpAny (model prog w) A (pyNext (.ref I)) Q E s := by
  have hSI : s.TypeIs (.ref I) "set_iterator" := ⟨_, hI, rfl⟩
  unfold pyNext
  refine wpAny_bind (wpAny_attempt (wpAny_callSpecial?_slot (name := Str.ofString "__next__") hSI slot_si_next (wpAny_call_entry slot_si_next hSI entry_si_next ?_ (args_si_next _))))
  show wpAny _ _ (fieldsOf (.ref I) >>= _) _ _ s
  refine wpAny_bind (wpAny_fieldsOf hI rfl ?_)
  show wpAny _ _ (setEntries S >>= _) _ _ s
  refine wpAny_bind (wpAny_setEntries_of hS rfl hf ?_)
  rw [if_neg (by simp [hn])]
  simp only [Int.toNat_natCast]
  refine wpAny_mono (Q := fun fin s' => ∃ v, fin = .done (.ret v) ∧ Q (some v) s') ?_ (fun _ _ ⟨v, e, q⟩ => ⟨v, e, wpAny_pure q⟩) (fun _ _ x => x)
  simp only [rawInt, Int.toNat_natCast]
  refine wpAny_bind (hr _ _ ?_)
  dsimp only
  refine wpAny_bind (wpAny_setField_rec hI (by simp) fun h₁ hI₁ hs₁ => ?_)
  refine wpAny_bind (wpAny_setField_rec hI₁ (by simp) fun h₂ hI₂ hs₂ => ?_)
  exact wpAny_pure ⟨x, rfl, hQ h₂ hI₂ (hs₁.trans hs₂)⟩
theorem next_int_end {I S : Addr} {n i slot : Nat} {Q : Option Value → Shared → Prop} (hh : A.handled = none) (hI : s.heap.get? I = some (setIt (rawInt slot) i S n ep)) (hS : s.heap.get? S = some (setObj es ep t)) (hf : t.fits es.size = true) (hn : n = es.size)
    (hr : ∀ (Q' : Option (Value × Nat) → Shared → Prop) (E' : Value → Shared → Prop), Q' none s → wpAny (model prog w) A.in1 (setNext S slot i ep) Q' E' s)
    (hQ : ∀ h', Heap.ExtBut I s.heap h' → Q none { s with heap := h' }) : wpAny (model prog w) A (pyNext (.ref I)) Q E s := by
  have hSI : s.TypeIs (.ref I) "set_iterator" := ⟨_, hI, rfl⟩
  unfold pyNext
  refine wpAny_bind (wpAny_attempt (wpAny_callSpecial?_slot (name := Str.ofString "__next__") hSI slot_si_next (wpAny_call_entry slot_si_next hSI entry_si_next ?_ (args_si_next _))))
  show wpAny _ _ (fieldsOf (.ref I) >>= _) _ _ s
  refine wpAny_bind (wpAny_fieldsOf hI rfl ?_)
  show wpAny _ _ (setEntries S >>= _) _ _ s
  refine wpAny_bind (wpAny_setEntries_of hS rfl hf ?_)
  rw [if_neg (by simp [hn])]
  simp only [Int.toNat_natCast]
  refine wpAny_mono (Q := fun fin s' => ∃ v, fin = .done (.ret v) ∧ Q (some v) s') ?_ (fun _ _ ⟨v, e, q⟩ => ⟨v, e, wpAny_pure q⟩) (fun _ _ x => x)
  simp only [rawInt, Int.toNat_natCast]
  refine wpAny_bind (hr _ _ ?_)
  dsimp only
  refine wpAny_bind (wpAny_setField_rec hI (by simp) fun h₁ hI₁ hs₁ => ?_)
  exact stop_end (s := s) hh hs₁.extBut hQ

theorem next_tup_item {I S T : Addr} {n i place : Nat} {oT : Obj} {places : Array Value} {kT : Nat} {hsh : Int} {x : Value} {Q : Option Value → Shared → Prop} (hI : s.heap.get? I = some (setIt (.ref T) i S n ep)) (hS : s.heap.get? S = some (setObj es ep t)) (hf : t.fits es.size = true) (hn : n = es.size)
    (hT : s.heap.get? T = some oT) (hTd : oT.data = .seq places kT) (hp : places[i]? = some (rawInt place)) (hx : es[place]? = some (hsh, x))
    (hQ : ∀ h', h'.get? I = some (setIt (.ref T) (i + 1) S n ep) → Heap.SameBut I s.heap h' → Q (some x) { s with heap := h' }) : wpAny (model prog w) A (pyNext (.ref I)) Q E s := by
  have hSI : s.TypeIs (.ref I) "set_iterator" := ⟨_, hI, rfl⟩
  unfold pyNext
  refine wpAny_bind (wpAny_attempt (wpAny_callSpecial?_slot (name := Str.ofString "__next__") hSI slot_si_next (wpAny_call_entry slot_si_next hSI entry_si_next ?_ (args_si_next _))))
  show wpAny _ _ (fieldsOf (.ref I) >>= _) _ _ s
  refine wpAny_bind (wpAny_fieldsOf hI rfl ?_)
  show wpAny _ _ (setEntries S >>= _) _ _ s
  refine wpAny_bind (wpAny_setEntries_of hS rfl hf ?_)
  rw [if_neg (by simp [hn])]
  simp only [Int.toNat_natCast]
  refine wpAny_mono (Q := fun fin s' => ∃ v, fin = .done (.ret v) ∧ Q (some v) s') ?_ (fun _ _ ⟨v, e, q⟩ => ⟨v, e, wpAny_pure q⟩) (fun _ _ x => x)
  refine wpAny_bind (wpAny_seqItems hT hTd ?_)
  dsimp only
  rw [hp]
  simp only [rawInt, Int.toNat_natCast]
  unfold setNextDrawn
  refine wpAny_bind (wpAny_bind (wpAny_setState_of hS rfl hf ?_))
  dsimp only
  rw [if_neg (by simp), hx]
  refine wpAny_pure ?_
  refine wpAny_bind (wpAny_setField_rec hI (by simp) fun h₂ hI₂ hs₂ => ?_)
  exact wpAny_pure ⟨x, rfl, hQ h₂ hI₂ hs₂⟩
theorem next_tup_end {I S T : Addr} {n i : Nat} {oT : Obj} {places : Array Value} {kT : Nat} {Q : Option Value → Shared → Prop} (hh : A.handled = none) (hI : s.heap.get? I = some (setIt (.ref T) i S n ep)) (hS : s.heap.get? S = some (setObj es ep t)) (hf : t.fits es.size = true) (hn : n = es.size)
    (hT : s.heap.get? T = some oT) (hTd : oT.data = .seq places kT) (hp : places[i]? = none)
    (hQ : ∀ h', Heap.ExtBut I s.heap h' → Q none { s with heap := h' }) : wpAny (model prog w) A (pyNext (.ref I)) Q E s := by
  have hSI : s.TypeIs (.ref I) "set_iterator" := ⟨_, hI, rfl⟩
  unfold pyNext
  refine wpAny_bind (wpAny_attempt (wpAny_callSpecial?_slot (name := Str.ofString "__next__") hSI slot_si_next (wpAny_call_entry slot_si_next hSI entry_si_next ?_ (args_si_next _))))
  show wpAny _ _ (fieldsOf (.ref I) >>= _) _ _ s
  refine wpAny_bind (wpAny_fieldsOf hI rfl ?_)
  show wpAny _ _ (setEntries S >>= _) _ _ s
  refine wpAny_bind (wpAny_setEntries_of hS rfl hf ?_)
  rw [if_neg (by simp [hn])]
  simp only [Int.toNat_natCast]
  refine wpAny_mono (Q := fun fin s' => ∃ v, fin = .done (.ret v) ∧ Q (some v) s') ?_ (fun _ _ ⟨v, e, q⟩ => ⟨v, e, wpAny_pure q⟩) (fun _ _ x => x)
  refine wpAny_bind (wpAny_seqItems hT hTd ?_)
  dsimp only
  rw [hp]
  refine wpAny_bind (wpAny_setField_rec hI (by simp) fun h₁ hI₁ hs₁ => ?_)
  refine wpAny_bind (wpAny_setField_rec hI₁ (by simp) fun h₂ hI₂ hs₂ => ?_)
  exact stop_end (s := s) hh (hs₁.trans hs₂).extBut hQ
end
end PartS3

section PartS4
open PySem PySem.W PyProof.Rows PySem.Calls
set_option maxRecDepth 100000

section
variable {prog : Program} {w : World} {A : Around} {E : Value → Shared → Prop} {s : Shared} {S : Addr} {es : Array (Int × Value)} {ep : Nat} {t : SetTable}

theorem setNext_text {slot i : Nat} (hbt : w.params.followText "set-order" = true) (hS : s.heap.get? S = some (setObj es ep t)) (hf : t.fits es.size = true) (Q' : Option (Value × Nat) → Shared → Prop) (E' : Value → Shared → Prop)
    (h : Q' (((pickOrder (w.params.setOrder S ep) es)[i]?).map fun e => (e.2, slot)) s) : wpAny (model prog w) A (setNext S slot i ep) Q' E' s := by
  unfold setNext
  refine wpAny_bind (wpAny_setState_of hS rfl hf ?_)
  dsimp only
  refine wpAny_bind (setsByText_is ?_)
  rw [hbt]
  simp only [if_true, bne_self_eq_false, Bool.false_eq_true, if_false]
  unfold setWalk
  refine wpAny_bind (wpAny_bind (wpAny_setState_of hS rfl hf ?_))
  dsimp only
  refine wpAny_bind (setsByText_is ?_)
  rw [hbt]
  simp only [if_true]
  refine wpAny_bind (wpAny_askSetting (wpAny_pure ?_))
  exact wpAny_pure h

theorem below_one (j k : Nat) : SetTable.below #[j] k = if j < k then 1 else 0 := by
  unfold SetTable.below
  show SetTable.below.go #[j] k 1 0 1 = _
  unfold SetTable.below.go
  simp only [Nat.zero_lt_one, if_true]
  show (if j < k then SetTable.below.go #[j] k 0 1 1 else SetTable.below.go #[j] k 0 0 0) = _
  split <;> simp [SetTable.below.go]

theorem setNext_one {slot i j : Nat} {hsh : Int} {x : Value} (hbt : w.params.followText "set-order" = false) (hes : es = #[(hsh, x)]) (hpl : t.place = #[j]) (hled : t.led = true) (hS : s.heap.get? S = some (setObj es ep t)) (hf : t.fits es.size = true)
    (Q' : Option (Value × Nat) → Shared → Prop) (E' : Value → Shared → Prop) (h : Q' (if j < slot then none else some (x, j + 1)) s) : wpAny (model prog w) A (setNext S slot i ep) Q' E' s := by
  unfold setNext
  refine wpAny_bind (wpAny_setState_of hS rfl hf ?_)
  dsimp only
  refine wpAny_bind (setsByText_is ?_)
  rw [hbt]
  simp only [Bool.false_eq_true, if_false]
  split
  · rename_i hd
    have hd' : (!t.plain && decide (es.size > 1)) = true := hd
    rw [hes] at hd'
    simp at hd'
  · refine wpAny_bind (wpAny_of_eq (a := ()) (by
      show (if (!t.led && !es.isEmpty) = true then (unsupported "set:maker-not-led" : Sem Unit) else pure ()) = pure ()
      rw [if_neg (by simp [hled])]) ?_)
    rw [hpl, below_one, hes]
    by_cases hj : j < slot
    · rw [if_pos hj] at h ⊢
      exact wpAny_pure h
    · rw [if_neg hj] at h ⊢
      exact wpAny_pure h

/-- iter(a set of texts): what it bears, in whatever order -/
theorem iter_set {Q : Value → Shared → Prop} (hh : A.handled = none) (V : SInv prog w (!w.params.followText "set-order") es t) (hne : es.size ≠ 0) (hS : s.heap.get? S = some (setObj es ep t))
    (h : ∀ (vs : List Value) (I T : Addr) (oI oT : Obj) (St : Nat → Heap → Prop) (h' : Heap) (dr : Drawn), vs.Perm (es.toList.map (·.2)) → I ≠ S → T ≠ S → s.heap.objs.size ≤ I → s.heap.objs.size ≤ T → Runs prog w A I vs.length (fun i v => vs[i]? = some v) St →
      (∀ i h, St i h → ∃ o, h.get? I = some o) → (∀ i h h' o, St i h → h.get? I = some o → h'.get? I = some o → (T ≠ I → h'.get? T = some oT) → h'.get? S = some (setObj es ep t) → St i h') →
      (∀ b o, s.heap.get? b = some o → h'.get? b = some o) → h'.get? I = some oI → (T ≠ I → h'.get? T = some oT) → (T = I → oT = oI) → St 0 h' → Q (.ref I) { s with heap := h', drawn := dr }) :
    wpAny (model prog w) A (pyIter (.ref S)) Q E s := by
  have hT : s.TypeIs (.ref S) "set" := ⟨_, hS, rfl⟩
  have hSlt : S < s.heap.objs.size := Heap.lt_size hS
  refine wpAny_pyIter_slot hT F.slot_set_iter (wpAny_call_entry F.slot_set_iter hT entry_set_iter ?_ (F.args_set_iter_1 _))
  unfold Builtin.«frozenset.__iter__»
  show wpAny _ _ (Builtin.Frozenset.sizeOf S >>= _) _ _ s
  unfold Builtin.Frozenset.sizeOf
  refine wpAny_bind (wpAny_bind (wpAny_setEntries_of hS rfl V.fits (wpAny_pure ?_)))
  unfold setDrawn
  refine wpAny_bind (wpAny_bind (wpAny_setState_of hS rfl V.fits ?_))
  dsimp only
  refine wpAny_bind (setsByText_is (wpAny_pure ?_))
  split
  · rename_i hd
    have hbt : w.params.followText "set-order" = false := by
      have := (Bool.and_eq_true_iff.mp hd).1
      simpa using this
    refine wpAny_bind (drawOrder_any es.size (List.range es.size) s (by simp) fun ys dr hp => ?_)
    have hyl : ys.length = es.size := by rw [hp.length_eq, List.length_range]
    have hyb : ∀ p ∈ ys, p < es.size := fun p hm => List.mem_range.mp (hp.mem_iff.mp hm)
    refine wpAny_bind (wpAny_newTuple ?_ (by rw [List.length_map, hyl]; exact fits_of_scanBound V.bound))
    obtain ⟨h₁, eh₁⟩ : ∃ h₁, h₁ = s.heap.push { cls := .type "tuple", data := .seq (ys.map fun i => rawInt (i : Nat)).toArray } := ⟨_, rfl⟩
    have hz₁ : h₁.objs.size = s.heap.objs.size + 1 := by rw [eh₁, Heap.size_push]
    have hT₁ : h₁.get? s.heap.objs.size = some { cls := .type "tuple", data := .seq (ys.map fun i => rawInt (i : Nat)).toArray } := by rw [eh₁]; exact Heap.get?_push_size _ rfl
    have hS₁ : h₁.get? S = some (setObj es ep t) := by rw [eh₁]; exact Heap.get?_push_of_some _ hS
    show wpAny _ _ (setEpoch S >>= _) _ _ { s with heap := s.heap.push _, drawn := dr }
    rw [← eh₁]
    refine wpAny_bind (wpAny_setEpoch_of hS₁ rfl V.fits ?_)
    refine wpAny_bind (wpAny_newObj_type (wpAny_pure ⟨_, rfl, "set_iterator", _, ⟨_, Heap.get?_push_size _ rfl, rfl⟩, slot_si_next.lookup, ?_⟩))
    have hIT : h₁.objs.size ≠ s.heap.objs.size := by rw [hz₁]; exact Nat.succ_ne_self _
    refine h (ys.map fun p => (es.getD p default).2) h₁.objs.size s.heap.objs.size (setIt (.ref s.heap.objs.size) 0 S es.size ep) { cls := .type "tuple", data := .seq (ys.map fun i => rawInt (i : Nat)).toArray }
      (fun i h => h.get? h₁.objs.size = some (setIt (.ref s.heap.objs.size) i S es.size ep) ∧ h.get? S = some (setObj es ep t) ∧ h.get? s.heap.objs.size = some { cls := .type "tuple", data := .seq (ys.map fun i => rawInt (i : Nat)).toArray })
      _ dr ?_ (by rw [hz₁]; exact Nat.ne_of_gt (Nat.lt_succ_of_lt hSlt)) (Nat.ne_of_gt hSlt) (by rw [hz₁]; exact Nat.le_succ _) (Nat.le_refl _) ⟨?_, ?_⟩ (fun i h st => ⟨_, st.1⟩) ?_ ?_ (Heap.get?_push_size _ rfl) (fun _ => Heap.get?_push_of_some _ hT₁) (fun q => absurd q.symm hIT)
      ⟨Heap.get?_push_size _ rfl, Heap.get?_push_of_some _ hS₁, Heap.get?_push_of_some _ hT₁⟩
    · refine (hp.map _).trans (List.Perm.of_eq ?_)
      apply List.ext_getElem
      · simp
      · intro i h1 h2
        simp only [List.length_map, List.length_range] at h1
        simp [Array.getD, h1]
    · intro i s' Q' E' hi st hQ
      have hi' : i < ys.length := by simpa using hi
      have hpl : ys[i] < es.size := hyb _ (List.getElem_mem hi')
      refine next_tup_item (place := ys[i]) (hsh := es[ys[i]].1) (x := es[ys[i]].2) st.1 st.2.1 V.fits rfl st.2.2 rfl (by simp [hi']) (by simp [hpl]) fun h' hI' hs' => ?_
      refine hQ _ h' s'.toks (by simp [hi', Array.getD, hpl]) ⟨hI', hs'.extBut _ _ (by rw [hz₁]; exact Nat.ne_of_lt (Nat.lt_succ_of_lt hSlt)) st.2.1, hs'.extBut _ _ (Ne.symm hIT) st.2.2⟩ fun b o hb e => hs'.extBut b o (by simpa using hb) e
    · intro s' Q' E' st hQ
      exact next_tup_end hh st.1 st.2.1 V.fits rfl st.2.2 rfl (by simp) fun h' hx' => hQ h' s'.toks fun b o hb e => hx' b o (by simpa using hb) e
    · intro i h h' o st e e' hTT hS'
      rw [st.1] at e; cases e
      exact ⟨e', hS', hTT (Ne.symm hIT)⟩
    · intro b o e
      rw [eh₁]; exact Heap.get?_push_of_some _ (Heap.get?_push_of_some _ e)
  · rename_i hd
    refine wpAny_bind (wpAny_pure ?_)
    refine wpAny_bind (wpAny_setEpoch_of hS rfl V.fits ?_)
    refine wpAny_bind (wpAny_newObj_type (wpAny_pure ⟨_, rfl, "set_iterator", _, ⟨_, Heap.get?_push_size _ rfl, rfl⟩, slot_si_next.lookup, ?_⟩))
    have hSI : s.heap.objs.size ≠ S := Nat.ne_of_gt hSlt
    cases hbt : w.params.followText "set-order" with
    | true =>
      refine h ((pickOrder (w.params.setOrder S ep) es).toList.map (·.2)) s.heap.objs.size s.heap.objs.size (setIt (rawInt 0) 0 S es.size ep) (setIt (rawInt 0) 0 S es.size ep)
        (fun i h => h.get? s.heap.objs.size = some (setIt (rawInt 0) i S es.size ep) ∧ h.get? S = some (setObj es ep t))
        _ s.drawn ((pickOrder_perm _ es).map _) hSI hSI (Nat.le_refl _) (Nat.le_refl _) ⟨?_, ?_⟩ (fun i h st => ⟨_, st.1⟩) ?_ (fun b o e => Heap.get?_push_of_some _ e) (Heap.get?_push_size _ rfl) (fun q => absurd rfl q) (fun _ => rfl)
        ⟨Heap.get?_push_size _ rfl, Heap.get?_push_of_some _ hS⟩
      · intro i s' Q' E' hi st hQ
        have hi' : i < (pickOrder (w.params.setOrder S ep) es).size := by simpa using hi
        refine next_int_item (slot := 0) (nx := 0) (x := (pickOrder (w.params.setOrder S ep) es)[i].2) st.1 st.2 V.fits rfl (fun Q'' E'' hq => setNext_text hbt st.2 V.fits Q'' E'' (by simpa [hi'] using hq)) fun h' hI' hs' => ?_
        exact hQ _ h' s'.toks (by simp [hi']) ⟨hI', hs'.extBut _ _ (Ne.symm hSI) st.2⟩ fun b o hb e => hs'.extBut b o (by simpa using hb) e
      · intro s' Q' E' st hQ
        refine next_int_end (slot := 0) hh st.1 st.2 V.fits rfl (fun Q'' E'' hq => setNext_text hbt st.2 V.fits Q'' E'' (by simpa using hq)) fun h' hx' => ?_
        exact hQ h' s'.toks fun b o hb e => hx' b o (by simpa using hb) e
      · intro i h h' o st e e' _ hS'
        rw [st.1] at e; cases e
        exact ⟨e', hS'⟩
    | false =>
      have hone : es.size = 1 := by
        have hp := V.plain hne
        have hd' : ¬ ((!w.params.followText "set-order" && (!t.plain && decide (es.size > 1))) = true) := hd
        rw [hbt, hp] at hd'
        simp at hd'
        omega
      obtain ⟨hsh, x, hes⟩ : ∃ hsh x, es = #[(hsh, x)] := ⟨es[0].1, es[0].2, by
        apply Array.ext
        · simp [hone]
        · intro i h1 h2
          have : i = 0 := by omega
          subst this; rfl⟩
      obtain ⟨j, hpl⟩ : ∃ j, t.place = #[j] := by
        have hf := V.fits
        simp only [SetTable.fits, Bool.and_eq_true, beq_iff_eq, decide_eq_true_eq] at hf
        have hz : t.place.size = 1 := hf.1.trans hone
        exact ⟨t.place[0], by
          apply Array.ext
          · simp [hz]
          · intro i h1 h2
            have : i = 0 := by omega
            subst this; rfl⟩
      have hled : t.led = true := by rw [V.led, hbt]; rfl
      refine h [x] s.heap.objs.size s.heap.objs.size (setIt (rawInt 0) 0 S es.size ep) (setIt (rawInt 0) 0 S es.size ep)
        (fun i h => h.get? s.heap.objs.size = some (setIt (rawInt ((if i = 0 then 0 else j + 1 : Nat) : Int)) i S es.size ep) ∧ h.get? S = some (setObj es ep t))
        _ s.drawn (by rw [hes]; exact .refl _) hSI hSI (Nat.le_refl _) (Nat.le_refl _) ⟨?_, ?_⟩ (fun i h st => ⟨_, st.1⟩) ?_ (fun b o e => Heap.get?_push_of_some _ e) (Heap.get?_push_size _ rfl) (fun q => absurd rfl q) (fun _ => rfl)
        ⟨Heap.get?_push_size _ rfl, Heap.get?_push_of_some _ hS⟩
      · intro i s' Q' E' hi st hQ
        have hi0 : i = 0 := by simpa using hi
        subst hi0
        refine next_int_item (slot := 0) (nx := j + 1) (x := x) st.1 st.2 V.fits rfl (fun Q'' E'' hq => setNext_one hbt hes hpl hled st.2 V.fits Q'' E'' (by simpa using hq)) fun h' hI' hs' => ?_
        exact hQ _ h' s'.toks (by simp) ⟨hI', hs'.extBut _ _ (Ne.symm hSI) st.2⟩ fun b o hb e => hs'.extBut b o (by simpa using hb) e
      · intro s' Q' E' st hQ
        refine next_int_end (slot := j + 1) (i := 1) hh st.1 st.2 V.fits rfl (fun Q'' E'' hq => setNext_one hbt hes hpl hled st.2 V.fits Q'' E'' (by simpa using hq)) fun h' hx' => ?_
        exact hQ h' s'.toks fun b o hb e => hx' b o (by simpa using hb) e
      · intro i h h' o st e e' _ hS'
        rw [st.1] at e; cases e
        exact ⟨e', hS'⟩
end
end PartS4

section PartS5
open PySem PySem.W PyProof.Rows PySem.Calls

section
variable {prog : Program} {w : World} {A : Around} {E : Value → Shared → Prop} {s : Shared} {env : Env} {Q : Flow → Shared → Prop} {body : List Stmt} {h₀ : Heap} {L : Addr} {m : Str → Option Value} {news : List (Addr × Obj)} {x : Str} {px : Pos}

/-- for v in a set of texts: every text once, in an order that the world draws -/
theorem loopSet {S : Addr} {es : Array (Int × Value)} {ep : Nat} {t : SetTable} (hE : PassesOwn (model prog w) A env E) (hh : A.handled = none) (V : SInv prog w (!w.params.followText "set-order") es t) (hne : es.size ≠ 0)
    (J : List Str → Nat → (Str → Option Value) → List (Addr × Obj) → Prop) (hJl : ∀ ord i m' nw, J ord i m' nw → (S, setObj es ep t) ∈ nw)
    (F : Fr h₀ L s.heap m) (N : News h₀ L s.heap news) (h0 : ∀ ord, J ord 0 m news)
    (step : ∀ ord i y u m₁ news₁ h₁ tk₁ dr₁ I oI T oT, (∀ y, InS es y ↔ y ∈ ord) → ord[i]? = some y → J ord i m₁ news₁ → Fr h₀ L h₁ m₁ → News h₀ L h₁ ((I, oI) :: (T, oT) :: news₁) → (∀ p ∈ news₁, p.1 ≠ I ∧ p.1 ≠ T) →
      wpAny (model prog w) A (storeName env x (.str y u)) (fun _ s₂ => wpAny (model prog w) A (execs body env) (TurnEnd Q fun s₃ => ∃ h₃ tk₃ dr₃ m₃ news₃, s₃ = { s with heap := h₃, toks := tk₃, drawn := dr₃ } ∧ Fr h₀ L h₃ m₃ ∧
        News h₀ L h₃ ((I, oI) :: (T, oT) :: news₃) ∧ (∀ p ∈ news₃, p.1 ≠ I ∧ p.1 ≠ T) ∧ J ord (i + 1) m₃ news₃) E s₂) E { s with heap := h₁, toks := tk₁, drawn := dr₁ })
    (done : ∀ ord m₁ news₁ h₁ tk₁ dr₁, (∀ y, InS es y ↔ y ∈ ord) → J ord ord.length m₁ news₁ → Fr h₀ L h₁ m₁ → News h₀ L h₁ news₁ → Q .next { s with heap := h₁, toks := tk₁, drawn := dr₁ }) :
    wpAny (model prog w) A (pyIter (.ref S)) (fun it s₂ => LoopAtM prog w A env (.Name x px) body Q E it s₂) E s := by
  have hS : s.heap.get? S = some (setObj es ep t) := (N _ (hJl [] _ _ _ (h0 []))).1
  have hSn : ∀ p ∈ news, p.1 < s.heap.objs.size := fun p hp => Heap.lt_size (N p hp).1
  have hLlt : L < s.heap.objs.size := F.ns.lt
  refine iter_set hh V hne hS fun vs I T oI oT St h' dr hp hIS hTS hIz hTz W hIo hSt hk hI hT hTI st₀ => ?_
  -- what it bears are texts
  have hstr : ∀ v ∈ vs, ∃ y u, v = .str y u := fun v hv => by
    obtain ⟨e, he, rfl⟩ := List.mem_map.mp (hp.mem_iff.mp hv)
    obtain ⟨⟨k, hk', _⟩, _⟩ := V.elems e he
    obtain ⟨u, hu⟩ := Value.isStrOf_shape hk'
    exact ⟨k, u, hu⟩
  obtain ⟨ord, hord⟩ : ∃ ord : List Str, ord = vs.map fun v => match v with | .str y _ => y | _ => default := ⟨_, rfl⟩
  have hol : ord.length = vs.length := by rw [hord, List.length_map]
  have hmem : ∀ y, InS es y ↔ y ∈ ord := fun y => by
    rw [hord]
    constructor
    · rintro ⟨e, he, hq⟩
      obtain ⟨u, hu⟩ := Value.isStrOf_shape hq
      refine List.mem_map.mpr ⟨e.2, hp.mem_iff.mpr (List.mem_map.mpr ⟨e, he, rfl⟩), ?_⟩
      rw [hu]
    · intro hy
      obtain ⟨v, hv, rfl⟩ := List.mem_map.mp hy
      obtain ⟨y, u, rfl⟩ := hstr v hv
      obtain ⟨e, he, hq⟩ := List.mem_map.mp (hp.mem_iff.mp hv)
      exact ⟨e, he, by rw [hq]; exact PySem.strKind_is prog w y u⟩
  have hT' : h'.get? T = some oT := by
    by_cases q : T = I
    · rw [q, hTI q]; exact hI
    · exact hT q
  have hLI : L ≠ I := Nat.ne_of_lt (Nat.lt_of_lt_of_le hLlt hIz)
  have hLT : L ≠ T := Nat.ne_of_lt (Nat.lt_of_lt_of_le hLlt hTz)
  have F' : Fr h₀ L h' m := F.keeps hk
  -- the tuple of places goes with the ledger
  refine loopF (h₀ := h₀) (L := L) (m := m) (news := (if T = I then [] else [(T, oT)]) ++ news) W hE hLI (get_none_of_fr F hIz)
    (fun i m' nw => ∃ nw', nw = (if T = I then [] else [(T, oT)]) ++ nw' ∧ (∀ p ∈ nw', p.1 ≠ T) ∧ J ord i m' nw') hIo ?_ F' ?_ st₀ ⟨news, rfl, fun p hp' => Nat.ne_of_lt (Nat.lt_of_lt_of_le (hSn p hp') hTz), h0 ord⟩ ?_ ?_ ?_
  · rintro i h₁ h₂ o m' nw st e e' _ Nw ⟨nw', rfl, hoff, hJ⟩
    refine hSt i h₁ h₂ o st e e' (fun q => ?_) (Nw _ (List.mem_append_right _ (hJl _ _ _ _ hJ))).1
    rw [if_neg q] at Nw
    exact (Nw _ (List.mem_append_left _ (.head _))).1
  · intro p hp'
    rcases List.mem_append.mp hp' with q | q
    · by_cases hq : T = I
      · rw [if_pos hq] at q; cases q
      · rw [if_neg hq, List.mem_singleton] at q
        subst q
        exact ⟨hT', Ne.symm hLT, get_none_of_fr F hTz⟩
    · exact ⟨hk _ _ (N p q).1, (N p q).2⟩
  · intro p hp'
    rcases List.mem_append.mp hp' with q | q
    · by_cases hq : T = I
      · rw [if_pos hq] at q; cases q
      · rw [if_neg hq, List.mem_singleton] at q
        subst q; exact hq
    · exact Nat.ne_of_lt (Nat.lt_of_lt_of_le (hSn p q) hIz)
  · rintro i v m₁ nw h₁ tk₁ dr₁ oI₁ hlt hv ⟨nw', rfl, hoff, hJ⟩ F₁ N₁ off₁
    obtain ⟨y, u, rfl⟩ := hstr v (List.mem_of_getElem? hv)
    have hy : ord[i]? = some y := by rw [hord, List.getElem?_map, hv]; rfl
    obtain ⟨oT₁, hoT₁⟩ : ∃ oT₁, oT₁ = if T = I then oI₁ else oT := ⟨_, rfl⟩
    have N₂ : News h₀ L h₁ ((I, oI₁) :: (T, oT₁) :: nw') := fun p hp' => by
      rcases List.mem_cons.mp hp' with rfl | hp'
      · exact N₁ _ (.head _)
      · rcases List.mem_cons.mp hp' with rfl | hp'
        · by_cases hq : T = I
          · rw [hoT₁, if_pos hq, hq]; exact N₁ _ (.head _)
          · rw [hoT₁, if_neg hq]
            rw [if_neg hq] at N₁
            exact N₁ _ (.tail _ (.head _))
        · exact N₁ _ (.tail _ (List.mem_append_right _ hp'))
    have off₂ : ∀ p ∈ nw', p.1 ≠ I ∧ p.1 ≠ T := fun p hp' => ⟨off₁ p (List.mem_append_right _ hp'), hoff p hp'⟩
    refine wpAny_mono (step ord i y u m₁ nw' h₁ tk₁ dr₁ I oI₁ T oT₁ hmem hy hJ F₁ N₂ off₂) (fun _ s₂ h₂ => wpAny_mono h₂ (fun f s₃ h₃ => ?_) fun _ _ e => e) fun _ _ e => e
    have go : (∃ h₃ tk₃ dr₃ m₃ news₃, s₃ = { s with heap := h₃, toks := tk₃, drawn := dr₃ } ∧ Fr h₀ L h₃ m₃ ∧ News h₀ L h₃ ((I, oI₁) :: (T, oT₁) :: news₃) ∧ (∀ p ∈ news₃, p.1 ≠ I ∧ p.1 ≠ T) ∧ J ord (i + 1) m₃ news₃) →
        ∃ h₃ tk₃ dr₃ m₃ news₃, s₃ = { s with heap := h₃, toks := tk₃, drawn := dr₃ } ∧ Fr h₀ L h₃ m₃ ∧ News h₀ L h₃ ((I, oI₁) :: news₃) ∧ (∀ p ∈ news₃, p.1 ≠ I) ∧
          ∃ nw', news₃ = (if T = I then [] else [(T, oT)]) ++ nw' ∧ (∀ p ∈ nw', p.1 ≠ T) ∧ J ord (i + 1) m₃ nw' := by
      rintro ⟨H₃, tk₃, dr₃, m₃, nw₃, e₃, F₃, N₃, off₃, hJ₃⟩
      refine ⟨H₃, tk₃, dr₃, m₃, (if T = I then [] else [(T, oT)]) ++ nw₃, e₃, F₃, fun p hp' => ?_, fun p hp' => ?_, nw₃, rfl, fun p hp' => (off₃ p hp').2, hJ₃⟩
      · rcases List.mem_cons.mp hp' with rfl | hp'
        · exact N₃ _ (.head _)
        · rcases List.mem_append.mp hp' with q | q
          · by_cases hq : T = I
            · rw [if_pos hq] at q; cases q
            · rw [if_neg hq, List.mem_singleton] at q
              subst q
              have := N₃ _ (.tail _ (.head _))
              rw [hoT₁, if_neg hq] at this
              exact this
          · exact N₃ _ (.tail _ (.tail _ q))
      · rcases List.mem_append.mp hp' with q | q
        · by_cases hq : T = I
          · rw [if_pos hq] at q; cases q
          · rw [if_neg hq, List.mem_singleton] at q
            subst q; exact hq
        · exact (off₃ p q).1
    cases f with
    | ret v => exact h₃
    | brk => exact h₃
    | next => exact go h₃
    | cont => exact go h₃
  · rintro m₁ nw h₁ tk₁ dr₁ ⟨nw', rfl, hoff, hJ⟩ F₁ N₁
    rw [← hol] at hJ
    exact done ord m₁ nw' h₁ tk₁ dr₁ hmem hJ F₁ fun p hp' => N₁ p (List.mem_append_right _ hp')
end
end PartS5

section PartI1
open PySem PySem.W PyProof.Rows PySem.Calls
set_option maxRecDepth 100000
set_option maxHeartbeats 8000000

theorem allLt_mem {d : Nat} : ∀ {l : List (Addr × Obj)}, AllLt d l → ∀ p ∈ l, @LT.lt Nat _ p.1 d
  | [], _, _, h => nomatch h
  | _ :: _, x, p, h => by
    rcases List.mem_cons.mp h with rfl | h
    · exact x.1
    · exact allLt_mem x.2 p h

local macro_rules | `(tactic| walk_at "call type:set") => `(tactic| refine halt ?_)
local macro_rules | `(tactic| walk_at "truthy ref") => `(tactic| refine halt ?_)
local macro_rules | `(tactic| k_all) => `(tactic| assumption)

theorem init_call {w : World} {A₀ : Around} {base h₀ : Heap} {d u : Nat} {g : Option (List Code)} {outer : List Env} {env : Env} {L : Addr} {s : Shared} {m mg mb : Str → Option Value} {mean : ExcName → Option Value} {news : List (Addr × Obj)} {R : Result → Shared → Prop}
   {x dx Sp : Addr} {lsp : List (Str × Tok)}
   (B : Below A₀ base outer h₀) (F : Fr h₀ L s.heap m) (X₀ : (hd.heap_39 w.params).In h₀) (N : News h₀ L s.heap ((x, instObj 79 dx) :: (dx, dictOf [] 0) :: news)) (T : Top hd.view_39 (looseW hd.view_39 []) mean mg mb h₀)
   (hf : env.frame = some L) (hke : env.scope.kind = .function) (hdp : d < recursionLimit) (hSp : (Sp, listOf (strValues lsp).toArray 0) ∈ news) (hne : lsp ≠ []) (hl : lsp.length ≤ 100) (hnd : ∀ p ∈ news, p.1 ≠ dx) (hxd : @LT.lt Nat _ dx x)
   (hok : ∀ h' tk Ig oIg Dl S es ep t n h1 t1 h2 t2 h3 t3 ti D, Fr h₀ L h' m →
     News h₀ L h' ((Ig, oIg) :: (Dl, listOf #[] 0) :: (S, setObj es ep t) :: (x, instObj 79 dx) :: (dx, dictOf [⟨h1, .str (Str.ofString "_mods") t1, .ref S⟩, ⟨h2, .str (Str.ofString "_dirs") t2, .ref Dl⟩, ⟨h3, .str (Str.ofString "_ignore") t3, .ref Ig⟩] n) :: news) →
     SInv Challenge.rw_nb0071_01.row.prog w (!w.params.followText "set-order") es t → (∀ y, InS es y ↔ y ∈ lsp.map (·.1)) → oIg.IsDictOf (PySem.strKind Challenge.rw_nb0071_01.row.prog w) [(Str.ofString "<string>", .int 1 ti)] →
     PyProof.V.FlatPairs PyData.str [(Str.ofString "<string>", .int 1 ti)] D → D.length = 1 → (Ig == sysModules) = false → @LT.lt Nat _ x S → @LT.lt Nat _ S Dl → @LT.lt Nat _ Dl Ig → (∀ p ∈ news, p.1 ≠ S ∧ p.1 ≠ Dl ∧ p.1 ≠ Ig) →
     R (.ok (.ret .none)) { s with heap := h', toks := tk }) :
   codeAny (model Challenge.rw_nb0071_01.row.prog w) (A71 d env outer g u) (.call (.ref 69) ⟨[.ref x, .ref Sp], []⟩) R s := by
  revert X₀; k_fill; intro X₀
  refine' code_def (binds := [(Str.ofString "self", .ref x), (Str.ofString "modules", .ref Sp), (Str.ofString "dirs", .none)]) B F X₀ N T ?kA hf hke ?k6 ?k7 ?k8 ?k9 ?kB ?_ ?c2 ?c3 ?c4 ?c5; (case kA => exact rfl); (case k6 => k_is); (case k7 => k_is); (case k8 => exact hdp); (case k9 => first | exact BindsTo.of_eq rfl | exact binds_K (by k_in) rfl (by k_is) rfl rfl rfl); (case c5 => decide); (case kB => exact locs rfl); (case c2 => exact rfl); (case c3 => exact rfl); (case c4 => exact rfl)
  intro g' L' h' FG' F' N' B' X' T'; (try dsimp only); k_fold
  k_steps
  refine go_on (wpAny_truthy_list (items := (strValues lsp).toArray) ⟨_, (N' _ (.tail _ (.tail _ hSp))).1, rfl, _, rfl⟩ (by simp [strValues]; omega) ?_)
  rw [show (!(!(strValues lsp).toArray.isEmpty)) = false from by cases lsp with | nil => exact absurd rfl hne | cons a b => rfl, if_neg Bool.false_ne_true]
  k_steps
  refine go_on (call_set_strs (lst := lsp) rfl ⟨_, (N' _ (.tail _ (.tail _ hSp))).1, rfl, _, rfl⟩ (by unfold scanBound; omega) ?_)
  intro h₁ tk₁ es ep t hS V hm hk
  obtain ⟨S, eS⟩ : ∃ S : Addr, S = h'.objs.size := ⟨_, rfl⟩
  have hk' : ∀ b o, h'.get? b = some o → h₁.get? b = some o := fun b o e => hk b o (Heap.lt_size e) e
  have F₁ := F'.keeps hk'
  have N₁ : News g' L' h₁ ((S, setObj es ep t) :: (x, instObj 79 dx) :: (dx, dictOf [] 0) :: news) := by
    rw [eS]
    exact news_pushed F' N' hk' hS rfl
  have hSx : @LT.lt Nat _ x S := by rw [eS]; exact Heap.lt_size (N' _ (.head _)).1
  have hSd : @LT.lt Nat _ dx S := by rw [eS]; exact Heap.lt_size (N' _ (.tail _ (.head _))).1
  have hnS : ∀ p ∈ news, p.1 ≠ S := fun p hp => by rw [eS]; exact Nat.ne_of_lt (Heap.lt_size (N' p (.tail _ (.tail _ hp))).1)
  rw [show Shared.heap { heap := h', gens := s.gens, drawn := s.drawn, toks := _, os := s.os } = h' from rfl]
  rw [← eS]
  clear F' N' hk hS eS hk'
  k_steps
  (rename News h₀ L _ _ => kN); (rename Fr h₀ L _ _ => kF); (rename Obj.IsDictOf _ _ _ => hdi); (rename PyProof.V.FlatPairs _ _ _ => hfl); (rename (_ == sysModules) = false => lo)
  (rename _ < _ ∧ S < _ ∧ _ => l2); (rename S < _ ∧ _ => l1)
  exact hok _ _ _ _ _ S es ep t _ _ _ _ _ _ _ _ _ kF kN V hm hdi hfl rfl lo hSx l1.1 l2.1 (fun p hp => ⟨hnS p hp, Nat.ne_of_lt (allLt_mem l1.2.2.2 p hp), Nat.ne_of_lt (allLt_mem l2.2.2.2.2 p hp)⟩)
end PartI1

section PartN1
open PySem PySem.W PyProof.Rows PySem.Calls PyProof.V
set_option maxRecDepth 100000
set_option maxHeartbeats 8000000

/-- what names answers, over the modules' list -/
def ansB (mods : List Str) (q : Str) : Bool := decide (q ∈ mods) || mods.any fun m => Txt.startswith q (m ++ Str.ofString ".")
def ansI (mods : List Str) (q : Str) : Int := if ansB mods q then 1 else 0
def Cache (mods : List Str) (D : List (PyData × PyData)) : Prop := ∀ q, q ≠ Str.ofString "<string>" → ∀ dv, PySem.Spec.lookup (.str q) D = some dv → dv = .int (ansI mods q)
theorem Cache.put {mods : List Str} {D : List (PyData × PyData)} (h : Cache mods D) (q : Str) : Cache mods (putD (.str q) (.int (ansI mods q)) D) := by
  intro r hr dv e
  rw [lookup_putK keyEnc_str] at e
  split at e
  · rename_i hrq
    rw [← Option.some.inj e, hrq]
  · exact h r hr dv e

local macro_rules | `(tactic| k_all) => `(tactic| assumption)
local macro_rules | `(tactic| walk_at "exec For") => `(tactic| (refine For_M ?_ (by intro _; with_unfolding_all rfl)))
local macro_rules | `(tactic| walk_at "exec For Name Attribute cons nil") => `(tactic| (refine For_M ?_ (by intro _; with_unfolding_all rfl)))
local macro_rules | `(tactic| walk_at "setItem ref str") => `(tactic| refine halt ?_)
local macro_rules | `(tactic| walk_at "pyIter ref") => `(tactic| refine halt ?_)
local macro_rules | `(tactic| walk_at "compareOp In str ref") => `(tactic| refine halt ?_)

theorem names_call {w : World} {A₀ : Around} {base h₀ : Heap} {d u : Nat} {g : Option (List Code)} {outer : List Env} {env : Env} {L : Addr} {s : Shared} {m mg mb : Str → Option Value} {mean : ExcName → Option Value} {news : List (Addr × Obj)} {R : Result → Shared → Prop}
   {x dx Ig Dl S : Addr} {oIg : Obj} {es : Array (Int × Value)} {ep : Nat} {t : SetTable} {n : Nat} {h1 h2 h3 : Int} {t1 t2 t3 : Tok} {kvs : List (Str × Value)} {D : List (PyData × PyData)} {q : Str} {ta tq : Tok} {mods : List Str}
   (B : Below A₀ base outer h₀) (F : Fr h₀ L s.heap m) (X₀ : (hd.heap_39 w.params).In h₀) (T : Top hd.view_39 (looseW hd.view_39 []) mean mg mb h₀)
   (N : News h₀ L s.heap ((Ig, oIg) :: (Dl, listOf #[] 0) :: (S, setObj es ep t) :: (x, instObj 79 dx) :: (dx, dictOf [⟨h1, .str (Str.ofString "_mods") t1, .ref S⟩, ⟨h2, .str (Str.ofString "_dirs") t2, .ref Dl⟩, ⟨h3, .str (Str.ofString "_ignore") t3, .ref Ig⟩] n) :: news))
   (hf : env.frame = some L) (hke : env.scope.kind = .function) (hdp : d < recursionLimit)
   (V : SInv Challenge.rw_nb0071_01.row.prog w (!w.params.followText "set-order") es t) (hm : ∀ y, InS es y ↔ y ∈ mods) (hmne : mods ≠ [])
   (hdi : oIg.IsDictOf (PySem.strKind Challenge.rw_nb0071_01.row.prog w) kvs) (hfl : PyProof.V.FlatPairs PyData.str kvs D) (hDl : D.length ≤ 10000)
   (lo : (Ig == sysModules) = false) (l1 : @LT.lt Nat _ dx x) (l2 : @LT.lt Nat _ x S) (l3 : @LT.lt Nat _ S Dl) (l4 : @LT.lt Nat _ Dl Ig) (hni : ∀ p ∈ news, p.1 ≠ Ig)
   (hC : Cache mods D) (hq : q ≠ Str.ofString "<string>") (hql : q.length ≤ 100) (hml : ∀ y ∈ mods, y.length ≤ 100)
   (hok : ∀ h' tk dr oIg' kvs' D' tv, Fr h₀ L h' m →
     News h₀ L h' ((Ig, oIg') :: (Dl, listOf #[] 0) :: (S, setObj es ep t) :: (x, instObj 79 dx) :: (dx, dictOf [⟨h1, .str (Str.ofString "_mods") t1, .ref S⟩, ⟨h2, .str (Str.ofString "_dirs") t2, .ref Dl⟩, ⟨h3, .str (Str.ofString "_ignore") t3, .ref Ig⟩] n) :: news) →
     oIg'.IsDictOf (PySem.strKind Challenge.rw_nb0071_01.row.prog w) kvs' → PyProof.V.FlatPairs PyData.str kvs' D' → Cache mods D' → D'.length ≤ D.length + 1 → R (.ok (.ret (.int (ansI mods q) tv))) { s with heap := h', toks := tk, drawn := dr }) :
   codeAny (model Challenge.rw_nb0071_01.row.prog w) (A71 d env outer g u) (.call (.ref 76) ⟨[.ref x, .str (Str.ofString "a") ta, .str q tq], []⟩) R s := by
  revert X₀; k_fill; intro X₀
  refine' code_def (binds := [(Str.ofString "self", .ref x), (Str.ofString "filename", .str (Str.ofString "a") ta), (Str.ofString "modulename", .str q tq)]) B F X₀ N T ?kA hf hke ?k6 ?k7 ?k8 ?k9 ?kB ?_ ?c2 ?c3 ?c4 ?c5; (case kA => exact rfl); (case k6 => k_is); (case k7 => k_is); (case k8 => exact hdp); (case k9 => first | exact BindsTo.of_eq rfl | exact binds_K (by k_in) rfl (by k_is) rfl rfl rfl); (case c5 => decide); (case kB => exact locs rfl); (case c2 => exact rfl); (case c3 => exact rfl); (case c4 => exact rfl)
  intro g' L' h' FG' F' N' B' X' T'; (try dsimp only); k_fold
  k_steps
  have hIg : ∀ p ∈ (Dl, listOf #[] 0) :: (S, setObj es ep t) :: (x, instObj 79 dx) :: (dx, dictOf [⟨h1, .str (Str.ofString "_mods") t1, .ref S⟩, ⟨h2, .str (Str.ofString "_dirs") t2, .ref Dl⟩, ⟨h3, .str (Str.ofString "_ignore") t3, .ref Ig⟩] n) :: news, p.1 ≠ Ig := by
    intro p hp
    rcases List.mem_cons.mp hp with rfl | hp
    · exact Nat.ne_of_lt l4
    · rcases List.mem_cons.mp hp with rfl | hp
      · exact Nat.ne_of_lt (Nat.lt_trans l3 l4)
      · rcases List.mem_cons.mp hp with rfl | hp
        · exact Nat.ne_of_lt (Nat.lt_trans l2 (Nat.lt_trans l3 l4))
        · rcases List.mem_cons.mp hp with rfl | hp
          · exact Nat.ne_of_lt (Nat.lt_trans l1 (Nat.lt_trans l2 (Nat.lt_trans l3 l4)))
          · exact hni p hp
  have hes : es.size ≠ 0 := by
    cases mods with
    | nil => exact absurd rfl hmne
    | cons a b =>
      obtain ⟨e, he, _⟩ := (hm a).mpr (.head _)
      intro hz
      rw [← Array.length_toList, List.length_eq_zero_iff] at hz
      rw [hz] at he; cases he
  refine go_on (in_strTab (TabAt.ofNews N' (.head _) lo hdi hfl) ?_)
  cases hlk : PySem.Spec.lookup (.str q) D with
  | some dv =>
    have hdv := hC q hq dv hlk
    subst hdv
    simp only [Option.isSome_some]
    k_steps
    (rename News h₀ L _ _ => kN); (rename Fr h₀ L _ _ => kF)
    exact hok _ _ s.drawn oIg kvs D _ kF kN hdi hfl hC (Nat.le_succ _)
  | none =>
    k_steps
    refine go_on (wpAny_inSet_of (knd := PySem.strKind Challenge.rw_nb0071_01.row.prog w) (k := q) (S := fun y => decide (y ∈ mods)) (n := es.size) (PySem.strKind_is _ _ _ _) rfl ⟨_, es, ep, t, (N' _ (.tail _ (.tail _ (.head _)))).1, ⟨rfl, rfl, rfl⟩, rfl, V.elems, fun k => ?_, V.bound, V.fits, rfl⟩ ?_)
    · rw [decide_eq_true_iff, ← hm k]; rfl
    by_cases hin : q ∈ mods
    · rw [decide_eq_true hin]
      have ha : ansI mods q = 1 := by unfold ansI ansB; rw [decide_eq_true hin]; rfl
      k_steps
      refine go_on <| setItem_K PyProof.V.same_str (PySem.strKind_is _ _ _ _) (PyProof.V.Flat.int _ _) F' N' (UpdF.head hIg) hdi hfl ?_ (by rw [sizeLine_eq]; omega)
      intro h₂ o₂ F₂ N₂ hd₂ hf₂
      clear F' N'
      k_steps
      (rename News h₀ L _ _ => kN); (rename Fr h₀ L _ _ => kF)
      rw [← ha] at hf₂ hd₂ ⊢
      exact hok _ _ s.drawn o₂ _ _ _ kF kN hd₂ hf₂ (hC.put q) (putD_length_le _ _ _)
    · rw [decide_eq_false hin]
      k_steps
      refine go_on (iter_mid (fun s' => (∀ y ∈ mods, Txt.startswith q (y ++ Str.ofString ".") = false) ∧ ∃ h tk dr m', s' = { s with heap := h, toks := tk, drawn := dr } ∧ Fr g' L' h m' ∧
          Pins m' [(Str.ofString "self", some (.ref x)), (Str.ofString "filename", some (.str (Str.ofString "a") ta)), (Str.ofString "modulename", some (.str q tq))] ∧
          News g' L' h ((Ig, oIg) :: (Dl, listOf #[] 0) :: (S, setObj es ep t) :: (x, instObj 79 dx) :: (dx, dictOf [⟨h1, .str (Str.ofString "_mods") t1, .ref S⟩, ⟨h2, .str (Str.ofString "_dirs") t2, .ref Dl⟩, ⟨h3, .str (Str.ofString "_ignore") t3, .ref Ig⟩] n) :: news))
        (loopSet (L := L') (h₀ := g') (ep := ep) (J := fun ord i m₁ n₁ => n₁ = ((Ig, oIg) :: (Dl, listOf #[] 0) :: (S, setObj es ep t) :: (x, instObj 79 dx) :: (dx, dictOf [⟨h1, .str (Str.ofString "_mods") t1, .ref S⟩, ⟨h2, .str (Str.ofString "_dirs") t2, .ref Dl⟩, ⟨h3, .str (Str.ofString "_ignore") t3, .ref Ig⟩] n) :: news) ∧
            Pins m₁ [(Str.ofString "self", some (.ref x)), (Str.ofString "filename", some (.str (Str.ofString "a") ta)), (Str.ofString "modulename", some (.str q tq))] ∧ ∀ y ∈ ord.take i, Txt.startswith q (y ++ Str.ofString ".") = false)
          ?hE rfl V hes ?hJl F' N' ?h0 ?step ?done) ?rest)
      case hE => passes_own
      case hJl =>
        rintro ord i m' nw ⟨rfl, _, _⟩
        exact .tail _ (.tail _ (.head _))
      case h0 => exact fun ord => ⟨rfl, ⟨rfl, rfl, rfl, trivial⟩, fun y hy => by simp at hy⟩
      case step =>
        rintro ord i y uy m₁ news₁ h₂ tk₂ dr₂ I oI Tt oT hord hy ⟨rfl, hp, hpre⟩ F₂ N₂ off₂
        have hym : y ∈ mods := (hm y).mp ((hord y).mpr (List.mem_of_getElem? hy))
        have hyl := hml y hym
        replace F₂ := fr_pins F₂ hp
        clear F' N' hp
        k_steps
        · rename Txt.startswith _ _ = true => hst
          have ha : ansI mods q = 1 := by
            unfold ansI ansB
            rw [show (mods.any fun m => Txt.startswith q (m ++ Str.ofString ".")) = true from List.any_eq_true.mpr ⟨y, hym, hst⟩, Bool.or_true]
            rfl
          (rename Fr g' L' _ _ => F₃); (rename News g' L' _ _ => N₃)
          replace N₃ := news_sub N₃ (fun p hp => List.Mem.tail _ (List.Mem.tail _ hp))
          refine go_on <| setItem_K PyProof.V.same_str (PySem.strKind_is _ _ _ _) (PyProof.V.Flat.int _ _) F₃ N₃ (UpdF.head hIg) hdi hfl ?_ (by rw [sizeLine_eq]; omega)
          intro h₄ o₄ F₄ N₄ hd₄ hf₄
          clear F₃ N₃
          k_steps
          unfold TurnEnd Mid
          dsimp only
          k_steps
          (rename News h₀ L _ _ => kN); (rename Fr h₀ L _ _ => kF)
          rw [← ha] at hf₄ hd₄ ⊢
          exact hok _ _ dr₂ o₄ _ _ _ kF kN hd₄ hf₄ (hC.put q) (putD_length_le _ _ _)
        · rename Txt.startswith _ _ = false => hst
          (rename Fr g' L' _ _ => F₃); (rename News g' L' _ _ => N₃)
          refine ⟨_, _, _, _, _, rfl, F₃, N₃, off₂, rfl, ⟨rfl, rfl, rfl, trivial⟩, ?_⟩
          intro z hz
          rw [List.take_add_one, hy] at hz
          rcases List.mem_append.mp hz with hz | hz
          · exact hpre z hz
          · rw [Option.toList_some, List.mem_singleton] at hz
            subst hz; exact hst
      case done =>
        rintro ord m₁ news₁ h₂ tk₂ dr₂ hord ⟨rfl, hp, hpre⟩ F₂ N₂
        rw [List.take_length] at hpre
        exact ⟨fun y hy => hpre y ((hord y).mp ((hm y).mpr hy)), h₂, tk₂, dr₂, m₁, rfl, F₂, hp, N₂⟩
      case rest =>
        rintro s' ⟨hno, h₂, tk₂, dr₂, m₂, rfl, F₂, hp, N₂⟩
        replace F₂ := fr_pins F₂ hp
        clear F' N' hp
        k_steps
        (rename Fr g' L' _ _ => F₃); (rename News g' L' _ _ => N₃)
        refine go_on (loopList (L := L') (h₀ := g') (D := Dl) (items := #[]) (k := 0) (J := fun i m₁ n₁ => n₁ = ((Ig, oIg) :: (Dl, listOf #[] 0) :: (S, setObj es ep t) :: (x, instObj 79 dx) :: (dx, dictOf [⟨h1, .str (Str.ofString "_mods") t1, .ref S⟩, ⟨h2, .str (Str.ofString "_dirs") t2, .ref Dl⟩, ⟨h3, .str (Str.ofString "_ignore") t3, .ref Ig⟩] n) :: news) ∧
            Pins m₁ [(Str.ofString "self", some (.ref x)), (Str.ofString "filename", some (.str (Str.ofString "a") ta)), (Str.ofString "modulename", some (.str q tq))]) ?hE rfl ?hJl F₃ N₃ ⟨rfl, rfl, rfl, rfl, trivial⟩ ?step ?done)
        case hE => passes_own
        case hJl =>
          rintro i m' nw ⟨rfl, _⟩
          exact .tail _ (.head _)
        case step =>
          intro i v m₁ news₁ h₄ tk₄ dr₄ I oI hv
          simp at hv
        case done =>
          rintro m₁ news₁ h₄ tk₄ dr₄ ⟨rfl, hp⟩ F₄ N₄
          replace F₄ := fr_pins F₄ hp
          clear F₃ N₃ hp
          have ha : ansI mods q = 0 := by
            unfold ansI ansB
            rw [decide_eq_false hin, Bool.false_or, show (mods.any fun m => Txt.startswith q (m ++ Str.ofString ".")) = false from by
              rw [List.any_eq_false]; intro y hy; rw [hno y hy]; exact Bool.false_ne_true]
            rfl
          k_steps
          (rename Fr g' L' _ _ => F₅); (rename News g' L' _ _ => N₅)
          refine go_on <| setItem_K PyProof.V.same_str (PySem.strKind_is _ _ _ _) (PyProof.V.Flat.int _ _) F₅ N₅ (UpdF.head hIg) hdi hfl ?_ (by rw [sizeLine_eq]; omega)
          intro h₆ o₆ F₆ N₆ hd₆ hf₆
          clear F₅ N₅
          k_steps
          (rename News h₀ L _ _ => kN); (rename Fr h₀ L _ _ => kF)
          rw [← ha] at hf₆ hd₆ ⊢
          exact hok _ _ _ o₆ _ _ _ kF kN hd₆ hf₆ (hC.put q) (putD_length_le _ _ _)
end PartN1

section PartC1
open PySem PySem.W PyProof.Rows PySem.Calls

abbrev comp2 (elt t0 i0 t1 i1 : Expr) (scope : Scope) (pos : Pos) : Expr := .ListComp elt [⟨t0, i0, [], 0⟩, ⟨t1, i1, [], 0⟩] scope pos

theorem turn_outer (elt t0 i0 t1 i1 : Expr) (scope : Scope) (pos : Pos) (it acc : Value) (env : Env) :
    compTurn (comp2 elt t0 i0 t1 i1 scope pos) 0 it acc env = (standAt i0.pos >>= fun _ => pyNext it >>= fun r => match r with
      | none => pure (.done .next)
      | some v => letOwnedTupleGo t0 it v >>= fun _ => assign t0 env v >>= fun _ => eval i1 env >>= fun x => standAt i1.pos >>= fun _ => foldedSetIterable i1 env x >>= fun x => holding [x] (pyIter x) >>= fun j =>
          runOwn (.compStart (comp2 elt t0 i0 t1 i1 scope pos) 1 j acc env) env >>= fun _ => again (.compLoop (comp2 elt t0 i0 t1 i1 scope pos) 0 it acc env)) := by rfl
theorem turn_inner (elt t0 i0 t1 i1 : Expr) (scope : Scope) (pos : Pos) (it acc : Value) (env : Env) :
    compTurn (comp2 elt t0 i0 t1 i1 scope pos) 1 it acc env = (standAt i1.pos >>= fun _ => pyNext it >>= fun r => match r with
      | none => pure (.done .next)
      | some v => letOwnedTupleGo t1 it v >>= fun _ => assign t1 env v >>= fun _ => (eval elt env >>= fun x => call (.builtin "list.append") [acc, x] >>= fun _ => pure ()) >>= fun _ =>
          again (.compLoop (comp2 elt t0 i0 t1 i1 scope pos) 1 it acc env)) := by rfl

section
variable {prog : Program} {w : World} {A : Around} {R : Result → Shared → Prop} {s : Shared} {elt t0 i0 t1 i1 : Expr} {scope : Scope} {pos : Pos} {it acc : Value} {env : Env}

theorem compLoop0 (I : Nat → Shared → Prop)
    (turn : ∀ n s, I n s → wpAny (model prog w) A (pyNext it) (fun r s₁ => match r with
      | none => R (.ok .next) s₁
      | some v => wpAny (model prog w) A (assign t0 env v) (fun _ s₂ => wpAny (model prog w) A (eval i1 env) (fun x s₃ => wpAny (model prog w) A (pyIter x) (fun it1 s₄ =>
          codeAny (model prog w) A (.compStart (comp2 elt t0 i0 t1 i1 scope pos) 1 it1 acc env) (fun r s' => r = .ok .next ∧ ∃ m, m < n ∧ I m s') s₄) (fun _ _ => False) s₃) (fun _ _ => False) s₂) (fun _ _ => False) s₁) (fun _ _ => False) s)
    (n : Nat) (h : I n s) (ht : ∀ v, letOwnedTupleGo t0 it v = pure ()) (hs : ∀ x, foldedSetIterable i1 env x = pure x) :
    codeAny (model prog w) A (.compLoop (comp2 elt t0 i0 t1 i1 scope pos) 0 it acc env) R s := by
  refine codeAny_loop rfl I (fun n s hI => ?_) n h
  show wpAny _ A ((compTurn (comp2 elt t0 i0 t1 i1 scope pos) 0 it acc env).onRaise (fun x => do noteFrame x env; theTreesLotGoes x)) _ _ s
  refine wpAny_noted ?_
  rw [turn_outer]
  refine wpAny_bind (wpAny_standAt (wpAny_bind (wpAny_mono (turn n s hI) (fun r s₁ h₁ => ?_) fun _ _ h' => h'.elim)))
  cases r with
  | none => exact wpAny_pure h₁
  | some v =>
    refine wpAny_bind (wpAny_of_eq (ht v) ?_)
    refine wpAny_bind (wpAny_mono h₁ (fun _ s₂ h₂ => ?_) fun _ _ h' => h'.elim)
    refine wpAny_bind (wpAny_mono h₂ (fun x s₃ h₃ => wpAny_bind (wpAny_standAt (wpAny_bind (wpAny_of_eq (hs x) ?_)))) fun _ _ h' => h'.elim)
    refine wpAny_bind (wpAny_holding (wpAny_mono h₃ (fun it1 s₄ h₄ => ?_) fun _ _ h' => h'.elim))
    refine wpAny_bind (wpAny_runOwn (codeAny_mono h₄ fun r s' hr => ?_))
    obtain ⟨rfl, hm⟩ := hr
    exact wpAny_pure ⟨rfl, hm⟩

theorem compLoop1 (I : Nat → Shared → Prop)
    (turn : ∀ n s, I n s → wpAny (model prog w) A (pyNext it) (fun r s₁ => match r with
      | none => R (.ok .next) s₁
      | some v => wpAny (model prog w) A (assign t1 env v) (fun _ s₂ => wpAny (model prog w) A (eval elt env) (fun x s₃ => wpAny (model prog w) A (call (.builtin "list.append") [acc, x]) (fun _ s₄ => ∃ m, m < n ∧ I m s₄) (fun _ _ => False) s₃) (fun _ _ => False) s₂) (fun _ _ => False) s₁) (fun _ _ => False) s)
    (n : Nat) (h : I n s) (ht : ∀ v, letOwnedTupleGo t1 it v = pure ()) :
    codeAny (model prog w) A (.compLoop (comp2 elt t0 i0 t1 i1 scope pos) 1 it acc env) R s := by
  refine codeAny_loop rfl I (fun n s hI => ?_) n h
  show wpAny _ A ((compTurn (comp2 elt t0 i0 t1 i1 scope pos) 1 it acc env).onRaise (fun x => do noteFrame x env; theTreesLotGoes x)) _ _ s
  refine wpAny_noted ?_
  rw [turn_inner]
  refine wpAny_bind (wpAny_standAt (wpAny_bind (wpAny_mono (turn n s hI) (fun r s₁ h₁ => ?_) fun _ _ h' => h'.elim)))
  cases r with
  | none => exact wpAny_pure h₁
  | some v =>
    refine wpAny_bind (wpAny_of_eq (ht v) ?_)
    refine wpAny_bind (wpAny_mono h₁ (fun _ s₂ h₂ => ?_) fun _ _ h' => h'.elim)
    refine wpAny_bind (wpAny_bind (wpAny_mono h₂ (fun x s₃ h₃ => ?_) fun _ _ h' => h'.elim))
    exact wpAny_bind (wpAny_mono h₃ (fun _ s₄ h₄ => wpAny_pure (wpAny_pure ⟨rfl, h₄⟩)) fun _ _ h' => h'.elim)

theorem compStart1 (h0 : codeAny (model prog w) A (.compLoop (comp2 elt t0 i0 t1 i1 scope pos) 1 it acc env) R s)
    (h : wpAny (model prog w) A (pyIter it) (fun it' s' => codeAny (model prog w) A (.compLoop (comp2 elt t0 i0 t1 i1 scope pos) 1 it' acc env) R s') (fun _ _ => False) s) :
    codeAny (model prog w) A (.compStart (comp2 elt t0 i0 t1 i1 scope pos) 1 it acc env) R s := by
  refine codeAny_of_tree ?_
  show wpAny _ _ ((compStart (comp2 elt t0 i0 t1 i1 scope pos) 1 it acc env).onRaise (fun x => do noteFrame x env; standAt theWindowsPlace)) _ _ s
  refine wpAny_notedAt ?_
  unfold compStart
  show wpAny _ _ (ask >>= _) _ _ s
  refine wpAny_bind (wpAny_askSetting (wpAny_ite ?_))
  split
  · first
      | exact wpAny_bind (wpAny_pure (wpAny_pure (And.intro rfl h0)))
      | exact wpAny_pure (And.intro rfl h0)
  · refine wpAny_bind (wpAny_rule ?_)
    show wpAny _ _ (standAt i1.pos >>= _) _ _ s
    refine wpAny_bind (wpAny_standAt ?_)
    exact wpAny_bind (wpAny_mono h (fun it' s' h' => wpAny_pure (And.intro rfl h')) fun _ _ h' => h'.elim)
end
end PartC1

section PartC2
open PySem PySem.W PyProof.Rows PySem.Calls
set_option maxRecDepth 100000

section
variable {prog : Program} {w : World} {A : Around} {E : Value → Shared → Prop} {s : Shared} {env : Env}

theorem eval_two_strs {a b : Str} {ka kb : Nat} {pa pb pos : Pos} {Q : Value → Shared → Prop}
    (h : Q (.ref s.heap.objs.size) { s with heap := s.heap.push { cls := .type "list", data := .seq #[Value.str a s.toks, Value.str b (s.toks + 1)] }, toks := s.toks + 1 + 1 }) :
    wpAny (model prog w) A (eval (.List [.Constant (.str a) ka pa, .Constant (.str b) kb pb] pos) env) Q E s := by
  refine wpAny_List ?_
  exact fun _ _ _ => And.intro (show (2 : Nat) ≤ sizeLine by rw [sizeLine_eq]; omega) h

variable {h₀ : Heap} {L : Addr} {m : Str → Option Value} {news : List (Addr × Obj)}

def El2 (h₀ : Heap) (L : Addr) (m : Str → Option Value) (led : List (Addr × Obj)) (s₁ : Shared) (P : List Value → Prop) (ys : List Value) (y : Value) (s' : Shared) : Prop :=
  ∃ h' tk', s' = { s₁ with heap := h', toks := tk' } ∧ Fr h₀ L h' m ∧ News h₀ L h' led ∧ P (ys ++ [y])

/-- the inner walk: over the list of two texts -/
theorem comp2_inner {elt i0 : Expr} {x0 x1 : Str} {p0 p1 : Pos} {i1 : Expr} {scope : Scope} {cl : List (Str × Addr)} {pos : Pos} {C D I X J : Addr} {i : Nat} {t : Tok} {oI : Obj} {tl : Array Value} {ys : List Value} {m₂ : Str → Option Value} {h : Heap} {tk : Nat}
    {Acc : Nat → Nat → List Value → Prop} {R : Result → Shared → Prop}
    (hh : A.handled = none) (hkind : scope.kind = .function) (hx1 : scope.names.lookup x1 = some .local) (h01 : x0 ≠ x1)
    (hIC : I ≠ C) (hID : I ≠ D) (hCD : C ≠ D) (hCL : C ≠ L) (hDL : D ≠ L) (hC₀ : h₀.get? C = none) (hD₀ : h₀.get? D = none) (offC : ∀ p ∈ news, p.1 ≠ C) (offD : ∀ p ∈ news, p.1 ≠ D)
    (hXL : X ≠ L) (hX₀ : h₀.get? X = none) (hIL : I ≠ L) (hI₀ : h₀.get? I = none) (hXC : X ≠ C) (hXD : X ≠ D) (hJC : J ≠ C) (hJD : J ≠ D) (hJX : J ≠ X) (hJI : J ≠ I) (hJL : J ≠ L) (hJ₀ : h₀.get? J = none) (offJ : ∀ p ∈ news, p.1 ≠ J)
    (hbd : ∀ j ys, Acc i j ys → ys.length ≤ sizeLine)
    (helt : ∀ j v oC m₂ ys h tk oJ oX oD, tl[j]? = some v → LCg.NsObj oC m₂ → m₂ x0 = some (.int i t) → m₂ x1 = some v → Fr h₀ L h m → News h₀ L h ((C, oC) :: (J, oJ) :: (X, oX) :: (I, oI) :: (D, oD) :: news) → Acc i j ys →
      wpAny (model prog w) A (eval elt (compEnvC scope cl C env)) (El2 h₀ L m ((C, oC) :: (J, oJ) :: (X, oX) :: (I, oI) :: (D, oD) :: news) s (Acc i (j + 1)) ys) (fun _ _ => False) { s with heap := h, toks := tk })
    (hfin : ∀ h tk ys m₂, Acc i tl.size ys → Fr h₀ L h m → h.Ns C m₂ → News h₀ L h ((D, LCg.lst ys) :: news) → h.get? I = some oI → R (.ok .next) { s with heap := h, toks := tk })
    (F : Fr h₀ L h m) (hn : h.Ns C m₂) (hm0 : m₂ x0 = some (.int i t)) (N : News h₀ L h ((D, LCg.lst ys) :: news)) (hI : h.get? I = some oI) (hX : h.IsList X tl) (hJ : h.IsListIter J X 0) (h0 : Acc i 0 ys) :
    codeAny (model prog w) A (.compLoop (comp2 elt (.Name x0 p0) i0 (.Name x1 p1) i1 scope pos) 1 (.ref J) (.ref D) (compEnvC scope cl C env)) R { s with heap := h, toks := tk } := by
  refine compLoop1 (fun k s' => ∃ h' tk j ys m₂, s' = { s with heap := h', toks := tk } ∧ j ≤ tl.size ∧ k = tl.size - j ∧ Fr h₀ L h' m ∧ h'.Ns C m₂ ∧ m₂ x0 = some (.int i t) ∧ News h₀ L h' ((D, LCg.lst ys) :: news) ∧ h'.get? I = some oI ∧ h'.IsList X tl ∧ h'.IsListIter J X j ∧ Acc i j ys)
    ?_ tl.size ⟨h, tk, 0, ys, m₂, rfl, Nat.zero_le _, rfl, F, hn, hm0, N, hI, hX, hJ, h0⟩ (fun _ => rfl)
  rintro k s' ⟨h', tk, j, ys, m₂, rfl, hj, rfl, F, hn, hm0, N, hI, hX, hJ, hA⟩
  by_cases hlt : j < tl.size
  · obtain ⟨v, hv⟩ : ∃ v, tl[j]? = some v := ⟨tl[j], Array.getElem?_eq_getElem hlt⟩
    refine wpAny_pyNext_list_item hJ hX hv fun h₁ hJ₁ sb => ?_
    have k₁ : ∀ b o, b ≠ J → h'.get? b = some o → h₁.get? b = some o := fun b o hb e => sb.extBut b o hb e
    have hn₁ : h₁.Ns C m₂ := hn.at' fun o e => k₁ _ o (Ne.symm hJC) e
    refine wpAny_assign_Name (wpAny_storeName_local (lookup_relabel_local hx1) hn₁ (fun h₂ hn₂ sb₂ => ?_) (by simp [compEnvC, relabel, hkind]))
    have k₂ : ∀ b o, b ≠ J → b ≠ C → h'.get? b = some o → h₂.get? b = some o := fun b o hb hc e => sb₂.extBut b o hc (k₁ b o hb e)
    have F₁ : Fr h₀ L h₁ m := F.change sb hJL hJ₀
    have F₂ : Fr h₀ L h₂ m := F₁.change sb₂ hCL hC₀
    obtain ⟨oC, heC, hoC⟩ := LCg.ns_obj hn₂
    obtain ⟨oX, eX, rX⟩ := hX
    obtain ⟨oJ, eJ, rJ⟩ := hJ₁
    have N₃ : News h₀ L h₂ ((C, oC) :: (J, oJ) :: (X, oX) :: (I, oI) :: (D, LCg.lst ys) :: news) := fun p hp => by
      rcases List.mem_cons.mp hp with rfl | hp
      · exact ⟨heC, hCL, hC₀⟩
      rcases List.mem_cons.mp hp with rfl | hp
      · exact ⟨sb₂.extBut _ _ hJC eJ, hJL, hJ₀⟩
      rcases List.mem_cons.mp hp with rfl | hp
      · exact ⟨k₂ _ _ (Ne.symm hJX) hXC eX, hXL, hX₀⟩
      rcases List.mem_cons.mp hp with rfl | hp
      · exact ⟨k₂ _ _ (Ne.symm hJI) hIC hI, hIL, hI₀⟩
      rcases List.mem_cons.mp hp with rfl | hp
      · exact ⟨k₂ _ _ (Ne.symm hJD) (Ne.symm hCD) (N _ (.head _)).1, hDL, hD₀⟩
      · exact ⟨k₂ _ _ (offJ p hp) (offC p hp) (N p (.tail _ hp)).1, (N p (.tail _ hp)).2⟩
    refine wpAny_mono (helt j v oC _ ys h₂ _ oJ oX _ hv hoC (by show (if x0 = x1 then _ else m₂ x0) = _; rw [if_neg h01]; exact hm0) (by show (if x1 = x1 then some v else _) = some v; rw [if_pos rfl]) F₂ N₃ hA) (fun y s' hy => ?_) fun _ _ f => f.elim
    obtain ⟨h₄, tk', rfl, F₄, N₄, hA'⟩ := hy
    have gC := (N₄ _ (.head _)).1
    have gJ := (N₄ _ (.tail _ (.head _))).1
    have gX := (N₄ _ (.tail _ (.tail _ (.head _)))).1
    have gI := (N₄ _ (.tail _ (.tail _ (.tail _ (.head _))))).1
    have gD := (N₄ _ (.tail _ (.tail _ (.tail _ (.tail _ (.head _)))))).1
    refine append_at (hsz := by show ys.toArray.size ≤ sizeLine; rw [List.size_toArray]; exact hbd _ _ hA) gD fun h₅ hs₅ hD₅ => ?_
    refine ⟨tl.size - (j + 1), by omega, h₅, tk', j + 1, ys ++ [y], _, rfl, hlt, rfl, F₄.change hs₅ hDL hD₀, (hoC.ns gC).sameBut hs₅ hCD, ?_, fun p hp => ?_, hs₅.extBut _ _ hID gI, ⟨oX, hs₅.extBut _ _ hXD gX, rX⟩, ⟨oJ, hs₅.extBut _ _ hJD gJ, rJ⟩, hA'⟩
    · show (if x0 = x1 then _ else m₂ x0) = _
      rw [if_neg h01]; exact hm0
    · rcases List.mem_cons.mp hp with rfl | hp
      · exact ⟨hD₅.trans (congrArg some (LCg.lst_snoc ys y)), hDL, hD₀⟩
      · have z := N₄ p (.tail _ (.tail _ (.tail _ (.tail _ (.tail _ hp)))))
        exact ⟨hs₅.extBut _ _ (offD p hp) z.1, z.2⟩
  · obtain rfl : j = tl.size := by omega
    refine wpAny_pyNext_list_end hh hJ hX (by rw [Array.getElem?_eq_none (Nat.le_refl _)]) fun h₁ eb => ?_
    have k₁ : ∀ b o, b ≠ J → h'.get? b = some o → h₁.get? b = some o := fun b o hb e => eb b o hb e
    refine hfin h₁ tk ys m₂ hA (LCg.fr_but F (I := J) (fun b o hb e => k₁ b o (by simpa using hb) e) (Ne.symm hJL) hJ₀) (hn.at' fun o e => k₁ _ o (Ne.symm hJC) e) (LCg.news_but N (I := J) (fun b o hb e => k₁ b o (by simpa using hb) e) fun p hp => ?_) (k₁ _ _ (Ne.symm hJI) hI)
    rcases List.mem_cons.mp hp with rfl | hp
    · exact Ne.symm hJD
    · exact offJ p hp

def Src2 (prog : Program) (w : World) (A : Around) (h₀ : Heap) (L : Addr) (m : Str → Option Value) (env : Env) (elt : Expr) (x0 x1 a b : Str) (scope : Scope) (cl : List (Str × Addr)) (n : Nat) (Acc : Nat → Nat → List Value → Prop) (Q : Value → Shared → Prop) (xv : Value) (s₁ : Shared) : Prop := ∃ r t u v news, xv = .ref r ∧ Fr h₀ L s₁.heap m ∧ News h₀ L s₁.heap news ∧ IsRange s₁.heap r 0 n 1 t u v ∧ Builtin.Range.small 0 n 1 = true ∧ Builtin.Range.rangeSize 0 n 1 = ((n : Nat) : Int) ∧
      (∀ C i t j v tv oC m₂ ys h tk J X I D oJ oX oI oD, i < n → (j = 0 ∧ v = Value.str a tv ∨ j = 1 ∧ v = Value.str b tv) → LCg.NsObj oC m₂ → m₂ x0 = some (.int i t) → m₂ x1 = some v → Fr h₀ L h m → News h₀ L h ((C, oC) :: (J, oJ) :: (X, oX) :: (I, oI) :: (D, oD) :: news) → Acc i j ys →
        wpAny (model prog w) A (eval elt (compEnvC scope cl C env)) (El2 h₀ L m ((C, oC) :: (J, oJ) :: (X, oX) :: (I, oI) :: (D, oD) :: news) s₁ (Acc i (j + 1)) ys) (fun _ _ => False) { s₁ with heap := h, toks := tk }) ∧
      (∀ D h tk ys, Acc n 0 ys → Fr h₀ L h m → News h₀ L h ((D, LCg.lst ys) :: news) → (∀ p ∈ news, p.1 ≠ D) → Q (.ref D) { s₁ with heap := h, toks := tk })

/-- a list comprehension of two clauses: a range outside, two texts inside -/
theorem comp2_U {elt iter : Expr} {x0 x1 : Str} {p0 p1 : Pos} {a b : Str} {ka kb : Nat} {pa pb pl : Pos} {scope : Scope} {cl : List (Str × Addr)} {pos : Pos} {Q : Value → Shared → Prop} {n : Nat} {Acc : Nat → Nat → List Value → Prop}
    (hh : A.handled = none) (hclos : closureFor scope env = pure cl) (hcell : ∀ y ∈ scope.names, y.2 ≠ .cell) (hkind : scope.kind = .function)
    (hnames : ∀ y ∈ scope.names, y.2 = .local → scope.names.lookup y.1 = some .local) (hx0 : scope.names.lookup x0 = some .local) (hx1 : scope.names.lookup x1 = some .local) (h01 : x0 ≠ x1)
    (hbd : ∀ i j ys, i < n → Acc i j ys → ys.length ≤ sizeLine) (hA0 : Acc 0 0 []) (hAs : ∀ i ys, Acc i 2 ys → Acc (i + 1) 0 ys)
    (h : wpAny (model prog w) A (eval iter env) (Src2 prog w A h₀ L m env elt x0 x1 a b scope cl n Acc Q) E s)
    (hs : ∀ x, foldedSetIterable iter env x = pure x := by intro _; rfl) :
    wpAny (model prog w) A (eval (comp2 elt (.Name x0 p0) iter (.Name x1 p1) (.List [.Constant (.str a) ka pa, .Constant (.str b) kb pb] pl) scope pos) env) Q E s := by
  rw [eval_ListComp]
  refine wpAny_comprehension_free (use := none) rfl hs hclos hkind hnames (wpAny_mono h (fun xv s₁ h₁ => ?_) fun _ _ e => e)
  obtain ⟨r, t, u, v, news, rfl, F, N, hr, hsm, hn, helt, hfin⟩ := h₁
  refine wpAny_pyIter_range hr hsm ?_
  generalize hS2 : s₁.heap.push { cls := .type "range_iterator", data := .fields #[rawInt 0, rawInt (Builtin.Range.rangeSize 0 n 1), rawInt 1] } = H1
  obtain ⟨I, hIe⟩ : ∃ I, I = s₁.heap.objs.size := ⟨_, rfl⟩
  have k1 : ∀ b o, s₁.heap.get? b = some o → H1.get? b = some o := fun b o e => hS2 ▸ Heap.get?_push_of_some _ e
  have hI1 : H1.get? I = some { cls := .type "range_iterator", data := .fields #[rawInt 0, rawInt (Builtin.Range.rangeSize 0 n 1), rawInt 1] } := by rw [hIe, ← hS2]; exact Heap.get?_push_size _ rfl
  have F1 : Fr h₀ L H1 m := F.keeps k1
  have N1 : News h₀ L H1 news := N.grown k1
  have hLI : L ≠ I := by rw [hIe]; exact Nat.ne_of_lt F.ns.lt
  have hI₀ : h₀.get? I = none := by rw [hIe]; exact next_is_new F
  have offI : ∀ p ∈ news, p.1 ≠ I := fun p hp => by rw [hIe]; exact Nat.ne_of_lt (Heap.lt_size (N p hp).1)
  rw [← hIe]
  refine wpAny_newObj_type (wpAny_newFunctionEnv hcell (by intro y hy; simp at hy) (fun h₁ hns₁ hsb₁ => ?_) hkind)
  dsimp only at hns₁ hsb₁ ⊢
  generalize hH2 : H1.push { cls := .type "list", dict := none, data := .seq ([] : List Value).toArray } = H2 at hns₁ hsb₁ ⊢
  obtain ⟨D, hDe⟩ : ∃ D, D = H1.objs.size := ⟨_, rfl⟩
  obtain ⟨C, hCe⟩ : ∃ C, C = H2.objs.size := ⟨_, rfl⟩
  rw [← hCe] at hns₁ hsb₁ ⊢
  rw [← hDe]
  have hC : C = D + 1 := by rw [hCe, hDe, ← hH2, Heap.size_push]
  have hCD : C ≠ D := by rw [hC]; exact Nat.succ_ne_self _
  have below : ∀ b o, H1.get? b = some o → b ≠ C ∧ b ≠ D := fun b o e => by
    have hb : b < D := by rw [hDe]; exact Heap.lt_size e
    exact ⟨by rw [hC]; exact Nat.ne_of_lt (Nat.lt_succ_of_lt hb), Nat.ne_of_lt hb⟩
  have old : ∀ b o, H1.get? b = some o → h₁.get? b = some o := fun b o e => hsb₁.extBut b o (below b o e).1 (Heap.get?_push_of_some _ (hH2 ▸ Heap.get?_push_of_some _ e))
  have hacc : h₁.get? D = some (LCg.lst []) := hsb₁.extBut _ _ (Ne.symm hCD) (Heap.get?_push_of_some _ (by rw [hDe]; exact hH2 ▸ Heap.get?_push_size _ rfl))
  have fresh₀ : ∀ a, D ≤ a → h₀.get? a = none := fun a ha => by
    cases e : h₀.get? a with
    | none => rfl
    | some o' => exact absurd (Heap.lt_size (F1.keep a o' e)) (Nat.not_lt.mpr (by rw [← hDe]; exact ha))
  have hD₀ : h₀.get? D = none := fresh₀ _ (Nat.le_refl _)
  have hC₀ : h₀.get? C = none := fresh₀ _ (by rw [hC]; exact Nat.le_succ _)
  have hL : ∃ o, H1.get? L = some o := by obtain ⟨o, _, _, e, _⟩ := F1.ns; exact ⟨o, e⟩
  obtain ⟨oL, hL⟩ := hL
  have hDL : D ≠ L := Ne.symm (below L _ hL).2
  have hCL : C ≠ L := Ne.symm (below L _ hL).1
  have hIC : I ≠ C := (below I _ hI1).1
  have hID : I ≠ D := (below I _ hI1).2
  have offC : ∀ p ∈ news, p.1 ≠ C := fun p hp => (below _ _ (N1 p hp).1).1
  have offD : ∀ p ∈ news, p.1 ≠ D := fun p hp => (below _ _ (N1 p hp).1).2
  have W := LCg.range_walks (prog := prog) (w := w) (A := A) (I := I) hh 0 n
  have hst₁ : IsRangeIter h₁ I (0 + ((0 : Nat) : Int) * 1) ((n : Int) - ((0 : Nat) : Int)) 1 := by
    show h₁.get? I = some _
    rw [old _ _ hI1, hn]
    simp
  have loop : ∀ s₃ : Shared, s₃ = { s₁ with heap := h₁, toks := s₁.toks + ([] : List (Str × Value)).length } →
      codeAny (model prog w) A (.compLoop (comp2 elt (.Name x0 p0) iter (.Name x1 p1) (.List [.Constant (.str a) ka pa, .Constant (.str b) kb pb] pl) scope pos) 0 (.ref I) (.ref D) (compEnvC scope cl C env)) (compPost (model prog w) A E none Q (.ref D) C) s₃ := by
    rintro s₃ rfl
    refine compLoop0 (fun k s' => ∃ h' tk i ys m', s' = { s₁ with heap := h', toks := tk } ∧ i ≤ n ∧ k = n - i ∧ IsRangeIter h' I (0 + (i : Int) * 1) ((n : Int) - (i : Int)) 1 ∧ Fr h₀ L h' m ∧ h'.Ns C m' ∧ News h₀ L h' ((D, LCg.lst ys) :: news) ∧ Acc i 0 ys)
      ?_ n ⟨h₁, _, 0, [], _, rfl, Nat.zero_le _, rfl, hst₁, F1.keeps old, hns₁, fun p hp => ?_, hA0⟩ (fun _ => rfl) (fun _ => rfl)
    · rintro k s' ⟨h', tk, i, ys, m', rfl, hi, rfl, hst, F', hn', N', hA⟩
      by_cases hlt : i < n
      · refine W.item i _ _ _ hlt hst fun v h₂ tk₂ hPv hst₂ hk₂ => ?_
        obtain ⟨t, rfl⟩ := hPv
        rw [Int.zero_add]
        have k₂ : ∀ b o, b ≠ I → h'.get? b = some o → h₂.get? b = some o := fun b o hb e => hk₂ b o (by simpa using hb) e
        refine wpAny_assign_Name (wpAny_storeName_local (lookup_relabel_local hx0) (hn'.at' fun o e => k₂ _ o (Ne.symm hIC) e) (fun h₃ hn₃ hs₃ => ?_) (by simp [compEnvC, relabel, hkind]))
        have F₃ : Fr h₀ L h₃ m := (LCg.fr_but F' hk₂ hLI hI₀).change hs₃ hCL hC₀
        have N₂ : News h₀ L h₂ ((D, LCg.lst ys) :: news) := LCg.news_but N' hk₂ fun p hp => by
          rcases List.mem_cons.mp hp with rfl | hp
          · exact Ne.symm hID
          · exact offI p hp
        have N₃ : News h₀ L h₃ ((D, LCg.lst ys) :: news) := fun p hp => ⟨hs₃.extBut _ _ (by
          rcases List.mem_cons.mp hp with rfl | hp
          · exact Ne.symm hCD
          · exact offC p hp) (N₂ p hp).1, (N₂ p hp).2⟩
        have hI₃ : h₃.get? I = some { cls := .type "range_iterator", data := .fields #[rawInt (0 + ((i + 1 : Nat) : Int) * 1), rawInt ((n : Int) - ((i + 1 : Nat) : Int)), rawInt 1] } := hs₃.extBut _ _ hIC hst₂
        refine eval_two_strs ?_
        dsimp only
        generalize hH4 : h₃.push { cls := .type "list", data := .seq #[Value.str a (tk₂ + 1), Value.str b (tk₂ + 1 + 1)] } = h₄
        obtain ⟨X, hXe⟩ : ∃ X, X = h₃.objs.size := ⟨_, rfl⟩
        have k₄ : ∀ b o, h₃.get? b = some o → h₄.get? b = some o := fun b o e => hH4 ▸ Heap.get?_push_of_some _ e
        have hX₄ : h₄.IsList X #[Value.str a (tk₂ + 1), Value.str b (tk₂ + 1 + 1)] := ⟨_, by rw [hXe]; exact hH4 ▸ Heap.get?_push_size _ rfl, rfl, _, rfl⟩
        have hXlt : ∀ b o, h₃.get? b = some o → b ≠ X := fun b o e => by rw [hXe]; exact Nat.ne_of_lt (Heap.lt_size e)
        rw [← hXe]
        refine wpAny_pyIter_list hX₄ ?_
        dsimp only
        generalize hH5 : h₄.push { cls := .type "list_iterator", data := .fields #[.ref X, .int 0 0] } = h₅
        obtain ⟨J, hJe⟩ : ∃ J, J = h₄.objs.size := ⟨_, rfl⟩
        have k₅ : ∀ b o, h₄.get? b = some o → h₅.get? b = some o := fun b o e => hH5 ▸ Heap.get?_push_of_some _ e
        have hJ₅ : h₅.IsListIter J X 0 := ⟨_, by rw [hJe]; exact hH5 ▸ Heap.get?_push_size _ rfl, rfl, rfl⟩
        have hJlt : ∀ b o, h₄.get? b = some o → b ≠ J := fun b o e => by rw [hJe]; exact Nat.ne_of_lt (Heap.lt_size e)
        rw [← hJe]
        have hJX : J ≠ X := by obtain ⟨o, e, _⟩ := hX₄; exact Ne.symm (hJlt _ _ e)
        have hJ0 : h₀.get? J = none := by
          cases e : h₀.get? J with
          | none => rfl
          | some o' => exact absurd rfl (hJlt _ _ (k₄ _ _ (F₃.keep _ _ e)))
        obtain ⟨oL, _, _, hLg, _⟩ := F₃.ns
        have hX0 : h₀.get? X = none := by
          cases e : h₀.get? X with
          | none => rfl
          | some o' => exact absurd rfl (hXlt _ _ (F₃.keep _ _ e))
        obtain ⟨oC, hCg, _⟩ := LCg.ns_obj hn₃
        have k₆ : ∀ b o, h₃.get? b = some o → h₅.get? b = some o := fun b o e => k₅ b o (k₄ b o e)
        have hX₅ : h₅.IsList X #[Value.str a (tk₂ + 1), Value.str b (tk₂ + 1 + 1)] := by obtain ⟨o, e, r⟩ := hX₄; exact ⟨o, k₅ _ _ e, r⟩
        have go : ∀ tk₆, codeAny (model prog w) A (.compLoop (comp2 elt (.Name x0 p0) iter (.Name x1 p1) (.List [.Constant (.str a) ka pa, .Constant (.str b) kb pb] pl) scope pos) 1 (.ref J) (.ref D) (compEnvC scope cl C env))
            (fun r s' => r = .ok .next ∧ ∃ m_1, m_1 < n - i ∧ ∃ h' tk i ys m', s' = { s₁ with heap := h', toks := tk } ∧ i ≤ n ∧ m_1 = n - i ∧ IsRangeIter h' I (0 + (i : Int) * 1) ((n : Int) - (i : Int)) 1 ∧ Fr h₀ L h' m ∧ h'.Ns C m' ∧ News h₀ L h' ((D, LCg.lst ys) :: news) ∧ Acc i 0 ys)
            { s₁ with heap := h₅, toks := tk₆ } := fun tk₆ => by
          refine comp2_inner (I := I) (X := X) (s := s₁) (i := i) (t := t) hh hkind hx1 h01 hIC hID hCD hCL hDL hC₀ hD₀ offC offD (Ne.symm (hXlt _ _ hLg)) hX0 (Ne.symm hLI) hI₀ (Ne.symm (hXlt _ _ hCg)) (Ne.symm (hXlt _ _ (N₃ _ (.head _)).1)) (Ne.symm (hJlt _ _ (k₄ _ _ hCg))) (Ne.symm (hJlt _ _ (k₄ _ _ (N₃ _ (.head _)).1))) hJX (Ne.symm (hJlt _ _ (k₄ _ _ hI₃))) (Ne.symm (hJlt _ _ (k₄ _ _ hLg))) hJ0
            (fun p hp => hJlt _ _ (k₄ _ _ (N₃ p (.tail _ hp)).1)) (fun j ys => hbd i j ys hlt) ?_ ?_ (F₃.keeps k₆) (hn₃.at' fun o e => k₆ _ _ e) (by show (if x0 = x0 then _ else _) = _; rw [if_pos rfl]) (N₃.grown k₆) (k₆ _ _ hI₃) hX₅ hJ₅ hA
          · intro j v oC m₂ ys h tk oJ oX oD hv hoC h0 h1 F N hA
            have hv' : (j = 0 ∧ v = Value.str a (tk₂ + 1)) ∨ (j = 1 ∧ v = Value.str b (tk₂ + 1 + 1)) := by
              match j, hv with
              | 0, hv => exact .inl ⟨rfl, (Option.some.inj hv).symm⟩
              | 1, hv => exact .inr ⟨rfl, (Option.some.inj hv).symm⟩
              | j + 2, hv => simp at hv
            rcases hv' with ⟨rfl, rfl⟩ | ⟨rfl, rfl⟩
            · exact helt C i t 0 _ (tk₂ + 1) oC m₂ ys h tk J X I D oJ oX _ oD hlt (.inl ⟨rfl, rfl⟩) hoC h0 h1 F N hA
            · exact helt C i t 1 _ (tk₂ + 1 + 1) oC m₂ ys h tk J X I D oJ oX _ oD hlt (.inr ⟨rfl, rfl⟩) hoC h0 h1 F N hA
          · intro h tk ys m₂ hA F hn N hI
            exact ⟨rfl, n - (i + 1), by omega, h, tk, i + 1, ys, m₂, rfl, hlt, rfl, hI, F, hn, N, hAs i ys hA⟩
        exact compStart1 (go _) (wpAny_pyIter_listiter hJ₅ (go _))
      · obtain rfl : i = n := by omega
        refine W.done _ _ _ hst fun h₂ tk₂ hk₂ => ?_
        have k₂ : ∀ b o, b ≠ I → h'.get? b = some o → h₂.get? b = some o := fun b o hb e => hk₂ b o (by simpa using hb) e
        have N₂ : News h₀ L h₂ ((D, LCg.lst ys) :: news) := LCg.news_but N' hk₂ fun p hp => by
          rcases List.mem_cons.mp hp with rfl | hp
          · exact Ne.symm hID
          · exact offI p hp
        refine ⟨m', hn'.at' fun o e => k₂ _ o (Ne.symm hIC) e, fun h'' hs'' => hfin D h'' tk₂ ys hA ((LCg.fr_but F' hk₂ hLI hI₀).change hs'' hCL hC₀) (fun p hp => ?_) offD⟩
        refine ⟨hs''.extBut _ _ ?_ (N₂ p hp).1, (N₂ p hp).2⟩
        rcases List.mem_cons.mp hp with rfl | hp
        · exact Ne.symm hCD
        · exact offC p hp
    · rcases List.mem_cons.mp hp with rfl | hp
      · exact ⟨hacc, hDL, hD₀⟩
      · exact ⟨old _ _ (N1 p hp).1, (N1 p hp).2⟩
  exact codeAny_compStart_list (loop _ rfl) (W.self 0 _ _ _ hst₁ (loop _ rfl))
end
end PartC2

section PartP5
open PySem PySem.W PyProof.Rows PySem.Calls

def GoodQ (q : Str) : Prop := q.length ≤ 21 ∧ ∀ c ∈ q.cps.toList, plainSign c
theorem GoodQ.ne {q : Str} (h : GoodQ q) : q ≠ Str.ofString "<string>" := by
  intro e
  have := h.2 60 (by rw [e]; decide +kernel)
  unfold plainSign at this
  omega
theorem str_append_list (a b : Str) : (a ++ b).cps.toList = a.cps.toList ++ b.cps.toList := by
  show (a.cps ++ b.cps).toList = _
  simp
theorem good_of {row tail : Str} {i : Nat} (h : row.length ≤ 19) (hs : ∀ c ∈ row.cps.toList, plainSign c) (ht : tail = Str.ofString "" ∨ tail = Str.ofString ".b") : GoodQ (Txt.slice row none (some (i : Int)) ++ tail) := by
  have ht2 : tail.length ≤ 2 ∧ ∀ c ∈ tail.cps.toList, plainSign c := by
    rcases ht with rfl | rfl
    · refine ⟨by decide +kernel, ?_⟩
      rw [show (Str.ofString "").cps.toList = [] from by decide +kernel]
      intro c hc; cases hc
    · refine ⟨by decide +kernel, ?_⟩
      rw [show (Str.ofString ".b").cps.toList = [46, 98] from by decide +kernel]
      intro c hc
      rcases List.mem_cons.mp hc with rfl | hc
      · simp [plainSign]
      · rw [List.mem_singleton.mp hc]; simp [plainSign]
  refine ⟨?_, fun c hc => ?_⟩
  · have e : (Txt.slice row none (some (i : Int))).length ≤ row.length := by
      rw [slice_to]
      show ((row.cps.toList.take i).toArray).size ≤ row.cps.size
      simp only [List.size_toArray, List.length_take, Array.length_toList]
      omega
    rw [Str.length_append]; omega
  · rw [str_append_list] at hc
    rcases List.mem_append.mp hc with hc | hc
    · rw [slice_to] at hc
      exact hs c (List.mem_of_mem_take hc)
    · exact ht2.2 c hc
def Acc2 (i j : Nat) (ys : List Value) : Prop := ∃ lp : List (Str × Tok), ys = strValues lp ∧ lp.length = 2 * i + j ∧ ∀ p ∈ lp, GoodQ p.1
theorem Acc2.zero : Acc2 0 0 [] := ⟨[], rfl, rfl, fun _ h => nomatch h⟩
theorem Acc2.next {i : Nat} {ys : List Value} (h : Acc2 i 2 ys) : Acc2 (i + 1) 0 ys := by
  obtain ⟨lp, e, l, g⟩ := h
  exact ⟨lp, e, by omega, g⟩
theorem Acc2.snoc {i j : Nat} {ys : List Value} {q : Str} {t : Tok} (h : Acc2 i j ys) (hq : GoodQ q) : Acc2 i (j + 1) (ys ++ [.str q t]) := by
  obtain ⟨lp, rfl, l, g⟩ := h
  refine ⟨lp ++ [(q, t)], by simp [strValues], by rw [List.length_append, l]; simp; omega, fun p hp => ?_⟩
  rcases List.mem_append.mp hp with hp | hp
  · exact g p hp
  · rw [List.mem_singleton.mp hp]; exact hq
theorem Acc2.len {i j : Nat} {ys : List Value} (h : Acc2 i j ys) : ys.length = 2 * i + j := by
  obtain ⟨lp, rfl, l, g⟩ := h
  simpa [strValues] using l
theorem strsAre_values : ∀ l : List (Str × Tok), StrsAre (strValues l) (l.map (·.1))
  | [] => .nil
  | (y, t) :: l => .cons y t (strsAre_values l)
theorem values_at {l : List (Str × Tok)} {i : Nat} {v : Value} (h : (strValues l).toArray[i]? = some v) : i < l.length ∧ ∃ p, p ∈ l ∧ v = .str p.1 p.2 := by
  unfold strValues at h
  rw [List.getElem?_toArray, List.getElem?_map] at h
  cases e : l[i]? with
  | none => rw [e] at h; cases h
  | some p =>
    rw [e] at h
    exact ⟨(List.getElem?_eq_some_iff.mp e).1, p, List.mem_of_getElem? e, (Option.some.inj h).symm⟩
theorem off_map {I : Addr} {l l' : List (Addr × Obj)} (h : ∀ p ∈ l, p.1 ≠ I) (e : l'.map (·.1) = l.map (·.1)) : ∀ p ∈ l', p.1 ≠ I := by
  intro p hp
  have : p.1 ∈ l.map (·.1) := e ▸ List.mem_map.mpr ⟨p, hp, rfl⟩
  obtain ⟨r, hr, e'⟩ := List.mem_map.mp this
  rw [← e']
  exact h r hr
end PartP5

section PartP6
open PySem PySem.W PyProof.Rows PySem.Calls PyProof.V
theorem cache_start {ti : Tok} {mods : List Str} {D : List (PyData × PyData)} (h : PyProof.V.FlatPairs PyData.str [(Str.ofString "<string>", Value.int 1 ti)] D) : Cache mods D := by
  intro q hq dv e
  cases h with
  | cons hf hr =>
    cases hr
    have hs : PySem.Spec.same (PyData.str (Str.ofString "<string>")) (PyData.str q) = false := by
      have : PySem.Spec.same (PyData.str (Str.ofString "<string>")) (PyData.str q) = decide (Str.ofString "<string>" = q) := by
        first | rfl | simp [PySem.Spec.same] 
      rw [this, decide_eq_false (Ne.symm hq)]
    unfold PySem.Spec.lookup PySem.Spec.lookup at e
    rw [hs] at e
    simp at e
theorem dot_list (r : Str) : (r ++ Str.ofString ".").cps.toList = r.cps.toList ++ [46] := by
  rw [str_append_list]
  rw [show (Str.ofString ".").cps.toList = [46] from by decide +kernel]
theorem starts_iff (q r : Str) : Txt.startswith q (r ++ Str.ofString ".") = true ↔ ∃ k, k < q.cps.toList.length ∧ q.cps.toList[k]? = some 46 ∧ r.cps.toList = q.cps.toList.take k := by
  have hl : (r ++ Str.ofString ".").length = r.cps.toList.length + 1 := by
    show (r ++ Str.ofString ".").cps.size = _
    rw [← Array.length_toList, dot_list, List.length_append]; rfl
  have hq : q.length = q.cps.toList.length := by show q.cps.size = _; rw [Array.length_toList]
  unfold Txt.startswith
  rw [StrLaws.subAt_eq, dot_list, hl, hq, List.drop_zero, Bool.and_eq_true, decide_eq_true_iff, beq_iff_eq]
  generalize q.cps.toList = ql
  generalize r.cps.toList = rl
  constructor
  · rintro ⟨h1, h2⟩
    refine ⟨rl.length, by omega, ?_, ?_⟩
    · have := congrArg (fun l => l[rl.length]?) h2
      simpa using this
    · have := congrArg (fun l => l.take rl.length) h2
      simp only [List.take_take, List.take_left'] at this
      rw [Nat.min_eq_left (Nat.le_succ _)] at this
      exact this.symm
  · rintro ⟨k, h1, h2, rfl⟩
    have hk : (ql.take k).length = k := by rw [List.length_take]; omega
    refine ⟨by omega, ?_⟩
    rw [hk, List.take_add_one, h2]; rfl
theorem fold_filter (p : Int → Bool) : ∀ (ks l : List Int), ks.foldl (fun l k => if p k = true then l ++ [k] else l) l = l ++ ks.filter p
  | [], l => by simp
  | k :: ks, l => by
    rw [List.foldl_cons, fold_filter p ks]
    cases h : p k <;> simp [h]
theorem hit_iff (rows : List Str) (q : Str) : (∃ k ∈ rangeKs 0 q.length, ((Txt.item q k == Str.ofString ".") && rows.any fun r => r == Txt.slice q none (some k)) = true) ↔ ∃ r ∈ rows, Txt.startswith q (r ++ Str.ofString ".") = true := by
  have hdot : Str.ofString "." = ⟨#[46]⟩ := by decide +kernel
  have hq : q.length = q.cps.toList.length := by show q.cps.size = _; rw [Array.length_toList]
  constructor
  · rintro ⟨k, hk, h⟩
    obtain ⟨i, hi, rfl⟩ := List.mem_map.mp hk
    have hi' := List.mem_range.mp hi
    rw [Bool.and_eq_true, List.any_eq_true] at h
    obtain ⟨h1, r, hr, h2⟩ := h
    refine ⟨r, hr, (starts_iff q r).mpr ⟨i, by omega, ?_, ?_⟩⟩
    · have hc : q.cps[((0 : Int) + (i : Int)).toNat]? = some (q.cps.toList[i]'(by omega)) := by
        rw [show ((0 : Int) + (i : Int)).toNat = i by omega, ← Array.getElem?_toList, List.getElem?_eq_getElem]
      rw [item_meets (by omega) hc, hdot, beq_iff_eq] at h1
      have h3 : q.cps.toList[i]'(by omega) = 46 := by injection h1 with h1; simpa using h1
      rw [List.getElem?_eq_getElem (by omega), h3]
    · rw [Int.zero_add, slice_to, beq_iff_eq] at h2
      rw [h2]
  · rintro ⟨r, hr, h⟩
    obtain ⟨k, h1, h2, h3⟩ := (starts_iff q r).mp h
    refine ⟨0 + (k : Int), List.mem_map.mpr ⟨k, List.mem_range.mpr (by omega), rfl⟩, ?_⟩
    have hc : q.cps[((0 : Int) + (k : Int)).toNat]? = some 46 := by
      rw [show ((0 : Int) + (k : Int)).toNat = k by omega, ← Array.getElem?_toList, h2]
    rw [item_meets (by omega) hc, hdot, Bool.and_eq_true, List.any_eq_true]
    refine ⟨beq_self_eq_true _, r, hr, ?_⟩
    rw [Int.zero_add, slice_to, beq_iff_eq, ← h3]
theorem in_iff (rows : List Str) (q : Str) : (rows.any fun r => r == q) = decide (q ∈ rows) := by
  rw [Bool.eq_iff_iff, List.any_eq_true, decide_eq_true_iff]
  constructor
  · rintro ⟨r, hr, h⟩
    rw [← eq_of_beq h]; exact hr
  · exact fun h => ⟨q, h, beq_self_eq_true q⟩
theorem ask_row {rows : List Str} {q : Str} (h : (rows.any fun r => r == q) = true) : ansI rows q = 1 := by
  unfold ansI ansB
  rw [← in_iff, h]; rfl
theorem ask_heads {rows : List Str} {q : Str} (h : (rows.any fun r => r == q) = false) :
    ansI rows q = if (!decide (List.foldl (fun l k => if ((Txt.item q k == Str.ofString ".") && rows.any fun r => r == Txt.slice q none (some k)) = true then l ++ [k] else l) [] (rangeKs 0 q.length) = [])) = true then 1 else 0 := by
  unfold ansI ansB
  rw [← in_iff, h, Bool.false_or, fold_filter (fun k => (Txt.item q k == Str.ofString ".") && rows.any fun r => r == Txt.slice q none (some k)), List.nil_append]
  have : (rows.any fun m => Txt.startswith q (m ++ Str.ofString ".")) = (!decide (List.filter (fun k => (Txt.item q k == Str.ofString ".") && rows.any fun r => r == Txt.slice q none (some k)) (rangeKs 0 q.length) = [])) := by
    rw [Bool.eq_iff_iff, List.any_eq_true, ← hit_iff, Bool.not_eq_true', decide_eq_false_iff_not, List.filter_eq_nil_iff]
    constructor
    · rintro ⟨k, hk, h⟩ hn
      exact hn k hk h
    · intro hn
      apply Classical.byContradiction
      intro hc
      exact hn fun k hk h => hc ⟨k, hk, h⟩
  rw [this]
end PartP6

section PartM3
open PySem PySem.W PyProof.Rows PySem.Calls PyProof.V
set_option maxRecDepth 100000
set_option maxHeartbeats 8000000

local macro_rules | `(tactic| walk_at "CompSrc") => `(tactic| refine halt ?_)
local macro_rules | `(tactic| walk_at "call builtin:str.join") => `(tactic| refine halt ?_)
local macro_rules | `(tactic| walk_at "call ref") => `(tactic| ((with_reducible show wpAny _ _ (call (Value.ref 90) _) _ _ _); refine halt ?_))
local macro_rules | `(tactic| walk_at "call ref") => `(tactic| ((with_reducible show wpAny _ _ (call (Value.ref 97) _) _ _ _); refine halt ?_))
local macro_rules | `(tactic| walk_at "call ref") => `(tactic| ((with_reducible show wpAny _ _ (call (Value.ref 79) _) _ _ _); refine halt ?_))
local macro_rules | `(tactic| walk_at "call builtin:str.split") => `(tactic| refine halt ?_)
local macro_rules | `(tactic| walk_at "call type:set") => `(tactic| refine halt ?_)
local macro_rules | `(tactic| walk_at "exec If Name") => `(tactic| refine halt ?_)
local macro_rules | `(tactic| walk_at "eval ListComp") => `(tactic| refine halt ?_)
local macro_rules | `(tactic| walk_at "CompSrcT") => `(tactic| refine halt ?_)
local macro_rules | `(tactic| walk_at "call ref") => `(tactic| ((with_reducible show wpAny _ _ (call (Value.ref 76) _) _ _ _); refine halt ?_))
local macro_rules | `(tactic| walk_at "exec For") => `(tactic| (refine For_M ?_ (by intro _; with_unfolding_all rfl)))
local macro_rules | `(tactic| walk_at "pyIter ref") => `(tactic| refine halt ?_)
local macro_rules | `(tactic| walk_at "exec Assign cons ListComp") => `(tactic| refine halt ?_)
local macro_rules | `(tactic| walk_at "compareOp In str ref") => `(tactic| refine halt ?_)
local macro_rules | `(tactic| walk_at "getMethod ref") => `(tactic| refine halt ?_)
local macro_rules | `(tactic| walk_at "truthy bool") => `(tactic| refine halt ?_)

theorem law_holds : PySem.Challenge.rw_nb0071_01.Holds := hd (by
  w_strict (k_fill
            intro w s₀ s₁ mg mb G Y fa o pm cd doc dV kV ho hdat hcd hD hmg hg args vals as hpre hlay hrd hwl hlo
            have KX := kIn_of Y
            k_behind G ho hdat hcd hD hmg hpre hlay hrd hwl hlo cd
            (all_goals try k_fold)
            (rename Top _ _ _ _ _ _ => T)
            (rename Fr _ _ _ _ => F); (rename News _ _ _ _ => N); (rename Below _ _ _ _ => B); (rename Heap.IsList _ _ _ => hL); (rename IntsAre _ _ => hI)
            rename_i cA cR cB hA hR hB cX
            replace F : Fr _ _ _ (fun y => if y = Str.ofString "script" then some (Value.ref _) else none) := F
            replace hA : cA.data = Data.cell none := hA
            replace hR : cR.data = Data.cell none := hR
            replace hB : cB.data = Data.cell none := hB
            clear cX
            k_steps
            refine go_on (LCg.ListComp_U (F₀ := F) (by with_unfolding_all rfl) (by decide) (by rfl) (by decide) (by rfl) ?_)
            k_steps
            (rename Fr _ _ _ _ => F₁); (rename News _ _ _ _ => N₁); (rename IntsAre _ (List.take _ _) => hI₁)
            refine go_on (LCg.CompSrc.ledger (by rfl) F₁ N₁ (.head _) (by rw [List.size_toArray, hI₁.length, List.length_take, sizeLine_eq]; omega) ?_)
            intro g'
            refine kct_list (fun k => Txt.item (Str.ofString " \na.b ") (k.fmod 6)) hI₁ ?_ ?_
            · intro k t I oI C oC D m₂ ys h tk E' hk hC hx F₂ N₂ off ne mk
              k_steps
              exact LCg.CompEnd.intro F₂ N₂ _ (fun p hp => hp) off (.inr ⟨_, .head _, rfl, _, rfl⟩) ⟨rfl, _, rfl⟩
            unfold KPfDone
            intro ys hys hlen D h₂ tk₂ F₂ N₂ off₂
            obtain ⟨lst, rfl, x, hx, hxl, hxs, hjo⟩ := text_facts (List.length_take_le _ _) hys
            clear hys F₁ N₁
            k_steps
            refine go_on (SC.join (l := lst) ⟨_, (N₂ _ (.head _)).1, rfl, _, rfl⟩ rfl hjo ?_)
            intro tx kx
            rw [hx]
            clear hjo hx
            k_steps
            (rename Fr _ _ _ _ => F₃); (rename News _ _ _ _ => N₃)
            replace N₃ : News s₁.heap s₁.heap.objs.size _ [(s₁.heap.objs.size + 1 + 1 + 1, cA), (s₁.heap.objs.size + 1 + 1, cR), (s₁.heap.objs.size + 1, cB)] := news_sub N₃ (fun p hp => .tail _ (.tail _ hp))
            refine wpAny_mono (Q := fun f s' => Halt (f = .next ∧ ∃ h tk b m', s' = { s₁ with heap := h, toks := tk } ∧ Fr s₁.heap s₁.heap.objs.size h m' ∧ Pins m' [(Str.ofString "refused", some (Value.bool b)), (Str.ofString "text", some (Value.str x tx))] ∧
                News s₁.heap s₁.heap.objs.size h [(s₁.heap.objs.size + 1 + 1 + 1, cA), (s₁.heap.objs.size + 1 + 1, cR), (s₁.heap.objs.size + 1, cB)] ∧ (b = true ↔ ((Txt.split x nl).headD default).cps.size = 0))) (wpAny_Try_except ?_) (fun f s' hq => ?_) (fun _ _ y => y)
            · k_steps
              refine go_on (wpAny_call (dedent_call B F₃ KX N₃ T rfl rfl (by decide) (by omega) ?_ ?_))
              · intro hne h tk t' F₄ N₄
                k_steps
                refine go_on ⟨rfl, h, tk, false, _, rfl, F₄, ⟨rfl, rfl, trivial⟩, N₄, ?_⟩
                exact ⟨fun q => (by cases q), fun q => absurd q hne⟩
              · intro hz gx h tk e F₄ U R
                refine caught_env rfl rfl rfl rfl F₄ U R T.g ?_ T.b ?_ ?_ ?_
                · exact (topRead_of T).free _ (by decide +kernel) (by decide +kernel) (by decide +kernel) (by decide +kernel) (by decide +kernel)
                · exact ((topRead_of T).builtins _ (by decide +kernel)).trans PyProof.Rows.Boot.«UnboundLocalError»
                · intro h₅ F₅ N₅
                  k_steps
                  (rename Fr _ _ _ _ => F₆); (rename News _ _ _ _ => N₆)
                  exact go_on ⟨rfl, _, _, true, _, rfl, F₆, ⟨rfl, rfl, trivial⟩, N₆, fun _ => hz, fun _ => rfl⟩
                · passes_own
            obtain ⟨rfl, h₄, tk₄, b, m₄, rfl, F₄, hp₄, N₄, hb⟩ := hq
            replace F₄ := fr_pins F₄ hp₄
            clear hp₄
            clear F₃ N₃
            k_steps
            (rename News _ _ _ _ => Nq)
            refine go_on (in_list_strs (News.isList Nq (.head _)) (.cons _ _ (.cons _ _ .nil)) ?_)
            k_steps
            have hbb : b = decide (((Txt.split x nl).headD default).cps.size = 0) := by
              cases b with
              | true => exact (decide_eq_true (hb.mp rfl)).symm
              | false => exact (decide_eq_false fun q => absurd (hb.mpr q) Bool.false_ne_true).symm
            rw [first_test, ← hbb, bne_self_eq_false]
            refine go_on (wpAny_truthy_bool ?_)
            rw [if_neg Bool.false_ne_true]
            k_steps
            (rename Fr _ _ _ _ => F₅); (rename News _ _ _ _ => N₅)
            replace N₅ : News s₁.heap s₁.heap.objs.size _ [(s₁.heap.objs.size + 1 + 1 + 1, cA), (s₁.heap.objs.size + 1 + 1, cR), (s₁.heap.objs.size + 1, cB)] := news_sub N₅ (fun p hp => .tail _ hp)
            refine go_on (wpAny_mono (Q := fun f s' => Halt (f = .next ∧ ∃ h tk m' y ty, s' = { s₁ with heap := h, toks := tk } ∧ Fr s₁.heap s₁.heap.objs.size h m' ∧ Pins m' [(Str.ofString "text", some (Value.str y ty))] ∧
                News s₁.heap s₁.heap.objs.size h [(s₁.heap.objs.size + 1 + 1 + 1, cA), (s₁.heap.objs.size + 1 + 1, cR), (s₁.heap.objs.size + 1, cB)] ∧ ((Txt.split y nl).headD default).cps.size ≠ 0 ∧ y.length ≤ 19 ∧ ∀ c ∈ y.cps.toList, plainSign c)) (wpAny_If ?_) (fun f s' hq => ?_) (fun _ _ y => y))
            · k_steps
              refine go_on (wpAny_truthy_bool ?_)
              cases b with
              | true =>
                k_steps
                (rename Fr _ _ _ _ => F₆); (rename News _ _ _ _ => N₆)
                refine go_on ⟨rfl, _, _, _, Str.ofString "a" ++ x, _, rfl, F₆, ⟨rfl, trivial⟩, N₆, head_a x, ?_, ?_⟩
                · rw [Str.length_append, show (Str.ofString "a").length = 1 from by decide +kernel]; omega
                · intro c hc
                  have : (Str.ofString "a" ++ x).cps.toList = 97 :: x.cps.toList := by
                    rw [show Str.ofString "a" = ⟨#[97]⟩ from by decide +kernel]
                    show (#[97] ++ x.cps).toList = _
                    simp
                  rw [this] at hc
                  rcases List.mem_cons.mp hc with rfl | hc
                  · exact .inr (.inr (.inl rfl))
                  · exact hxs c hc
              | false =>
                k_steps
                (rename Fr _ _ _ _ => F₆); (rename News _ _ _ _ => N₆)
                exact go_on ⟨rfl, _, _, _, x, tx, rfl, F₆, ⟨rfl, trivial⟩, N₆, fun q => absurd (hb.mpr q) Bool.false_ne_true, by omega, hxs⟩
            obtain ⟨rfl, h₆, tk₆, m₆, y, ty, rfl, F₆, hp₆, N₆, hyne, hyl, hys⟩ := hq
            replace F₆ := fr_pins F₆ hp₆
            clear hp₆ F₅ N₅ hxs hxl hb hbb
            k_steps
            refine go_on (wpAny_call (rows_call B F₆ KX N₆ T rfl rfl (by decide) (by omega) hyne ?_))
            intro h₇ tk₇ dr₇ Rw lst kR F₇ N₇ hlst lR
            clear F₆ N₆
            k_steps
            (rename Fr _ _ _ _ => F₈); (rename News _ _ _ _ => N₈); (rename Obj => cB'); (rename _ = Data.cell (some (Value.ref Rw)) => hB')
            refine go_on (wpAny_call (dedent_call B F₈ KX N₈ T rfl rfl (by decide) (by omega) ?_ (fun q => absurd q hyne)))
            intro _ h₉ tk₉ t₉ F₉ N₉
            clear F₈ N₈
            k_steps
            (rename Fr _ _ _ _ => F₁₀); (rename News _ _ _ _ => N₁₀)
            refine go_on (SC.join (l := lst) ⟨_, (N₁₀ _ (.head _)).1, rfl, _, rfl⟩ hlst (joinOk_of (B := 19) (fun r hr => Nat.le_trans (rowsT_each y r hr) hyl) (by
              have h1 := rowsT_len y
              have : (Str.ofString "\n").length = 1 := by decide +kernel
              rw [this]; omega)) ?_)
            intro tj kj
            rw [← dedent_rows]
            k_steps
            rw [show (dedentT y != dedentT y) = false from bne_self_eq_false _]
            refine go_on (wpAny_truthy_bool ?_)
            rw [if_neg Bool.false_ne_true]
            k_steps
            refine go_on (KSpl.split1 F₁₀ N₁₀ (by decide) ?_ (by have := dedent_len hyl; rw [sizeLine_eq]; omega))
            intro Sp lsp h₁₁ k₁₁ e₁₁ a₁₁ F₁₁ N₁₁ l₁₁
            have hsp : lsp.map (·.1) = rowsT y := e₁₁.trans (split_dedent y)
            clear e₁₁ a₁₁ F₁₀ N₁₀
            k_steps
            refine go_on (call_cls (fI := 69) F₁₁ KX N₁₁ (by k_is) (by k_is) (by k_is) ?_)
            intro x dx h₁₂ F₁₂ N₁₂ l₁₂ lx
            refine init_call B F₁₂ KX N₁₂ T rfl rfl (by show (Around.under (callerA.deeper _) (.builtin "type.__call__" ⟨_, _⟩)).depth < recursionLimit; k_room) (.head _) ?_ ?_ (fun p hp => Nat.ne_of_lt (l₁₂ p hp)) lx ?_
            · intro h; rw [h] at hsp; exact rowsT_ne y hsp.symm
            · have h := rowsT_len y
              rw [← hsp, List.length_map] at h; omega
            intro h₁₃ tk₁₃ Ig oIg Dl S es ep tt n h1 t1 h2 t2 h3 t3 ti D₀ F₁₃ N₁₃ V hmem hdi hfl hD₀ lo hxS hSD hDI hoff
            clear F₁₁ N₁₁ F₁₂ N₁₂
            have o1 : @LT.lt Nat _ (s₁.heap.objs.size + 1 + 1 + 1) Rw := lR _ (.head _)
            have o2 : @LT.lt Nat _ Rw dx := l₁₂ _ (.tail _ (.head _))
            have o3 : @LT.lt Nat _ dx x := lx
            have hni : ∀ p ∈ [(Rw, W.listOf (strValues lst).toArray kR), (s₁.heap.objs.size + 1 + 1 + 1, cA), (s₁.heap.objs.size + 1 + 1, cR), (s₁.heap.objs.size + 1, cB')], p.1 ≠ Ig := fun p hp => (hoff p (.tail _ hp)).2.2
            replace N₁₃ := news_sub N₁₃ (news' := (Ig, oIg) :: (Dl, listOf #[] 0) :: (S, setObj es ep tt) :: (x, instObj 79 dx) :: (dx, dictOf [⟨h1, .str (Str.ofString "_mods") t1, .ref S⟩, ⟨h2, .str (Str.ofString "_dirs") t2, .ref Dl⟩, ⟨h3, .str (Str.ofString "_ignore") t3, .ref Ig⟩] n) :: [(Rw, W.listOf (strValues lst).toArray kR), (s₁.heap.objs.size + 1 + 1 + 1, cA), (s₁.heap.objs.size + 1 + 1, cR), (s₁.heap.objs.size + 1, cB')])
              (fun p hp => by
                rcases List.mem_cons.mp hp with rfl | hp
                · exact .head _
                · rcases List.mem_cons.mp hp with rfl | hp
                  · exact .tail _ (.head _)
                  · rcases List.mem_cons.mp hp with rfl | hp
                    · exact .tail _ (.tail _ (.head _))
                    · rcases List.mem_cons.mp hp with rfl | hp
                      · exact .tail _ (.tail _ (.tail _ (.head _)))
                      · rcases List.mem_cons.mp hp with rfl | hp
                        · exact .tail _ (.tail _ (.tail _ (.tail _ (.head _))))
                        · exact .tail _ (.tail _ (.tail _ (.tail _ (.tail _ (.tail _ hp))))))
            clear hoff l₁₂ lR
            refine ⟨rfl, ?_⟩
            dsimp only
            k_steps
            (rename Fr _ _ _ _ => F₁₄); (rename News _ _ _ _ => N₁₄)
            have hSA : StrsAre (strValues lst) (rowsT y) := hlst ▸ strsAre_values lst
            have hmods : lsp.map (·.1) = rowsT y := hsp
            rw [hmods] at hmem
            refine go_on (loopList (h₀ := s₁.heap) (D := Rw) (items := (strValues lst).toArray) (k := kR) (J := fun i m₁ n₁ => Pins m₁ [(Str.ofString "ignore", some (.ref x))] ∧ ∃ oIg cA cR kvs D,
                n₁ = ((Ig, oIg) :: (Dl, W.listOf #[] 0) :: (S, setObj es ep tt) :: (x, instObj 79 dx) :: (dx, dictOf [⟨h1, .str (Str.ofString "_mods") t1, .ref S⟩, ⟨h2, .str (Str.ofString "_dirs") t2, .ref Dl⟩, ⟨h3, .str (Str.ofString "_ignore") t3, .ref Ig⟩] n) :: [(Rw, W.listOf (strValues lst).toArray kR), (s₁.heap.objs.size + 1 + 1 + 1, cA), (s₁.heap.objs.size + 1 + 1, cR), (s₁.heap.objs.size + 1, cB')]) ∧
                (∃ v, cA.data = .cell v) ∧ (∃ v, cR.data = .cell v) ∧ oIg.IsDictOf (PySem.strKind Challenge.rw_nb0071_01.row.prog w) kvs ∧ PyProof.V.FlatPairs PyData.str kvs D ∧ Cache (rowsT y) D ∧ D.length ≤ 1 + 40 * i) ?hE rfl ?hJl F₁₄ N₁₄ ?h0 ?step ?done)
            case hE => passes_own
            case hJl =>
              rintro i m' nw ⟨_, oIg, cA, cR, kvs, D, rfl, _⟩
              exact .tail _ (.tail _ (.tail _ (.tail _ (.tail _ (.head _)))))
            case h0 =>
              exact ⟨⟨rfl, trivial⟩, oIg, cA, cR, _, _, rfl, ⟨_, hA⟩, ⟨_, hR⟩, hdi, hfl, cache_start hfl, by omega⟩
            case done =>
              rintro m₁ news₁ h₁ tk₁ dr₁ ⟨hp, oIg, cA, cR, kvs, D, rfl, ⟨vA, hA⟩, ⟨vR, hR⟩, hdi, hfl, hC, hDl⟩ F₂ N₂
              clear F₁₄ N₁₄
              k_steps
            case step =>
              rintro i v m₁ news₁ h₁ tk₁ dr₁ I oI hv ⟨hp, oIg, cA, cR, kvs, D, rfl, ⟨vA, hA⟩, ⟨vR, hR⟩, hdi, hfl, hC, hDl⟩ F₂ N₂ off₂
              obtain ⟨row, trow, rfl, hrow⟩ : ∃ row t, v = .str row t ∧ row ∈ rowsT y := by
                obtain ⟨_, p, hp, rfl⟩ := values_at hv
                exact ⟨_, _, rfl, hlst ▸ List.mem_map.mpr ⟨p, hp, rfl⟩⟩
              replace F₂ := fr_pins F₂ hp
              clear F₁₄ N₁₄ hp
              have i1 : @Ne Nat (s₁.heap.objs.size + 1 + 1 + 1) I := off₂ _ (.tail _ (.tail _ (.tail _ (.tail _ (.tail _ (.tail _ (.head _)))))))
              have i2 : @Ne Nat (s₁.heap.objs.size + 1 + 1) I := off₂ _ (.tail _ (.tail _ (.tail _ (.tail _ (.tail _ (.tail _ (.tail _ (.head _))))))))
              have i3 : @Ne Nat Ig I := off₂ _ (.head _)
              have i4 : @Ne Nat Rw I := off₂ _ (.tail _ (.tail _ (.tail _ (.tail _ (.tail _ (.head _))))))
              k_steps
              (rename Fr _ _ _ _ => F₃); (rename News _ _ _ _ => N₃); (rename _ = Data.cell (some (Value.str row trow)) => hR'); (rename Obj => cR')
              have hrl : row.length ≤ 19 := Nat.le_trans (rowsT_each y row hrow) hyl
              have hrs := rowsT_signs hys row hrow
              refine go_on (comp2_U (h₀ := s₁.heap) (L := s₁.heap.objs.size) (m := pinned m₁ [(Str.ofString "ignore", some (Value.ref x))]) (n := row.length + 1) (Acc := fun i j ys => j ≤ 2 ∧ Acc2 i j ys) rfl (by with_unfolding_all rfl) (by decide) (by rfl) (by decide) (by rfl) (by rfl) (by decide) ?hbd ⟨by omega, Acc2.zero⟩ (fun i ys h => ⟨by omega, h.2.next⟩) ?src (by intro _; with_unfolding_all rfl))
              case hbd =>
                rintro i j ys hi ⟨hj, h⟩
                rw [h.len, sizeLine_eq]; omega
              case src =>
                k_steps
                (rename Fr _ _ _ _ => F₄); (rename News _ _ _ _ => N₄); (rename IsRange _ _ _ _ _ _ _ _ => hr)
                refine ⟨_, _, _, _, _, rfl, F₄, N₄, hr, small_one (by omega) (by omega) (by omega) (by omega), rangeSize_nat _ _, ?elt, ?fin⟩
                case elt =>
                  rintro C i t j v tv oC m₂ ys h tk J' X' I' D' oJ' oX' oI' oD' hi hj hoC h0 h1 F N ⟨hj2, hA⟩
                  clear F₄ N₄
                  rcases hj with ⟨rfl, rfl⟩ | ⟨rfl, rfl⟩
                  · k_steps
                    (rename Fr _ _ _ _ => F'); (rename News _ _ _ _ => N')
                    exact ⟨_, _, rfl, F', N', by omega, hA.snoc (good_of hrl hrs (.inl rfl))⟩
                  · k_steps
                    (rename Fr _ _ _ _ => F'); (rename News _ _ _ _ => N')
                    exact ⟨_, _, rfl, F', N', by omega, hA.snoc (good_of hrl hrs (.inr rfl))⟩
                case fin =>
                  rintro Dc h₅ tk₅ ys ⟨_, hAcc⟩ F₅ N₅ off₅
                  clear F₄ N₄
                  obtain ⟨lp, rfl, hlpl, hlpg⟩ := hAcc
                  k_steps
                  have i5 : @Ne Nat (s₁.heap.objs.size + 1 + 1 + 1) Dc := off₅ _ (.tail _ (.tail _ (.tail _ (.tail _ (.tail _ (.tail _ (.tail _ (.head _))))))))
                  have i6 : @Ne Nat Ig Dc := off₅ _ (.tail _ (.head _))
                  have i7 : @Ne Nat I Dc := off₅ _ (.head _)
                  refine go_on (loopList (h₀ := s₁.heap) (D := Dc) (items := (strValues lp).toArray) (k := (strValues lp).length) (J := fun j m₂ n₂ => Pins m₂ [(Str.ofString "ignore", some (.ref x))] ∧ ∃ oIg cA kvs D,
                    n₂ = ((Dc, LCg.lst (strValues lp)) :: (I, oI) :: (Ig, oIg) :: (Dl, W.listOf #[] 0) :: (S, setObj es ep tt) :: (x, instObj 79 dx) :: (dx, dictOf [⟨h1, .str (Str.ofString "_mods") t1, .ref S⟩, ⟨h2, .str (Str.ofString "_dirs") t2, .ref Dl⟩, ⟨h3, .str (Str.ofString "_ignore") t3, .ref Ig⟩] n) :: [(Rw, W.listOf (strValues lst).toArray kR), (s₁.heap.objs.size + 1 + 1 + 1, cA), (s₁.heap.objs.size + 1 + 1, cR'), (s₁.heap.objs.size + 1, cB')]) ∧
                    (∃ v, cA.data = .cell v) ∧ oIg.IsDictOf (PySem.strKind Challenge.rw_nb0071_01.row.prog w) kvs ∧ PyProof.V.FlatPairs PyData.str kvs D ∧ Cache (rowsT y) D ∧ D.length ≤ 1 + 40 * i + j) ?hE2 rfl ?hJl2 F₅ N₅ ?h02 ?step2 ?done2)
                  case hE2 => passes_own
                  case hJl2 =>
                    rintro i m' nw ⟨_, oIg, cA, kvs, D, rfl, _⟩
                    exact .head _
                  case h02 => exact ⟨⟨rfl, trivial⟩, oIg, cA, _, _, rfl, ⟨_, hA⟩, hdi, hfl, hC, by omega⟩
                  case done2 =>
                    rintro m₂ news₂ h₆ tk₆ dr₆ ⟨hp, oIg, cA, kvs, D, rfl, ⟨vA, hA⟩, hdi, hfl, hC, hDl⟩ F₆ N₆
                    clear F₅ N₅
                    k_steps
                    unfold TurnEnd
                    dsimp only
                    have hsz : (strValues lp).toArray.size = 2 * (row.length + 1) := by simpa [strValues] using hlpl
                    rw [hsz] at hDl
                    exact ⟨_, _, _, _, _, rfl, F₆, news_sub N₆ (fun p hp => .tail _ hp), off_map off₂ rfl, hp, oIg, cA, cR', kvs, D, rfl, ⟨_, hA⟩, ⟨_, hR'⟩, hdi, hfl, hC, by omega⟩
                  case step2 =>
                    rintro j v m₂ news₂ h₆ tk₆ dr₆ I₂ oI₂ hv₂ ⟨hp, oIg, cA, kvs, D, rfl, ⟨vA, hA⟩, hdi, hfl, hC, hDl⟩ F₆ N₆ off₆
                    obtain ⟨q, tq, rfl, hq⟩ : ∃ q t, v = .str q t ∧ GoodQ q := by
                      obtain ⟨_, p, hp, rfl⟩ := values_at hv₂
                      exact ⟨_, _, rfl, hlpg p hp⟩
                    have hql : q.length ≤ 21 := hq.1
                    replace F₆ := fr_pins F₆ hp
                    clear F₅ N₅ hp
                    have j1 : @Ne Nat (s₁.heap.objs.size + 1 + 1 + 1) I₂ := off₆ _ (.tail _ (.tail _ (.tail _ (.tail _ (.tail _ (.tail _ (.tail _ (.tail _ (.head _)))))))))
                    have j2 : @Ne Nat Ig I₂ := off₆ _ (.tail _ (.tail _ (.head _)))
                    k_steps
                    (rename Fr _ _ _ _ => F₇); (rename News _ _ _ _ => N₇); (rename _ = Data.cell (some (Value.str q tq)) => hA'); (rename Obj => cA')
                    refine go_on (LCt.Assign_ListComp_T F₇ rfl (by with_unfolding_all rfl) (by with_unfolding_all rfl) (by decide) (by rfl) (by decide) (by rfl) (by rfl) (by rfl) ?_ (by intro _; with_unfolding_all rfl))
                    k_steps
                    (rename Fr _ _ _ _ => F₈); (rename News _ _ _ _ => N₈); (rename IsRange _ _ _ _ _ _ _ _ => hr₈)
                    refine go_on (LCt.CompSrcT.range (n := q.length) rfl F₈ N₈ hr₈ (small_one (by omega) (by omega) (by omega) (by omega)) (rangeSize_nat _ _) (by rw [sizeLine_eq]; omega) ?_)
                    intro g'
                    refine kci_range (fun l k => if ((Txt.item q k == Str.ofString ".") && (rowsT y).any fun r => r == Txt.slice q none (some k)) then l ++ [k] else l) ?_ ?_ ?_
                    · intro k tk' I₃ oI₃ C₃ oC₃ D₃ m₃ ys₃ l₃ h₉ tk₉ E' hlo hhi hI hC hx F N off ne mk
                      clear F₈ N₈
                      k_steps
                      refine go_on (wpAny_truthy_bool ?_)
                      cases hd1 : (Txt.item q k == Str.ofString ".") with
                      | false =>
                        rw [if_neg Bool.false_ne_true]
                        k_steps
                        refine LCg.CompEnd.intro F N _ (fun p hp => hp) off trivial ⟨rfl, ?_⟩
                        exact if_neg Bool.false_ne_true
                      | true =>
                        rw [if_pos rfl]
                        k_steps
                        (rename Fr _ _ _ _ => F'); (rename News _ _ _ _ => N')
                        refine go_on (in_list_strs (vs := strValues lst) ⟨_, (N' _ (.tail _ (.tail _ (.tail _ (.tail _ (.tail _ (.tail _ (.tail _ (.tail _ (.tail _ (.tail _ (.tail _ (.head _))))))))))))).1, rfl, _, rfl⟩ hSA ?_)
                        k_steps
                        refine go_on (wpAny_truthy_bool ?_)
                        cases hd2 : ((rowsT y).any fun r => r == Txt.slice q none (some k)) with
                        | false =>
                          try rw [if_neg Bool.false_ne_true]
                          k_steps
                          refine LCg.CompEnd.intro F' N' _ (fun p hp => hp) off trivial ⟨rfl, ?_⟩
                          exact if_neg Bool.false_ne_true
                        | true =>
                          try rw [if_pos rfl]
                          k_steps
                          refine LCg.CompEnd.intro F' N' _ (fun p hp => hp) off trivial ⟨rfl, _, _, rfl, ?_⟩
                          exact if_pos rfl
                    · unfold KPfDone
                      intro ys hys hyn D₃ h₉ tk₉ F₉ N₉ off₉
                      clear F₈ N₈
                      have hilt : i < 20 := by
                        have h1 := (values_at hv).1
                        have h2 := rowsT_len y
                        rw [← hlst, List.length_map] at h2
                        omega
                      have hjlt : j < 40 := by
                        have h1 := (values_at hv₂).1
                        omega
                      replace N₉ := news_sub N₉ (news' := (Ig, oIg) :: (Dl, W.listOf #[] 0) :: (S, setObj es ep tt) :: (x, instObj 79 dx) :: (dx, dictOf [⟨h1, .str (Str.ofString "_mods") t1, .ref S⟩, ⟨h2, .str (Str.ofString "_dirs") t2, .ref Dl⟩, ⟨h3, .str (Str.ofString "_ignore") t3, .ref Ig⟩] n) :: (D₃, LCg.lst ys) :: (I₂, oI₂) :: (Dc, LCg.lst (strValues lp)) :: (I, oI) :: [(Rw, W.listOf (strValues lst).toArray kR), (s₁.heap.objs.size + 1 + 1 + 1, cA'), (s₁.heap.objs.size + 1 + 1, cR'), (s₁.heap.objs.size + 1, cB')]) (fun p hp => by
                        rcases List.mem_cons.mp hp with rfl | hp
                        · exact (.tail _ (.tail _ (.tail _ (.tail _ (.head _)))))
                        rcases List.mem_cons.mp hp with rfl | hp
                        · exact (.tail _ (.tail _ (.tail _ (.tail _ (.tail _ (.head _))))))
                        rcases List.mem_cons.mp hp with rfl | hp
                        · exact (.tail _ (.tail _ (.tail _ (.tail _ (.tail _ (.tail _ (.head _)))))))
                        rcases List.mem_cons.mp hp with rfl | hp
                        · exact (.tail _ (.tail _ (.tail _ (.tail _ (.tail _ (.tail _ (.tail _ (.head _))))))))
                        rcases List.mem_cons.mp hp with rfl | hp
                        · exact (.tail _ (.tail _ (.tail _ (.tail _ (.tail _ (.tail _ (.tail _ (.tail _ (.head _)))))))))
                        rcases List.mem_cons.mp hp with rfl | hp
                        · exact (.head _)
                        rcases List.mem_cons.mp hp with rfl | hp
                        · exact (.tail _ (.head _))
                        rcases List.mem_cons.mp hp with rfl | hp
                        · exact (.tail _ (.tail _ (.head _)))
                        rcases List.mem_cons.mp hp with rfl | hp
                        · exact (.tail _ (.tail _ (.tail _ (.head _))))
                        rcases List.mem_cons.mp hp with rfl | hp
                        · exact (.tail _ (.tail _ (.tail _ (.tail _ (.tail _ (.tail _ (.tail _ (.tail _ (.tail _ (.head _))))))))))
                        rcases List.mem_cons.mp hp with rfl | hp
                        · exact (.tail _ (.tail _ (.tail _ (.tail _ (.tail _ (.tail _ (.tail _ (.tail _ (.tail _ (.tail _ (.head _)))))))))))
                        rcases List.mem_cons.mp hp with rfl | hp
                        · exact (.tail _ (.tail _ (.tail _ (.tail _ (.tail _ (.tail _ (.tail _ (.tail _ (.tail _ (.tail _ (.tail _ (.head _))))))))))))
                        rw [List.mem_singleton.mp hp]
                        exact (.tail _ (.tail _ (.tail _ (.tail _ (.tail _ (.tail _ (.tail _ (.tail _ (.tail _ (.tail _ (.tail _ (.tail _ (.head _))))))))))))))
                      k_steps
                      refine go_on (method_inst (K := hd.heap_39 w.params) (C := 79) (f := 76) F₉ KX (InstAt.of_news N₉ (.tail _ (.tail _ (.tail _ (.head _)))) (.tail _ (.tail _ (.tail _ (.tail _ (.head _)))))) (by k_is) (by k_is) (by k_is) (by k_get) ?_)
                      k_steps
                      have j3 : @Ne Nat Ig D₃ := off₉.2.2.2.1
                      refine go_on (wpAny_call (names_call (mods := rowsT y) B F₉ KX T N₉ rfl rfl (by decide) V hmem (rowsT_ne y) hdi hfl (by omega) lo o3 hxS hSD hDI ?hni hC hq.ne (by omega) ?hml ?_))
                      case hni =>
                        intro p hp
                        rcases List.mem_cons.mp hp with rfl | hp
                        · exact Ne.symm j3
                        rcases List.mem_cons.mp hp with rfl | hp
                        · exact Ne.symm j2
                        rcases List.mem_cons.mp hp with rfl | hp
                        · exact Ne.symm i6
                        rcases List.mem_cons.mp hp with rfl | hp
                        · exact Ne.symm i3
                        rcases List.mem_cons.mp hp with rfl | hp
                        · show @Ne Nat Rw Ig; omega
                        rcases List.mem_cons.mp hp with rfl | hp
                        · show @Ne Nat (s₁.heap.objs.size + 1 + 1 + 1) Ig; omega
                        rcases List.mem_cons.mp hp with rfl | hp
                        · show @Ne Nat (s₁.heap.objs.size + 1 + 1) Ig; omega
                        rw [List.mem_singleton.mp hp]
                        show @Ne Nat (s₁.heap.objs.size + 1) Ig; omega
                      case hml => exact fun r hr => Nat.le_trans (rowsT_each y r hr) (by omega)
                      intro h₁₀ tk₁₀ dr₁₀ oIg' kvs' D' tv F₁₀ N₁₀ hdi' hfl' hC' hDl'
                      clear F₉ N₉
                      have hz1 : 0 ≤ ansI (rowsT y) q := by unfold ansI; split <;> omega
                      have hz2 : ansI (rowsT y) q ≤ 1 := by unfold ansI; split <;> omega
                      k_steps
                      refine go_on (in_list_strs (vs := strValues lst) ⟨_, (N₁₀ _ (.tail _ (.tail _ (.tail _ (.tail _ (.tail _ (.tail _ (.tail _ (.tail _ (.tail _ (.head _))))))))))).1, rfl, _, rfl⟩ hSA ?_)
                      k_steps
                      refine go_on (wpAny_truthy_bool ?_)
                      cases hin : ((rowsT y).any fun r => r == q) with
                      | true =>
                        rw [if_pos rfl]
                        k_steps
                        refine go_on (wpAny_truthy_bool ?_)
                        rw [show (Str.ofString (toString (ansI (rowsT y) q)) != Str.ofString "1") = false from by rw [ask_row hin]; decide +kernel, if_neg Bool.false_ne_true]
                        k_steps
                        unfold TurnEnd
                        dsimp only
                        exact ⟨_, _, _, _, _, rfl, F₁₀, news_sub N₁₀ (news' := (I₂, oI₂) :: (Dc, LCg.lst (strValues lp)) :: (I, oI) :: (Ig, oIg') :: (Dl, W.listOf #[] 0) :: (S, setObj es ep tt) :: (x, instObj 79 dx) :: (dx, dictOf [⟨h1, .str (Str.ofString "_mods") t1, .ref S⟩, ⟨h2, .str (Str.ofString "_dirs") t2, .ref Dl⟩, ⟨h3, .str (Str.ofString "_ignore") t3, .ref Ig⟩] n) :: [(Rw, W.listOf (strValues lst).toArray kR), (s₁.heap.objs.size + 1 + 1 + 1, cA'), (s₁.heap.objs.size + 1 + 1, cR'), (s₁.heap.objs.size + 1, cB')]) (fun p hp => by
                            rcases List.mem_cons.mp hp with rfl | hp
                            · exact (.tail _ (.tail _ (.tail _ (.tail _ (.tail _ (.tail _ (.head _)))))))
                            rcases List.mem_cons.mp hp with rfl | hp
                            · exact (.tail _ (.tail _ (.tail _ (.tail _ (.tail _ (.tail _ (.tail _ (.head _))))))))
                            rcases List.mem_cons.mp hp with rfl | hp
                            · exact (.tail _ (.tail _ (.tail _ (.tail _ (.tail _ (.tail _ (.tail _ (.tail _ (.head _)))))))))
                            rcases List.mem_cons.mp hp with rfl | hp
                            · exact (.head _)
                            rcases List.mem_cons.mp hp with rfl | hp
                            · exact (.tail _ (.head _))
                            rcases List.mem_cons.mp hp with rfl | hp
                            · exact (.tail _ (.tail _ (.head _)))
                            rcases List.mem_cons.mp hp with rfl | hp
                            · exact (.tail _ (.tail _ (.tail _ (.head _))))
                            rcases List.mem_cons.mp hp with rfl | hp
                            · exact (.tail _ (.tail _ (.tail _ (.tail _ (.head _)))))
                            rcases List.mem_cons.mp hp with rfl | hp
                            · exact (.tail _ (.tail _ (.tail _ (.tail _ (.tail _ (.tail _ (.tail _ (.tail _ (.tail _ (.head _))))))))))
                            rcases List.mem_cons.mp hp with rfl | hp
                            · exact (.tail _ (.tail _ (.tail _ (.tail _ (.tail _ (.tail _ (.tail _ (.tail _ (.tail _ (.tail _ (.head _)))))))))))
                            rcases List.mem_cons.mp hp with rfl | hp
                            · exact (.tail _ (.tail _ (.tail _ (.tail _ (.tail _ (.tail _ (.tail _ (.tail _ (.tail _ (.tail _ (.tail _ (.head _))))))))))))
                            rw [List.mem_singleton.mp hp]
                            exact (.tail _ (.tail _ (.tail _ (.tail _ (.tail _ (.tail _ (.tail _ (.tail _ (.tail _ (.tail _ (.tail _ (.tail _ (.head _)))))))))))))), off_map off₆ rfl, ⟨rfl, trivial⟩, oIg', cA', kvs', D', rfl, ⟨_, hA'⟩, hdi', hfl', hC', by omega⟩
                      | false =>
                        rw [if_neg Bool.false_ne_true]
                        k_steps
                        (rename Fr _ _ _ _ => F₁₁); (rename News _ _ _ _ => N₁₁)
                        refine go_on (wpAny_truthy_bool ?_)
                        have ha := ask_heads hin
                        by_cases hX : List.foldl (fun l k => if ((Txt.item q k == Str.ofString ".") && (rowsT y).any fun r => r == Txt.slice q none (some k)) = true then l ++ [k] else l) [] (rangeKs 0 q.length) = []
                        · rw [decide_eq_true hX, Bool.not_true, if_neg Bool.false_ne_true] at ha
                          rw [decide_eq_true hX, Bool.not_true, if_neg Bool.false_ne_true]
                          k_steps
                          refine go_on (wpAny_truthy_bool ?_)
                          rw [show (Str.ofString (toString (ansI (rowsT y) q)) != Str.ofString "0") = false from by rw [ha]; decide +kernel, if_neg Bool.false_ne_true]
                          k_steps
                          unfold TurnEnd
                          dsimp only
                          exact ⟨_, _, _, _, _, rfl, F₁₁, news_sub N₁₁ (news' := (I₂, oI₂) :: (Dc, LCg.lst (strValues lp)) :: (I, oI) :: (Ig, oIg') :: (Dl, W.listOf #[] 0) :: (S, setObj es ep tt) :: (x, instObj 79 dx) :: (dx, dictOf [⟨h1, .str (Str.ofString "_mods") t1, .ref S⟩, ⟨h2, .str (Str.ofString "_dirs") t2, .ref Dl⟩, ⟨h3, .str (Str.ofString "_ignore") t3, .ref Ig⟩] n) :: [(Rw, W.listOf (strValues lst).toArray kR), (s₁.heap.objs.size + 1 + 1 + 1, cA'), (s₁.heap.objs.size + 1 + 1, cR'), (s₁.heap.objs.size + 1, cB')]) (fun p hp => by
                              rcases List.mem_cons.mp hp with rfl | hp
                              · exact (.tail _ (.tail _ (.tail _ (.tail _ (.tail _ (.tail _ (.tail _ (.head _))))))))
                              rcases List.mem_cons.mp hp with rfl | hp
                              · exact (.tail _ (.tail _ (.tail _ (.tail _ (.tail _ (.tail _ (.tail _ (.tail _ (.head _)))))))))
                              rcases List.mem_cons.mp hp with rfl | hp
                              · exact (.tail _ (.tail _ (.tail _ (.tail _ (.tail _ (.tail _ (.tail _ (.tail _ (.tail _ (.head _))))))))))
                              rcases List.mem_cons.mp hp with rfl | hp
                              · exact (.tail _ (.head _))
                              rcases List.mem_cons.mp hp with rfl | hp
                              · exact (.tail _ (.tail _ (.head _)))
                              rcases List.mem_cons.mp hp with rfl | hp
                              · exact (.tail _ (.tail _ (.tail _ (.head _))))
                              rcases List.mem_cons.mp hp with rfl | hp
                              · exact (.tail _ (.tail _ (.tail _ (.tail _ (.head _)))))
                              rcases List.mem_cons.mp hp with rfl | hp
                              · exact (.tail _ (.tail _ (.tail _ (.tail _ (.tail _ (.head _))))))
                              rcases List.mem_cons.mp hp with rfl | hp
                              · exact (.tail _ (.tail _ (.tail _ (.tail _ (.tail _ (.tail _ (.tail _ (.tail _ (.tail _ (.tail _ (.head _)))))))))))
                              rcases List.mem_cons.mp hp with rfl | hp
                              · exact (.tail _ (.tail _ (.tail _ (.tail _ (.tail _ (.tail _ (.tail _ (.tail _ (.tail _ (.tail _ (.tail _ (.head _))))))))))))
                              rcases List.mem_cons.mp hp with rfl | hp
                              · exact (.tail _ (.tail _ (.tail _ (.tail _ (.tail _ (.tail _ (.tail _ (.tail _ (.tail _ (.tail _ (.tail _ (.tail _ (.head _)))))))))))))
                              rw [List.mem_singleton.mp hp]
                              exact (.tail _ (.tail _ (.tail _ (.tail _ (.tail _ (.tail _ (.tail _ (.tail _ (.tail _ (.tail _ (.tail _ (.tail _ (.tail _ (.head _))))))))))))))), off_map off₆ rfl, ⟨rfl, trivial⟩, oIg', cA', kvs', D', rfl, ⟨_, hA'⟩, hdi', hfl', hC', by omega⟩
                        · rw [decide_eq_false hX, Bool.not_false, if_pos rfl] at ha
                          rw [decide_eq_false hX, Bool.not_false, if_pos rfl]
                          k_steps
                          refine go_on (wpAny_truthy_bool ?_)
                          rw [show (Str.ofString (toString (ansI (rowsT y) q)) != Str.ofString "1") = false from by rw [ha]; decide +kernel, if_neg Bool.false_ne_true]
                          k_steps
                          unfold TurnEnd
                          dsimp only
                          exact ⟨_, _, _, _, _, rfl, F₁₁, news_sub N₁₁ (news' := (I₂, oI₂) :: (Dc, LCg.lst (strValues lp)) :: (I, oI) :: (Ig, oIg') :: (Dl, W.listOf #[] 0) :: (S, setObj es ep tt) :: (x, instObj 79 dx) :: (dx, dictOf [⟨h1, .str (Str.ofString "_mods") t1, .ref S⟩, ⟨h2, .str (Str.ofString "_dirs") t2, .ref Dl⟩, ⟨h3, .str (Str.ofString "_ignore") t3, .ref Ig⟩] n) :: [(Rw, W.listOf (strValues lst).toArray kR), (s₁.heap.objs.size + 1 + 1 + 1, cA'), (s₁.heap.objs.size + 1 + 1, cR'), (s₁.heap.objs.size + 1, cB')]) (fun p hp => by
                              rcases List.mem_cons.mp hp with rfl | hp
                              · exact (.tail _ (.tail _ (.tail _ (.tail _ (.tail _ (.tail _ (.tail _ (.head _))))))))
                              rcases List.mem_cons.mp hp with rfl | hp
                              · exact (.tail _ (.tail _ (.tail _ (.tail _ (.tail _ (.tail _ (.tail _ (.tail _ (.head _)))))))))
                              rcases List.mem_cons.mp hp with rfl | hp
                              · exact (.tail _ (.tail _ (.tail _ (.tail _ (.tail _ (.tail _ (.tail _ (.tail _ (.tail _ (.head _))))))))))
                              rcases List.mem_cons.mp hp with rfl | hp
                              · exact (.tail _ (.head _))
                              rcases List.mem_cons.mp hp with rfl | hp
                              · exact (.tail _ (.tail _ (.head _)))
                              rcases List.mem_cons.mp hp with rfl | hp
                              · exact (.tail _ (.tail _ (.tail _ (.head _))))
                              rcases List.mem_cons.mp hp with rfl | hp
                              · exact (.tail _ (.tail _ (.tail _ (.tail _ (.head _)))))
                              rcases List.mem_cons.mp hp with rfl | hp
                              · exact (.tail _ (.tail _ (.tail _ (.tail _ (.tail _ (.head _))))))
                              rcases List.mem_cons.mp hp with rfl | hp
                              · exact (.tail _ (.tail _ (.tail _ (.tail _ (.tail _ (.tail _ (.tail _ (.tail _ (.tail _ (.tail _ (.head _)))))))))))
                              rcases List.mem_cons.mp hp with rfl | hp
                              · exact (.tail _ (.tail _ (.tail _ (.tail _ (.tail _ (.tail _ (.tail _ (.tail _ (.tail _ (.tail _ (.tail _ (.head _))))))))))))
                              rcases List.mem_cons.mp hp with rfl | hp
                              · exact (.tail _ (.tail _ (.tail _ (.tail _ (.tail _ (.tail _ (.tail _ (.tail _ (.tail _ (.tail _ (.tail _ (.tail _ (.head _)))))))))))))
                              rw [List.mem_singleton.mp hp]
                              exact (.tail _ (.tail _ (.tail _ (.tail _ (.tail _ (.tail _ (.tail _ (.tail _ (.tail _ (.tail _ (.tail _ (.tail _ (.tail _ (.head _))))))))))))))), off_map off₆ rfl, ⟨rfl, trivial⟩, oIg', cA', kvs', D', rfl, ⟨_, hA'⟩, hdi', hfl', hC', by omega⟩
                    · intro l k
                      show (if _ then l ++ [k] else l).length ≤ _
                      split
                      · rw [List.length_append]; simp
                      · omega))
end PartM3

end Mine

theorem PySem.Challenge.cw_nb0071_01_holds : PySem.Challenge.rw_nb0071_01.Holds := by
  exact Mine.law_holds

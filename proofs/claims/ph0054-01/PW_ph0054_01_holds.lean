import PyProof.Rows.All
import Wide.All
import OpenK.AllK
import Wide.FinOn
import Lean
import PySem.Challenge.RW_ph0054_01
set_option Elab.async false
section
open PySem PySem.W PyProof.Rows
namespace Mine
set_option maxRecDepth 100000 in
set_option maxHeartbeats 8000000 in
open_top hd for PySem.Challenge.rw_ph0054_01
end Mine
end
section
open PySem PySem.W PyProof.Rows
namespace Mine
abbrev Led := List (Addr × Obj)
/-- what a call of the def at f does -/
def Does (w : World) (mean : ExcName → Option Value) (mg mb : Str → Option Value) (f : Addr) (room units : Nat) (news : Led) (vs : List Value) (Out : Value → Led → Prop) : Prop :=
 ∀ (dp un : Nat) (gd : Option (List Code)) (cn : Str) (cs : Scope) (a : Addr) (ccd : Value) (cl : List (Str × Addr)) (outer : List Env) (A₀ : Around) (base h₀ : Heap) (L : Addr) (m : Str → Option Value) (s : Shared) (Q E : Value → Shared → Prop),
   Below A₀ base outer h₀ → Fr h₀ L s.heap m → (Mine.hd.heap_39 w.params).In h₀ → News h₀ L s.heap news → Top Mine.hd.view_39 (looseW Mine.hd.view_39 []) mean mg mb h₀ → cs.kind = .function → dp + room < recursionLimit → un + units < cLine →
   (∀ (r : Value) (tl : Led) (h' : Heap) (tk' : Nat), Fr h₀ L h' m → News h₀ L h' (tl ++ news) → Out r tl → Q r { s with heap := h', toks := tk' }) →
   wpAny (model PySem.Challenge.rw_ph0054_01.row.prog w) (ktrTop dp un gd cn cs L a ccd cl outer) (call (.ref f) vs) Q E s
section
variable {w : World} {mean : ExcName → Option Value} {mg mb : Str → Option Value} {f : Addr} {room units : Nat} {news : Led} {vs : List Value} {Out : Value → Led → Prop}
  {dp un : Nat} {gd : Option (List Code)} {cn : Str} {cs : Scope} {a : Addr} {ccd : Value} {cl : List (Str × Addr)} {outer : List Env} {A₀ : Around} {base h₀ : Heap} {L : Addr} {m : Str → Option Value} {s : Shared} {Q E : Value → Shared → Prop}
theorem Does.use (D : Does w mean mg mb f room units news vs Out)
   (B : Below A₀ base outer h₀) (F : Fr h₀ L s.heap m) (X : (Mine.hd.heap_39 w.params).In h₀) (N : News h₀ L s.heap news) (T : Top Mine.hd.view_39 (looseW Mine.hd.view_39 []) mean mg mb h₀) (hk : cs.kind = .function) (hd : dp + room < recursionLimit) (hu : un + units < cLine)
   (ret : ∀ (r : Value) (tl : Led) (h' : Heap) (tk' : Nat), Fr h₀ L h' m → News h₀ L h' (tl ++ news) → Out r tl → Q r { s with heap := h', toks := tk' }) :
   wpAny (model PySem.Challenge.rw_ph0054_01.row.prog w) (ktrTop dp un gd cn cs L a ccd cl outer) (call (.ref f) vs) Q E s :=
  D dp un gd cn cs a ccd cl outer A₀ base h₀ L m s Q E B F X N T hk hd hu ret
theorem Does.useI {v : Int} (D : Does w mean mg mb f room units news vs (fun r _ => ∃ t, r = .int v t))
   (B : Below A₀ base outer h₀) (F : Fr h₀ L s.heap m) (X : (Mine.hd.heap_39 w.params).In h₀) (N : News h₀ L s.heap news) (T : Top Mine.hd.view_39 (looseW Mine.hd.view_39 []) mean mg mb h₀) (hk : cs.kind = .function) (hd : dp + room < recursionLimit) (hu : un + units < cLine)
   (ret : ∀ (t : Tok) (h' : Heap) (tk' : Nat), Fr h₀ L h' m → News h₀ L h' news → Q (.int v t) { s with heap := h', toks := tk' }) :
   wpAny (model PySem.Challenge.rw_ph0054_01.row.prog w) (ktrTop dp un gd cn cs L a ccd cl outer) (call (.ref f) vs) Q E s :=
  D.use B F X N T hk hd hu fun r tl h' tk' F' N' ⟨t, e⟩ => e ▸ ret t h' tk' F' fun p hp => N' p (List.mem_append.mpr (.inr hp))
end
end Mine
end
section
open PySem PySem.W PyProof.Rows PySem.Calls PySem.Spec
namespace Mine
/-- a tree at which the walk is to stand still -/
def Hold {α : Type} (t : Sem α) : Sem α := t
theorem hold {α : Type} {M : Model} {A : Around} {E : Value → Shared → Prop} {s : Shared} {t : Sem α} {Q : α → Shared → Prop} (h : wpAny M A (Hold t) Q E s) : wpAny M A t Q E s := h
theorem unhold {α : Type} {M : Model} {A : Around} {E : Value → Shared → Prop} {s : Shared} {t : Sem α} {Q : α → Shared → Prop} (h : wpAny M A t Q E s) : wpAny M A (Hold t) Q E s := h
theorem hpure {α : Type} {M : Model} {A : Around} {E : Value → Shared → Prop} {s : Shared} {a : α} {Q : α → Shared → Prop} (h : Q a s) : wpAny M A (Hold (pure a)) Q E s := wpAny_pure h
theorem hjoin {α : Type} {M : Model} {A : Around} {E : Value → Shared → Prop} {s : Shared} {t : Sem α} {Q : α → Shared → Prop} (h : wpAny M A t (fun a s' => wpAny M A (Hold (pure a)) Q E s') E s) : wpAny M A t Q E s :=
  fun Γ p hΓ => Sem.wp_mono M Γ t (fun _ p' _ k => k Γ p' hΓ) (fun _ _ _ k => k) p s (h Γ p hΓ)
theorem hjoinB {M : Model} {A : Around} {E : Value → Shared → Prop} {s : Shared} {t : Sem Bool} {R Z : Shared → Prop} (h : wpAny M A t (fun b s' => if b = true then R s' else wpAny M A (Hold (pure ())) (fun _ s₃ => Z s₃) E s') E s) : wpAny M A t (fun b s' => if b = true then R s' else Z s') E s :=
  fun Γ p hΓ => Sem.wp_mono M Γ t (fun b p' s' k => by
    cases b with
    | true => exact k
    | false =>
      simp only [Bool.false_eq_true, if_false] at k ⊢
      exact k Γ p' hΓ) (fun _ _ _ k => k) p s (h Γ p hΓ)

abbrev Rest (stored : List Str) (u m₀ : Str → Option Value) : Str → Option Value := fun z => if stored.contains z then u z else m₀ z

theorem kst_same {stored : List Str} {u m₀ : Str → Option Value} {z : Str} : ∀ {ps : List (Str × Value)}, (∀ p ∈ ps, z ≠ p.1) → stored.contains z = false → kstB (Rest stored u m₀) ps z = m₀ z
  | [], _, h => by show (if stored.contains z = true then u z else m₀ z) = m₀ z; rw [h]; rfl
  | p :: r, h2, h => by
    show (if z = p.1 then some p.2 else kstB (Rest stored u m₀) r z) = m₀ z
    rw [if_neg (h2 p (.head _))]
    exact kst_same (fun q hq => h2 q (.tail _ hq)) h

theorem same_if {k z : Str} {inst : Decidable (z = k)} {v b r : Option Value} (h : z ≠ k) (h' : b = r) : @ite (Option Value) (z = k) inst v b = r := by rw [if_neg h]; exact h'

theorem same_kst {stored : List Str} {u m₀ : Str → Option Value} {z : Str} {r : Option Value} {ps : List (Str × Value)} (h2 : ∀ p ∈ ps, z ≠ p.1) (h3 : stored.contains z = false) (h' : m₀ z = r) : kstB (Rest stored u m₀) ps z = r := (kst_same h2 h3).trans h'

/-- what a turn may leave on the ledger: what stood there, lists and tuples -/
def OkNew (old : Led) (l : Led) : Prop := ∀ q ∈ l, q.1 ∈ old.map (·.1) ∨ q.2.cls = .type "list" ∨ q.2.cls = .type "tuple"
/-- where a turn ends: the ledger and the names are as c' says -/
def TEnd {σ : Type} (h₀ : Heap) (L : Addr) (s : Shared) (Ld : σ → Led) (ps : σ → List (Str × Value)) (stored : List Str) (m₀ : Str → Option Value) (own : Led) (ok : Led → Prop) (P : σ → Prop) (s₃ : Shared) : Prop :=
  ∃ (c' : σ) (h' : Heap) (tk : Nat) (m' : Str → Option Value) (news' : Led), s₃ = { s with heap := h', toks := tk } ∧ Fr h₀ L h' m' ∧ News h₀ L h' news' ∧ (∀ p ∈ Ld c', p ∈ news') ∧ (∀ p ∈ own, p ∈ news') ∧
    ok (Ld c') ∧ (∀ p ∈ ps c', m' p.1 = some p.2) ∧ (∀ z, (∀ p ∈ ps c', z ≠ p.1) → stored.contains z = false → m' z = m₀ z) ∧ P c'
def TPost {σ : Type} (h₀ : Heap) (L : Addr) (s : Shared) (Ld : σ → Led) (ps : σ → List (Str × Value)) (stored : List Str) (m₀ : Str → Option Value) (own : Led) (ok : Led → Prop) (P : σ → Prop) (Q : Flow → Shared → Prop) (f : Flow) (s₃ : Shared) : Prop :=
  match f with
  | .ret v => Q (.ret v) s₃
  | .brk => Q .next s₃
  | _ => TEnd h₀ L s Ld ps stored m₀ own ok P s₃
theorem tend {σ : Type} {h₀ : Heap} {L : Addr} {s : Shared} {Ld : σ → Led} {ps : σ → List (Str × Value)} {stored : List Str} {m₀ m' : Str → Option Value} {own news' : Led} {ok : Led → Prop} {P : σ → Prop} {h' : Heap} {tk : Nat} (c' : σ)
    (F : Fr h₀ L h' m') (N : News h₀ L h' news') (hn : ∀ p ∈ Ld c', p ∈ news') (ho : ∀ p ∈ own, p ∈ news') (ha : ok (Ld c')) (hk : ∀ p ∈ ps c', m' p.1 = some p.2)
    (hr : ∀ z, (∀ p ∈ ps c', z ≠ p.1) → stored.contains z = false → m' z = m₀ z) (hp : P c') : TEnd h₀ L s Ld ps stored m₀ own ok P { s with heap := h', toks := tk } :=
  ⟨c', h', tk, m', news', rfl, F, N, hn, ho, ha, hk, hr, hp⟩

theorem tnext {σ : Type} {h₀ : Heap} {L : Addr} {s s₃ : Shared} {Ld : σ → Led} {ps : σ → List (Str × Value)} {stored : List Str} {m₀ : Str → Option Value} {own : Led} {ok : Led → Prop} {P : σ → Prop} {Q : Flow → Shared → Prop}
    (h : TEnd h₀ L s Ld ps stored m₀ own ok P s₃) : TPost h₀ L s Ld ps stored m₀ own ok P Q .next s₃ := h
section
variable {prog : Program} {w : World} {A : Around} {E : Value → Shared → Prop} {Q : Flow → Shared → Prop} {s : Shared} {env : Env} {h₀ : Heap} {L : Addr}

/-- a while by an invariant over a state c; Z is what holds where it is left -/
theorem whileK {σ : Type} {test : Expr} {body : List Stmt} {pos : Pos} {m₀ : Str → Option Value} {news₀ : Led} (Ld : σ → Led) (ps : σ → List (Str × Value)) (stored : List Str) (P : σ → Prop) (μ : σ → Nat) (Z : σ → Prop) (c₀ : σ)
    (F : Fr h₀ L s.heap m₀) (N : News h₀ L s.heap news₀) (hn : ∀ p ∈ Ld c₀, p ∈ news₀) (hk : ∀ p ∈ ps c₀, m₀ p.1 = some p.2) (hp : P c₀)
    (turn : ∀ (c : σ) (u : Str → Option Value) h tk, P c → Fr h₀ L h (kstB (Rest stored u m₀) (ps c)) → News h₀ L h (Ld c) →
      wpAny (model prog w) A (isTrue test env (eval test env)) (fun b s₂ =>
        if b = true then wpAny (model prog w) A (execs body env) (fun f s₃ => wpAny (model prog w) A (Hold (pure f)) (TPost h₀ L s Ld ps stored m₀ [] (fun _ => True) (fun c' => P c' ∧ μ c' < μ c) Q) E s₃) E s₂
        else wpAny (model prog w) A (Hold (pure ())) (fun _ s₃ => TEnd h₀ L s Ld ps stored m₀ [] (fun _ => True) (fun c' => Z c') s₃) E s₂) E { s with heap := h, toks := tk })
    (rest : ∀ (c : σ) (u : Str → Option Value) h tk, Z c → Fr h₀ L h (kstB (Rest stored u m₀) (ps c)) → News h₀ L h (Ld c) → Q .next { s with heap := h, toks := tk })
    (hE : PassesOwn (model prog w) A env E := by passes_own) :
    wpAny (model prog w) A (exec (.While test body [] pos) env) Q E s := by
  refine While_inv2 (fun n m nx => ∃ c : σ, nx = Ld c ∧ μ c = n ∧ (∀ p ∈ ps c, m p.1 = some p.2) ∧ (∀ z, (∀ p ∈ ps c, z ≠ p.1) → stored.contains z = false → m z = m₀ z) ∧ P c) F (fun p hp => N p (hn p hp)) ⟨c₀, rfl, rfl, hk, fun _ _ _ => rfl, hp⟩ ?_ hE
  rintro n m₁ nx h tk F₁ N₁ ⟨c, hnx, hsz, h1, h2, hp'⟩
  rw [hnx] at N₁
  rw [← hsz]
  refine wpAny_mono (hjoinB (turn c m₁ h tk hp' (ksw_fr h1 h2 F₁) N₁)) (fun b s₂ p => ?_) fun _ _ x => x
  cases b with
  | false =>
    simp only [Bool.false_eq_true, if_false] at p ⊢
    obtain ⟨c', h', tk', m', news', rfl, F', N', hn, _, _, hk9, hr9, hz⟩ := p
    exact rest c' m' h' tk' hz (ksw_fr hk9 hr9 F') (fun p hp => N' p (hn p hp))
  | true =>
    simp only [if_true] at p ⊢
    refine wpAny_mono (hjoin p) (fun f s₃ q => ?_) fun _ _ x => x
    cases f with
    | ret v => exact q
    | brk => exact q
    | next =>
      obtain ⟨c', h', tk', m', news', rfl, F', N', hn, _, _, hk9, hr9, hp9, hm9⟩ := q
      exact ⟨h', tk', m', Ld c', μ c', rfl, F', fun p hp => N' p (hn p hp), hm9, c', rfl, rfl, hk9, hr9, hp9⟩
    | cont =>
      obtain ⟨c', h', tk', m', news', rfl, F', N', hn, _, _, hk9, hr9, hp9, hm9⟩ := q
      exact ⟨h', tk', m', Ld c', μ c', rfl, F', fun p hp => N' p (hn p hp), hm9, c', rfl, rfl, hk9, hr9, hp9⟩

/-- a for over a range by ones, its target a name -/
theorem forR {σ : Type} {x : Str} {body : List Stmt} {r : Addr} {b₀ : Int} {t₀ u₀ v₀ : Tok} {n : Nat} {m₀ : Str → Option Value} {news₀ : Led} (Ld : σ → Led) (ps : σ → List (Str × Value)) (stored : List Str) (P : Nat → σ → Prop) (c₀ : σ)
    (hL : env.locals = L) (hh : A.handled = none) (hr : IsRange s.heap r 0 b₀ 1 t₀ u₀ v₀) (hsmall : Builtin.Range.small 0 b₀ 1 = true) (hn : Builtin.Range.rangeSize 0 b₀ 1 = (n : Int)) (hx : stored.contains x = true)
    (F : Fr h₀ L s.heap m₀) (N : News h₀ L s.heap news₀) (hl : ∀ p ∈ Ld c₀, p ∈ news₀) (hk : ∀ p ∈ ps c₀, m₀ p.1 = some p.2) (hp : P 0 c₀)
    (turn : ∀ (c : σ) (i : Nat) t (u : Str → Option Value) h tk (own : Led), i < n → P i c → OwnOff own ((Ld c).map (·.1)) →
      Fr h₀ L h (fun y => if y = x then some (.int (i : Int) t) else kstB (Rest stored u m₀) (ps c) y) → News h₀ L h (Ld c ++ own) →
      wpAny (model prog w) A (execs body env) (fun f s₃ => wpAny (model prog w) A (Hold (pure f)) (TPost h₀ L s Ld ps stored m₀ own (OkNew (Ld c)) (P (i + 1)) Q) E s₃) E { s with heap := h, toks := tk })
    (done : ∀ (c : σ) (u : Str → Option Value) h tk, P n c → Fr h₀ L h (kstB (Rest stored u m₀) (ps c)) → News h₀ L h (Ld c) → Q .next { s with heap := h, toks := tk }) :
    wpAny (model prog w) A (pyIter (.ref r)) (fun it s₂ => LoopAtV prog w A h₀ env x body Q E it s₂) E s := by
  subst hL
  refine wpAny_pyIter_range hr hsmall ?_
  have W : Walks prog w A s.heap.objs.size [s.heap.objs.size] [s.heap.objs.size] n (fun i v => i < n ∧ ∃ t, v = .int ((0 : Int) + i * 1) t)
      (fun i h => IsRangeIter h s.heap.objs.size ((0 : Int) + (i : Nat) * 1) ((n : Int) - (i : Nat)) 1) := (Walks.range hh _ 0 1 n).bound
  let J : Nat → (Str → Option Value) → Led → Prop := fun i m nx => ∃ c : σ, nx = Ld c ∧ (∀ p ∈ ps c, m p.1 = some p.2) ∧ (∀ z, (∀ p ∈ ps c, z ≠ p.1) → stored.contains z = false → m z = m₀ z) ∧ P i c
  refine ⟨s.heap.objs.size, _, _, n, _, _, m₀, Ld c₀, J, rfl, W, ?_, ?_, ?_, (by show IsRangeIter _ _ _ _ _; rw [hn]; simpa using Heap.get?_push_size _ rfl), F.push _, (fun p hp => ⟨Heap.get?_push_of_some _ (N p (hl p hp)).1, (N p (hl p hp)).2⟩), ⟨c₀, rfl, hk, fun _ _ _ => rfl, hp⟩, ?_, ?_⟩
  · intro hm
    exact absurd F.ns.lt ((List.mem_singleton.mp hm) ▸ Nat.lt_irrefl _)
  · intro b hb
    rw [List.mem_singleton.mp hb]
    exact next_is_new F
  · intro p hp hI
    exact absurd (Heap.lt_size (N p (hl p hp)).1) ((List.mem_singleton.mp hI) ▸ Nat.lt_irrefl _)
  · rintro i v m₁ news₁ s₁ own ⟨hh', tk', rfl⟩ hin ⟨_, t, rfl⟩ ⟨c, rfl, h1, h2, hP⟩ hoff hown _ hfp hst F₁ N₁
    have e1 : (0 : Int) + (i : Int) * 1 = (i : Int) := by omega
    rw [e1] at F₁
    have hI0 : h₀.get? s.heap.objs.size = none := next_is_new F
    have hst' : ({ s with heap := hh', toks := tk' } : Shared).heap.get? s.heap.objs.size = some _ := hst
    have hIown := hfp _ (List.mem_singleton.mpr rfl) hI0 _ hst'
    have hsep : OwnOff own ((Ld c).map (·.1)) := by
      intro p hp b hb e
      obtain ⟨q, hq, rfl⟩ := List.mem_map.mp hb
      exact hoff q hq (List.mem_singleton.mpr (e ▸ List.mem_singleton.mp (hown p hp)))
    have N₂ : News h₀ env.locals hh' (Ld c ++ own) := fun p hp => N₁ p ((List.mem_append.mp hp).elim (fun h => List.mem_append.mpr (.inr h)) fun h => List.mem_append.mpr (.inl h))
    have em : (fun y => if y = x then some (Value.int (i : Int) t) else m₁ y) = fun y => if y = x then some (Value.int (i : Int) t) else kstB (Rest stored m₁ m₀) (ps c) y := by
      funext y
      by_cases hy : y = x
      · rw [if_pos hy, if_pos hy]
      · rw [if_neg hy, if_neg hy]
        refine (kstB_eq h1 fun hn => ?_).symm
        show (if stored.contains y = true then m₁ y else m₀ y) = m₁ y
        cases h3 : stored.contains y with
        | true => simp
        | false => simp only [Bool.false_eq_true, if_false]; exact (h2 y hn h3).symm
    rw [em] at F₁
    refine wpAny_mono (hjoin (turn c i t m₁ hh' tk' own hin hP hsep F₁ N₂)) (fun f s₂ p => ?_) fun _ _ e => e
    have fin : TEnd h₀ env.locals s Ld ps stored m₀ own (OkNew (Ld c)) (P (i + 1)) s₂ → LoopStepU h₀ env.locals [s.heap.objs.size] own (J (i + 1)) { s with heap := hh', toks := tk' } .next s₂ := by
      rintro ⟨c', h', tk, m', news', rfl, F', N', hn', ho, ha, hk9, hr9, hp9⟩
      refine ⟨rfl, h', tk, m', Ld c', rfl, F', fun p hp => N' p ((List.mem_append.mp hp).elim (ho p) (hn' p)), fun p hp hq => ?_, c', rfl, hk9, hr9, hp9⟩
      have hq' : p.1 = s.heap.objs.size := List.mem_singleton.mp hq
      rcases ha p hp with h3 | h3
      · exact hsep _ hIown _ h3 hq'.symm
      · have h4 := (N' _ (ho _ hIown)).1
        have h5 := (N' _ (hn' _ hp)).1
        rw [hq'] at h5
        have h6 := Option.some.inj (h4.symm.trans h5)
        rw [← h6] at h3
        dsimp only at h3
        revert h3
        decide
    cases f with
    | ret v => exact .ret p
    | brk => exact .brk p
    | next => exact .next (fin p)
    | cont => exact .cont (fin p)
  · rintro h' tk m' news' F' N' _ ⟨c, rfl, h1, h2, hP⟩
    exact done c m' h' tk hP (ksw_fr h1 h2 F') N'

/-- a for over a list of the ledger, any target -/
theorem forL {σ : Type} {target : Expr} {body : List Stmt} {l : Addr} {vs : List Value} {nn : Nat} {m₀ : Str → Option Value} {news₀ : Led} (Ld : σ → Led) (ps : σ → List (Str × Value)) (stored : List Str) (P : Nat → σ → Prop) (c₀ : σ)
    (hL : env.locals = L) (hh : A.handled = none) (hlist : ∀ c, (l, listOf vs.toArray nn) ∈ Ld c)
    (F : Fr h₀ L s.heap m₀) (N : News h₀ L s.heap news₀) (hl : ∀ p ∈ Ld c₀, p ∈ news₀) (hk : ∀ p ∈ ps c₀, m₀ p.1 = some p.2) (hp : P 0 c₀)
    (turn : ∀ (c : σ) (i : Nat) (v : Value) (u : Str → Option Value) h tk (own : Led), vs[i]? = some v → P i c → OwnOff own ((Ld c).map (·.1)) →
      Fr h₀ L h (kstB (Rest stored u m₀) (ps c)) → News h₀ L h (Ld c ++ own) →
      wpAny (model prog w) A (assign target env v) (fun _ s₂ => wpAny (model prog w) A (execs body env) (fun f s₃ => wpAny (model prog w) A (Hold (pure f)) (TPost h₀ L s Ld ps stored m₀ own (OkNew (Ld c)) (P (i + 1)) Q) E s₃) E s₂) E { s with heap := h, toks := tk })
    (done : ∀ (c : σ) (u : Str → Option Value) h tk, P vs.length c → Fr h₀ L h (kstB (Rest stored u m₀) (ps c)) → News h₀ L h (Ld c) → Q .next { s with heap := h, toks := tk }) :
    wpAny (model prog w) A (pyIter (.ref l)) (fun it s₂ => TurnsAt prog w A h₀ env target body Q E it s₂) E s := by
  subst hL
  have hol : s.heap.get? l = some (listOf vs.toArray nn) := (N _ (hl _ (hlist c₀))).1
  have hls : s.heap.IsList l vs.toArray := ⟨_, hol, rfl, nn, rfl⟩
  have hne : l ≠ s.heap.objs.size := Nat.ne_of_lt (Heap.lt_size hol)
  refine wpAny_pyIter_list hls ?_
  have W := KTurns.ofWalks (target := target) (Walks.list (prog := prog) (w := w) hh s.heap.objs.size l hne vs.toArray) fun i v s Q E st q => letGo_listiter st.1 q
  have hlen : vs.toArray.size = vs.length := by simp
  rw [hlen] at W
  let J : Nat → (Str → Option Value) → Led → Prop := fun i m nx => ∃ c : σ, nx = Ld c ∧ (∀ p ∈ ps c, m p.1 = some p.2) ∧ (∀ z, (∀ p ∈ ps c, z ≠ p.1) → stored.contains z = false → m z = m₀ z) ∧ P i c
  refine ⟨s.heap.objs.size, _, _, vs.length, _, _, _, m₀, Ld c₀, J, rfl, W, ?_, ?_, ?_, ⟨⟨_, Heap.get?_push_size _ rfl, rfl, rfl⟩, hls.at fun o e => Heap.get?_push_of_some _ e⟩, F.push _, (fun p hp => ⟨Heap.get?_push_of_some _ (N p (hl p hp)).1, (N p (hl p hp)).2⟩), ⟨c₀, rfl, hk, fun _ _ _ => rfl, hp⟩, ?_, ?_⟩
  · intro hm
    rcases List.mem_cons.mp hm with e | hm
    · exact absurd F.ns.lt (e ▸ Nat.lt_irrefl _)
    · exact (N _ (hl _ (hlist c₀))).2.1 ((List.mem_singleton.mp hm).symm)
  · intro b hb
    rw [List.mem_singleton.mp hb]
    exact next_is_new F
  · intro p hp hI
    exact absurd (Heap.lt_size (N p (hl p hp)).1) ((List.mem_singleton.mp hI) ▸ Nat.lt_irrefl _)
  · rintro i v m₁ news₁ hh' tk' own hin hPv ⟨c, rfl, h1, h2, hP⟩ hoff hown hget hfp hst F₁ N₁
    have hI0 : h₀.get? s.heap.objs.size = none := next_is_new F
    obtain ⟨⟨oI, hoI, hoc, _⟩, _⟩ := id hst
    have hIown : (s.heap.objs.size, oI) ∈ own := hfp _ (List.mem_cons.mpr (.inl rfl)) hI0 _ hoI
    have hv : vs[i]? = some v := by simpa using hPv
    have hlo : hh'.get? l = some (listOf vs.toArray nn) := (N₁ _ (List.mem_append.mpr (.inr (hlist c)))).1
    have hsep : OwnOff [(s.heap.objs.size, oI)] ((Ld c).map (·.1)) := by
      intro p hp b hb e
      obtain ⟨q, hq, rfl⟩ := List.mem_map.mp hb
      rw [List.mem_singleton.mp hp] at e
      exact hoff q hq (List.mem_singleton.mpr e.symm)
    have N₂ : News h₀ env.locals hh' (Ld c ++ [(s.heap.objs.size, oI)]) := fun p hp => N₁ p ((List.mem_append.mp hp).elim (fun h => List.mem_append.mpr (.inr h)) fun h => List.mem_append.mpr (.inl (by rw [List.mem_singleton.mp h]; exact hIown)))
    refine wpAny_mono (turn c i v m₁ hh' tk' _ hv hP hsep (ksw_fr h1 h2 F₁) N₂) (fun _ s₂ q => wpAny_mono (hjoin q) (fun f s₂ p => ?_) fun _ _ e => e) fun _ _ e => e
    have fin : TEnd h₀ env.locals s Ld ps stored m₀ [(s.heap.objs.size, oI)] (OkNew (Ld c)) (P (i + 1)) s₂ → LoopStepU h₀ env.locals [s.heap.objs.size] own (J (i + 1)) { s with heap := hh', toks := tk' } .next s₂ := by
      rintro ⟨c', h', tk, m', news', rfl, F', N', hn', ho, ha, hk9, hr9, hp9⟩
      refine ⟨rfl, h', tk, m', Ld c', rfl, F', fun p hp => ?_, fun p hp hq => ?_, c', rfl, hk9, hr9, hp9⟩
      · rcases List.mem_append.mp hp with h | h
        · obtain ⟨pa, po⟩ := p
          have hg := hget _ h
          rcases List.mem_cons.mp (hown _ h) with e | e
          · have e' : pa = s.heap.objs.size := e
            subst e'
            have : oI = po := Option.some.inj (hoI.symm.trans hg)
            subst this
            exact N' _ (ho _ (List.mem_singleton.mpr rfl))
          · have e' : pa = l := List.mem_singleton.mp e
            subst e'
            have : listOf vs.toArray nn = po := Option.some.inj (hlo.symm.trans hg)
            subst this
            exact N' _ (hn' _ (hlist c'))
        · exact N' p (hn' p h)
      · have hq' : p.1 = s.heap.objs.size := List.mem_singleton.mp hq
        rcases ha p hp with h3 | h3
        · exact hsep _ (List.mem_singleton.mpr rfl) _ h3 hq'.symm
        · have h4 := (N' _ (ho _ (List.mem_singleton.mpr rfl))).1
          have h5 := (N' _ (hn' _ hp)).1
          rw [hq'] at h5
          have h6 := Option.some.inj (h4.symm.trans h5)
          rw [← h6] at h3
          dsimp only at h3
          rw [hoc] at h3
          revert h3
          decide
    cases f with
    | ret v => exact .ret p
    | brk => exact .brk p
    | next => exact .next (fin p)
    | cont => exact .cont (fin p)
  · rintro h' tk m' news' F' N' _ ⟨c, rfl, h1, h2, hP⟩
    exact done c m' h' tk hP (ksw_fr h1 h2 F') N'

theorem fr_kept {h h' : Heap} {m : Str → Option Value} (F : Fr h₀ L h m) (hk : ∀ b o, h.get? b = some o → h'.get? b = some o) : Fr h₀ L h' m := ⟨F.ns.at' fun o e => hk _ o e, fun b o e => hk b o (F.keep b o e), F.above⟩
theorem news_kept {h h' : Heap} {news : Led} (N : News h₀ L h news) (hk : ∀ b o, h.get? b = some o → h'.get? b = some o) : News h₀ L h' news := fun p hp => ⟨hk _ _ (N p hp).1, (N p hp).2⟩
/-- min of a list of ints that lies on the ledger -/
theorem min_led {m : Str → Option Value} {news : Led} {l : Addr} {vs : List Value} {ns : List Int} {nn : Nat} {Q : Value → Shared → Prop} (hh : A.handled = none) (F : Fr h₀ L s.heap m) (N : News h₀ L s.heap news) (hl : (l, listOf vs.toArray nn) ∈ news) (hi : IntsAre vs ns) (hne : 0 < ns.length)
    (h : ∀ M t h' tk, Fr h₀ L h' m → News h₀ L h' news → M ∈ ns → (∀ a ∈ ns, M ≤ a) → Q (.int M t) { s with heap := h', toks := tk }) : wpAny (model prog w) A (call (.builtin "min") [.ref l]) Q E s := by
  have hall : AllInts vs.toArray := hi.allInts
  have hn : numsOf vs.toArray.toList = ns := by rw [show vs.toArray.toList = vs from rfl, hi.numsOf]
  have hL : s.heap.IsList l vs.toArray := ⟨_, (N _ hl).1, rfl, nn, rfl⟩
  have hsz' : 0 < vs.toArray.size := by simpa [hi.length] using hne
  generalize vs.toArray = items at hall hn hL hsz'
  obtain ⟨xs, rfl⟩ := hall.items
  rw [nums_intItems] at hn
  subst hn
  have hsz : 0 < xs.size := by simpa [intItems] using hsz'
  refine min_intList hh hL hsz fun v h' tk hv hk => ?_
  obtain ⟨t, rfl⟩ := intItems_at hv
  obtain ⟨h1, h2⟩ := argBest_lt (numAt xs) (xs.size - 1)
  refine h _ t h' tk (fr_kept F hk) (news_kept N hk) ?_ fun a ha => ?_
  · rw [numAt_eq]; exact getD_mem (by rw [List.length_map, Array.length_toList]; omega)
  · obtain ⟨j, hj, rfl⟩ := mem_getD ha
    rw [List.length_map, Array.length_toList] at hj
    rw [← numAt_eq]; exact h2 j (by omega)
theorem len_led {news : Led} {l : Addr} {vs : List Value} {ns : List Int} {nn : Nat} {k : Int} {Q : Value → Shared → Prop} (N : News h₀ L s.heap news) (hl : (l, listOf vs.toArray nn) ∈ news) (hi : IntsAre vs ns) (hn : (ns.length : Int) = k) (hf : k < 1000000)
    (h : ∀ t tk, Q (.int k t) { s with toks := tk }) : wpAny (model prog w) A (call (.builtin "len") [.ref l]) Q E s := by
  have hz : vs.toArray.size = ns.length := by rw [List.size_toArray, hi.length]
  refine call_len_list (items := vs.toArray) ⟨_, (N _ hl).1, rfl, nn, rfl⟩ (by rw [hz]; omega) ?_
  rw [hz, hn]
  exact h _ _
theorem len_ledT {news : Led} {l : Addr} {vs : List Value} {nn : Nat} {k : Int} {Q : Value → Shared → Prop} (N : News h₀ L s.heap news) (hl : (l, listOf vs.toArray nn) ∈ news) (hn : (vs.length : Int) = k) (hf : k < 1000000)
    (h : ∀ t tk, Q (.int k t) { s with toks := tk }) : wpAny (model prog w) A (call (.builtin "len") [.ref l]) Q E s := by
  have hz : vs.toArray.size = vs.length := by rw [List.size_toArray]
  refine call_len_list (items := vs.toArray) ⟨_, (N _ hl).1, rfl, nn, rfl⟩ (by rw [hz]; omega) ?_
  rw [hz, hn]
  exact h _ _
theorem item_led {value slice : Expr} {news : Led} {l : Addr} {vs : List Value} {ns : List Int} {nn : Nat} {k : Int} {u : Tok} {Q : Value → Shared → Prop} (N : News h₀ L s.heap news) (hl : (l, listOf vs.toArray nn) ∈ news) (hi : IntsAre vs ns)
    (h0 : 0 ≤ k) (h1 : k < ns.length) (hf : k < 1000000) (h : ∀ t, Q (.int (ns.getD k.toNat 0) t) s)
    (hs : subscripted slice false (.ref l) (.int k u) = operate [.ref l, .int k u] (getItem (.ref l) (.int k u)) := by with_unfolding_all rfl) :
    wpAny (model prog w) A (subscriptTail value slice (.ref l) (.int k u)) Q E s :=
  item_list_intsT (vs := vs) ⟨_, (N _ hl).1, rfl, nn, rfl⟩ hi h0 h1 (by omega) h hs
theorem add_led {m : Str → Option Value} {news : Led} {l b : Addr} {vs ws : List Value} {n1 n2 : Nat} {Q : Value → Shared → Prop} (F : Fr h₀ L s.heap m) (N : News h₀ L s.heap news) (hl : (l, listOf vs.toArray n1) ∈ news) (hb : (b, listOf ws.toArray n2) ∈ news)
    (hz : vs.length + ws.length < 1000000)
    (h : ∀ d h', (∀ p ∈ news, p.1 < d) → Fr h₀ L h' m → News h₀ L h' ((d, listOf (vs ++ ws).toArray 0) :: news) → Q (.ref d) { s with heap := h' }) :
    wpAny (model prog w) A (binaryOp .Add (.ref l) (.ref b)) Q E s :=
  add_arrays F N (its := vs.toArray) (its2 := ws.toArray) ⟨_, (N _ hl).1, rfl, n1, rfl⟩ ⟨_, (N _ hb).1, rfl, n2, rfl⟩ (fun h' F' N' => h _ h' (fun p hp => Heap.lt_size (N p hp).1) F' N') (by rw [List.size_toArray, List.size_toArray, sizeLine_eq]; omega)
/-- the ways through a statement that sets one int meet again -/
theorem cutF {t : Sem Flow} {m : Str → Option Value} {led : Led} (x : Str) (v : Int) (F : Fr h₀ L s.heap m) (N : News h₀ L s.heap led)
    (h1 : wpAny (model prog w) A t (fun f s' => wpAny (model prog w) A (Hold (pure f)) (fun f s'' => f = .next ∧ ∃ h tk m' tv, s'' = { s with heap := h, toks := tk } ∧ Fr h₀ L h m' ∧ News h₀ L h led ∧ m' x = some (.int v tv) ∧ ∀ z, z ≠ x → m' z = m z) E s') E s)
    (h2 : ∀ h tk tv, Fr h₀ L h (fun z => if z = x then some (.int v tv) else m z) → News h₀ L h led → Q .next { s with heap := h, toks := tk }) : wpAny (model prog w) A t Q E s := by
  refine wpAny_mono (hjoin h1) (fun f s' q => ?_) fun _ _ h => h
  obtain ⟨rfl, h, tk, m', tv, rfl, F', N', hx, hz⟩ := q
  refine h2 h tk tv ?_ N'
  have e : (fun z => if z = x then some (Value.int v tv) else m z) = m' := by
    funext z
    by_cases hzx : z = x
    · rw [if_pos hzx, hzx, hx]
    · rw [if_neg hzx, hz z hzx]
  rw [e]
  exact F'
theorem cutE {s' : Shared} {m m' : Str → Option Value} {led : Led} {x : Str} {v v' : Int} {h : Heap} {tk : Nat} {tv : Tok} (F : Fr h₀ L h m') (N : News h₀ L h led) (hx : m' x = some (.int v' tv)) (hv : v' = v) (hz : ∀ z, z ≠ x → m' z = m z) :
    Flow.next = .next ∧ ∃ h₁ tk₁ m' tv, ({ s' with heap := h, toks := tk } : Shared) = { s' with heap := h₁, toks := tk₁ } ∧ Fr h₀ L h₁ m' ∧ News h₀ L h₁ led ∧ m' x = some (.int v tv) ∧ ∀ z, z ≠ x → m' z = m z := ⟨rfl, h, tk, m', tv, rfl, F, N, hv ▸ hx, hz⟩
theorem nameObj {h : Heap} {x : Addr × Obj} {a : Addr} {o : Obj} {r : Led} {C : Prop} (N : News h₀ L h (x :: (a, o) :: r)) (k : ∀ o', o' = o → News h₀ L h (x :: (a, o') :: r) → C) : C := k o rfl N
theorem nameTail {h : Heap} {x y : Addr × Obj} {r : Led} {C : Prop} (N : News h₀ L h (x :: y :: r)) (k : ∀ r', r' = r → News h₀ L h (x :: y :: r') → C) : C := k r rfl N
def CPost {σ : Type} (h₀ : Heap) (L : Addr) (s : Shared) (led : Led) (ps : σ → List (Str × Value)) (m : Str → Option Value) (Z : σ → Prop) (Q : Flow → Shared → Prop) (f : Flow) (s' : Shared) : Prop :=
  match f with
  | .next => TEnd h₀ L s (fun _ : σ => led) ps [] m [] (fun _ => True) Z s'
  | f => Q f s'
theorem cnext {σ : Type} {s s' : Shared} {led : Led} {ps : σ → List (Str × Value)} {m : Str → Option Value} {Z : σ → Prop} {Q : Flow → Shared → Prop} (h : TEnd h₀ L s (fun _ : σ => led) ps [] m [] (fun _ => True) Z s') : CPost h₀ L s led ps m Z Q .next s' := h
theorem cret {σ : Type} {s s' : Shared} {v : Value} {led : Led} {ps : σ → List (Str × Value)} {m : Str → Option Value} {Z : σ → Prop} {Q : Flow → Shared → Prop} (h : Q (.ret v) s') : CPost h₀ L s led ps m Z Q (.ret v) s' := h
/-- the ways through a statement meet again, by what holds behind it -/
theorem cutK {σ : Type} {t : Sem Flow} {m : Str → Option Value} {led : Led} (ps : σ → List (Str × Value)) (Z : σ → Prop) (_F : Fr h₀ L s.heap m) (_N : News h₀ L s.heap led)
    (h1 : wpAny (model prog w) A t (fun f s' => wpAny (model prog w) A (Hold (pure f)) (CPost h₀ L s led ps m Z Q) E s') E s)
    (h2 : ∀ (c : σ) (u : Str → Option Value) h tk, Z c → Fr h₀ L h (kstB (Rest [] u m) (ps c)) → News h₀ L h led → Q .next { s with heap := h, toks := tk }) : wpAny (model prog w) A t Q E s := by
  refine wpAny_mono (hjoin h1) (fun f s' q => ?_) fun _ _ h => h
  cases f with
  | ret v => exact q
  | brk => exact q
  | next =>
    obtain ⟨c, h', tk, m', news', rfl, F', N', hn, _, _, hk, hr, hz⟩ := q
    exact h2 c m' h' tk hz (ksw_fr hk hr F') fun p hp => N' p (hn p hp)
  | cont => exact q
theorem list_range_led {m : Str → Option Value} {news : Led} {Q : Value → Shared → Prop} {r : Addr} {a b c : Int} {t u v : Tok} {n : Nat} (hh : A.handled = none) (F : Fr h₀ L s.heap m) (N : News h₀ L s.heap news) (hr : IsRange s.heap r a b c t u v) (hsmall : Builtin.Range.small a b c = true) (hn : Builtin.Range.rangeSize a b c = (n : Int)) (hlen : n ≤ 2 ^ 24)
    (h : ∀ d h' tk (ys : List Value) nn, (∀ p ∈ news, p.1 < d) → Fr h₀ L h' m → News h₀ L h' ((d, listOf ys.toArray nn) :: news) → IntsAre ys (rangeInts a c n) → Q (.ref d) { s with heap := h', toks := tk }) :
    wpAny (model prog w) A (call (.type "list") [.ref r]) Q E s := by
  refine list_rangeD hh F N hr hsmall hn hlen fun h' tk ys F' N' hk hnew hL hP hC => ?_
  have hP' := hP
  obtain ⟨⟨nn, e⟩, _⟩ := hP
  exact h _ h' tk ys nn (fun p hp => Heap.lt_size (N p hp).1) F' (List.forall_mem_cons.mpr ⟨⟨e, hP'.ne_locals F', hnew⟩, N'⟩) (IntsAre.ofCarried hC)
theorem nameInts {h : Heap} {l : Addr} {vs : List Value} {ns : List Int} {cap : Nat} {r : Led} {C : Prop} (N : News h₀ L h ((l, listOf vs.toArray cap) :: r)) (hI : IntsAre vs ns) (k : ∀ vs', News h₀ L h ((l, listOf vs'.toArray cap) :: r) → IntsAre vs' ns → C) : C := k vs N hI
/-- a slice with a step of a list of ints: a new list of ints -/
theorem slice3_ints {m : Str → Option Value} {news : Led} {l : Addr} {vs : List Value} {ns : List Int} {value slice : Expr} {vl vu vk : Value} {lo hi st : Option Int} {ops : List Value} {Q : Value → Shared → Prop} (F : Fr h₀ L s.heap m) (N : News h₀ L s.heap news) (hl : s.heap.IsList l vs.toArray) (pl : IsPart vl lo) (pu : IsPart vu hi) (pk : IsPart vk st) (h0 : st ≠ some 0) (hi' : IntsAre vs ns)
    (h : ∀ D ws h', Fr h₀ L h' m → News h₀ L h' ((D, listOf (List.toArray ws) 0) :: news) → (∀ p ∈ news, p.1 < D) → IntsAre ws (pickNums ns lo hi st) → Q (.ref D) { s with heap := h' })
    (hs : subscripted slice false (.ref l) (.ref s.heap.objs.size) = operate ops (getItem (.ref l) (.ref s.heap.objs.size))) (ht : ∀ r, letTemporaryGo value (.ref l) r = pure ()) (hz : vs.toArray.size ≤ sizeLine) :
    wpAny (model prog w) A (subscriptTail value slice (.ref l) (.ref s.heap.objs.size)) Q E { s with heap := s.heap.push { cls := .type "slice", data := .fields #[vl, vu, vk] } } :=
  kmk_slice3_lit F N hl pl pu pk h0 rfl (fun D h' F' N' l1 => h D _ h' F' N' l1 (hi'.pick lo hi st)) hs ht hz
theorem pick_len (ns : List Int) (a b : Nat) : (pickNums ns (some (a : Int)) (some (b : Int)) (some 2)).length ≤ (b - a + 1) / 2 := by
  unfold pickNums
  refine Nat.le_trans (List.length_filterMap_le _ _) ?_
  unfold sliceRange sliceBounds
  simp only [Option.getD_some, List.length_map, List.length_range, show (2 : Int) > 0 by decide, if_true]
  split <;> split <;> (try split) <;> omega
theorem holdSlB {t : List Expr} {v : Expr} {op : BoolOp} {es : List Expr} {lo st : Option Expr} {p1 p2 p3 p4 : Pos} (h : wpAny (model prog w) A (Hold (exec (.Assign t (.Subscript v (.Slice lo (some (.BoolOp op es p1)) st p2) p3) p4) env)) Q E s) : wpAny (model prog w) A (exec (.Assign t (.Subscript v (.Slice lo (some (.BoolOp op es p1)) st p2) p3) p4) env) Q E s := h
theorem holdSwap {c : Expr} {es : List Expr} {k : Nat} {v : Expr} {o : List Stmt} {p1 p2 p3 : Pos} (h : wpAny (model prog w) A (Hold (exec (.If c [.Assign [.Tuple es k p1] v p2] o p3) env)) Q E s) : wpAny (model prog w) A (exec (.If c [.Assign [.Tuple es k p1] v p2] o p3) env) Q E s := h
theorem holdPost {op : Operator} {v : Expr} {p1 p2 : Pos} (h : wpAny (model prog w) A (Hold (execs [.AugAssign (.Name (Str.ofString "post") p1) op v p2] env)) Q E s) : wpAny (model prog w) A (execs [.AugAssign (.Name (Str.ofString "post") p1) op v p2] env) Q E s := h
theorem holdPrice {c v : Expr} {o : List Stmt} {p1 p2 p3 : Pos} (h : wpAny (model prog w) A (Hold (exec (.If c [.Assign [.Name (Str.ofString "price") p1] v p2] o p3) env)) Q E s) : wpAny (model prog w) A (exec (.If c [.Assign [.Name (Str.ofString "price") p1] v p2] o p3) env) Q E s := h
end
end Mine
end
section
open PySem PySem.W PyProof.Rows PySem.Calls
namespace Mine
def cst (x y : Nat) : Int := if x = y then 0 else if lo1 x = lo1 y then 1 else 2
theorem cst_is {x y : Str} {c d : Nat} (hx : x = ⟨#[c]⟩) (hy : y = ⟨#[d]⟩) (hc : c < 128) (hd : d < 128) :
    cst c d = if (x == y) = true then 0 else if (Txt.lower x == Txt.lower y) = true then 1 else 2 := by
  subst hx hy
  rw [lower_ascii (by simpa using hc), lower_ascii (by simpa using hd)]
  unfold cst
  simp
set_option maxRecDepth 100000 in
set_option maxHeartbeats 8000000 in
theorem sub_cost {w mean mg mb news} (x y : Str) (tx ty : Tok) (c d : Nat) (hx : x = ⟨#[c]⟩) (hy : y = ⟨#[d]⟩) (hc : c < 128) (hd : d < 128) : Does w mean mg mb 28 1 8 news [.str x tx, .str y ty] (fun r tl => ∃ t, r = .int (cst c d) t) := by
  have hv := cst_is hx hy hc hd
  have hxl : x.length ≤ 1 := by subst hx; exact Nat.le_refl _
  have hyl : y.length ≤ 1 := by subst hy; exact Nat.le_refl _
  rw [hv]
  clear hv hx hy hc hd
  unfold Does
  w_top off
  k_fill
  intro dp un gd cn cs a ccd cl outer A₀ base h₀ L m s Q E B F X N T hk hd hu hret
  refine wpAny_call ?_
  k_dflt cell_enter
  k_steps
  all_goals first
    | exact hret _ [] _ _ (by assumption) (by assumption) ⟨_, by rw [if_pos (by assumption)]⟩
    | exact hret _ [] _ _ (by assumption) (by assumption) ⟨_, by rw [if_neg (by rw [‹(x == y) = false›]; exact Bool.false_ne_true), if_pos (by assumption)]⟩
    | exact hret _ [] _ _ (by assumption) (by assumption) ⟨_, by rw [if_neg (by rw [‹(x == y) = false›]; exact Bool.false_ne_true), if_neg (by rw [‹(Txt.lower x == Txt.lower y) = false›]; exact Bool.false_ne_true)]⟩
end Mine
end
section
open PySem PySem.W PyProof.Rows PySem.Calls
namespace Mine
def paidF (more mine other : Int) : Int := if more > 0 then min more other else min (-more) mine
theorem min_eq1 (a b : Int) : (if b < a then b else a) = min a b := by split <;> omega
theorem paid_pos {x y z : Int} (h : 0 < x) : (if z < x then z else x) = paidF x y z := by rw [paidF, if_pos h, min_eq1]
theorem paid_neg {x y z : Int} (h : ¬ 0 < x) : (if y < -x then y else -x) = paidF x y z := by rw [paidF, if_neg h, min_eq1]
set_option maxRecDepth 100000 in
set_option maxHeartbeats 8000000 in
theorem paid {w mean mg mb news} (x y z : Int) (tx ty tz : Tok) : Does w mean mg mb 49 1 8 news [.int x tx, .int y ty, .int z tz] (fun r _ => ∃ t, r = .int (paidF x y z) t) := by
  unfold Does
  w_top off
  k_fill
  intro dp un gd cn cs a ccd cl outer A₀ base h₀ L m s Q E B F X N T hk hd hu hret
  refine wpAny_call ?_
  k_dflt cell_enter
  k_steps
  · exact hret _ [] _ _ (by assumption) (by assumption) ⟨_, by rw [paid_pos (y := y) (by assumption)]⟩
  · exact hret _ [] _ _ (by assumption) (by assumption) ⟨_, by rw [paid_neg (z := z) (by assumption)]⟩
abbrev tupOf (vs : Array Value) (n : Nat) : Obj := { cls := .type "tuple", data := .seq vs n }
def leftF (b : Int × Int) (am : Int) : Int × Int := if am < 0 then (0, 0) else (b.1 - min am b.1, b.2 - min (am - min am b.1) b.2)
set_option maxRecDepth 100000 in
set_option maxHeartbeats 8000000 in
theorem left {w mean mg mb news} (a₁ : Addr) (b0 b1 am : Int) (t0 t1 ta : Tok) (nn : Nat) (hm : (a₁, tupOf #[.int b0 t0, .int b1 t1] nn) ∈ news) :
    Does w mean mg mb 63 1 8 news [.ref a₁, .int am ta] (fun r tl => ∃ D u0 u1 n, r = .ref D ∧ (D, tupOf #[.int (leftF (b0, b1) am).1 u0, .int (leftF (b0, b1) am).2 u1] n) ∈ tl) := by
  unfold Does
  w_top off
  k_fill
  intro dp un gd cn cs a ccd cl outer A₀ base h₀ L m s Q E B F X N T hk hd hu hret
  refine wpAny_call ?_
  k_dflt cell_enter
  k_steps
  · refine hret _ [_] _ _ (by assumption) (by assumption) ⟨_, _, _, _, rfl, List.mem_singleton.mpr (by rw [leftF, if_pos (by assumption)])⟩
  · refine hret _ [_] _ _ (by assumption) (by assumption) ⟨_, _, _, _, rfl, List.mem_singleton.mpr (by rw [leftF, if_neg (by assumption)]; dsimp only; rw [min_eq1, min_eq1])⟩
end Mine
end
section
open PySem PySem.W PyProof.Rows PySem.Calls
namespace Mine
local macro_rules | `(tactic| k_mem) => `(tactic| first | assumption | exact List.mem_cons_self | (refine List.mem_cons_of_mem _ ?_; k_mem) | (refine List.mem_append_left _ ?_; k_mem) | (refine List.mem_append_right _ ?_; k_mem))
local macro_rules | `(tactic| k_all) => `(tactic| assumption)
local macro_rules | `(tactic| walk_at "call builtin:len") => `(tactic| (k_here; k_dflt (refine len_led (by k_asm) (by k_mem) (by assumption) (by assumption) (by omega) ?_; intro t9 tk9; (try dsimp only))))
local macro_rules | `(tactic| walk_at $s) => do if ["exec While BoolOp cons nil", "exec For Tuple Name cons nil", "exec For Name Call cons nil", "exec For Name Name cons nil", "pyIter ref", "call ref"].contains s.getString then `(tactic| (k_here; refine hold ?_)) else if ["exec Assign cons Subscript", "exec If Compare cons nil", "execs cons"].contains s.getString then `(tactic| (k_here; with_reducible (first | refine holdSlB ?_ | refine holdSwap ?_ | refine holdPost ?_ | refine holdPrice ?_))) else Lean.Macro.throwUnsupported
section
open PySem PySem.W PyProof.Rows PySem.Calls
theorem strip_g {p q a0 i am G : Int} (hp : 0 ≤ p ∧ p ≤ 3) (hi : i = if a0 < 0 then p else min a0 p) (ha : am = a0 - i) (hG : (if a0 < 0 then q else min (a0 - min a0 p) q) = G) : (am < 0 ∧ G = q) ∨ (0 ≤ am ∧ G = min am q) := by
  by_cases h : a0 < 0
  · rw [if_pos h] at hi hG
    exact .inl ⟨by omega, hG.symm⟩
  · rw [if_neg h] at hi hG
    rw [← hi, ← ha] at hG
    exact .inr ⟨by omega, hG.symm⟩
theorem strip_x {p n a0 i am : Int} (h1 : 0 ≤ i ∧ i ≤ p) (h2 : am = a0 - i) (h3 : a0 < 0 ∨ i ≤ a0) (h : am = 0 ∨ ¬ (i < p ∨ p + n ≤ i)) : i = (if a0 < 0 then p else min a0 p) := by
  split <;> omega
theorem strip_y {e am j bm G q : Int} (h1 : e - q ≤ j ∧ j ≤ e) (h2 : bm = am - (e - j)) (h3 : am < 0 ∨ e - j ≤ am) (hG : (am < 0 ∧ G = q) ∨ (0 ≤ am ∧ G = min am q)) (h : bm = 0 ∨ j = e - q) : j + 1 = e + 1 - G := by omega
set_option maxRecDepth 100000 in
set_option maxHeartbeats 8000000 in
theorem strip0 {w mean mg mb news} (x : Str) (tx : Tok) (a0 : Int) (ta : Tok) (p n q : Int) (hp : 0 ≤ p ∧ p ≤ 3) (hn : 1 ≤ n ∧ n ≤ 4) (hq : 0 ≤ q ∧ q ≤ 3) (ha : -1 ≤ a0 ∧ a0 ≤ 4)
   (hlen : (x.length : Int) = p + n + q) (hit : ∀ k : Int, 0 ≤ k → k < p + n + q → (Txt.item x k == Str.ofString " ") = decide (k < p ∨ p + n ≤ k)) : 
   Does w mean mg mb 21 1 8 news [.str x tx, .int a0 ta] (fun r _ => ∃ t i j, r = .str (Txt.slice x (some i) (some j)) t ∧ 
      i = (if a0 < 0 then p else min a0 p) ∧ j = p + n + q - (if a0 < 0 then q else min (a0 - min a0 p) q)) := by
  unfold Does
  w_top off
  k_fill
  intro dp un gd cn cs a ccd cl outer A₀ base h₀ L m s Q E B F X N T hk hd hu hret
  refine wpAny_call ?_
  k_dflt cell_enter
  k_steps
  refine unhold ?_
  rename Fr _ _ _ _ => F1
  rename News _ _ _ _ => N1
  refine whileK (σ := Int × Nat × Int × Nat) (fun _ => news) (fun c => [(Str.ofString "lpos", .int c.1 c.2.1), (Str.ofString "amount", .int c.2.2.1 c.2.2.2)]) []
    (fun c => 0 ≤ c.1 ∧ c.1 ≤ p ∧ c.2.2.1 = a0 - c.1 ∧ (a0 < 0 ∨ c.1 ≤ a0)) (fun c => (p - c.1).toNat) 
    (fun c => c.1 = (if a0 < 0 then p else min a0 p) ∧ c.2.2.1 = a0 - c.1) (0, _, a0, _) F1 N1 (fun _ h => h) (by (repeat' (first | exact List.forall_mem_nil _ | (refine List.forall_mem_cons.mpr ⟨by with_unfolding_all exact rfl, ?_⟩)))) (by dsimp only; omega) ?_ ?_
  · rintro ⟨i, ti, am, tam⟩ u h1 tk1 hI F2 N2
    dsimp only at hI F2
    k_steps
    · refine hpure (tnext (tend (i + 1, _, am - 1, _) (by assumption) (by assumption) (fun _ h => h) (by exact List.forall_mem_nil _) (by trivial) (by (repeat' (first | exact List.forall_mem_nil _ | (refine List.forall_mem_cons.mpr ⟨by with_unfolding_all exact rfl, ?_⟩)))) (by (intro z h2 h3; have h4 := h2; have h5 := h3; (try simp only [List.forall_mem_cons, List.not_mem_nil, false_implies, implies_true, and_true, ne_eq] at h4); (try simp only [List.contains_cons, List.contains_nil, Bool.or_false, Bool.or_eq_false_iff, beq_eq_false_iff_ne, ne_eq] at h5); (repeat' (first | (with_reducible rfl) | (with_reducible refine same_if (by first | (simp [h4]; done) | (simp [h5]; done)) ?_) | (with_reducible refine same_kst (by first | exact List.forall_mem_nil _ | (simp [h4]; done) | (simp [h5]; done) | (simp [h4, h5]; done)) (by first | rfl | (simp [h5]; done) | (simp [h4]; done) | (simp [h4, h5]; done)) ?_))))) ?_))
      have h := hit i (by omega) (by omega)
      rw [‹(Txt.item x i == Str.ofString " ") = true›] at h
      have h := of_decide_eq_true h.symm
      dsimp only
      omega
    · refine hpure (tend (i, _, am, _) (by assumption) (by assumption) (fun _ h => h) (by exact List.forall_mem_nil _) (by trivial) (by (repeat' (first | exact List.forall_mem_nil _ | (refine List.forall_mem_cons.mpr ⟨by with_unfolding_all exact rfl, ?_⟩)))) (by (intro z h2 h3; have h4 := h2; have h5 := h3; (try simp only [List.forall_mem_cons, List.not_mem_nil, false_implies, implies_true, and_true, ne_eq] at h4); (try simp only [List.contains_cons, List.contains_nil, Bool.or_false, Bool.or_eq_false_iff, beq_eq_false_iff_ne, ne_eq] at h5); (repeat' (first | (with_reducible rfl) | (with_reducible refine same_if (by first | (simp [h4]; done) | (simp [h5]; done)) ?_) | (with_reducible refine same_kst (by first | exact List.forall_mem_nil _ | (simp [h4]; done) | (simp [h5]; done) | (simp [h4, h5]; done)) (by first | rfl | (simp [h5]; done) | (simp [h4]; done) | (simp [h4, h5]; done)) ?_))))) ?_)
      have h := hit i (by omega) (by omega)
      rw [‹(Txt.item x i == Str.ofString " ") = false›] at h
      exact ⟨strip_x ⟨hI.1, hI.2.1⟩ hI.2.2.1 hI.2.2.2 (.inr (of_decide_eq_false h.symm)), hI.2.2.1⟩
    · refine hpure (tend (i, _, am, _) (by assumption) (by assumption) (fun _ h => h) (by exact List.forall_mem_nil _) (by trivial) (by (repeat' (first | exact List.forall_mem_nil _ | (refine List.forall_mem_cons.mpr ⟨by with_unfolding_all exact rfl, ?_⟩)))) (by (intro z h2 h3; have h4 := h2; have h5 := h3; (try simp only [List.forall_mem_cons, List.not_mem_nil, false_implies, implies_true, and_true, ne_eq] at h4); (try simp only [List.contains_cons, List.contains_nil, Bool.or_false, Bool.or_eq_false_iff, beq_eq_false_iff_ne, ne_eq] at h5); (repeat' (first | (with_reducible rfl) | (with_reducible refine same_if (by first | (simp [h4]; done) | (simp [h5]; done)) ?_) | (with_reducible refine same_kst (by first | exact List.forall_mem_nil _ | (simp [h4]; done) | (simp [h5]; done) | (simp [h4, h5]; done)) (by first | rfl | (simp [h5]; done) | (simp [h4]; done) | (simp [h4, h5]; done)) ?_))))) ?_)
      exact ⟨strip_x (n := n) ⟨hI.1, hI.2.1⟩ hI.2.2.1 hI.2.2.2 (.inl (by omega)), hI.2.2.1⟩
  rintro ⟨i, ti, am, tam⟩ u h1 tk1 hI F2 N2
  dsimp only at hI F2
  k_steps
  refine unhold ?_
  rename Fr _ _ _ _ => F1
  rename News _ _ _ _ => N1
  obtain ⟨G, hGd⟩ : ∃ G, (if a0 < 0 then q else min (a0 - min a0 p) q) = G := ⟨_, rfl⟩
  have hG := strip_g hp hI.1 hI.2 hGd
  obtain ⟨e, he⟩ : ∃ e, p + n + q - 1 = e := ⟨_, rfl⟩
  have hxe : (x.length : Int) - 1 = e := by omega
  have hpn : p + n = e - q + 1 := by omega
  have heq : p + n + q = e + 1 := by omega
  have he0 : 0 ≤ e - q ∧ e ≤ 9 := by omega
  refine whileK (σ := Int × Nat × Int × Nat) (fun _ => news) (fun c => [(Str.ofString "rpos", .int c.1 c.2.1), (Str.ofString "amount", .int c.2.2.1 c.2.2.2)]) []
    (fun c => (e - q ≤ c.1 ∧ c.1 ≤ e) ∧ c.2.2.1 = am - (e - c.1) ∧ (am < 0 ∨ e - c.1 ≤ am)) (fun c => (c.1 + 1).toNat) 
    (fun c => c.1 + 1 = e + 1 - G) ((x.length : Int) - 1, _, am, _) F1 N1 (fun _ h => h) (by (repeat' (first | exact List.forall_mem_nil _ | (refine List.forall_mem_cons.mpr ⟨by with_unfolding_all exact rfl, ?_⟩)))) (by dsimp only; rw [hxe]; clear hI hit hlen hGd hG; omega) ?_ ?_
  · rintro ⟨j, tj, am2, tam2⟩ u h1 tk1 hJ F2 N2
    dsimp only at hJ F2
    have hj9 : 0 ≤ j ∧ j ≤ 9 := by clear hI hit hlen hGd hG; omega
    have hit' := fun h0 h1 => hit j h0 h1
    rw [heq, hpn] at hit'
    clear hGd
    k_steps
    · have h := hit' hj9.1 (by omega)
      rw [‹(Txt.item x j == Str.ofString " ") = true›] at h
      have h := of_decide_eq_true h.symm
      clear hit hit' hlen hI
      refine hpure (tnext (tend (j - 1, _, am2 - 1, _) (by assumption) (by assumption) (fun _ h => h) (by exact List.forall_mem_nil _) (by trivial) (by (repeat' (first | exact List.forall_mem_nil _ | (refine List.forall_mem_cons.mpr ⟨by with_unfolding_all exact rfl, ?_⟩)))) (by (intro z h2 h3; have h4 := h2; have h5 := h3; (try simp only [List.forall_mem_cons, List.not_mem_nil, false_implies, implies_true, and_true, ne_eq] at h4); (try simp only [List.contains_cons, List.contains_nil, Bool.or_false, Bool.or_eq_false_iff, beq_eq_false_iff_ne, ne_eq] at h5); (repeat' (first | (with_reducible rfl) | (with_reducible refine same_if (by first | (simp [h4]; done) | (simp [h5]; done)) ?_) | (with_reducible refine same_kst (by first | exact List.forall_mem_nil _ | (simp [h4]; done) | (simp [h5]; done) | (simp [h4, h5]; done)) (by first | rfl | (simp [h5]; done) | (simp [h4]; done) | (simp [h4, h5]; done)) ?_))))) ?_))
      dsimp only
      omega
    · have h := hit' hj9.1 (by omega)
      rw [‹(Txt.item x j == Str.ofString " ") = false›] at h
      have h := of_decide_eq_false h.symm
      refine hpure (tend (j, _, am2, _) (by assumption) (by assumption) (fun _ h => h) (by exact List.forall_mem_nil _) (by trivial) (by (repeat' (first | exact List.forall_mem_nil _ | (refine List.forall_mem_cons.mpr ⟨by with_unfolding_all exact rfl, ?_⟩)))) (by (intro z h2 h3; have h4 := h2; have h5 := h3; (try simp only [List.forall_mem_cons, List.not_mem_nil, false_implies, implies_true, and_true, ne_eq] at h4); (try simp only [List.contains_cons, List.contains_nil, Bool.or_false, Bool.or_eq_false_iff, beq_eq_false_iff_ne, ne_eq] at h5); (repeat' (first | (with_reducible rfl) | (with_reducible refine same_if (by first | (simp [h4]; done) | (simp [h5]; done)) ?_) | (with_reducible refine same_kst (by first | exact List.forall_mem_nil _ | (simp [h4]; done) | (simp [h5]; done) | (simp [h4, h5]; done)) (by first | rfl | (simp [h5]; done) | (simp [h4]; done) | (simp [h4, h5]; done)) ?_))))) ?_)
      exact strip_y hJ.1 hJ.2.1 hJ.2.2 hG (.inr (by clear hit hit' hlen hI hG; omega))
    · refine hpure (tend (j, _, am2, _) (by assumption) (by assumption) (fun _ h => h) (by exact List.forall_mem_nil _) (by trivial) (by (repeat' (first | exact List.forall_mem_nil _ | (refine List.forall_mem_cons.mpr ⟨by with_unfolding_all exact rfl, ?_⟩)))) (by (intro z h2 h3; have h4 := h2; have h5 := h3; (try simp only [List.forall_mem_cons, List.not_mem_nil, false_implies, implies_true, and_true, ne_eq] at h4); (try simp only [List.contains_cons, List.contains_nil, Bool.or_false, Bool.or_eq_false_iff, beq_eq_false_iff_ne, ne_eq] at h5); (repeat' (first | (with_reducible rfl) | (with_reducible refine same_if (by first | (simp [h4]; done) | (simp [h5]; done)) ?_) | (with_reducible refine same_kst (by first | exact List.forall_mem_nil _ | (simp [h4]; done) | (simp [h5]; done) | (simp [h4, h5]; done)) (by first | rfl | (simp [h5]; done) | (simp [h4]; done) | (simp [h4, h5]; done)) ?_))))) ?_)
      exact strip_y hJ.1 hJ.2.1 hJ.2.2 hG (.inl (by omega))
  rintro ⟨j, tj, am2, tam2⟩ u2 h2 tk2 hJ F2 N2
  dsimp only at hJ F2
  k_steps
  refine hret _ [] _ _ (by assumption) (by assumption) ⟨_, i, j + 1, rfl, hI.1, by rw [hGd, heq]; exact hJ⟩
end
section
open PySem PySem.Spec PyProof.Rows PySem.Builtin PySem.Builtin.Str
/-- the text of these signs -/
abbrev S (l : List Nat) : Str := ⟨l.toArray⟩
theorem S_len (l : List Nat) : (S l).length = l.length := by simp [Str.length]
theorem slice_from (l : List Nat) {i : Int} (h0 : 0 ≤ i) (h1 : i ≤ l.length) : Txt.slice (S l) (some i) none = S (l.drop i.toNat) := by
  have h2 : i ≤ (S l).length := by rw [S_len]; exact h1
  rw [slice_from_eq h0 h2 rfl, S_len]
  show S ((l.drop i.toNat).take ((l.length : Int) - i).toNat) = S (l.drop i.toNat)
  rw [List.take_of_length_le (by rw [List.length_drop]; lia (abstractProof := false))]
theorem slice_nn (x : Str) : Txt.slice x none none = x := by
  unfold Txt.slice
  rw [if_pos]
  unfold strSliceIndices sliceRange
  simp
  split <;> lia (abstractProof := false)
theorem slice_mid (l : List Nat) {i j : Int} (h0 : 0 ≤ i) (h1 : i ≤ j) (h2 : j ≤ l.length) : Txt.slice (S l) (some i) (some j) = S ((l.drop i.toNat).take (j - i).toNat) := by
  have h := slice_closes (x := S l) (i := i) (j := j) ⟨h0, h1, by simpa using h2⟩
  exact beq_iff_eq.mp h
theorem slice_to (l : List Nat) {j : Int} (h0 : 0 ≤ j) (h2 : j ≤ l.length) : Txt.slice (S l) none (some j) = S (l.take j.toNat) := by
  have h := slice_closes_to (x := S l) (j := j) ⟨h0, by simpa using h2⟩
  rw [beq_iff_eq.mp h]
  simp
theorem slice_neg (l : List Nat) {j : Int} (h0 : j < 0) (h2 : -(l.length : Int) ≤ j) : Txt.slice (S l) none (some j) = S (l.take (l.length - (-j).toNat)) := by
  have e : Txt.slice (S l) none (some j) = Txt.slice (S l) none (some ((l.length : Int) + j)) := by
    have e1 : strSliceIndices none (some j) 1 (S l).length = strSliceIndices none (some ((l.length : Int) + j)) 1 (S l).length := by
      rw [S_len]
      unfold strSliceIndices
      have h3 : ¬ ((l.length : Int) + j < 0) := by lia (abstractProof := false)
      simp only [h0, h3, if_true, if_false, show (1 : Int) > 0 by decide]
      congr 1
      lia (abstractProof := false)
    unfold Txt.slice
    rw [e1]
  rw [e, slice_to l (by lia (abstractProof := false)) (by lia (abstractProof := false))]
  congr 3
  lia (abstractProof := false)
theorem item_pos (l : List Nat) {k : Int} (h0 : 0 ≤ k) (h1 : k < l.length) : Txt.item (S l) k = S [l.getD k.toNat 0] := by
  unfold Txt.item Txt.charAt
  rw [S_len]
  have : seqIndex? k l.length = some k.toNat := by
    unfold seqIndex?
    simp
    lia (abstractProof := false)
  rw [this]
  simp
theorem item_neg (l : List Nat) {k : Int} (h0 : k < 0) (h1 : -(l.length : Int) ≤ k) : Txt.item (S l) k = S [l.getD (l.length - (-k).toNat) 0] := by
  unfold Txt.item Txt.charAt
  rw [S_len]
  have : seqIndex? k l.length = some (l.length - (-k).toNat) := by
    unfold seqIndex?
    simp
    lia (abstractProof := false)
  rw [this]
  simp
theorem S_inj {l m : List Nat} : (S l == S m) = decide (l = m) := by
  rw [Bool.eq_iff_iff]
  simp
end
section
/-- the table over the lengths of the beginnings; d u v is the price of laying sign u on sign v -/
def D (d : Nat → Nat → Int) : Nat → Nat → Int
  | 0, v => 2 * (v : Int)
  | u + 1, 0 => 2 * ((u + 1 : Nat) : Int)
  | u + 1, v + 1 => min (min (D d (u + 1) v) (D d u (v + 1)) + 2) (D d u v + d u v)
termination_by u v => (u, v)
section
variable {d : Nat → Nat → Int}
theorem D_0v (v : Nat) : D d 0 v = 2 * (v : Int) := by rw [D]
theorem D_u0 (u : Nat) : D d u 0 = 2 * (u : Int) := by
  cases u with
  | zero => rw [D]
  | succ u => rw [D]
theorem D_ss (u v : Nat) : D d (u + 1) (v + 1) = min (min (D d (u + 1) v) (D d u (v + 1)) + 2) (D d u v + d u v) := by rw [D]
theorem D_right (u v : Nat) : D d u (v + 1) ≤ D d u v + 2 := by
  cases u with
  | zero => rw [D_0v, D_0v]; omega
  | succ u => rw [D_ss]; omega
theorem D_down (u v : Nat) : D d (u + 1) v ≤ D d u v + 2 := by
  cases v with
  | zero => rw [D_u0, D_u0]; omega
  | succ v => rw [D_ss]; omega
theorem D_diag (h : ∀ u v, d u v ≤ 2) (u v : Nat) : D d (u + 1) (v + 1) ≤ D d u v + 2 := by
  have := h u v
  rw [D_ss]; omega
theorem D_left (h : ∀ u v, 0 ≤ d u v) : ∀ u v : Nat, D d u v ≤ D d u (v + 1) + 2
  | 0, v => by rw [D_0v, D_0v]; omega
  | u + 1, v => by
    have h1 := D_left h u v
    have h2 := D_down (d := d) u v
    have h3 := h u v
    rw [D_ss]; omega
theorem D_up (h : ∀ u v, 0 ≤ d u v) : ∀ v u : Nat, D d u v ≤ D d (u + 1) v + 2
  | 0, u => by rw [D_u0, D_u0]; omega
  | v + 1, u => by
    have h1 := D_up h v u
    have h2 := D_right (d := d) u v
    have h3 := h u v
    rw [D_ss]; omega
theorem D_swap : ∀ u v : Nat, D (fun a b => d b a) v u = D d u v
  | 0, v => by rw [D_u0, D_0v]
  | u + 1, 0 => by rw [D_0v, D_u0]
  | u + 1, v + 1 => by
    rw [D_ss, D_ss, D_swap u (v + 1), D_swap (u + 1) v, D_swap u v, Int.min_comm (D d u (v + 1))]
termination_by u v => (u, v)
theorem D_ge (h : ∀ u v, 0 ≤ d u v) : ∀ u v : Nat, 2 * ((v : Int) - u) ≤ D d u v ∧ 2 * ((u : Int) - v) ≤ D d u v
  | 0, v => by rw [D_0v]; omega
  | u + 1, 0 => by rw [D_u0]; omega
  | u + 1, v + 1 => by
    have h1 := D_ge h u (v + 1)
    have h2 := D_ge h (u + 1) v
    have h3 := D_ge h u v
    have h4 := h u v
    rw [D_ss]; omega
termination_by u v => (u, v)
theorem D_nonneg (h : ∀ u v, 0 ≤ d u v) (u v : Nat) : 0 ≤ D d u v := by
  have := D_ge h u v
  omega
theorem D_suffix (h : ∀ u v, 0 ≤ d u v) {u v : Nat} (e : d u v = 0) : D d (u + 1) (v + 1) = D d u v := by
  have h1 := D_left h u v
  have h2 := D_up h v u
  rw [D_ss, e]; omega
theorem D_congr {d' : Nat → Nat → Int} : ∀ (u v : Nat), (∀ a b, a < u → b < v → d a b = d' a b) → D d u v = D d' u v
  | 0, v, _ => by rw [D_0v, D_0v]
  | u + 1, 0, _ => by rw [D_u0, D_u0]
  | u + 1, v + 1, e => by
    rw [D_ss, D_ss, D_congr u (v + 1) fun a b h1 h2 => e a b (by omega) h2, D_congr (u + 1) v fun a b h1 h2 => e a b h1 (by omega), D_congr u v fun a b h1 h2 => e a b (by omega) (by omega), e u v (by omega) (by omega)]
termination_by u v => (u, v)
theorem D_prefix (h : ∀ u v, 0 ≤ d u v) (e : d 0 0 = 0) : ∀ u v : Nat, D d (u + 1) (v + 1) = D (fun a b => d (a + 1) (b + 1)) u v
  | 0, 0 => by
    rw [D_ss, D_0v, D_0v, D_0v, D_u0, e]; omega
  | 0, v + 1 => by
    have h1 := D_prefix h e 0 v
    have h2 := D_ge h 1 (v + 1 + 1)
    rw [D_0v] at h1 ⊢
    rw [D_ss] at h2 ⊢
    omega
  | u + 1, 0 => by
    have h1 := D_prefix h e u 0
    have h2 := D_ge h (u + 1 + 1) 1
    rw [D_u0] at h1 ⊢
    rw [D_ss] at h2 ⊢
    omega
  | u + 1, v + 1 => by
    rw [D_ss (d := d) (u + 1) (v + 1), D_ss (d := fun a b => d (a + 1) (b + 1)) u v, D_prefix h e u (v + 1), D_prefix h e (u + 1) v, D_prefix h e u v]
termination_by u v => (u, v)
/-- the first column as the code reckons it -/
theorem D_first (h : ∀ u v, d u v ≤ 2) (i : Nat) : min (min (2 * (i : Int)) (D d i 1) + 2) (D d i 0 + d i 0) = D d (i + 1) 1 := by
  have h1 := h i 0
  rw [show (1 : Nat) = 0 + 1 from rfl, D_ss, D_u0, D_u0]; omega
/-- some cell of each row lies not above the end -/
theorem D_row (h : ∀ u v, 0 ≤ d u v) (h' : ∀ u v, d u v ≤ 2) {r n : Nat} (hn : 1 ≤ n) : ∀ m v : Nat, r + 1 ≤ m → v ≤ n → ∃ k, k < n ∧ D d (r + 1) (k + 1) ≤ D d m v := by
  have z : D d (r + 1) 1 ≤ 2 * ((r + 1 : Nat) : Int) := by
    have : D d (r + 1) 1 ≤ _ := D_diag h' r 0
    rw [D_u0] at this
    omega
  intro m
  induction m with
  | zero => intro v hm; omega
  | succ m ih =>
    intro v
    induction v with
    | zero =>
      intro hm _
      refine ⟨0, hn, ?_⟩
      rw [D_u0]
      have : D d (r + 1) (0 + 1) ≤ _ := z
      omega
    | succ v ihv =>
      intro hm hv
      by_cases e : r + 1 = m + 1
      · exact ⟨v, by omega, by rw [e]; exact Int.le_refl _⟩
      · obtain ⟨k1, hk1, h1⟩ := ihv hm (by omega)
        obtain ⟨k2, hk2, h2⟩ := ih (v + 1) (by omega) hv
        obtain ⟨k3, hk3, h3⟩ := ih v (by omega) (by omega)
        have hd := h m v
        rw [D_ss]
        by_cases c1 : D d (m + 1) v ≤ D d m (v + 1)
        · by_cases c2 : D d (m + 1) v + 2 ≤ D d m v + d m v
          · exact ⟨k1, hk1, by omega⟩
          · exact ⟨k3, hk3, by omega⟩
        · by_cases c2 : D d m (v + 1) + 2 ≤ D d m v + d m v
          · exact ⟨k2, hk2, by omega⟩
          · exact ⟨k3, hk3, by omega⟩
theorem D_prefixN (p : Nat) : ∀ {d : Nat → Nat → Int}, (∀ u v, 0 ≤ d u v) → (∀ k, k < p → d k k = 0) → ∀ u v : Nat, D d (u + p) (v + p) = D (fun a b => d (a + p) (b + p)) u v := by
  induction p with
  | zero => intro d _ _ u v; rfl
  | succ p ih =>
    intro d h e u v
    rw [← Nat.add_assoc, ← Nat.add_assoc, D_prefix h (e 0 (by omega)), ih (d := fun a b => d (a + 1) (b + 1)) (fun u v => h _ _) (fun k hk => e (k + 1) (by omega))]
    rfl
theorem D_suffixN (h : ∀ u v, 0 ≤ d u v) {u v : Nat} : ∀ q : Nat, (∀ k, k < q → d (u + k) (v + k) = 0) → D d (u + q) (v + q) = D d u v
  | 0, _ => rfl
  | q + 1, e => by rw [← Nat.add_assoc, ← Nat.add_assoc, D_suffix h (e q (by omega)), D_suffixN h q fun k hk => e k (by omega)]
end
end
section
open PySem PySem.W PyProof.Rows PySem.Calls
theorem cst_0 (x y : Nat) : 0 ≤ cst x y := by
  unfold cst
  split
  · decide
  · split <;> decide
theorem cst_2 (x y : Nat) : cst x y ≤ 2 := by
  unfold cst
  split
  · decide
  · split <;> decide
theorem cst_self (x : Nat) : cst x x = 0 := by unfold cst; rw [if_pos rfl]
theorem cst_comm (x y : Nat) : cst x y = cst y x := by unfold cst; simp only [eq_comm (a := x), eq_comm (a := lo1 x)]
def dS (xs ys : List Nat) (u v : Nat) : Int := cst (xs.getD u 0) (ys.getD v 0)
def edit (xs ys : List Nat) : Int := D (dS xs ys) xs.length ys.length
/-- the first p signs are the same -/
def PreOk (xs ys : List Nat) (p : Int) : Prop := 0 ≤ p ∧ p ≤ xs.length ∧ p ≤ ys.length ∧ ∀ k : Nat, (k : Int) < p → xs.getD k 0 = ys.getD k 0
/-- the last q signs are the same -/
def PostOk (xs ys : List Nat) (q : Int) : Prop := 0 ≤ q ∧ q ≤ xs.length ∧ q ≤ ys.length ∧ ∀ k : Nat, (k : Int) < q → xs.getD (xs.length - (k + 1)) 0 = ys.getD (ys.length - (k + 1)) 0
theorem PreOk.zero (xs ys : List Nat) : PreOk xs ys 0 := ⟨by lia (abstractProof := false), by lia (abstractProof := false), by lia (abstractProof := false), fun k hk => by lia (abstractProof := false)⟩
theorem PostOk.zero (xs ys : List Nat) : PostOk xs ys 0 := ⟨by lia (abstractProof := false), by lia (abstractProof := false), by lia (abstractProof := false), fun k hk => by lia (abstractProof := false)⟩
theorem PreOk.succ {xs ys : List Nat} {p : Int} (h : PreOk xs ys p) (h1 : p < xs.length) (h2 : p < ys.length) (e : xs.getD p.toNat 0 = ys.getD p.toNat 0) : PreOk xs ys (p + 1) := by
  obtain ⟨a, b, c, d⟩ := h
  refine ⟨by lia (abstractProof := false), by lia (abstractProof := false), by lia (abstractProof := false), fun k hk => ?_⟩
  by_cases hkp : (k : Int) < p
  · exact d k hkp
  · have : k = p.toNat := by lia (abstractProof := false)
    rw [this]
    exact e
theorem PostOk.succ {xs ys : List Nat} {q : Int} (h : PostOk xs ys q) (h1 : q < xs.length) (h2 : q < ys.length) (e : xs.getD (xs.length - (q + 1).toNat) 0 = ys.getD (ys.length - (q + 1).toNat) 0) : PostOk xs ys (q + 1) := by
  obtain ⟨a, b, c, d⟩ := h
  refine ⟨by lia (abstractProof := false), by lia (abstractProof := false), by lia (abstractProof := false), fun k hk => ?_⟩
  by_cases hkp : (k : Int) < q
  · exact d k hkp
  · have : k + 1 = (q + 1).toNat := by lia (abstractProof := false)
    rw [this]
    exact e
theorem item_pos_eq {xs ys : List Nat} {p : Int} (h0 : 0 ≤ p) (h1 : p < xs.length) (h2 : p < ys.length) (e : (Txt.item (S xs) p == Txt.item (S ys) p) = true) : xs.getD p.toNat 0 = ys.getD p.toNat 0 := by
  rw [item_pos xs h0 h1, item_pos ys h0 h2, S_inj, decide_eq_true_eq] at e
  exact (List.cons.inj e).1
theorem item_neg_eq {xs ys : List Nat} {p : Int} (h0 : p < 0) (h1 : -(xs.length : Int) ≤ p) (h2 : -(ys.length : Int) ≤ p) (e : (Txt.item (S xs) p == Txt.item (S ys) p) = true) : xs.getD (xs.length - (-p).toNat) 0 = ys.getD (ys.length - (-p).toNat) 0 := by
  rw [item_neg xs h0 h1, item_neg ys h0 h2, S_inj, decide_eq_true_eq] at e
  exact (List.cons.inj e).1
theorem small_two {k : Int} (h0 : 0 ≤ k) (h1 : k ≤ 1000) : Builtin.Range.small 2 (2 * (k + 1)) 2 = true := by
  unfold Builtin.Range.small Builtin.Range.rangeSize
  simp only [Builtin.Range.rangeFitsLong, Bool.and_eq_true, Bool.or_eq_true, decide_eq_true_eq, beq_iff_eq, show (2 : Int) > 0 by decide, if_true]
  split <;> lia (abstractProof := false)
theorem size_two {k : Int} {n : Nat} (h : k = n) : Builtin.Range.rangeSize 2 (2 * (k + 1)) 2 = (n : Int) := by
  unfold Builtin.Range.rangeSize
  simp only [show (2 : Int) > 0 by decide, if_true]
  split <;> lia (abstractProof := false)
theorem dS_0 {xs ys : List Nat} (u v : Nat) : 0 ≤ dS xs ys u v := cst_0 _ _
theorem dS_2 {xs ys : List Nat} (u v : Nat) : dS xs ys u v ≤ 2 := cst_2 _ _
theorem edit_same (xs : List Nat) : edit xs xs = 0 := by
  have h := D_suffixN (d := dS xs xs) dS_0 (u := 0) (v := 0) xs.length (fun k _ => by unfold dS; rw [Nat.zero_add]; exact cst_self _)
  unfold edit
  rw [Nat.zero_add, D_0v] at h
  exact h
theorem edit_comm (xs ys : List Nat) : edit ys xs = edit xs ys := by
  unfold edit
  rw [← D_swap]
  exact D_congr _ _ fun a b _ _ => cst_comm _ _
theorem edit_drop (xs ys : List Nat) (p : Nat) (h1 : p ≤ xs.length) (h2 : p ≤ ys.length) (e : ∀ k, k < p → xs.getD k 0 = ys.getD k 0) : edit (xs.drop p) (ys.drop p) = edit xs ys := by
  have h := D_prefixN p (d := dS xs ys) dS_0 (fun k hk => by unfold dS; rw [e k hk]; exact cst_self _) (xs.length - p) (ys.length - p)
  unfold edit
  rw [Nat.sub_add_cancel h1, Nat.sub_add_cancel h2] at h
  rw [h, List.length_drop, List.length_drop]
  refine D_congr _ _ fun a b _ _ => ?_
  unfold dS
  simp only [List.getD_eq_getElem?_getD, List.getElem?_drop, Nat.add_comm p]
theorem edit_take (xs ys : List Nat) (q : Nat) (h1 : q ≤ xs.length) (h2 : q ≤ ys.length) (e : ∀ k, k < q → xs.getD (xs.length - (k + 1)) 0 = ys.getD (ys.length - (k + 1)) 0) : edit (xs.take (xs.length - q)) (ys.take (ys.length - q)) = edit xs ys := by
  have h := D_suffixN (d := dS xs ys) dS_0 (u := xs.length - q) (v := ys.length - q) q (fun k hk => by
    unfold dS
    have := e (q - (k + 1)) (by lia (abstractProof := false))
    rw [show xs.length - q + k = xs.length - (q - (k + 1) + 1) by lia (abstractProof := false), show ys.length - q + k = ys.length - (q - (k + 1) + 1) by lia (abstractProof := false), this]
    exact cst_self _)
  unfold edit
  rw [Nat.sub_add_cancel h1, Nat.sub_add_cancel h2] at h
  rw [h, List.length_take, List.length_take, Nat.min_eq_left (by lia (abstractProof := false)), Nat.min_eq_left (by lia (abstractProof := false))]
  refine D_congr _ _ fun a b ha hb => ?_
  unfold dS
  simp only [List.getD_eq_getElem?_getD, List.getElem?_take, ha, hb, if_true]
/-- the row while line i is being reckoned: the first j cells are new -/
def rowIJ (d : Nat → Nat → Int) (i j n : Nat) : List Int := (List.range n).map fun k => if k < j then D d (i + 1) (k + 1) else D d i (k + 1)
theorem rowIJ_len (d : Nat → Nat → Int) (i j n : Nat) : (rowIJ d i j n).length = n := by simp [rowIJ]
theorem rowIJ_get {d : Nat → Nat → Int} {i j n k : Nat} (h : k < n) : (rowIJ d i j n).getD k 0 = if k < j then D d (i + 1) (k + 1) else D d i (k + 1) := by
  simp [rowIJ, List.getD_eq_getElem?_getD, h]
theorem rowIJ_start (d : Nat → Nat → Int) (n : Nat) : rangeInts 2 2 n = rowIJ d 0 0 n := by
  unfold rangeInts rowIJ
  refine List.map_congr_left fun k _ => ?_
  rw [if_neg (by lia (abstractProof := false)), D_0v]
  lia (abstractProof := false)
theorem rowIJ_next (d : Nat → Nat → Int) (i n : Nat) : rowIJ d i n n = rowIJ d (i + 1) 0 n := by
  unfold rowIJ
  refine List.map_congr_left fun k hk => ?_
  rw [if_pos (List.mem_range.mp hk), if_neg (by lia (abstractProof := false))]
theorem rowIJ_set {d : Nat → Nat → Int} {i j n : Nat} (_h : j < n) : (rowIJ d i j n).set j (D d (i + 1) (j + 1)) = rowIJ d i (j + 1) n := by
  apply List.ext_getElem?
  intro k
  rw [List.getElem?_set]
  unfold rowIJ
  simp only [List.length_map, List.length_range, List.getElem?_map, List.getElem?_range]
  by_cases e : j = k
  · subst e
    simp [_h]
  · rw [if_neg e]
    by_cases hk : k < n
    · simp only [hk, List.getElem?_range, Option.map_some]
      by_cases h1 : k < j
      · rw [if_pos h1, if_pos (by lia (abstractProof := false))]
      · rw [if_neg h1, if_neg (by lia (abstractProof := false))]
    · rw [List.getElem?_eq_none (by simp; lia (abstractProof := false))]
      rfl
theorem D_le {d : Nat → Nat → Int} : ∀ u v : Nat, D d u v ≤ 2 * ((u : Int) + v)
  | 0, v => by rw [D_0v]; lia (abstractProof := false)
  | u + 1, v => by
    have h1 := D_down (d := d) u v
    have h2 := D_le (d := d) u v
    lia (abstractProof := false)
theorem lev_cell {d : Nat → Nat → Int} {i j : Nat} {dis res : Int} (h2 : ∀ u v, d u v ≤ 2) (hdis : dis = D d i j) (hres : res = if j = 0 then 2 * (i : Int) else D d (i + 1) j) :
    (if dis + d i j < (if D d i (j + 1) < res then D d i (j + 1) else res) + 2 then dis + d i j else (if D d i (j + 1) < res then D d i (j + 1) else res) + 2) = D d (i + 1) (j + 1) := by
  have e : ∀ a b : Int, (if b < a then b else a) = min a b := fun a b => by split <;> lia (abstractProof := false)
  rw [e, e, hdis]
  by_cases h : j = 0
  · subst h
    rw [if_pos rfl] at hres
    rw [hres]
    exact D_first h2 i
  · rw [if_neg h] at hres
    obtain ⟨k, rfl⟩ : ∃ k, j = k + 1 := ⟨j - 1, by lia (abstractProof := false)⟩
    rw [hres]
    exact (D_ss i (k + 1)).symm
theorem sub2 {w mean mg mb news} (B A : List Nat) (i j : Nat) (hi : i < B.length) (hj : j < A.length) (hB : ∀ c ∈ B, c < 128) (hA : ∀ c ∈ A, c < 128) (t1 t2 : Tok) :
    Does w mean mg mb 28 1 8 news [.str (Txt.item (S B) (i : Int)) t1, .str (Txt.item (S A) (j : Int)) t2] (fun r _ => ∃ t, r = .int (dS B A i j) t) := by
  refine sub_cost _ _ _ _ (B.getD i 0) (A.getD j 0) ?_ ?_ ?_ ?_
  · rw [item_pos B (by lia (abstractProof := false)) (by lia (abstractProof := false))]; rfl
  · rw [item_pos A (by lia (abstractProof := false)) (by lia (abstractProof := false))]; rfl
  · rw [List.getD_eq_getElem?_getD, List.getElem?_eq_getElem hi]; exact hB _ (List.getElem_mem hi)
  · rw [List.getD_eq_getElem?_getD, List.getElem?_eq_getElem hj]; exact hA _ (List.getElem_mem hj)
section
variable {prog : Program} {w : World} {A : Around} {E : Value → Shared → Prop} {s : Shared} {h₀ : Heap} {L : Addr} {m : Str → Option Value} {news : Led} {env : Env} {Q : Flow → Shared → Prop}
theorem sliceB {x : Str} {t : Tok} {value : Expr} {op : BoolOp} {es : List Expr} {p1 p2 : Pos} {Q : Value → Shared → Prop} (hF : Fr h₀ L s.heap m) (hN : News h₀ L s.heap news) (hsz : x.length ≤ sizeLine) (h : ∀ h' t' k, Fr h₀ L h' m → News h₀ L h' news → Q (.str (Txt.slice x none none) t') { s with heap := h', toks := k })
    (hs : subscripted (.Slice none (some (.BoolOp op es p1)) none p2) false (.str x t) (.ref s.heap.objs.size) = operate [.ref s.heap.objs.size, .str x t] (getItem (.str x t) (.ref s.heap.objs.size)) := by with_unfolding_all rfl)
    (ht : ∀ r, letTemporaryGo value (.str x t) r = pure () := by intro _; with_unfolding_all rfl) :
    wpAny (model prog w) A (subscriptTail value (.Slice none (some (.BoolOp op es p1)) none p2) (.str x t) (.ref s.heap.objs.size)) Q E { s with heap := s.heap.push { cls := .type "slice", data := .fields #[.none, .none, .none] } } :=
  slice_strN_nn hF hN h hs ht hsz
end
local macro_rules | `(tactic| walk_at "subscriptTail Name Slice str ref") => `(tactic| (refine sliceB (s := ⟨_, _, _, _, _⟩) (by k_asm) (by k_asm) (by size_fits) ?_; intro _ _ _ _ _))

set_option maxRecDepth 100000 in
set_option maxHeartbeats 8000000 in
theorem lev {w mean mg mb news} (xs ys : List Nat) (ta tb tm : Tok) (mc : Int) (hx : xs.length ≤ 30) (hy : ys.length ≤ 30) (hmc : -1 ≤ mc ∧ mc ≤ 1000) (hxa : ∀ c ∈ xs, c < 128) (hya : ∀ c ∈ ys, c < 128) :
    Does w mean mg mb 35 2 16 news [.str (S xs) ta, .str (S ys) tb, .int mc tm] (fun r _ => ∃ t v, r = .int v t ∧ (v = edit xs ys ∨ (v = mc + 1 ∧ mc < edit xs ys))) := by
  have hlx := S_len xs
  have hly := S_len ys
  unfold Does
  w_top off
  k_fill
  intro dp un gd cn cs a ccd cl outer A₀ base h₀ L m s Q E B F X N Tp hk hd hu hret
  refine wpAny_call ?_
  k_dflt cell_enter
  rename_i g₁ L₁ h₁ FG₁ F₁ N₁ B₁ X₁ T₁
  k_steps
  · rename ((S xs == S ys) = true) => he
    rw [S_inj, decide_eq_true_eq] at he
    exact hret _ [] _ _ (by assumption) (by assumption) ⟨_, _, rfl, .inl (by rw [he, edit_same])⟩
  refine unhold ?_
  rename Fr _ _ _ _ => F1
  rename News _ _ _ _ => N1
  refine whileK (σ := Int × Nat) (fun _ => news) (fun c => [(Str.ofString "pre", .int c.1 c.2)]) []
    (fun c => PreOk xs ys c.1) (fun c => (xs.length - c.1).toNat) (fun c => PreOk xs ys c.1) (0, _) F1 N1 (fun _ h => h) (by (repeat' (first | exact List.forall_mem_nil _ | (refine List.forall_mem_cons.mpr ⟨by with_unfolding_all exact rfl, ?_⟩)))) (PreOk.zero _ _) ?_ ?_
  · 
    clear F1 N1
    rintro ⟨p, tp⟩ u h1 tk1 hP F2 N2
    dsimp only at hP F2
    obtain ⟨hp0, hpx, hpy, hpe⟩ := hP
    have hs1 := slice_from xs hp0 hpx
    have hs2 := slice_from ys hp0 hpy
    have hxl : (Txt.slice (S xs) (some p) none).length = xs.length - p.toNat := by rw [hs1, S_len, List.length_drop]
    have hyl : (Txt.slice (S ys) (some p) none).length = ys.length - p.toNat := by rw [hs2, S_len, List.length_drop]
    k_steps
    · rename ((Txt.item (S xs) p == Txt.item (S ys) p) = true) => he
      have h1 : p < xs.length := by lia (abstractProof := false)
      have h2 : p < ys.length := by lia (abstractProof := false)
      refine hpure (tnext (tend (p + 1, _) (by assumption) (by assumption) (fun _ h => h) (by exact List.forall_mem_nil _) (by trivial) (by (repeat' (first | exact List.forall_mem_nil _ | (refine List.forall_mem_cons.mpr ⟨by with_unfolding_all exact rfl, ?_⟩)))) (by (intro z h2 h3; have h4 := h2; have h5 := h3; (try simp only [List.forall_mem_cons, List.not_mem_nil, false_implies, implies_true, and_true, ne_eq] at h4); (try simp only [List.contains_cons, List.contains_nil, Bool.or_false, Bool.or_eq_false_iff, beq_eq_false_iff_ne, ne_eq] at h5); (repeat' (first | (with_reducible rfl) | (with_reducible refine same_if (by first | (simp [h4]; done) | (simp [h5]; done)) ?_) | (with_reducible refine same_kst (by first | exact List.forall_mem_nil _ | (simp [h4]; done) | (simp [h5]; done) | (simp [h4, h5]; done)) (by first | rfl | (simp [h5]; done) | (simp [h4]; done) | (simp [h4, h5]; done)) ?_))))) ⟨PreOk.succ ⟨hp0, hpx, hpy, hpe⟩ h1 h2 (item_pos_eq hp0 h1 h2 he), ?_⟩))
      dsimp only
      lia (abstractProof := false)
    all_goals exact hpure (tend (p, _) (by assumption) (by assumption) (fun _ h => h) (by exact List.forall_mem_nil _) (by trivial) (by (repeat' (first | exact List.forall_mem_nil _ | (refine List.forall_mem_cons.mpr ⟨by with_unfolding_all exact rfl, ?_⟩)))) (by (intro z h2 h3; have h4 := h2; have h5 := h3; (try simp only [List.forall_mem_cons, List.not_mem_nil, false_implies, implies_true, and_true, ne_eq] at h4); (try simp only [List.contains_cons, List.contains_nil, Bool.or_false, Bool.or_eq_false_iff, beq_eq_false_iff_ne, ne_eq] at h5); (repeat' (first | (with_reducible rfl) | (with_reducible refine same_if (by first | (simp [h4]; done) | (simp [h5]; done)) ?_) | (with_reducible refine same_kst (by first | exact List.forall_mem_nil _ | (simp [h4]; done) | (simp [h5]; done) | (simp [h4, h5]; done)) (by first | rfl | (simp [h5]; done) | (simp [h4]; done) | (simp [h4, h5]; done)) ?_))))) ⟨hp0, hpx, hpy, hpe⟩)
  clear F1 N1
  rintro ⟨p, tp⟩ u h1 tk1 hP F2 N2
  dsimp only at hP F2
  obtain ⟨hp0, hpx, hpy, hpe⟩ := hP
  have hs1 := slice_from xs hp0 hpx
  have hs2 := slice_from ys hp0 hpy
  have hed := edit_drop xs ys p.toNat (by lia (abstractProof := false)) (by lia (abstractProof := false)) (fun k hk => hpe k (by lia (abstractProof := false)))
  k_steps
  refine unhold ?_
  rename Fr _ _ _ _ => F1
  rename News _ _ _ _ => N1
  simp only [hs1, hs2] at F1
  have hX : (xs.drop p.toNat).length ≤ 30 := by rw [List.length_drop]; lia (abstractProof := false)
  have hY : (ys.drop p.toNat).length ≤ 30 := by rw [List.length_drop]; lia (abstractProof := false)
  have hXa : ∀ c ∈ xs.drop p.toNat, c < 128 := fun c hc => hxa c (List.mem_of_mem_drop hc)
  have hYa : ∀ c ∈ ys.drop p.toNat, c < 128 := fun c hc => hya c (List.mem_of_mem_drop hc)
  clear hs1 hs2
  rw [← hed] at hret
  clear hed hpe hlx hly hpx hpy
  generalize xs.drop p.toNat = X at F1 hX hXa hret
  generalize ys.drop p.toNat = Y at F1 hY hYa hret
  have hlx := S_len X
  have hly := S_len Y
  refine whileK (σ := Int × Nat) (fun _ => news) (fun c => [(Str.ofString "post", .int c.1 c.2)]) []
    (fun c => PostOk X Y (-c.1)) (fun c => (X.length + c.1).toNat) (fun c => PostOk X Y (-c.1)) (0, _) F1 N1 (fun _ h => h) (by (repeat' (first | exact List.forall_mem_nil _ | (refine List.forall_mem_cons.mpr ⟨by with_unfolding_all exact rfl, ?_⟩)))) (PostOk.zero _ _) ?_ ?_
  · 
    clear F1 N1
    rintro ⟨q, tq⟩ u h1 tk1 hP F2 N2
    dsimp only at hP F2
    obtain ⟨hp0, hpx, hpy, hpe⟩ := hP
    by_cases hq : q = 0
    · have hs1 := slice_nn (S X)
      have hs2 := slice_nn (S Y)
      have hxl : (Txt.slice (S X) none none).length = X.length := by rw [hs1, S_len]
      have hyl : (Txt.slice (S Y) none none).length = Y.length := by rw [hs2, S_len]
      k_steps
      all_goals try (exfalso; lia (abstractProof := false))
      · refine unhold (wpAny_execs_cons ?_)
        refine wpAny_AugAssign_Name ?_
        k_steps
        rename ((Txt.item (S X) (q - 1) == Txt.item (S Y) (q - 1)) = true) => he
        have h1 : -q < X.length := by lia (abstractProof := false)
        have h2 : -q < Y.length := by lia (abstractProof := false)
        have h3 := item_neg_eq (by lia (abstractProof := false)) (by lia (abstractProof := false)) (by lia (abstractProof := false)) he
        rw [show -(q - 1) = -q + 1 by lia (abstractProof := false)] at h3
        have h4 := PostOk.succ ⟨hp0, hpx, hpy, hpe⟩ h1 h2 h3
        rw [show -q + 1 = -(q - 1) by lia (abstractProof := false)] at h4
        refine hpure (tnext (tend (q - 1, _) (by assumption) (by assumption) (fun _ h => h) (by exact List.forall_mem_nil _) (by trivial) (by (repeat' (first | exact List.forall_mem_nil _ | (refine List.forall_mem_cons.mpr ⟨by with_unfolding_all exact rfl, ?_⟩)))) (by (intro z h2 h3; have h4 := h2; have h5 := h3; (try simp only [List.forall_mem_cons, List.not_mem_nil, false_implies, implies_true, and_true, ne_eq] at h4); (try simp only [List.contains_cons, List.contains_nil, Bool.or_false, Bool.or_eq_false_iff, beq_eq_false_iff_ne, ne_eq] at h5); (repeat' (first | (with_reducible rfl) | (with_reducible refine same_if (by first | (simp [h4]; done) | (simp [h5]; done)) ?_) | (with_reducible refine same_kst (by first | exact List.forall_mem_nil _ | (simp [h4]; done) | (simp [h5]; done) | (simp [h4, h5]; done)) (by first | rfl | (simp [h5]; done) | (simp [h4]; done) | (simp [h4, h5]; done)) ?_))))) ⟨h4, ?_⟩))
        dsimp only
        lia (abstractProof := false)
      all_goals exact hpure (tend (q, _) (by assumption) (by assumption) (fun _ h => h) (by exact List.forall_mem_nil _) (by trivial) (by (repeat' (first | exact List.forall_mem_nil _ | (refine List.forall_mem_cons.mpr ⟨by with_unfolding_all exact rfl, ?_⟩)))) (by (intro z h2 h3; have h4 := h2; have h5 := h3; (try simp only [List.forall_mem_cons, List.not_mem_nil, false_implies, implies_true, and_true, ne_eq] at h4); (try simp only [List.contains_cons, List.contains_nil, Bool.or_false, Bool.or_eq_false_iff, beq_eq_false_iff_ne, ne_eq] at h5); (repeat' (first | (with_reducible rfl) | (with_reducible refine same_if (by first | (simp [h4]; done) | (simp [h5]; done)) ?_) | (with_reducible refine same_kst (by first | exact List.forall_mem_nil _ | (simp [h4]; done) | (simp [h5]; done) | (simp [h4, h5]; done)) (by first | rfl | (simp [h5]; done) | (simp [h4]; done) | (simp [h4, h5]; done)) ?_))))) ⟨hp0, hpx, hpy, hpe⟩)
    · have hs1 := slice_neg X (j := q) (by lia (abstractProof := false)) (by lia (abstractProof := false))
      have hs2 := slice_neg Y (j := q) (by lia (abstractProof := false)) (by lia (abstractProof := false))
      have hxl : (Txt.slice (S X) none (some q)).length = X.length - (-q).toNat := by rw [hs1, S_len, List.length_take]; lia (abstractProof := false)
      have hyl : (Txt.slice (S Y) none (some q)).length = Y.length - (-q).toNat := by rw [hs2, S_len, List.length_take]; lia (abstractProof := false)
      k_steps
      all_goals try (exfalso; lia (abstractProof := false))
      · refine unhold (wpAny_execs_cons ?_)
        refine wpAny_AugAssign_Name ?_
        k_steps
        rename ((Txt.item (S X) (q - 1) == Txt.item (S Y) (q - 1)) = true) => he
        have h1 : -q < X.length := by lia (abstractProof := false)
        have h2 : -q < Y.length := by lia (abstractProof := false)
        have h3 := item_neg_eq (by lia (abstractProof := false)) (by lia (abstractProof := false)) (by lia (abstractProof := false)) he
        rw [show -(q - 1) = -q + 1 by lia (abstractProof := false)] at h3
        have h4 := PostOk.succ ⟨hp0, hpx, hpy, hpe⟩ h1 h2 h3
        rw [show -q + 1 = -(q - 1) by lia (abstractProof := false)] at h4
        refine hpure (tnext (tend (q - 1, _) (by assumption) (by assumption) (fun _ h => h) (by exact List.forall_mem_nil _) (by trivial) (by (repeat' (first | exact List.forall_mem_nil _ | (refine List.forall_mem_cons.mpr ⟨by with_unfolding_all exact rfl, ?_⟩)))) (by (intro z h2 h3; have h4 := h2; have h5 := h3; (try simp only [List.forall_mem_cons, List.not_mem_nil, false_implies, implies_true, and_true, ne_eq] at h4); (try simp only [List.contains_cons, List.contains_nil, Bool.or_false, Bool.or_eq_false_iff, beq_eq_false_iff_ne, ne_eq] at h5); (repeat' (first | (with_reducible rfl) | (with_reducible refine same_if (by first | (simp [h4]; done) | (simp [h5]; done)) ?_) | (with_reducible refine same_kst (by first | exact List.forall_mem_nil _ | (simp [h4]; done) | (simp [h5]; done) | (simp [h4, h5]; done)) (by first | rfl | (simp [h5]; done) | (simp [h4]; done) | (simp [h4, h5]; done)) ?_))))) ⟨h4, ?_⟩))
        dsimp only
        lia (abstractProof := false)
      all_goals exact hpure (tend (q, _) (by assumption) (by assumption) (fun _ h => h) (by exact List.forall_mem_nil _) (by trivial) (by (repeat' (first | exact List.forall_mem_nil _ | (refine List.forall_mem_cons.mpr ⟨by with_unfolding_all exact rfl, ?_⟩)))) (by (intro z h2 h3; have h4 := h2; have h5 := h3; (try simp only [List.forall_mem_cons, List.not_mem_nil, false_implies, implies_true, and_true, ne_eq] at h4); (try simp only [List.contains_cons, List.contains_nil, Bool.or_false, Bool.or_eq_false_iff, beq_eq_false_iff_ne, ne_eq] at h5); (repeat' (first | (with_reducible rfl) | (with_reducible refine same_if (by first | (simp [h4]; done) | (simp [h5]; done)) ?_) | (with_reducible refine same_kst (by first | exact List.forall_mem_nil _ | (simp [h4]; done) | (simp [h5]; done) | (simp [h4, h5]; done)) (by first | rfl | (simp [h5]; done) | (simp [h4]; done) | (simp [h4, h5]; done)) ?_))))) ⟨hp0, hpx, hpy, hpe⟩)
  clear F1 N1
  rintro ⟨q, tq⟩ u h1 tk1 hP F2 N2
  dsimp only at hP F2
  obtain ⟨hq0, hqx, hqy, hqe⟩ := hP
  have hed := edit_take X Y (-q).toNat (by lia (abstractProof := false)) (by lia (abstractProof := false)) (fun k hk => hqe k (by lia (abstractProof := false)))
  have hA2 : (X.take (X.length - (-q).toNat)).length ≤ 30 := by rw [List.length_take]; lia (abstractProof := false)
  have hB2 : (Y.take (Y.length - (-q).toNat)).length ≤ 30 := by rw [List.length_take]; lia (abstractProof := false)
  have hA2a : ∀ c ∈ X.take (X.length - (-q).toNat), c < 128 := fun c hc => hXa c (List.mem_of_mem_take hc)
  have hB2a : ∀ c ∈ Y.take (Y.length - (-q).toNat), c < 128 := fun c hc => hYa c (List.mem_of_mem_take hc)
  have hsA : q = 0 → Txt.slice (S X) none none = S (X.take (X.length - (-q).toNat)) := fun e => by rw [slice_nn, e, List.take_of_length_le (by lia (abstractProof := false))]
  have hsB : q = 0 → Txt.slice (S Y) none none = S (Y.take (Y.length - (-q).toNat)) := fun e => by rw [slice_nn, e, List.take_of_length_le (by lia (abstractProof := false))]
  have hsA' : q ≠ 0 → Txt.slice (S X) none (some q) = S (X.take (X.length - (-q).toNat)) := fun e => slice_neg X (by lia (abstractProof := false)) (by lia (abstractProof := false))
  have hsB' : q ≠ 0 → Txt.slice (S Y) none (some q) = S (Y.take (Y.length - (-q).toNat)) := fun e => slice_neg Y (by lia (abstractProof := false)) (by lia (abstractProof := false))
  rw [← hed] at hret
  clear hed hqe
  generalize X.take (X.length - (-q).toNat) = A at hA2 hA2a hsA hsA' hret
  generalize Y.take (Y.length - (-q).toNat) = B at hB2 hB2a hsB hsB' hret
  k_steps
  refine unhold ?_
  rename Fr _ _ _ _ => F1
  rename News _ _ _ _ => N1
  refine cutK (σ := Nat) (fun c => [(Str.ofString "a", .str (S A) c)]) (fun _ => True) F1 N1 ?_ ?_
  · refine wpAny_Assign_Name ?_
    k_steps
    · rename Fr _ _ _ _ => F3
      rw [hsA' (by assumption)] at F3
      exact hpure (cnext (tend _ F3 (by assumption) (fun _ h => h) (by exact List.forall_mem_nil _) (by trivial) (by (repeat' (first | exact List.forall_mem_nil _ | (refine List.forall_mem_cons.mpr ⟨by with_unfolding_all exact rfl, ?_⟩)))) (by (intro z h2 h3; have h4 := h2; have h5 := h3; (try simp only [List.forall_mem_cons, List.not_mem_nil, false_implies, implies_true, and_true, ne_eq] at h4); (try simp only [List.contains_cons, List.contains_nil, Bool.or_false, Bool.or_eq_false_iff, beq_eq_false_iff_ne, ne_eq] at h5); (repeat' (first | (with_reducible rfl) | (with_reducible refine same_if (by first | (simp [h4]; done) | (simp [h5]; done)) ?_) | (with_reducible refine same_kst (by first | exact List.forall_mem_nil _ | (simp [h4]; done) | (simp [h5]; done) | (simp [h4, h5]; done)) (by first | rfl | (simp [h5]; done) | (simp [h4]; done) | (simp [h4, h5]; done)) ?_))))) trivial))
    · rename Fr _ _ _ _ => F3
      rw [hsA (by assumption)] at F3
      exact hpure (cnext (tend _ F3 (by assumption) (fun _ h => h) (by exact List.forall_mem_nil _) (by trivial) (by (repeat' (first | exact List.forall_mem_nil _ | (refine List.forall_mem_cons.mpr ⟨by with_unfolding_all exact rfl, ?_⟩)))) (by (intro z h2 h3; have h4 := h2; have h5 := h3; (try simp only [List.forall_mem_cons, List.not_mem_nil, false_implies, implies_true, and_true, ne_eq] at h4); (try simp only [List.contains_cons, List.contains_nil, Bool.or_false, Bool.or_eq_false_iff, beq_eq_false_iff_ne, ne_eq] at h5); (repeat' (first | (with_reducible rfl) | (with_reducible refine same_if (by first | (simp [h4]; done) | (simp [h5]; done)) ?_) | (with_reducible refine same_kst (by first | exact List.forall_mem_nil _ | (simp [h4]; done) | (simp [h5]; done) | (simp [h4, h5]; done)) (by first | rfl | (simp [h5]; done) | (simp [h4]; done) | (simp [h4, h5]; done)) ?_))))) trivial))
  clear F1 N1
  rintro tA u2 h2 tk2 - F3 N3
  k_steps
  refine unhold ?_
  rename Fr _ _ _ _ => F1
  rename News _ _ _ _ => N1
  refine cutK (σ := Nat) (fun c => [(Str.ofString "b", .str (S B) c)]) (fun _ => True) F1 N1 ?_ ?_
  · refine wpAny_Assign_Name ?_
    k_steps
    · rename Fr _ _ _ _ => F3
      rw [hsB' (by assumption)] at F3
      exact hpure (cnext (tend _ F3 (by assumption) (fun _ h => h) (by exact List.forall_mem_nil _) (by trivial) (by (repeat' (first | exact List.forall_mem_nil _ | (refine List.forall_mem_cons.mpr ⟨by with_unfolding_all exact rfl, ?_⟩)))) (by (intro z h2 h3; have h4 := h2; have h5 := h3; (try simp only [List.forall_mem_cons, List.not_mem_nil, false_implies, implies_true, and_true, ne_eq] at h4); (try simp only [List.contains_cons, List.contains_nil, Bool.or_false, Bool.or_eq_false_iff, beq_eq_false_iff_ne, ne_eq] at h5); (repeat' (first | (with_reducible rfl) | (with_reducible refine same_if (by first | (simp [h4]; done) | (simp [h5]; done)) ?_) | (with_reducible refine same_kst (by first | exact List.forall_mem_nil _ | (simp [h4]; done) | (simp [h5]; done) | (simp [h4, h5]; done)) (by first | rfl | (simp [h5]; done) | (simp [h4]; done) | (simp [h4, h5]; done)) ?_))))) trivial))
    · rename Fr _ _ _ _ => F3
      rw [hsB (by assumption)] at F3
      exact hpure (cnext (tend _ F3 (by assumption) (fun _ h => h) (by exact List.forall_mem_nil _) (by trivial) (by (repeat' (first | exact List.forall_mem_nil _ | (refine List.forall_mem_cons.mpr ⟨by with_unfolding_all exact rfl, ?_⟩)))) (by (intro z h2 h3; have h4 := h2; have h5 := h3; (try simp only [List.forall_mem_cons, List.not_mem_nil, false_implies, implies_true, and_true, ne_eq] at h4); (try simp only [List.contains_cons, List.contains_nil, Bool.or_false, Bool.or_eq_false_iff, beq_eq_false_iff_ne, ne_eq] at h5); (repeat' (first | (with_reducible rfl) | (with_reducible refine same_if (by first | (simp [h4]; done) | (simp [h5]; done)) ?_) | (with_reducible refine same_kst (by first | exact List.forall_mem_nil _ | (simp [h4]; done) | (simp [h5]; done) | (simp [h4, h5]; done)) (by first | rfl | (simp [h5]; done) | (simp [h4]; done) | (simp [h4, h5]; done)) ?_))))) trivial))
  clear F1 N1
  rintro tB u3 h3 tk3 - F4 N4
  clear hsA hsB hsA' hsB' hlx hly hX hY hXa hYa hq0 hqx hqy
  have hlx := S_len A
  have hly := S_len B
  k_steps
  rotate_left
  · refine hret _ [] _ _ (by assumption) (by assumption) ⟨_, _, rfl, .inl ?_⟩
    have h0 : B.length = 0 := by lia (abstractProof := false)
    unfold edit
    rw [h0, D_u0]
    lia (abstractProof := false)
  · refine hret _ [] _ _ (by assumption) (by assumption) ⟨_, _, rfl, .inl ?_⟩
    have h0 : A.length = 0 := by lia (abstractProof := false)
    unfold edit
    rw [h0, D_0v]
    lia (abstractProof := false)
  have hA1 : 1 ≤ A.length := by lia (abstractProof := false)
  have hB1 : 1 ≤ B.length := by lia (abstractProof := false)
  refine unhold ?_
  rename Fr _ _ _ _ => F1
  rename News _ _ _ _ => N1
  refine cutK (σ := List Nat × List Nat × Nat × Nat) (fun c => [(Str.ofString "a", .str (S c.1) c.2.2.1), (Str.ofString "b", .str (S c.2.1) c.2.2.2)])
    (fun c => 1 ≤ c.1.length ∧ c.1.length ≤ c.2.1.length ∧ c.2.1.length ≤ 30 ∧ (∀ x ∈ c.1, x < 128) ∧ (∀ x ∈ c.2.1, x < 128) ∧ edit c.2.1 c.1 = edit A B) F1 N1 ?_ ?_
  · refine wpAny_If ?_
    k_steps
    · rename News _ _ _ _ => N3
      exact hpure (cnext (tend (B, A, _, _) (by assumption) N3 (fun _ h => by first | exact h | exact .tail _ h) (by exact List.forall_mem_nil _) (by trivial) (by (repeat' (first | exact List.forall_mem_nil _ | (refine List.forall_mem_cons.mpr ⟨by with_unfolding_all exact rfl, ?_⟩)))) (by (intro z h2 h3; have h4 := h2; have h5 := h3; (try simp only [List.forall_mem_cons, List.not_mem_nil, false_implies, implies_true, and_true, ne_eq] at h4); (try simp only [List.contains_cons, List.contains_nil, Bool.or_false, Bool.or_eq_false_iff, beq_eq_false_iff_ne, ne_eq] at h5); (repeat' (first | (with_reducible rfl) | (with_reducible refine same_if (by first | (simp [h4]; done) | (simp [h5]; done)) ?_) | (with_reducible refine same_kst (by first | exact List.forall_mem_nil _ | (simp [h4]; done) | (simp [h5]; done) | (simp [h4, h5]; done)) (by first | rfl | (simp [h5]; done) | (simp [h4]; done) | (simp [h4, h5]; done)) ?_))))) ⟨hB1, by dsimp only; lia (abstractProof := false), hA2, hB2a, hA2a, rfl⟩))
    · exact hpure (cnext (tend (A, B, _, _) (by assumption) (by assumption) (fun _ h => h) (by exact List.forall_mem_nil _) (by trivial) (by (repeat' (first | exact List.forall_mem_nil _ | (refine List.forall_mem_cons.mpr ⟨by with_unfolding_all exact rfl, ?_⟩)))) (by (intro z h2 h3; have h4 := h2; have h5 := h3; (try simp only [List.forall_mem_cons, List.not_mem_nil, false_implies, implies_true, and_true, ne_eq] at h4); (try simp only [List.contains_cons, List.contains_nil, Bool.or_false, Bool.or_eq_false_iff, beq_eq_false_iff_ne, ne_eq] at h5); (repeat' (first | (with_reducible rfl) | (with_reducible refine same_if (by first | (simp [h4]; done) | (simp [h5]; done)) ?_) | (with_reducible refine same_kst (by first | exact List.forall_mem_nil _ | (simp [h4]; done) | (simp [h5]; done) | (simp [h4, h5]; done)) (by first | rfl | (simp [h5]; done) | (simp [h4]; done) | (simp [h4, h5]; done)) ?_))))) ⟨hA1, by dsimp only; lia (abstractProof := false), hB2, hA2a, hB2a, edit_comm A B⟩))
  clear F1 N1
  rintro ⟨A', B', tA', tB'⟩ u4 h4 tk4 ⟨hA1', hAB, hB30, hAa, hBa, hed⟩ F5 N5
  dsimp only at hA1' hAB hB30 hAa hBa hed F5
  rw [← hed] at hret
  clear hed hlx hly hA1 hB1 hA2 hB2 hA2a hB2a
  have hlx := S_len A'
  have hly := S_len B'
  k_steps
  · refine hret _ [] _ _ (by assumption) (by assumption) ⟨_, _, rfl, .inr ⟨rfl, ?_⟩⟩
    have h1 := (D_ge (d := dS B' A') dS_0 B'.length A'.length).2
    unfold edit
    lia (abstractProof := false)
  have hmc2 : 2 * ((B'.length : Int) - A'.length) ≤ mc := by lia (abstractProof := false)
  refine list_range_led (n := A'.length) (by rfl) (by assumption) (by assumption) (by assumption) ?_ ?_ (by lia (abstractProof := false)) ?_
  · exact small_two (by lia (abstractProof := false)) (by lia (abstractProof := false))
  · exact size_two (by lia (abstractProof := false))
  intro lr h5 tk5 vals nn hlr F6 N6 hI
  rw [rowIJ_start (dS B' A')] at hI
  k_steps
  refine unhold ?_
  rename Fr _ _ _ _ => F7
  rename News _ _ _ _ => N7
  refine For_invVF F7 rfl rfl ?_
  k_steps
  refine unhold ?_
  rename IsRange _ _ _ _ _ _ _ _ => R8
  rename Fr _ _ _ _ => F8
  rename News _ _ _ _ => N8
  refine forR (σ := List Value × Nat × Int × Nat) (n := B'.length) (fun c => (lr, listOf c.1.toArray c.2.1) :: news) (fun c => [(Str.ofString "result", .int c.2.2.1 c.2.2.2)])
    [Str.ofString "bindex", Str.ofString "bchar", Str.ofString "distance", Str.ofString "minimum", Str.ofString "index", Str.ofString "substitute", Str.ofString "insert_delete"]
    (fun i c => IntsAre c.1 (rowIJ (dS B' A') i 0 A'.length) ∧ c.2.2.1 = (if i = 0 then 0 else D (dS B' A') i A'.length))
    (vals, nn, 0, _) (by rfl) (by rfl) R8 (small_one (by lia (abstractProof := false)) (by lia (abstractProof := false)) (by lia (abstractProof := false)) (by lia (abstractProof := false))) (by rw [rangeSize_nat]; lia (abstractProof := false)) (by decide) F8 N8 (fun _ h => h) (by (repeat' (first | exact List.forall_mem_nil _ | (refine List.forall_mem_cons.mpr ⟨by with_unfolding_all exact rfl, ?_⟩)))) ⟨hI, rfl⟩ ?_ ?_
  · clear F8 N8
    rintro ⟨vals, cap, res, tres⟩ i ti u h1 tk1 own hi ⟨hI, hres⟩ hoff F9 N9
    dsimp only at hI hres hoff F9 N9
    k_steps
    refine unhold ?_
    rename Fr _ _ _ _ => F10
    refine For_invVF F10 rfl rfl ?_
    k_steps
    refine unhold ?_
    rename IsRange _ _ _ _ _ _ _ _ => R11
    rename Fr _ _ _ _ => F11
    rename News _ _ _ _ => N11
    refine forR (σ := List Value × Nat × (Int × Nat) × (Int × Nat) × (Int × Nat)) (n := A'.length) (fun c => (lr, listOf c.1.toArray c.2.1) :: (news ++ own)) (fun c => [(Str.ofString "distance", .int c.2.2.1.1 c.2.2.1.2), (Str.ofString "result", .int c.2.2.2.1.1 c.2.2.2.1.2), (Str.ofString "minimum", .int c.2.2.2.2.1 c.2.2.2.2.2)])
      [Str.ofString "index", Str.ofString "substitute", Str.ofString "insert_delete"]
      (fun j c => IntsAre c.1 (rowIJ (dS B' A') i j A'.length) ∧ c.2.2.1.1 = D (dS B' A') i j ∧ c.2.2.2.1.1 = (if j = 0 then 2 * (i : Int) else D (dS B' A') (i + 1) j) ∧ (∀ k, k < j → c.2.2.2.2.1 ≤ D (dS B' A') (i + 1) (k + 1)))
      (vals, cap, (_, _), (_, _), (_, _)) (by rfl) (by rfl) R11 (small_one (by lia (abstractProof := false)) (by lia (abstractProof := false)) (by lia (abstractProof := false)) (by lia (abstractProof := false))) (by rw [rangeSize_nat]; lia (abstractProof := false)) (by decide) F11 N11 (fun _ h => h) (by (repeat' (first | exact List.forall_mem_nil _ | (refine List.forall_mem_cons.mpr ⟨by with_unfolding_all exact rfl, ?_⟩)))) ⟨hI, by dsimp only; rw [D_u0]; lia (abstractProof := false), by dsimp only; rw [if_pos rfl]; lia (abstractProof := false), fun k hk => by lia (abstractProof := false)⟩ ?_ ?_
    · clear F11 N11
      rintro ⟨vals, cap, ⟨dis, tdis⟩, ⟨res, tres⟩, ⟨mi, tmi⟩⟩ j tj u2 h2 tk2 own2 hj ⟨hI, hdis, hres, hmin⟩ hoff2 F12 N12
      dsimp only at hI hdis hres hmin hoff2 F12 N12
      have hd0 := dS_0 (xs := B') (ys := A') i j
      have hd2 := dS_2 (xs := B') (ys := A') i j
      have hrl := rowIJ_len (dS B' A') i j A'.length
      have hnel : ∀ q ∈ news ++ own ++ own2, q.1 ≠ lr := by
        intro q hq
        rcases List.mem_append.mp hq with hq | hq
        · rcases List.mem_append.mp hq with hq | hq
          · exact Nat.ne_of_lt (hlr q hq)
          · exact hoff q hq _ (.head _)
        · exact hoff2 q hq _ (.head _)
      simp only [List.cons_append] at N12
      have hR : (rowIJ (dS B' A') i j A'.length).getD (j : Int).toNat 0 = D (dS B' A') i (j + 1) := by rw [Int.toNat_natCast, rowIJ_get hj, if_neg (by lia (abstractProof := false))]
      have hV := lev_cell (d := dS B' A') dS_2 hdis hres
      k_steps
      refine unhold ?_
      k_dflt (refine' Does.useI (sub2 _ _ _ _ ?hi ?hj ?hb ?ha _ _) ?k1 ?k2 ?k3 ?k4 ?k5 ?kK ?kd ?ku ?_; (case hi => assumption); (case hj => assumption); (case hb => assumption); (case ha => assumption); (case k1 => k_asm); (case k2 => k_asm); (case k3 => k_asm); (case k4 => k_asm); (case k5 => k_asm); (case kK => first | exact rfl | assumption); (case kd => ktr_room); (case ku => ktr_units); intro t9 h9 tk9 F9 N9; (try dsimp only); (try k_fold))
      k_steps
      · rename Fr _ _ _ _ => F13
        rename News _ _ _ _ => N13
        rename IntsAre _ _ => hI'
        rename (_ < mi) => hlt
        simp only [hR] at F13 N13 hI' hlt
        simp only [hV] at F13 N13 hI' hlt
        simp only [Int.toNat_natCast, rowIJ_set hj] at N13 hI'
        refine nameInts N13 hI' fun vals' N14 hI14 => ?_
        refine hpure (tnext (tend (vals', cap, (D (dS B' A') i (j + 1), _), (D (dS B' A') (i + 1) (j + 1), _), (D (dS B' A') (i + 1) (j + 1), _)) F13 N14 (List.forall_mem_cons.mpr ⟨.head _, fun q hq => .tail _ (List.mem_append_left _ hq)⟩) (fun q hq => .tail _ (List.mem_append_right _ hq))
          (List.forall_mem_cons.mpr ⟨.inl (.head _), fun q hq => .inl (.tail _ (List.mem_map.mpr ⟨q, hq, rfl⟩))⟩) (by (repeat' (first | exact List.forall_mem_nil _ | (refine List.forall_mem_cons.mpr ⟨by with_unfolding_all exact rfl, ?_⟩)))) (by (intro z h2 h3; have h4 := h2; have h5 := h3; (try simp only [List.forall_mem_cons, List.not_mem_nil, false_implies, implies_true, and_true, ne_eq] at h4); (try simp only [List.contains_cons, List.contains_nil, Bool.or_false, Bool.or_eq_false_iff, beq_eq_false_iff_ne, ne_eq] at h5); (repeat' (first | (with_reducible rfl) | (with_reducible refine same_if (by first | (simp [h4]; done) | (simp [h5]; done)) ?_) | (with_reducible refine same_kst (by first | exact List.forall_mem_nil _ | (simp [h4]; done) | (simp [h5]; done) | (simp [h4, h5]; done)) (by first | rfl | (simp [h5]; done) | (simp [h4]; done) | (simp [h4, h5]; done)) ?_))))) ⟨hI14, rfl, by dsimp only; rw [if_neg (by lia (abstractProof := false))], ?_⟩))
        intro k hk
        dsimp only
        by_cases hkj : k = j
        · rw [hkj]; exact Int.le_refl _
        · have := hmin k (by lia (abstractProof := false))
          lia (abstractProof := false)
      · rename Fr _ _ _ _ => F13
        rename News _ _ _ _ => N13
        rename IntsAre _ _ => hI'
        rename (¬ _ < mi) => hlt
        simp only [hR] at F13 N13 hI' hlt
        simp only [hV] at F13 N13 hI' hlt
        simp only [Int.toNat_natCast, rowIJ_set hj] at N13 hI'
        refine nameInts N13 hI' fun vals' N14 hI14 => ?_
        refine hpure (tnext (tend (vals', cap, (D (dS B' A') i (j + 1), _), (D (dS B' A') (i + 1) (j + 1), _), (mi, _)) F13 N14 (List.forall_mem_cons.mpr ⟨.head _, fun q hq => .tail _ (List.mem_append_left _ hq)⟩) (fun q hq => .tail _ (List.mem_append_right _ hq))
          (List.forall_mem_cons.mpr ⟨.inl (.head _), fun q hq => .inl (.tail _ (List.mem_map.mpr ⟨q, hq, rfl⟩))⟩) (by (repeat' (first | exact List.forall_mem_nil _ | (refine List.forall_mem_cons.mpr ⟨by with_unfolding_all exact rfl, ?_⟩)))) (by (intro z h2 h3; have h4 := h2; have h5 := h3; (try simp only [List.forall_mem_cons, List.not_mem_nil, false_implies, implies_true, and_true, ne_eq] at h4); (try simp only [List.contains_cons, List.contains_nil, Bool.or_false, Bool.or_eq_false_iff, beq_eq_false_iff_ne, ne_eq] at h5); (repeat' (first | (with_reducible rfl) | (with_reducible refine same_if (by first | (simp [h4]; done) | (simp [h5]; done)) ?_) | (with_reducible refine same_kst (by first | exact List.forall_mem_nil _ | (simp [h4]; done) | (simp [h5]; done) | (simp [h4, h5]; done)) (by first | rfl | (simp [h5]; done) | (simp [h4]; done) | (simp [h4, h5]; done)) ?_))))) ⟨hI14, rfl, by dsimp only; rw [if_neg (by lia (abstractProof := false))], ?_⟩))
        intro k hk
        dsimp only
        by_cases hkj : k = j
        · rw [hkj]; lia (abstractProof := false)
        · exact hmin k (by lia (abstractProof := false))
    · clear F11 N11
      rintro ⟨vals, cap, ⟨dis, tdis⟩, ⟨res, tres⟩, ⟨mi, tmi⟩⟩ u2 h2 tk2 ⟨hI, hdis, hres, hmin⟩ F12 N12
      dsimp only at hI hdis hres hmin F12 N12
      rw [if_neg (by lia (abstractProof := false))] at hres
      rw [rowIJ_next] at hI
      k_steps
      · dsimp only
        refine hpure ?_
        dsimp only [TPost]
        k_steps
        rename News h₀ L _ _ => kN9
        refine hret _ [] _ _ (by assumption) (fun p hp => kN9 p (.tail _ (List.mem_append_left _ hp))) ⟨_, _, rfl, .inr ⟨rfl, ?_⟩⟩
        obtain ⟨k, hk, hle⟩ := D_row (d := dS B' A') dS_0 dS_2 (r := i) (n := A'.length) hA1' B'.length A'.length (by lia (abstractProof := false)) (by lia (abstractProof := false))
        have := hmin k hk
        unfold edit
        lia (abstractProof := false)
      · rename Fr _ _ _ _ => F13
        rename News _ _ _ _ => N13
        refine hpure (tnext (tend (vals, cap, res, _) F13 N13 (List.forall_mem_cons.mpr ⟨.head _, fun q hq => .tail _ (List.mem_append_left _ hq)⟩) (fun q hq => .tail _ (List.mem_append_right _ hq))
          (List.forall_mem_cons.mpr ⟨.inl (.head _), fun q hq => .inl (.tail _ (List.mem_map.mpr ⟨q, hq, rfl⟩))⟩) (by (repeat' (first | exact List.forall_mem_nil _ | (refine List.forall_mem_cons.mpr ⟨by with_unfolding_all exact rfl, ?_⟩)))) (by (intro z h2 h3; have h4 := h2; have h5 := h3; (try simp only [List.forall_mem_cons, List.not_mem_nil, false_implies, implies_true, and_true, ne_eq] at h4); (try simp only [List.contains_cons, List.contains_nil, Bool.or_false, Bool.or_eq_false_iff, beq_eq_false_iff_ne, ne_eq] at h5); (repeat' (first | (with_reducible rfl) | (with_reducible refine same_if (by first | (simp [h4]; done) | (simp [h5]; done)) ?_) | (with_reducible refine same_kst (by first | exact List.forall_mem_nil _ | (simp [h4]; done) | (simp [h5]; done) | (simp [h4, h5]; done)) (by first | rfl | (simp [h5]; done) | (simp [h4]; done) | (simp [h4, h5]; done)) ?_))))) ⟨hI, by dsimp only; rw [if_neg (by lia (abstractProof := false))]; exact hres⟩))
  · clear F8 N8
    rintro ⟨vals, cap, res, tres⟩ u2 h2 tk2 ⟨hI, hres⟩ F12 N12
    dsimp only at hI hres F12 N12
    rw [if_neg (by lia (abstractProof := false))] at hres
    k_steps
    refine hret _ [_] _ _ (by assumption) (by assumption) ⟨_, _, rfl, .inl hres⟩
end
section
open PySem PySem.W PyProof.Rows PySem.Calls
structure W5 where
  p : Int
  b : Int
  a : Int
  c : Int
  d : Int
inductive TIn (news : Led) : Value → W5 → Prop
  | mk {T : Addr} {p b a c d : Int} {t1 t2 t3 t4 t5 : Tok} {n : Nat} : (T, tupOf #[.int p t1, .int b t2, .int a t3, .int c t4, .int d t5] n) ∈ news → TIn news (.ref T) ⟨p, b, a, c, d⟩
def Tups (news : Led) (vs : List Value) (ds : List W5) : Prop := vs.length = ds.length ∧ ∀ (i : Nat) (v : Value) (d : W5), vs[i]? = some v → ds[i]? = some d → TIn news v d
theorem TIn.mono {n n' : Led} (h : ∀ p ∈ n, p ∈ n') {v : Value} {d : W5} (t : TIn n v d) : TIn n' v d := by
  cases t with
  | mk hm => exact .mk (h _ hm)
theorem Tups.mono {n n' : Led} (h : ∀ p ∈ n, p ∈ n') {vs : List Value} {ds : List W5} (t : Tups n vs ds) : Tups n' vs ds := ⟨t.1, fun i v d h1 h2 => (t.2 i v d h1 h2).mono h⟩
theorem Tups.app {n : Led} {vs ws : List Value} {ds es : List W5} (t : Tups n vs ds) (u : Tups n ws es) : Tups n (vs ++ ws) (ds ++ es) := by
  refine ⟨by rw [List.length_append, List.length_append, t.1, u.1], fun i v d h1 h2 => ?_⟩
  by_cases hi : i < vs.length
  · rw [List.getElem?_append_left hi] at h1
    rw [List.getElem?_append_left (by rw [← t.1]; exact hi)] at h2
    exact t.2 i v d h1 h2
  · rw [List.getElem?_append_right (by omega)] at h1
    rw [List.getElem?_append_right (by rw [← t.1]; omega), ← t.1] at h2
    exact u.2 _ v d h1 h2
theorem Tups.one {n : Led} {v : Value} {d : W5} (t : TIn n v d) : Tups n [v] [d] := by
  refine ⟨rfl, fun i v' d' h1 h2 => ?_⟩
  cases i with
  | zero => cases h1; cases h2; exact t
  | succ i => simp at h1

def priceF (l r : Int) (d : W5) : Int := d.p - 2 * (paidF l d.b d.a + paidF r d.c d.d)
set_option maxRecDepth 100000 in
set_option maxHeartbeats 8000000 in
theorem due {w mean mg mb news} (l₁ : Addr) (vs : List Value) (nn : Nat) (ds : List W5) (x y : Int) (tx ty : Tok) (hl : (l₁, listOf vs.toArray nn) ∈ news) (ht : Tups news vs ds) (hlen : ds.length ≤ 5000) (hpos : 1 ≤ ds.length)
    (hx : -1000 ≤ x ∧ x ≤ 1000) (hy : -1000 ≤ y ∧ y ≤ 1000) (hb : ∀ d ∈ ds, (-1000 ≤ d.p ∧ d.p ≤ 1000) ∧ (-1000 ≤ d.b ∧ d.b ≤ 1000) ∧ (-1000 ≤ d.a ∧ d.a ≤ 1000) ∧ (-1000 ≤ d.c ∧ d.c ≤ 1000) ∧ (-1000 ≤ d.d ∧ d.d ≤ 1000)) : 
    Does w mean mg mb 56 2 16 news [.ref l₁, .int x tx, .int y ty] (fun r _ => ∃ t M, r = .int (2 * ((if x < 0 then -x else x) + if y < 0 then -y else y) + M) t ∧ M ∈ ds.map (priceF x y) ∧ ∀ a ∈ ds.map (priceF x y), M ≤ a) := by
  unfold Does
  w_top off
  k_fill
  intro dp un gd cn cs a ccd cl outer A₀ base h₀ L m s Q E B F X N T hk hd hu hret
  refine wpAny_call ?_
  k_dflt cell_enter
  k_steps
  refine unhold ?_
  rename Fr _ _ _ _ => F1
  rename News _ _ _ _ => N1
  refine For_turns F1 ?_
  k_steps
  refine unhold ?_
  rename_i l' _ hlt _
  refine forL (σ := List Value × List Int × Nat) (nn := nn) (fun c => (l', listOf c.1.toArray c.2.2) :: news) (fun _ => []) [Str.ofString "price", Str.ofString "before", Str.ofString "ahead", Str.ofString "after", Str.ofString "behind", Str.ofString "paid"]
    (fun i c => IntsAre c.1 c.2.1 ∧ c.2.1 = (ds.take i).map (priceF x y) ∧ c.1.length = i ∧ i ≤ ds.length) ([], [], 0) (by rfl) rfl (fun _ => .tail _ hl) F1 N1 (fun _ h => h) (by (repeat' (first | exact List.forall_mem_nil _ | (refine List.forall_mem_cons.mpr ⟨by with_unfolding_all exact rfl, ?_⟩)))) ⟨.nil, by simp, rfl, Nat.zero_le _⟩ ?_ ?_
  · rintro ⟨vals, ns, cap⟩ i v u h1 tk1 own hv hP hoff F2 N2
    dsimp only at hP F2 N2 hoff
    obtain ⟨hI, hns, hcl, hil⟩ := hP
    have hi : i < ds.length := by
      have := (List.getElem?_eq_some_iff.mp hv).1
      have := ht.1
      omega
    obtain ⟨d, hd'⟩ : ∃ d, ds[i]? = some d := ⟨ds[i], by simp [hi]⟩
    have hT := ht.2 i v d hv hd'
    have hbd := hb d (List.mem_of_getElem? hd')
    cases hT with
    | mk hmem =>
    rename_i T p b aa c dd t1 t2 t3 t4 t5 n5
    dsimp only at hbd
    simp only [List.cons_append] at N2
    have hne : ∀ q ∈ news ++ own, q.1 ≠ l' := by
      intro q hq
      rcases List.mem_append.mp hq with hq | hq
      · exact Nat.ne_of_lt (hlt q hq)
      · exact hoff q hq _ (.head _)
    have hp1 : -1000 ≤ paidF x b aa ∧ paidF x b aa ≤ 1000 := by unfold paidF; split <;> omega
    have hp2 : -1000 ≤ paidF y c dd ∧ paidF y c dd ≤ 1000 := by unfold paidF; split <;> omega
    k_steps
    refine unhold ?_
    k_dflt (refine' Does.useI (paid _ _ _ _ _ _) ?k1 ?k2 ?k3 ?k4 ?k5 ?kK ?kd ?ku ?_; (case k1 => k_asm); (case k2 => k_asm); (case k3 => k_asm); (case k4 => k_asm); (case k5 => k_asm); (case kK => rfl); (case kd => ktr_room); (case ku => ktr_units); intro t9 h9 tk9 F9 N9; (try dsimp only); (try k_fold))
    k_steps
    refine unhold ?_
    k_dflt (refine' Does.useI (paid _ _ _ _ _ _) ?k1 ?k2 ?k3 ?k4 ?k5 ?kK ?kd ?ku ?_; (case k1 => k_asm); (case k2 => k_asm); (case k3 => k_asm); (case k4 => k_asm); (case k5 => k_asm); (case kK => rfl); (case kd => ktr_room); (case ku => ktr_units); intro t9 h9 tk9 F9 N9; (try dsimp only); (try k_fold))
    k_steps
    rename News _ _ _ _ => N9
    simp only [List.push_toArray] at N9
    refine hpure (tend (vals ++ [Value.int (p - 2 * (paidF x b aa + paidF y c dd)) _], ns ++ [p - 2 * (paidF x b aa + paidF y c dd)], _) (by assumption) N9 (List.forall_mem_cons.mpr ⟨by exact List.mem_cons_self, fun q hq => List.mem_cons_of_mem _ (List.mem_append_left _ hq)⟩) ?_ ?_ (by (repeat' (first | exact List.forall_mem_nil _ | (refine List.forall_mem_cons.mpr ⟨by with_unfolding_all exact rfl, ?_⟩)))) (by (intro z h2 h3; have h4 := h2; have h5 := h3; (try simp only [List.forall_mem_cons, List.not_mem_nil, false_implies, implies_true, and_true, ne_eq] at h4); (try simp only [List.contains_cons, List.contains_nil, Bool.or_false, Bool.or_eq_false_iff, beq_eq_false_iff_ne, ne_eq] at h5); (repeat' (first | (with_reducible rfl) | (with_reducible refine same_if (by first | (simp [h4]; done) | (simp [h5]; done)) ?_) | (with_reducible refine same_kst (by first | exact List.forall_mem_nil _ | (simp [h4]; done) | (simp [h5]; done) | (simp [h4, h5]; done)) (by first | rfl | (simp [h5]; done) | (simp [h4]; done) | (simp [h4, h5]; done)) ?_))))) ?_)
    · exact fun q hq => List.mem_cons_of_mem _ (List.mem_append_right _ hq)
    · exact List.forall_mem_cons.mpr ⟨.inl List.mem_cons_self, fun q hq => .inl (List.mem_cons_of_mem _ (List.mem_map.mpr ⟨q, hq, rfl⟩))⟩
    · refine ⟨hI.append (.cons _ _ .nil), ?_, by simp [hcl], hi⟩
      dsimp only
      rw [hns, List.take_add_one, hd']
      simp [priceF]
  · rintro ⟨vals, ns, cap⟩ u h1 tk1 hP F2 N2
    dsimp only at hP F2 N2
    obtain ⟨hI, hns, hcl, hil⟩ := hP
    rw [ht.1, List.take_length] at hns
    have hnl : ns.length = ds.length := by rw [hns, List.length_map]
    k_steps
    rename (∀ a ∈ ns, _ ≤ a) => hmin
    rename (_ ∈ ns) => hin
    rw [hns] at hmin hin
    exact hret _ [_] _ _ (by assumption) (by assumption) ⟨_, _, rfl, hin, hmin⟩
end
section
open PySem PySem.W PyProof.Rows PySem.Calls
def prW (W T : List Int) (i j : Nat) : Int := if W.getD i 0 = T.getD j 0 then 0 else if (W.getD i 0).fdiv 2 = (T.getD j 0).fdiv 2 then 1 else 2
def oneF (pr i j : Int) : W5 := ⟨pr + 2 * (i + j), i, j, i, j⟩
def extF (pr i j : Int) (d : W5) : W5 := ⟨d.p + pr + 2 * (i - d.c - 1 + j - d.d - 1), d.b, d.a, i, j⟩
def lessF (i j : Int) (d : W5) : Bool := decide (d.c < i) && decide (d.d < j)
def longF (pr i j : Int) (ws : List W5) : List W5 := oneF pr i j :: (ws.filter (lessF i j)).map (extF pr i j)
def cellF (W T : List Int) (i j : Nat) (ws : List W5) : List W5 := ws ++ longF (prW W T i j) i j ws
def rowF (W T : List Int) (i : Nat) : Nat → List W5 → List W5
  | 0, ws => ws
  | j + 1, ws => cellF W T i j (rowF W T i j ws)
def waysF (W T : List Int) : Nat → List W5
  | 0 => []
  | i + 1 => rowF W T i 3 (waysF W T i)
def wholeF (d : W5) : W5 := ⟨d.p + 2 * ((4 - 1 - d.c) + (3 - 1 - d.d)), d.b, d.a, 4 - 1 - d.c, 3 - 1 - d.d⟩
/-- what is known of each way -/
def B5 (d : W5) : Prop := 0 ≤ d.c ∧ d.c ≤ 3 ∧ 0 ≤ d.d ∧ d.d ≤ 2 ∧ 0 ≤ d.p ∧ d.p ≤ 2 * (d.c + d.d) + 2 ∧ 0 ≤ d.b ∧ d.b ≤ d.c ∧ 0 ≤ d.a ∧ d.a ≤ d.d
theorem filt_snoc {ds : List W5} {k : Nat} {d : W5} (f : W5 → Bool) (h : ds[k]? = some d) : (ds.take (k + 1)).filter f = (ds.take k).filter f ++ if f d = true then [d] else [] := by
  rw [List.take_add_one, h, List.filter_append]
  congr 1
  simp only [Option.toList]
  rw [List.filter_cons]
  split <;> rfl
theorem prW_b (W T : List Int) (i j : Nat) : 0 ≤ prW W T i j ∧ prW W T i j ≤ 2 := by
  unfold prW
  split
  · lia (abstractProof := false)
  · split <;> lia (abstractProof := false)
theorem cellF_b {W T : List Int} {i j : Nat} {ws : List W5} (hi : i ≤ 3) (hj : j ≤ 2) (h : ∀ d ∈ ws, B5 d) : ∀ d ∈ cellF W T i j ws, B5 d := by
  have hp := prW_b W T i j
  intro d hd
  unfold cellF longF at hd
  simp only [List.mem_append, List.mem_cons, List.mem_map, List.mem_filter, lessF, Bool.and_eq_true, decide_eq_true_eq] at hd
  rcases hd with hd | rfl | ⟨e, ⟨he, h1, h2⟩, rfl⟩
  · exact h d hd
  · unfold oneF B5; dsimp only; lia (abstractProof := false)
  · have := h e he
    unfold B5 at this
    unfold extF B5; dsimp only; lia (abstractProof := false)
theorem rowF_b {W T : List Int} {i : Nat} {ws : List W5} (hi : i ≤ 3) (h : ∀ d ∈ ws, B5 d) : ∀ j, j ≤ 3 → ∀ d ∈ rowF W T i j ws, B5 d
  | 0, _ => h
  | j + 1, hj => cellF_b hi (by lia (abstractProof := false)) (rowF_b hi h j (by lia (abstractProof := false)))
theorem waysF_b {W T : List Int} : ∀ i, i ≤ 4 → ∀ d ∈ waysF W T i, B5 d
  | 0, _ => fun _ h => nomatch h
  | i + 1, hi => rowF_b (by lia (abstractProof := false)) (waysF_b i (by lia (abstractProof := false))) 3 (by lia (abstractProof := false))
theorem cellF_l {W T : List Int} {i j : Nat} {ws : List W5} : (cellF W T i j ws).length ≤ 2 * ws.length + 1 := by
  have := List.length_filter_le (lessF (i : Int) j) ws
  unfold cellF longF
  simp only [List.length_append, List.length_cons, List.length_map]
  lia (abstractProof := false)
theorem rowF_l {W T : List Int} {i : Nat} {ws : List W5} {k : Nat} (h : ws.length + 1 ≤ 2 ^ k) : ∀ j, (rowF W T i j ws).length + 1 ≤ 2 ^ (k + j)
  | 0 => h
  | j + 1 => by
    have h1 := rowF_l (W := W) (T := T) (i := i) h j
    have h2 := cellF_l (W := W) (T := T) (i := i) (j := j) (ws := rowF W T i j ws)
    rw [rowF, ← Nat.add_assoc, Nat.pow_succ]
    lia (abstractProof := false)
theorem waysF_l {W T : List Int} : ∀ i, (waysF W T i).length + 1 ≤ 2 ^ (3 * i)
  | 0 => by simp [waysF]
  | i + 1 => by rw [waysF, Nat.mul_add]; exact rowF_l (waysF_l i) 3
theorem rowF_small {W T : List Int} {i j : Nat} (hi : i ≤ 3) (hj : j ≤ 3) : (rowF W T i j (waysF W T i)).length ≤ 4095 := by
  have h := rowF_l (W := W) (T := T) (i := i) (waysF_l (W := W) (T := T) i) j
  have : 2 ^ (3 * i + j) ≤ 2 ^ 12 := Nat.pow_le_pow_right (by decide) (by lia (abstractProof := false))
  lia (abstractProof := false)
local macro_rules | `(tactic| walk_at "subscriptTail") => `(tactic| (k_here; k_dflt (refine item_led (by k_asm) (by k_mem) (by assumption) (by omega) (by omega) (by omega) ?_; intro t9))) | `(tactic| walk_at "binaryOp Add ref ref") => `(tactic| (k_here; refine hold ?_))

set_option maxRecDepth 100000 in
set_option maxHeartbeats 8000000 in
theorem ways {w mean mg mb news} (lw lt : Addr) (wv tv : List Value) (nw nt : Nat) (W T : List Int) (hlw : (lw, listOf wv.toArray nw) ∈ news) (hlt : (lt, listOf tv.toArray nt) ∈ news) (hW : IntsAre wv W) (hT : IntsAre tv T) (hWl : W.length = 4) (hTl : T.length = 3)
    (hWb : ∀ x ∈ W, 0 ≤ x ∧ x ≤ 4) (hTb : ∀ x ∈ T, 0 ≤ x ∧ x ≤ 4) :
    Does w mean mg mb 42 1 8 news [.ref lw, .ref lt] (fun r tl => ∃ l vs nn, r = .ref l ∧ (l, listOf vs.toArray nn) ∈ tl ∧ Tups tl vs ((waysF W T 4).map wholeF)) := by
  have hWl' : (W.length : Int) = 4 := by lia (abstractProof := false)
  have hTl' : (T.length : Int) = 3 := by lia (abstractProof := false)
  unfold Does
  w_top off
  k_fill
  intro dp un gd cn cs a ccd cl outer A₀ base h₀ L m s Q E B F X N Tp hk hd hu hret
  refine wpAny_call ?_
  k_dflt cell_enter
  rename_i g₁ L₁ h₁ FG₁ F₁ N₁ B₁ X₁ T₁
  k_steps
  refine unhold ?_
  rename Fr _ _ _ _ => F1
  rename News _ _ _ _ => N1
  refine For_invVF F1 rfl rfl ?_
  k_steps
  refine unhold ?_
  rename News _ _ _ _ => N2
  rename Fr _ _ _ _ => F2
  rename IsRange _ _ _ _ _ _ _ _ => R2
  rename (∀ p ∈ news, p.1 < _) => hl0
  refine forR (σ := Addr × List Value × Nat × Led) (n := 4) (fun c => c.2.2.2 ++ news) (fun c => [(Str.ofString "ways", .ref c.1)]) [Str.ofString "i", Str.ofString "j", Str.ofString "price", Str.ofString "longer", Str.ofString "way", Str.ofString "between"]
    (fun i c => (c.1, listOf c.2.1.toArray c.2.2.1) ∈ c.2.2.2 ∧ Tups (c.2.2.2 ++ news) c.2.1 (waysF W T i) ∧ ∀ q ∈ c.2.2.2, q.2.cls = .type "list" ∨ q.2.cls = .type "tuple")
    (_, [], 0, [(_, listOf #[] 0)]) (by rfl) (by rfl) R2 (by decide) (by decide) (by decide) F2 N2 (fun _ h => h) (by (repeat' (first | exact List.forall_mem_nil _ | (refine List.forall_mem_cons.mpr ⟨by with_unfolding_all exact rfl, ?_⟩)))) ⟨List.mem_cons_self, ⟨rfl, fun i v d h => by simp at h⟩, List.forall_mem_cons.mpr ⟨.inl rfl, List.forall_mem_nil _⟩⟩ ?_ ?_
  · rintro ⟨l, vs, nn, g⟩ i ti u h1 tk1 own hi ⟨hmem, htup, hcls⟩ hoff F3 N3
    dsimp only at hmem htup hcls hoff F3 N3
    k_steps
    refine unhold ?_
    rename Fr _ _ _ _ => F4
    refine For_invVF F4 rfl rfl ?_
    k_steps
    refine unhold ?_
    rename News _ _ _ _ => N5
    rename Fr _ _ _ _ => F5
    rename IsRange _ _ _ _ _ _ _ _ => R5
    refine forR (σ := Addr × List Value × Nat × Led) (n := 3) (fun c => c.2.2.2 ++ (news ++ own)) (fun c => [(Str.ofString "ways", .ref c.1)]) [Str.ofString "j", Str.ofString "price", Str.ofString "longer", Str.ofString "way", Str.ofString "between"]
      (fun j c => (c.1, listOf c.2.1.toArray c.2.2.1) ∈ c.2.2.2 ∧ Tups (c.2.2.2 ++ news) c.2.1 (rowF W T i j (waysF W T i)) ∧ ∀ q ∈ c.2.2.2, q.2.cls = .type "list" ∨ q.2.cls = .type "tuple")
      (l, vs, nn, g) (by rfl) (by rfl) R5 (by decide) (by decide) (by decide) F5 N5 (fun p hp => by rw [List.append_assoc]; exact hp) (by (repeat' (first | exact List.forall_mem_nil _ | (refine List.forall_mem_cons.mpr ⟨by with_unfolding_all exact rfl, ?_⟩)))) ⟨hmem, htup, hcls⟩ ?_ ?_
    · rintro ⟨l, vs, nn, g⟩ j tj u2 h2 tk2 own2 hj ⟨hmem, htup, hcls⟩ hoff2 F6 N6
      dsimp only at hmem htup hcls hoff2 F6 N6
      k_steps
      refine unhold ?_
      rename Fr _ _ _ _ => F7
      rename News _ _ _ _ => N7
      refine cutF (Str.ofString "price") (if (W.getD (i : Int).toNat 0).fdiv 2 = (T.getD (j : Int).toNat 0).fdiv 2 then 1 else 2) F7 N7 ?_ ?_
      · refine wpAny_If ?_
        k_steps
        · exact hpure (cutE (by assumption) (by assumption) (by with_unfolding_all exact rfl) (by rw [if_pos (by assumption)]) (by intro z hz; with_reducible refine same_if hz ?_; rfl))
        · exact hpure (cutE (by assumption) (by assumption) (by with_unfolding_all exact rfl) (by rw [if_neg (by assumption)]) (fun _ _ => rfl))
      intro h8 tk8 tv8 F8 N8
      k_steps
      refine unhold ?_
      refine cutF (Str.ofString "price") (prW W T i j) F8 N8 ?_ ?_
      · refine wpAny_If ?_
        k_steps
        · exact hpure (cutE (by assumption) (by assumption) (by with_unfolding_all exact rfl) (by rename (_ = _) => hq; simp only [Int.toNat_natCast] at hq; rw [prW, if_pos hq]) (by intro z hz; with_reducible refine same_if hz ?_; rfl))
        · exact hpure (cutE (by assumption) (by assumption) (by with_unfolding_all exact rfl) (by rename (_ ≠ _) => hq; simp only [Int.toNat_natCast] at hq ⊢; rw [prW, if_neg hq]) (fun _ _ => rfl))
      clear F8 N8
      intro h8 tk8 tv8 F8 N8
      have hpr := prW_b W T i j
      k_steps
      rename_i t1 _ ht1 lo _ hlo _ F9 N9
      refine nameObj N9 fun o1 ho1 N10 => ?_
      refine nameTail N10 fun bs hbs N11 => ?_
      clear N9 N10
      rw [← hbs] at ht1 hlo
      have hsub : ∀ p ∈ g ++ news, p ∈ bs := by
        intro p hp
        rw [hbs]
        rcases List.mem_append.mp hp with hp | hp
        · exact List.mem_append_left _ (List.mem_append_left _ hp)
        · exact List.mem_append_left _ (List.mem_append_right _ (List.mem_append_left _ hp))
      have hT1 : TIn [(t1, o1)] (.ref t1) (oneF (prW W T i j) i j) := by
        rw [ho1]
        exact .mk (List.mem_singleton.mpr rfl)
      have ho1c : o1.cls = .type "tuple" := by rw [ho1]
      clear ho1
      have hlo2 : ∀ p ∈ bs, p.1 < lo := ktn_ltOf hlo.2
      have hds := rowF_small (W := W) (T := T) (i := i) (j := j) (by lia (abstractProof := false)) (by lia (abstractProof := false))
      have hdb := rowF_b (W := W) (T := T) (i := i) (by lia (abstractProof := false)) (waysF_b (W := W) (T := T) i (by lia (abstractProof := false))) j (by lia (abstractProof := false))
      generalize hdse : rowF W T i j (waysF W T i) = ds at htup hds hdb
      have hvl := htup.1
      refine unhold ?_
      refine For_turns F9 ?_
      k_steps
      refine unhold ?_
      refine forL (σ := List Value × Nat × Led) (l := l) (vs := vs) (nn := nn) (fun c => (lo, listOf c.1.toArray c.2.1) :: (c.2.2 ++ ((t1, o1) :: bs))) (fun _ => []) [Str.ofString "way", Str.ofString "between"]
        (fun k c => Tups (c.2.2 ++ [(t1, o1)]) c.1 (oneF (prW W T i j) i j :: ((ds.take k).filter (lessF i j)).map (extF (prW W T i j) i j)) ∧ (∀ q ∈ c.2.2, lo < q.1 ∧ q.2.cls = .type "tuple") ∧ c.1.length ≤ k + 1)
        ([.ref t1], 0, []) (by rfl) (by rfl) (fun c => .tail _ (List.mem_append_right _ (.tail _ (hsub _ (List.mem_append_left _ hmem))))) F9 N11 (fun _ h => h) (by (repeat' (first | exact List.forall_mem_nil _ | (refine List.forall_mem_cons.mpr ⟨by with_unfolding_all exact rfl, ?_⟩)))) ⟨Tups.one hT1, List.forall_mem_nil _, Nat.le_refl _⟩ ?_ ?_
      · rintro ⟨vals, cap, g2⟩ k v u3 h3 tk3 own3 hv ⟨hvt, hg2, hvl2⟩ hoff3 F12 N12
        dsimp only at hvt hg2 hvl2 hoff3 F12 N12
        have hk' : k < ds.length := by
          have := (List.getElem?_eq_some_iff.mp hv).1
          lia (abstractProof := false)
        obtain ⟨d, hd'⟩ : ∃ d, ds[k]? = some d := ⟨ds[k], by simp [hk']⟩
        have hT := htup.2 k v d hv hd'
        have hbd := hdb d (List.mem_of_getElem? hd')
        cases hT with
        | mk hm5 =>
        rename_i T5 p b aa c dd t51 t52 t53 t54 t55 n5
        have hm6 := hsub _ hm5
        unfold B5 at hbd
        dsimp only at hbd
        simp only [List.cons_append, List.append_assoc] at N12
        have hne : ∀ q ∈ g2 ++ ((t1, o1) :: (bs ++ own3)), q.1 ≠ lo := by
          intro q hq
          rcases List.mem_append.mp hq with hq | hq
          · exact Nat.ne_of_gt (hg2 q hq).1
          · rcases List.mem_cons.mp hq with rfl | hq
            · exact Nat.ne_of_lt hlo.1
            · rcases List.mem_append.mp hq with hq | hq
              · exact Nat.ne_of_lt (hlo2 q hq)
              · exact hoff3 q hq _ (.head _)
        k_steps
        · rename_i hc1 hc2 _ _ D9 _ hl9 _ F13 N13
          simp only [List.push_toArray] at N13
          have hles : lessF i j ⟨p, b, aa, c, dd⟩ = true := by
            simp only [lessF, Bool.and_eq_true, decide_eq_true_eq]
            lia (abstractProof := false)
          refine hpure (tnext (tend (vals ++ [.ref D9], _, (D9, _) :: g2) F13 N13 (List.forall_mem_cons.mpr ⟨.tail _ (by exact .head _), List.forall_mem_cons.mpr ⟨by exact .head _, ?_⟩⟩) ?_ ?_ (by (repeat' (first | exact List.forall_mem_nil _ | (refine List.forall_mem_cons.mpr ⟨by with_unfolding_all exact rfl, ?_⟩)))) (by (intro z h2 h3; have h4 := h2; have h5 := h3; (try simp only [List.forall_mem_cons, List.not_mem_nil, false_implies, implies_true, and_true, ne_eq] at h4); (try simp only [List.contains_cons, List.contains_nil, Bool.or_false, Bool.or_eq_false_iff, beq_eq_false_iff_ne, ne_eq] at h5); (repeat' (first | (with_reducible rfl) | (with_reducible refine same_if (by first | (simp [h4]; done) | (simp [h5]; done)) ?_) | (with_reducible refine same_kst (by first | exact List.forall_mem_nil _ | (simp [h4]; done) | (simp [h5]; done) | (simp [h4, h5]; done)) (by first | rfl | (simp [h5]; done) | (simp [h4]; done) | (simp [h4, h5]; done)) ?_))))) ⟨?_, ?_, ?_⟩))
          · intro q hq
            refine .tail _ (.tail _ ?_)
            rcases List.mem_append.mp hq with hq | hq
            · exact List.mem_append_left _ hq
            · rcases List.mem_cons.mp hq with rfl | hq
              · exact List.mem_append_right _ (.head _)
              · exact List.mem_append_right _ (.tail _ (List.mem_append_left _ hq))
          · exact fun q hq => .tail _ (.tail _ (List.mem_append_right _ (.tail _ (List.mem_append_right _ hq))))
          · refine List.forall_mem_cons.mpr ⟨.inl (.head _), List.forall_mem_cons.mpr ⟨.inr (.inr rfl), fun q hq => .inl (.tail _ (List.mem_map.mpr ⟨q, hq, rfl⟩))⟩⟩
          · dsimp only
            rw [filt_snoc _ hd', if_pos hles, List.map_append, ← List.cons_append]
            exact (hvt.mono fun q hq => .tail _ hq).app (Tups.one (.mk (.head _)))
          · exact List.forall_mem_cons.mpr ⟨⟨hl9.1, rfl⟩, hg2⟩
          · dsimp only
            rw [List.length_append]
            exact Nat.succ_le_succ hvl2
        · have hles : lessF i j ⟨p, b, aa, c, dd⟩ = false := by
            simp only [lessF, Bool.and_eq_false_iff, decide_eq_false_iff_not]
            lia (abstractProof := false)
          rename Fr _ _ _ _ => F13
          rename News _ _ _ _ => N13
          refine hpure (tnext (tend (vals, cap, g2) F13 N13 ?_ ?_ ?_ (by (repeat' (first | exact List.forall_mem_nil _ | (refine List.forall_mem_cons.mpr ⟨by with_unfolding_all exact rfl, ?_⟩)))) (by (intro z h2 h3; have h4 := h2; have h5 := h3; (try simp only [List.forall_mem_cons, List.not_mem_nil, false_implies, implies_true, and_true, ne_eq] at h4); (try simp only [List.contains_cons, List.contains_nil, Bool.or_false, Bool.or_eq_false_iff, beq_eq_false_iff_ne, ne_eq] at h5); (repeat' (first | (with_reducible rfl) | (with_reducible refine same_if (by first | (simp [h4]; done) | (simp [h5]; done)) ?_) | (with_reducible refine same_kst (by first | exact List.forall_mem_nil _ | (simp [h4]; done) | (simp [h5]; done) | (simp [h4, h5]; done)) (by first | rfl | (simp [h5]; done) | (simp [h4]; done) | (simp [h4, h5]; done)) ?_))))) ⟨?_, hg2, Nat.le_succ_of_le hvl2⟩))
          · intro q hq
            rcases List.mem_cons.mp hq with rfl | hq
            · exact .head _
            · refine .tail _ ?_
              rcases List.mem_append.mp hq with hq | hq
              · exact List.mem_append_left _ hq
              · rcases List.mem_cons.mp hq with rfl | hq
                · exact List.mem_append_right _ (.head _)
                · exact List.mem_append_right _ (.tail _ (List.mem_append_left _ hq))
          · exact fun q hq => .tail _ (List.mem_append_right _ (.tail _ (List.mem_append_right _ hq)))
          · exact fun q hq => .inl (List.mem_map.mpr ⟨q, hq, rfl⟩)
          · dsimp only
            rw [filt_snoc _ hd', if_neg (by rw [hles]; exact Bool.false_ne_true), List.append_nil]
            exact hvt
        · have hles : lessF i j ⟨p, b, aa, c, dd⟩ = false := by
            simp only [lessF, Bool.and_eq_false_iff, decide_eq_false_iff_not]
            lia (abstractProof := false)
          rename Fr _ _ _ _ => F13
          rename News _ _ _ _ => N13
          refine hpure (tnext (tend (vals, cap, g2) F13 N13 ?_ ?_ ?_ (by (repeat' (first | exact List.forall_mem_nil _ | (refine List.forall_mem_cons.mpr ⟨by with_unfolding_all exact rfl, ?_⟩)))) (by (intro z h2 h3; have h4 := h2; have h5 := h3; (try simp only [List.forall_mem_cons, List.not_mem_nil, false_implies, implies_true, and_true, ne_eq] at h4); (try simp only [List.contains_cons, List.contains_nil, Bool.or_false, Bool.or_eq_false_iff, beq_eq_false_iff_ne, ne_eq] at h5); (repeat' (first | (with_reducible rfl) | (with_reducible refine same_if (by first | (simp [h4]; done) | (simp [h5]; done)) ?_) | (with_reducible refine same_kst (by first | exact List.forall_mem_nil _ | (simp [h4]; done) | (simp [h5]; done) | (simp [h4, h5]; done)) (by first | rfl | (simp [h5]; done) | (simp [h4]; done) | (simp [h4, h5]; done)) ?_))))) ⟨?_, hg2, Nat.le_succ_of_le hvl2⟩))
          · intro q hq
            rcases List.mem_cons.mp hq with rfl | hq
            · exact .head _
            · refine .tail _ ?_
              rcases List.mem_append.mp hq with hq | hq
              · exact List.mem_append_left _ hq
              · rcases List.mem_cons.mp hq with rfl | hq
                · exact List.mem_append_right _ (.head _)
                · exact List.mem_append_right _ (.tail _ (List.mem_append_left _ hq))
          · exact fun q hq => .tail _ (List.mem_append_right _ (.tail _ (List.mem_append_right _ hq)))
          · exact fun q hq => .inl (List.mem_map.mpr ⟨q, hq, rfl⟩)
          · dsimp only
            rw [filt_snoc _ hd', if_neg (by rw [hles]; exact Bool.false_ne_true), List.append_nil]
            exact hvt
      · rintro ⟨vals, cap, g2⟩ u3 h3 tk3 ⟨hvt, hg2, hvl2⟩ F12 N12
        dsimp only at hvt hg2 hvl2 F12 N12
        rw [hvl, List.take_length] at hvt
        have hm6 := hsub _ (List.mem_append_left _ hmem)
        k_steps
        refine unhold ?_
        k_dflt (refine' add_led ?F ?N ?l ?b ?z ?_; (case F => k_asm); (case N => k_asm); (case l => k_mem); (case b => k_mem); (case z => lia (abstractProof := false)))
        intro _ _ _ _ _
        (try k_sweep)
        k_steps
        rename_i d9 _ lt9 _ F14 N14
        refine hpure (tnext (tend (d9, vs ++ vals, 0, (d9, listOf (vs ++ vals).toArray 0) :: (g2 ++ ((t1, o1) :: g))) F14 N14 (fun q hq => ?_)
          (fun q hq => .tail _ (.tail _ (List.mem_append_right _ (.tail _ (by rw [hbs]; exact List.mem_append_right _ hq))))) ?_ (by (repeat' (first | exact List.forall_mem_nil _ | (refine List.forall_mem_cons.mpr ⟨by with_unfolding_all exact rfl, ?_⟩)))) (by (intro z h2 h3; have h4 := h2; have h5 := h3; (try simp only [List.forall_mem_cons, List.not_mem_nil, false_implies, implies_true, and_true, ne_eq] at h4); (try simp only [List.contains_cons, List.contains_nil, Bool.or_false, Bool.or_eq_false_iff, beq_eq_false_iff_ne, ne_eq] at h5); (repeat' (first | (with_reducible rfl) | (with_reducible refine same_if (by first | (simp [h4]; done) | (simp [h5]; done)) ?_) | (with_reducible refine same_kst (by first | exact List.forall_mem_nil _ | (simp [h4]; done) | (simp [h5]; done) | (simp [h4, h5]; done)) (by first | rfl | (simp [h5]; done) | (simp [h4]; done) | (simp [h4, h5]; done)) ?_))))) ⟨.head _, ?_, ?_⟩))
        · simp only [List.append_assoc, List.cons_append, List.mem_append, List.mem_cons] at hq ⊢
          rcases hq with rfl | hq | rfl | hq | hq | hq
          · exact .inl rfl
          · exact .inr (.inr (.inl hq))
          · exact .inr (.inr (.inr (.inl rfl)))
          · exact .inr (.inr (.inr (.inr (hsub _ (List.mem_append_left _ hq)))))
          · exact .inr (.inr (.inr (.inr (hsub _ (List.mem_append_right _ hq)))))
          · exact .inr (.inr (.inr (.inr (by rw [hbs]; exact List.mem_append_left _ (List.mem_append_right _ (List.mem_append_right _ hq))))))
        · intro q hq
          simp only [List.append_assoc, List.cons_append, List.mem_append, List.mem_cons] at hq
          rcases hq with rfl | hq | rfl | hq | hq | hq
          · exact .inr (.inl rfl)
          · exact .inr (.inr (hg2 q hq).2)
          · exact .inr (.inr ho1c)
          · exact .inl (List.mem_map.mpr ⟨q, List.mem_append_left _ hq, rfl⟩)
          · exact .inl (List.mem_map.mpr ⟨q, List.mem_append_right _ (List.mem_append_left _ hq), rfl⟩)
          · exact .inl (List.mem_map.mpr ⟨q, List.mem_append_right _ (List.mem_append_right _ hq), rfl⟩)
        · dsimp only
          rw [rowF, hdse]
          refine Tups.app (htup.mono fun q hq => ?_) (hvt.mono fun q hq => ?_)
          · simp only [List.append_assoc, List.cons_append, List.mem_append, List.mem_cons] at hq ⊢
            rcases hq with hq | hq
            · exact .inr (.inr (.inr (.inl hq)))
            · exact .inr (.inr (.inr (.inr hq)))
          · simp only [List.append_assoc, List.cons_append, List.mem_append, List.mem_cons, List.not_mem_nil, or_false] at hq ⊢
            rcases hq with hq | rfl
            · exact .inr (.inl hq)
            · exact .inr (.inr (.inl rfl))
        · intro q hq
          simp only [List.mem_append, List.mem_cons] at hq
          rcases hq with rfl | hq | rfl | hq
          · exact .inl rfl
          · exact .inr (hg2 q hq).2
          · exact .inr ho1c
          · exact hcls q hq
    · rintro ⟨l2, vs2, nn2, g2⟩ u2 h2 tk2 ⟨hmem2, htup2, hcls2⟩ F6 N6
      dsimp only at hmem2 htup2 hcls2 F6 N6
      k_steps
      rename News _ _ _ _ => N14
      rename Fr _ _ _ _ => F14
      refine hpure (tnext (tend (l2, vs2, nn2, g2) F14 N14 (fun q hq => ?_) (fun q hq => List.mem_append_right _ (List.mem_append_right _ hq)) (fun q hq => ?_) (by (repeat' (first | exact List.forall_mem_nil _ | (refine List.forall_mem_cons.mpr ⟨by with_unfolding_all exact rfl, ?_⟩)))) (by (intro z h2 h3; have h4 := h2; have h5 := h3; (try simp only [List.forall_mem_cons, List.not_mem_nil, false_implies, implies_true, and_true, ne_eq] at h4); (try simp only [List.contains_cons, List.contains_nil, Bool.or_false, Bool.or_eq_false_iff, beq_eq_false_iff_ne, ne_eq] at h5); (repeat' (first | (with_reducible rfl) | (with_reducible refine same_if (by first | (simp [h4]; done) | (simp [h5]; done)) ?_) | (with_reducible refine same_kst (by first | exact List.forall_mem_nil _ | (simp [h4]; done) | (simp [h5]; done) | (simp [h4, h5]; done)) (by first | rfl | (simp [h5]; done) | (simp [h4]; done) | (simp [h4, h5]; done)) ?_))))) ⟨hmem2, htup2, hcls2⟩))
      · rcases List.mem_append.mp hq with hq | hq
        · exact List.mem_append_left _ hq
        · exact List.mem_append_right _ (List.mem_append_left _ hq)
      · rcases List.mem_append.mp hq with hq | hq
        · exact .inr (hcls2 q hq)
        · exact .inl (List.mem_map.mpr ⟨q, List.mem_append_right _ hq, rfl⟩)
  · rintro ⟨l, vs, nn, g⟩ u h1 tk1 ⟨hmem, htup, hcls⟩ F3 N3
    dsimp only at hmem htup hcls F3 N3
    have hds := rowF_small (W := W) (T := T) (i := 3) (j := 3) (by lia (abstractProof := false)) (by lia (abstractProof := false))
    have hdb := waysF_b (W := W) (T := T) 4 (by lia (abstractProof := false))
    have e4 : rowF W T 3 3 (waysF W T 3) = waysF W T 4 := rfl
    rw [e4] at hds
    clear e4
    generalize hdse : waysF W T 4 = ds at htup hds hdb
    have hvl := htup.1
    k_steps
    rename_i l9 _ hl9 _ F9 N9
    refine unhold ?_
    refine For_turns F9 ?_
    k_steps
    refine unhold ?_
    refine forL (σ := List Value × Nat × Led) (l := l) (vs := vs) (nn := nn) (fun c => (l9, listOf c.1.toArray c.2.1) :: (c.2.2 ++ (g ++ news))) (fun _ => []) [Str.ofString "price", Str.ofString "before", Str.ofString "ahead", Str.ofString "i", Str.ofString "j", Str.ofString "after", Str.ofString "behind"]
      (fun k c => Tups c.2.2 c.1 ((ds.take k).map wholeF) ∧ (∀ q ∈ c.2.2, l9 < q.1 ∧ q.2.cls = .type "tuple") ∧ c.1.length = k)
      ([], 0, []) (by rfl) (by rfl) (fun c => .tail _ (List.mem_append_right _ (List.mem_append_left _ hmem))) F9 N9 (fun _ h => h) (by (repeat' (first | exact List.forall_mem_nil _ | (refine List.forall_mem_cons.mpr ⟨by with_unfolding_all exact rfl, ?_⟩)))) ⟨⟨rfl, fun i v d h => by simp at h⟩, List.forall_mem_nil _, rfl⟩ ?_ ?_
    · rintro ⟨vals, cap, g2⟩ k v u3 h3 tk3 own3 hv ⟨hvt, hg2, hvl2⟩ hoff3 F12 N12
      dsimp only at hvt hg2 hvl2 hoff3 F12 N12
      have hk' : k < ds.length := by
        have := (List.getElem?_eq_some_iff.mp hv).1
        lia (abstractProof := false)
      obtain ⟨d, hd'⟩ : ∃ d, ds[k]? = some d := ⟨ds[k], by simp [hk']⟩
      have hT := htup.2 k v d hv hd'
      have hbd := hdb d (List.mem_of_getElem? hd')
      cases hT with
      | mk hm5 =>
      rename_i T5 p b aa c dd t51 t52 t53 t54 t55 n5
      unfold B5 at hbd
      dsimp only at hbd
      have hne : ∀ q ∈ g2 ++ (g ++ news) ++ own3, q.1 ≠ l9 := by
        intro q hq
        rcases List.mem_append.mp hq with hq | hq
        · rcases List.mem_append.mp hq with hq | hq
          · exact Nat.ne_of_gt (hg2 q hq).1
          · exact Nat.ne_of_lt (hl9 q hq)
        · exact hoff3 q hq _ (.head _)
      have hm6 : (lw, listOf wv.toArray nw) ∈ g ++ news := List.mem_append_right _ hlw
      have hm7 : (lt, listOf tv.toArray nt) ∈ g ++ news := List.mem_append_right _ hlt
      simp only [List.cons_append] at N12
      k_steps
      rename_i D9 _ hl10 _ F13 N13
      simp only [List.push_toArray] at N13
      refine hpure (tnext (tend (vals ++ [.ref D9], _, (D9, _) :: g2) F13 N13 (List.forall_mem_cons.mpr ⟨.tail _ (by exact .head _), List.forall_mem_cons.mpr ⟨by exact .head _, fun q hq => .tail _ (.tail _ (List.mem_append_left _ hq))⟩⟩) (fun q hq => .tail _ (.tail _ (List.mem_append_right _ hq)))
        (List.forall_mem_cons.mpr ⟨.inl (.head _), List.forall_mem_cons.mpr ⟨.inr (.inr rfl), fun q hq => .inl (.tail _ (List.mem_map.mpr ⟨q, hq, rfl⟩))⟩⟩) (by (repeat' (first | exact List.forall_mem_nil _ | (refine List.forall_mem_cons.mpr ⟨by with_unfolding_all exact rfl, ?_⟩)))) (by (intro z h2 h3; have h4 := h2; have h5 := h3; (try simp only [List.forall_mem_cons, List.not_mem_nil, false_implies, implies_true, and_true, ne_eq] at h4); (try simp only [List.contains_cons, List.contains_nil, Bool.or_false, Bool.or_eq_false_iff, beq_eq_false_iff_ne, ne_eq] at h5); (repeat' (first | (with_reducible rfl) | (with_reducible refine same_if (by first | (simp [h4]; done) | (simp [h5]; done)) ?_) | (with_reducible refine same_kst (by first | exact List.forall_mem_nil _ | (simp [h4]; done) | (simp [h5]; done) | (simp [h4, h5]; done)) (by first | rfl | (simp [h5]; done) | (simp [h4]; done) | (simp [h4, h5]; done)) ?_))))) ⟨?_, List.forall_mem_cons.mpr ⟨⟨hl10.1, rfl⟩, hg2⟩, ?_⟩))
      · dsimp only
        rw [List.take_add_one, hd', Option.toList, List.map_append]
        exact (hvt.mono fun q hq => .tail _ hq).app (Tups.one (.mk (.head _)))
      · dsimp only
        rw [List.length_append, hvl2]
        rfl
    · rintro ⟨vals, cap, g2⟩ u3 h3 tk3 ⟨hvt, hg2, hvl2⟩ F12 N12
      dsimp only at hvt hg2 hvl2 F12 N12
      rw [hvl, List.take_length] at hvt
      k_steps
      refine hret _ ((l9, listOf vals.toArray cap) :: (g2 ++ g)) _ _ (by assumption) (by simpa only [List.cons_append, List.append_assoc] using (by assumption)) ⟨l9, vals, cap, rfl, .head _, ?_⟩
      rw [hdse]
      exact hvt.mono fun q hq => .tail _ (List.mem_append_left _ hq)
end
section
/-- a chain of pairs: its price with what is left out ahead and between, its first pair and its last -/
inductive Ch (c : Nat → Nat → Int) (n m : Nat) : Int → Nat → Nat → Nat → Nat → Prop
  | one {i j : Nat} : i < n → j < m → Ch c n m (c i j + 2 * ((i : Int) + j)) i j i j
  | more {pr : Int} {b a i' j' i j : Nat} : Ch c n m pr b a i' j' → i' < i → j' < j → i < n → j < m → Ch c n m (pr + c i j + 2 * ((i : Int) - i' - 1 + j - j' - 1)) b a i j
section
variable {c d : Nat → Nat → Int} {n m p : Nat}
theorem Ch.swap {pr : Int} {b a i j : Nat} (h : Ch c n m pr b a i j) : Ch (fun x y => c y x) m n pr a b j i := by
  induction h with
  | one hi hj =>
    rename_i i j
    have := Ch.one (c := fun x y => c y x) (n := m) (m := n) hj hi
    rw [Int.add_comm (i : Int) j]
    exact this
  | more _ h1 h2 h3 h4 ih =>
    rename_i pr b a i' j' i j _
    have := Ch.more ih h2 h1 h4 h3
    rw [show (i : Int) - i' - 1 + j - j' - 1 = (j : Int) - j' - 1 + i - i' - 1 by omega]
    exact this
theorem Ch.lt {pr : Int} {b a i j : Nat} (h : Ch c n m pr b a i j) : i < n ∧ j < m := by
  cases h with
  | one hi hj => exact ⟨hi, hj⟩
  | more _ _ _ h3 h4 => exact ⟨h3, h4⟩
theorem D_lip (h2 : ∀ u v, d u v ≤ 2) (u v : Nat) : ∀ x y : Nat, D d (u + x) (v + y) ≤ D d u v + 2 * max (x : Int) y
  | 0, 0 => by simp
  | 0, y + 1 => by
    have h1 := D_lip h2 u v 0 y
    have h3 := D_right (d := d) (u + 0) (v + y)
    rw [← Nat.add_assoc]
    omega
  | x + 1, 0 => by
    have h1 := D_lip h2 u v x 0
    have h3 := D_down (d := d) (u + x) (v + 0)
    rw [← Nat.add_assoc]
    omega
  | x + 1, y + 1 => by
    have h1 := D_lip h2 u v x y
    have h3 := D_diag h2 (u + x) (v + y)
    rw [← Nat.add_assoc, ← Nat.add_assoc]
    omega
/-- each chain is a way through the table -/
theorem Ch.upper (h2 : ∀ u v, d u v ≤ 2) (hc : ∀ i j, i < n → j < m → d (p + i) j = c i j) {pr : Int} {b a i j : Nat} (h : Ch c n m pr b a i j) :
    D d (p + i + 1) (j + 1) ≤ pr - 2 * (a : Int) + 2 * max (p : Int) a := by
  induction h with
  | one hi hj =>
    rename_i i j
    have h1 := D_lip h2 0 0 p j
    have h3 := D_lip h2 p j i 0
    have h4 := D_ss (d := d) (p + i) j
    have h5 := hc i j hi hj
    rw [D_0v] at h1
    simp only [Nat.zero_add, Nat.add_zero] at h1 h3
    omega
  | more _ h1 h3 h4 h5 ih =>
    rename_i pr b a i' j' i j _
    have e1 := D_lip h2 (p + i' + 1) (j' + 1) (i - i' - 1) 0
    have e2 := D_lip h2 (p + i) (j' + 1) 0 (j - j' - 1)
    have e3 := D_ss (d := d) (p + i) j
    have e4 := hc i j h4 h5
    rw [show p + i' + 1 + (i - i' - 1) = p + i by omega, Nat.add_zero] at e1
    rw [show j' + 1 + (j - j' - 1) = j by omega, Nat.add_zero] at e2
    omega
theorem D_blank (h0 : ∀ u v, u < p → v < m → d u v = 2) : ∀ u v : Nat, u ≤ p → v ≤ m → 2 * max (u : Int) v ≤ D d u v
  | 0, v, _, _ => by rw [D_0v]; omega
  | u + 1, 0, _, _ => by rw [D_u0]; omega
  | u + 1, v + 1, hu, hv => by
    have h1 := D_blank h0 (u + 1) v hu (by omega)
    have h2 := D_blank h0 u (v + 1) (by omega) hv
    have h3 := D_blank h0 u v (by omega) (by omega)
    have h4 := h0 u v (by omega) (by omega)
    rw [D_ss]
    omega
termination_by u v => (u, v)
/-- the words' part: no pair so far, or a chain -/
theorem lowerA (h0 : ∀ u v, u < p → v < m → d u v = 2) (hc : ∀ i j, i < n → j < m → d (p + i) j = c i j) : ∀ i j : Nat, i ≤ n → j ≤ m →
    2 * (i : Int) + 2 * max (p : Int) j ≤ D d (p + i) j ∨ ∃ (pr : Int) (b a i' j' : Nat), Ch c n m pr b a i' j' ∧ i' < i ∧ j' < j ∧ pr - 2 * (a : Int) + 2 * max (p : Int) a + 2 * ((i : Int) - i' - 1 + j - j' - 1) ≤ D d (p + i) j
  | 0, j, _, hj => .inl (by have := D_blank h0 p j (Nat.le_refl _) hj; rw [Nat.add_zero]; omega)
  | i + 1, 0, _, _ => .inl (by rw [D_u0]; omega)
  | i + 1, j + 1, hi, hj => by
    have h1 := lowerA h0 hc (i + 1) j hi (by omega)
    have h2 := lowerA h0 hc i (j + 1) (by omega) hj
    have h3 := lowerA h0 hc i j (by omega) (by omega)
    have h4 := hc i j (by omega) (by omega)
    have e := D_ss (d := d) (p + i) j
    rw [← Nat.add_assoc] at h1 ⊢
    by_cases c1 : D d (p + i + 1) (j + 1) = D d (p + i + 1) j + 2
    · rcases h1 with h | ⟨pr, b, a, i', j', hC, hi', hj', h⟩
      · exact .inl (by omega)
      · exact .inr ⟨pr, b, a, i', j', hC, hi', by omega, by omega⟩
    · by_cases c2 : D d (p + i + 1) (j + 1) = D d (p + i) (j + 1) + 2
      · rcases h2 with h | ⟨pr, b, a, i', j', hC, hi', hj', h⟩
        · exact .inl (by omega)
        · exact .inr ⟨pr, b, a, i', j', hC, by omega, hj', by omega⟩
      · have c3 : D d (p + i + 1) (j + 1) = D d (p + i) j + c i j := by omega
        rcases h3 with h | ⟨pr, b, a, i', j', hC, hi', hj', h⟩
        · exact .inr ⟨_, _, _, _, _, Ch.one (i := i) (j := j) (by omega) (by omega), by omega, by omega, by omega⟩
        · exact .inr ⟨_, _, _, _, _, Ch.more hC hi' hj' (by omega) (by omega), by omega, by omega, by omega⟩
termination_by i j => (i, j)
/-- both ends' blanks are the first line's -/
theorem lowerB (h0 : ∀ u v, u < p → v < m → d u v = 2) (hc : ∀ i j, i < n → j < m → d (p + i) j = c i j) (h9 : ∀ u v, p + n ≤ u → v < m → d u v = 2) : ∀ q j : Nat, j ≤ m →
    2 * (n : Int) + 2 * max ((p : Int) + q) j ≤ D d (p + n + q) j ∨ ∃ (pr : Int) (b a i' j' : Nat), Ch c n m pr b a i' j' ∧ j' < j ∧ pr - 2 * (a : Int) + 2 * max (p : Int) a + 2 * ((n : Int) - 1 - i') + 2 * max (q : Int) ((j : Int) - j' - 1) ≤ D d (p + n + q) j
  | 0, j, hj => by
    rcases lowerA h0 hc n j (Nat.le_refl _) hj with h | ⟨pr, b, a, i', j', hC, hi', hj', h⟩
    · exact .inl (by rw [Nat.add_zero]; omega)
    · exact .inr ⟨pr, b, a, i', j', hC, hj', by rw [Nat.add_zero]; omega⟩
  | q + 1, 0, _ => .inl (by rw [D_u0]; omega)
  | q + 1, j + 1, hj => by
    have h1 := lowerB h0 hc h9 (q + 1) j (by omega)
    have h2 := lowerB h0 hc h9 q (j + 1) hj
    have h3 := lowerB h0 hc h9 q j (by omega)
    have h4 := h9 (p + n + q) j (by omega) (by omega)
    have e := D_ss (d := d) (p + n + q) j
    rw [← Nat.add_assoc] at h1 ⊢
    by_cases c1 : D d (p + n + q + 1) (j + 1) = D d (p + n + q + 1) j + 2
    · rcases h1 with h | ⟨pr, b, a, i', j', hC, hj', h⟩
      · exact .inl (by omega)
      · exact .inr ⟨pr, b, a, i', j', hC, by omega, by omega⟩
    · by_cases c2 : D d (p + n + q + 1) (j + 1) = D d (p + n + q) (j + 1) + 2
      · rcases h2 with h | ⟨pr, b, a, i', j', hC, hj', h⟩
        · exact .inl (by omega)
        · exact .inr ⟨pr, b, a, i', j', hC, hj', by omega⟩
      · have c3 : D d (p + n + q + 1) (j + 1) = D d (p + n + q) j + 2 := by omega
        rcases h3 with h | ⟨pr, b, a, i', j', hC, hj', h⟩
        · exact .inl (by omega)
        · exact .inr ⟨pr, b, a, i', j', hC, by omega, by omega⟩
termination_by q j => (q, j)
theorem D_front (h0 : ∀ u v, u < p → v < m → d u v = 2) (hd : ∀ u v, 0 ≤ d u v) : ∀ u v : Nat, u ≤ p → 2 * min (v : Int) m ≤ D d u v
  | 0, v, _ => by rw [D_0v]; omega
  | u + 1, 0, _ => by rw [D_u0]; omega
  | u + 1, v + 1, hu => by
    have h1 := D_front h0 hd (u + 1) v hu
    have h2 := D_front h0 hd u (v + 1) (by omega)
    have h3 := D_front h0 hd u v (by omega)
    have h4 := hd u v
    rw [D_ss]
    by_cases hv : v < m
    · have h5 := h0 u v (by omega) hv
      omega
    · omega
termination_by u v => (u, v)
/-- the first line's blanks ahead, the second one's behind -/
theorem lowerC (hd : ∀ u v, 0 ≤ d u v) (h0 : ∀ u v, u < p → v < m → d u v = 2) (hc : ∀ i j, i < n → j < m → d (p + i) j = c i j) (h9 : ∀ u v, p ≤ u → m ≤ v → d u v = 2) : ∀ s i : Nat, i ≤ n →
    2 * (m : Int) + 2 * (i : Int) ≤ D d (p + i) (m + s) ∨ ∃ (pr : Int) (b a i' j' : Nat), Ch c n m pr b a i' j' ∧ i' < i ∧ pr - 2 * (a : Int) + 2 * max (p : Int) a + 2 * ((m : Int) - 1 - j') + 2 * max (s : Int) ((i : Int) - i' - 1) ≤ D d (p + i) (m + s)
  | 0, i, hi => by
    rcases lowerA h0 hc i m hi (Nat.le_refl _) with h | ⟨pr, b, a, i', j', hC, hi', hj', h⟩
    · exact .inl (by rw [Nat.add_zero]; omega)
    · exact .inr ⟨pr, b, a, i', j', hC, hi', by rw [Nat.add_zero]; omega⟩
  | s + 1, 0, _ => .inl (by have := D_front h0 hd p (m + (s + 1)) (Nat.le_refl _); rw [Nat.add_zero]; omega)
  | s + 1, i + 1, hi => by
    have h1 := lowerC hd h0 hc h9 s (i + 1) hi
    have h2 := lowerC hd h0 hc h9 (s + 1) i (by omega)
    have h3 := lowerC hd h0 hc h9 s i (by omega)
    have h4 := h9 (p + i) (m + s) (by omega) (by omega)
    have e := D_ss (d := d) (p + i) (m + s)
    rw [← Nat.add_assoc] at h1 ⊢
    rw [← Nat.add_assoc] at h2 ⊢
    by_cases c1 : D d (p + i + 1) (m + s + 1) = D d (p + i + 1) (m + s) + 2
    · rcases h1 with h | ⟨pr, b, a, i', j', hC, hi', h⟩
      · exact .inl (by omega)
      · exact .inr ⟨pr, b, a, i', j', hC, by omega, by omega⟩
    · by_cases c2 : D d (p + i + 1) (m + s + 1) = D d (p + i) (m + s + 1) + 2
      · rcases h2 with h | ⟨pr, b, a, i', j', hC, hi', h⟩
        · exact .inl (by omega)
        · exact .inr ⟨pr, b, a, i', j', hC, by omega, by omega⟩
      · have c3 : D d (p + i + 1) (m + s + 1) = D d (p + i) (m + s) + 2 := by omega
        rcases h3 with h | ⟨pr, b, a, i', j', hC, hi', h⟩
        · exact .inl (by omega)
        · exact .inr ⟨pr, b, a, i', j', hC, by omega, by omega⟩
termination_by s i => (s, i)
/-- case one: the first line has the blanks at both ends -/
theorem caseI (hd : ∀ u v, 0 ≤ d u v) (h2 : ∀ u v, d u v ≤ 2) (h0 : ∀ u v, u < p → v < m → d u v = 2) (hc : ∀ i j, i < n → j < m → d (p + i) j = c i j) (h9 : ∀ u v, p + n ≤ u → v < m → d u v = 2) (hn : 1 ≤ n) (hm : 1 ≤ m) (q : Nat) :
    (∃ (pr : Int) (b a i j : Nat), Ch c n m pr b a i j ∧ pr - 2 * (a : Int) + 2 * max (p : Int) a + 2 * ((n : Int) - 1 - i) + 2 * max (q : Int) ((m : Int) - 1 - j) ≤ D d (p + n + q) m) ∧
    ∀ (pr : Int) (b a i j : Nat), Ch c n m pr b a i j → D d (p + n + q) m ≤ pr - 2 * (a : Int) + 2 * max (p : Int) a + 2 * ((n : Int) - 1 - i) + 2 * max (q : Int) ((m : Int) - 1 - j) := by
  constructor
  · rcases lowerB h0 hc h9 q m (Nat.le_refl _) with h | ⟨pr, b, a, i', j', hC, hj', h⟩
    · by_cases hp : p ≤ m - 1
      · have := h2 (p + 0) p
        have e := hc 0 p (by omega) (by omega)
        exact ⟨_, _, _, _, _, Ch.one (i := 0) (j := p) (by omega) (by omega), by omega⟩
      · have := h2 (p + 0) (m - 1)
        have e := hc 0 (m - 1) (by omega) (by omega)
        exact ⟨_, _, _, _, _, Ch.one (i := 0) (j := m - 1) (by omega) (by omega), by omega⟩
    · exact ⟨pr, b, a, i', j', hC, by omega⟩
  · intro pr b a i j hC
    have e1 := hC.upper h2 hc
    have e2 := hC.lt
    have e3 := D_lip h2 (p + i + 1) (j + 1) (n - 1 - i) 0
    have e4 := D_lip h2 (p + n) (j + 1) q (m - 1 - j)
    rw [show p + i + 1 + (n - 1 - i) = p + n by omega, Nat.add_zero] at e3
    rw [show j + 1 + (m - 1 - j) = m by omega] at e4
    omega
/-- case two: crossing -/
theorem caseII (hd : ∀ u v, 0 ≤ d u v) (h2 : ∀ u v, d u v ≤ 2) (h0 : ∀ u v, u < p → v < m → d u v = 2) (hc : ∀ i j, i < n → j < m → d (p + i) j = c i j) (h9 : ∀ u v, p ≤ u → m ≤ v → d u v = 2) (hn : 1 ≤ n) (hm : 1 ≤ m) (s : Nat)
    (hb : max p (m - 1) + max s (n - 1) + 1 ≤ n + m) :
    (∃ (pr : Int) (b a i j : Nat), Ch c n m pr b a i j ∧ pr - 2 * (a : Int) + 2 * max (p : Int) a + 2 * ((m : Int) - 1 - j) + 2 * max (s : Int) ((n : Int) - 1 - i) ≤ D d (p + n) (m + s)) ∧
    ∀ (pr : Int) (b a i j : Nat), Ch c n m pr b a i j → D d (p + n) (m + s) ≤ pr - 2 * (a : Int) + 2 * max (p : Int) a + 2 * ((m : Int) - 1 - j) + 2 * max (s : Int) ((n : Int) - 1 - i) := by
  constructor
  · rcases lowerC hd h0 hc h9 s n (Nat.le_refl _) with h | ⟨pr, b, a, i', j', hC, hi', h⟩
    · have := h2 (p + 0) (m - 1)
      have e := hc 0 (m - 1) (by omega) (by omega)
      exact ⟨_, _, _, _, _, Ch.one (i := 0) (j := m - 1) (by omega) (by omega), by omega⟩
    · exact ⟨pr, b, a, i', j', hC, by omega⟩
  · intro pr b a i j hC
    have e1 := hC.upper h2 hc
    have e2 := hC.lt
    have e3 := D_lip h2 (p + i + 1) (j + 1) 0 (m - 1 - j)
    have e4 := D_lip h2 (p + i + 1) m (n - 1 - i) s
    rw [show j + 1 + (m - 1 - j) = m by omega, Nat.add_zero] at e3
    rw [show p + i + 1 + (n - 1 - i) = p + n by omega] at e4
    omega
end
end
section
section
variable {W T : List Int}
/-- each way is a chain -/
def Snd (W T : List Int) (ws : List W5) : Prop := ∀ e ∈ ws, ∃ (pr : Int) (b a i j : Nat), e = ⟨pr, b, a, i, j⟩ ∧ Ch (prW W T) 4 3 pr b a i j
theorem cellF_snd {i j : Nat} {ws : List W5} (hi : i < 4) (hj : j < 3) (h : Snd W T ws) : Snd W T (cellF W T i j ws) := by
  intro e he
  unfold cellF longF at he
  simp only [List.mem_append, List.mem_cons, List.mem_map, List.mem_filter, lessF, Bool.and_eq_true, decide_eq_true_eq] at he
  rcases he with he | rfl | ⟨e', ⟨he', h1, h2⟩, rfl⟩
  · exact h e he
  · exact ⟨_, i, j, i, j, rfl, Ch.one hi hj⟩
  · obtain ⟨pr, b, a, i', j', rfl, hC⟩ := h e' he'
    exact ⟨_, b, a, i, j, rfl, Ch.more hC (by dsimp only at h1; lia (abstractProof := false)) (by dsimp only at h2; lia (abstractProof := false)) hi hj⟩
theorem rowF_snd {i : Nat} {ws : List W5} (hi : i < 4) (h : Snd W T ws) : ∀ j, j ≤ 3 → Snd W T (rowF W T i j ws)
  | 0, _ => h
  | j + 1, hj => cellF_snd hi (by lia (abstractProof := false)) (rowF_snd hi h j (by lia (abstractProof := false)))
theorem waysF_snd : ∀ i, i ≤ 4 → Snd W T (waysF W T i)
  | 0, _ => fun _ h => nomatch h
  | i + 1, hi => rowF_snd (by lia (abstractProof := false)) (waysF_snd i (by lia (abstractProof := false))) 3 (Nat.le_refl _)
theorem rowF_mono {i : Nat} {ws : List W5} {e : W5} {j : Nat} : ∀ k, e ∈ rowF W T i j ws → e ∈ rowF W T i (j + k) ws
  | 0, h => h
  | k + 1, h => by
    rw [← Nat.add_assoc, rowF]
    exact List.mem_append_left _ (rowF_mono k h)
theorem rowF_in {i j : Nat} {ws : List W5} {e : W5} (h : e ∈ ws) : e ∈ rowF W T i j ws := by
  have := rowF_mono (W := W) (T := T) (i := i) (ws := ws) (e := e) (j := 0) j h
  rwa [Nat.zero_add] at this
theorem waysF_mono {i : Nat} {e : W5} : ∀ k, e ∈ waysF W T i → e ∈ waysF W T (i + k)
  | 0, h => h
  | k + 1, h => by
    rw [← Nat.add_assoc, waysF]
    exact rowF_in (waysF_mono k h)
theorem waysF_of_row {i j k : Nat} {e : W5} (hj : j ≤ 3) (hk : i + 1 ≤ k) (h : e ∈ rowF W T i j (waysF W T i)) : e ∈ waysF W T k := by
  have h1 : e ∈ waysF W T (i + 1) := by
    rw [waysF]
    have := rowF_mono (3 - j) h
    rwa [show j + (3 - j) = 3 by lia (abstractProof := false)] at this
  have h2 := waysF_mono (k - (i + 1)) h1
  rwa [show i + 1 + (k - (i + 1)) = k by lia (abstractProof := false)] at h2
/-- each chain is among the ways -/
theorem ch_in {pr : Int} {b a i j : Nat} (h : Ch (prW W T) 4 3 pr b a i j) : (⟨pr, b, a, i, j⟩ : W5) ∈ rowF W T i (j + 1) (waysF W T i) := by
  induction h with
  | one hi hj =>
    rw [rowF]
    unfold cellF longF
    exact List.mem_append_right _ (.head _)
  | more hC h1 h2 h3 h4 ih =>
    rename_i pr b a i' j' i j
    have hin := rowF_in (W := W) (T := T) (i := i) (j := j) (waysF_of_row (k := i) (by have := hC.lt; lia (abstractProof := false)) (by lia (abstractProof := false)) ih)
    rw [rowF]
    unfold cellF longF
    refine List.mem_append_right _ (.tail _ (List.mem_map.mpr ⟨_, List.mem_filter.mpr ⟨hin, ?_⟩, rfl⟩))
    simp only [lessF, Bool.and_eq_true, decide_eq_true_eq]
    lia (abstractProof := false)
theorem ch_ways {pr : Int} {b a i j : Nat} (h : Ch (prW W T) 4 3 pr b a i j) : (⟨pr, b, a, i, j⟩ : W5) ∈ waysF W T 4 :=
  waysF_of_row (by have := h.lt; lia (abstractProof := false)) (by have := h.lt; lia (abstractProof := false)) (ch_in h)
/-- the least price, by the chains -/
theorem conclude {l r M E B : Int} (V : Int → Nat → Nat → Nat → Nat → Int) (hV : ∀ (pr : Int) (b a i j : Nat), Ch (prW W T) 4 3 pr b a i j → V pr b a i j = B + priceF l r (wholeF ⟨pr, b, a, i, j⟩))
    (hE : ∃ (pr : Int) (b a i j : Nat), Ch (prW W T) 4 3 pr b a i j ∧ V pr b a i j ≤ E) (hE' : ∀ (pr : Int) (b a i j : Nat), Ch (prW W T) 4 3 pr b a i j → E ≤ V pr b a i j)
    (hM : M ∈ ((waysF W T 4).map wholeF).map (priceF l r)) (hmin : ∀ x ∈ ((waysF W T 4).map wholeF).map (priceF l r), M ≤ x) : E = B + M := by
  obtain ⟨pr, b, a, i, j, hC, hle⟩ := hE
  have h1 := hmin _ (List.mem_map_of_mem (List.mem_map_of_mem (ch_ways hC)))
  rw [hV _ _ _ _ _ hC] at hle
  obtain ⟨e', he', rfl⟩ := List.mem_map.mp hM
  obtain ⟨e, he, rfl⟩ := List.mem_map.mp he'
  obtain ⟨pr', b', a', i', j', rfl, hC'⟩ := waysF_snd 4 (Nat.le_refl _) e he
  have h2 := hE' _ _ _ _ _ hC'
  rw [hV _ _ _ _ _ hC'] at h2
  lia (abstractProof := false)
end
/-- the sign of a number -/
def sg (k : Int) : Nat := [97, 65, 98, 66, 9].getD k.toNat 0
def pad (p : Nat) (w : List Nat) (q : Nat) : List Nat := List.replicate p 32 ++ w ++ List.replicate q 32
theorem pad_len (p : Nat) (w : List Nat) (q : Nat) : (pad p w q).length = p + w.length + q := by simp [pad, Nat.add_assoc]
theorem pad_get (p : Nat) (w : List Nat) (q u : Nat) (h : u < p + w.length + q) : (pad p w q).getD u 0 = if u < p then 32 else if u < p + w.length then w.getD (u - p) 0 else 32 := by
  unfold pad
  simp only [List.getD_eq_getElem?_getD]
  by_cases h1 : u < p
  · rw [if_pos h1, List.getElem?_append_left (by simp; lia (abstractProof := false)), List.getElem?_append_left (by simp; lia (abstractProof := false))]
    simp [h1]
  · rw [if_neg h1]
    by_cases h2 : u < p + w.length
    · rw [if_pos h2, List.getElem?_append_left (by simp; lia (abstractProof := false)), List.getElem?_append_right (by simp; lia (abstractProof := false))]
      simp
    · rw [if_neg h2, List.getElem?_append_right (by simp; lia (abstractProof := false))]
      simp
      rw [List.getElem?_replicate, if_pos (by lia (abstractProof := false))]
      rfl
theorem cst_sg : ∀ a b : Fin 5, cst (sg (a.val : Int)) (sg (b.val : Int)) = if ((a.val : Int)) = (b.val : Int) then 0 else if ((a.val : Int)).fdiv 2 = ((b.val : Int)).fdiv 2 then 1 else 2 := by decide
theorem cst_bl : ∀ a : Fin 5, cst (sg (a.val : Int)) 32 = 2 ∧ cst 32 (sg (a.val : Int)) = 2 := by decide
theorem fin5 {x : Int} (h : 0 ≤ x ∧ x ≤ 4) : ∃ a : Fin 5, x = (a.val : Int) := ⟨⟨x.toNat, by lia (abstractProof := false)⟩, by simp; lia (abstractProof := false)⟩
theorem pad_drop {p k : Nat} (w : List Nat) (q : Nat) (h : k ≤ p) : (pad p w q).drop k = pad (p - k) w q := by
  unfold pad
  rw [List.append_assoc, List.append_assoc, List.drop_append_of_le_length (by simp; lia (abstractProof := false)), List.drop_replicate]
theorem pad_take (p : Nat) (w : List Nat) {q l : Nat} (h : l ≤ q) : (pad p w q).take ((pad p w q).length - l) = pad p w (q - l) := by
  have e : pad p w q = pad p w (q - l) ++ List.replicate l 32 := by
    unfold pad
    rw [List.append_assoc _ _ (List.replicate l 32), List.replicate_append_replicate, Nat.sub_add_cancel h]
  have e2 : (pad p w q).length - l = (pad p w (q - l)).length := by rw [pad_len, pad_len]; lia (abstractProof := false)
  rw [e2, e, List.take_left']
  rfl
theorem edit_strip (p q r s k l : Nat) (w t : List Nat) (hk : k ≤ p) (hk' : k ≤ r) (hl : l ≤ q) (hl' : l ≤ s) : edit (pad p w q) (pad r t s) = edit (pad (p - k) w (q - l)) (pad (r - k) t (s - l)) := by
  have e1 := edit_drop (pad p w q) (pad r t s) k (by rw [pad_len]; lia (abstractProof := false)) (by rw [pad_len]; lia (abstractProof := false)) (fun x hx => by rw [pad_get _ _ _ _ (by lia (abstractProof := false)), pad_get _ _ _ _ (by lia (abstractProof := false)), if_pos (by lia (abstractProof := false)), if_pos (by lia (abstractProof := false))])
  rw [pad_drop w q hk, pad_drop t s hk'] at e1
  have e2 := edit_take (pad (p - k) w q) (pad (r - k) t s) l (by rw [pad_len]; lia (abstractProof := false)) (by rw [pad_len]; lia (abstractProof := false)) (fun x hx => by
    rw [pad_len, pad_len, pad_get _ _ _ _ (by lia (abstractProof := false)), pad_get _ _ _ _ (by lia (abstractProof := false)), if_neg (by lia (abstractProof := false)), if_neg (by lia (abstractProof := false)), if_neg (by lia (abstractProof := false)), if_neg (by lia (abstractProof := false))])
  rw [pad_take (p - k) w hl, pad_take (r - k) t hl'] at e2
  rw [← e1, e2]
def dI (p n m : Nat) (c : Nat → Nat → Int) (u v : Nat) : Int := if p ≤ u ∧ u < p + n ∧ v < m then c (u - p) v else 2
def dII (p n m : Nat) (c : Nat → Nat → Int) (u v : Nat) : Int := if u < p then (if v < m then 2 else 0) else if u < p + n ∧ v < m then c (u - p) v else 2
section
variable {w t : List Nat} {c : Nat → Nat → Int}
theorem editI (hc : ∀ i j, i < w.length → j < t.length → cst (w.getD i 0) (t.getD j 0) = c i j) (hb : ∀ j, j < t.length → cst 32 (t.getD j 0) = 2) (p q : Nat) :
    edit (pad p w q) (pad 0 t 0) = D (dI p w.length t.length c) (p + w.length + q) t.length := by
  unfold edit
  rw [pad_len, pad_len, Nat.zero_add, Nat.add_zero]
  refine D_congr _ _ fun u v hu hv => ?_
  unfold dS dI
  rw [pad_get _ _ _ _ hu, pad_get _ _ _ _ (by lia (abstractProof := false)), if_neg (Nat.not_lt_zero v), if_pos (show v < 0 + t.length by lia (abstractProof := false)), Nat.sub_zero]
  by_cases h1 : u < p
  · rw [if_pos h1, if_neg (by lia (abstractProof := false))]; exact hb v hv
  · rw [if_neg h1]
    by_cases h2 : u < p + w.length
    · rw [if_pos h2, if_pos ⟨by lia (abstractProof := false), h2, hv⟩]; exact hc _ _ (by lia (abstractProof := false)) hv
    · rw [if_neg h2, if_neg (by lia (abstractProof := false))]; exact hb v hv
theorem editII (hc : ∀ i j, i < w.length → j < t.length → cst (w.getD i 0) (t.getD j 0) = c i j) (hb : ∀ j, j < t.length → cst 32 (t.getD j 0) = 2) (hb' : ∀ i, i < w.length → cst (w.getD i 0) 32 = 2) (p s : Nat) :
    edit (pad p w 0) (pad 0 t s) = D (dII p w.length t.length c) (p + w.length) (t.length + s) := by
  unfold edit
  rw [pad_len, pad_len, Nat.zero_add, Nat.add_zero]
  refine D_congr _ _ fun u v hu hv => ?_
  unfold dS dII
  rw [pad_get _ _ _ _ (by lia (abstractProof := false)), pad_get _ _ _ _ (by lia (abstractProof := false)), if_neg (Nat.not_lt_zero v), Nat.sub_zero, Nat.zero_add]
  by_cases h1 : u < p
  · rw [if_pos h1, if_pos h1]
    by_cases h2 : v < t.length
    · rw [if_pos h2, if_pos h2]; exact hb v h2
    · rw [if_neg h2, if_neg h2]; exact cst_self _
  · rw [if_neg h1, if_neg h1, if_pos hu]
    by_cases h2 : v < t.length
    · rw [if_pos h2, if_pos ⟨hu, h2⟩]; exact hc _ _ (by lia (abstractProof := false)) h2
    · rw [if_neg h2, if_neg (by lia (abstractProof := false))]; exact hb' _ (by lia (abstractProof := false))
end
section
variable {c : Nat → Nat → Int} {p n m : Nat}
theorem dI_0 (h : ∀ i j, 0 ≤ c i j) (u v : Nat) : 0 ≤ dI p n m c u v := by
  unfold dI
  split
  · exact h _ _
  · lia (abstractProof := false)
theorem dI_2 (h : ∀ i j, c i j ≤ 2) (u v : Nat) : dI p n m c u v ≤ 2 := by
  unfold dI
  split
  · exact h _ _
  · lia (abstractProof := false)
theorem dII_0 (h : ∀ i j, 0 ≤ c i j) (u v : Nat) : 0 ≤ dII p n m c u v := by
  unfold dII
  split
  · split <;> lia (abstractProof := false)
  · split
    · exact h _ _
    · lia (abstractProof := false)
theorem dII_2 (h : ∀ i j, c i j ≤ 2) (u v : Nat) : dII p n m c u v ≤ 2 := by
  unfold dII
  split
  · split <;> lia (abstractProof := false)
  · split
    · exact h _ _
    · lia (abstractProof := false)
theorem dI_c (i j : Nat) (hi : i < n) (hj : j < m) : dI p n m c (p + i) j = c i j := by
  unfold dI
  rw [if_pos (by lia (abstractProof := false)), Nat.add_sub_cancel_left]
theorem dII_c (i j : Nat) (hi : i < n) (hj : j < m) : dII p n m c (p + i) j = c i j := by
  unfold dII
  rw [if_neg (by lia (abstractProof := false)), if_pos (by lia (abstractProof := false)), Nat.add_sub_cancel_left]
end
section
variable {W T : List Int}
theorem mapsg_get (W : List Int) {i : Nat} (h : i < W.length) : (W.map sg).getD i 0 = sg (W.getD i 0) := by
  simp [List.getD_eq_getElem?_getD, h]
theorem getD_b {W : List Int} (hWb : ∀ x ∈ W, 0 ≤ x ∧ x ≤ 4) {i : Nat} (h : i < W.length) : 0 ≤ W.getD i 0 ∧ W.getD i 0 ≤ 4 := by
  rw [List.getD_eq_getElem?_getD, List.getElem?_eq_getElem h]
  exact hWb _ (List.getElem_mem h)
theorem cst_pr (hWb : ∀ x ∈ W, 0 ≤ x ∧ x ≤ 4) (hTb : ∀ x ∈ T, 0 ≤ x ∧ x ≤ 4) {i j : Nat} (hi : i < W.length) (hj : j < T.length) : cst ((W.map sg).getD i 0) ((T.map sg).getD j 0) = prW W T i j := by
  rw [mapsg_get W hi, mapsg_get T hj]
  unfold prW
  obtain ⟨a, ha⟩ := fin5 (getD_b hWb hi)
  obtain ⟨b, hb⟩ := fin5 (getD_b hTb hj)
  rw [ha, hb]
  exact cst_sg a b
theorem cst_b1 (hTb : ∀ x ∈ T, 0 ≤ x ∧ x ≤ 4) {j : Nat} (hj : j < T.length) : cst 32 ((T.map sg).getD j 0) = 2 := by
  rw [mapsg_get T hj]
  obtain ⟨b, hb⟩ := fin5 (getD_b hTb hj)
  rw [hb]
  exact (cst_bl b).2
theorem cst_b2 (hTb : ∀ x ∈ T, 0 ≤ x ∧ x ≤ 4) {j : Nat} (hj : j < T.length) : cst ((T.map sg).getD j 0) 32 = 2 := by
  rw [cst_comm]
  exact cst_b1 hTb hj
theorem paid_up (n : Nat) {b a : Int} (hb : 0 ≤ b) (ha : 0 ≤ a) : 2 * (if (n : Int) < 0 then -(n : Int) else n) - 2 * paidF n b a = 2 * max (n : Int) a - 2 * a := by
  rw [if_neg (by lia (abstractProof := false))]
  unfold paidF
  split <;> lia (abstractProof := false)
theorem paid_dn (n : Nat) {b a : Int} (hb : 0 ≤ b) : 2 * (if -(n : Int) < 0 then - -(n : Int) else -(n : Int)) - 2 * paidF (-(n : Int)) b a = 2 * max (n : Int) b - 2 * b := by
  unfold paidF
  rw [if_neg (show ¬ (-(n : Int) > 0) by lia (abstractProof := false))]
  split <;> lia (abstractProof := false)
theorem sub_up {x : Int} {p r : Nat} (h : r ≤ p) (hx : x = (p : Int) - r) : x = ((p - r : Nat) : Int) := by lia (abstractProof := false)
theorem sub_dn {x : Int} {p r : Nat} (h : p ≤ r) (hx : x = (p : Int) - r) : x = -((r - p : Nat) : Int) := by lia (abstractProof := false)
theorem nn_of {i : Nat} {k : Int} (h : (i : Int) ≤ k) : 0 ≤ k - i := by lia (abstractProof := false)
theorem lin1 {pr A1 A2 P1 P2 M1 M2 a c d : Int} (e1 : 2 * A1 - 2 * P1 = 2 * M1 - 2 * a) (e2 : 2 * A2 - 2 * P2 = 2 * M2 - 2 * d) : pr - 2 * a + 2 * M1 + 2 * c + 2 * M2 = 2 * (A1 + A2) + (pr + 2 * (c + d) - 2 * (P1 + P2)) := by lia (abstractProof := false)
theorem lin2 {pr A1 A2 P1 P2 M1 M2 a c d : Int} (e1 : 2 * A1 - 2 * P1 = 2 * M1 - 2 * a) (e2 : 2 * A2 - 2 * P2 = 2 * M2 - 2 * c) : pr - 2 * a + 2 * M1 + 2 * d + 2 * M2 = 2 * (A1 + A2) + (pr + 2 * (c + d) - 2 * (P1 + P2)) := by lia (abstractProof := false)
theorem plain (hW : W.length = 4) (hT : T.length = 3) (hWb : ∀ x ∈ W, 0 ≤ x ∧ x ≤ 4) (hTb : ∀ x ∈ T, 0 ≤ x ∧ x ≤ 4) {p q r s : Nat} (hp : p ≤ 3) (hq : q ≤ 3) (hr : r ≤ 3) (hs : s ≤ 3) {x y M : Int} (hx : x = (p : Int) - r) (hy : y = (q : Int) - s)
    (hM : M ∈ ((waysF W T 4).map wholeF).map (priceF x y)) (hmin : ∀ a ∈ ((waysF W T 4).map wholeF).map (priceF x y), M ≤ a) :
    edit (pad p (W.map sg) q) (pad r (T.map sg) s) = 2 * ((if x < 0 then -x else x) + if y < 0 then -y else y) + M := by
  have lw : (W.map sg).length = 4 := by rw [List.length_map, hW]
  have lt : (T.map sg).length = 3 := by rw [List.length_map, hT]
  have hc : ∀ i j, i < (W.map sg).length → j < (T.map sg).length → cst ((W.map sg).getD i 0) ((T.map sg).getD j 0) = prW W T i j := fun i j h1 h2 => cst_pr hWb hTb (by lia (abstractProof := false)) (by lia (abstractProof := false))
  have hc' : ∀ j i, j < (T.map sg).length → i < (W.map sg).length → cst ((T.map sg).getD j 0) ((W.map sg).getD i 0) = (fun x y => prW W T y x) j i := fun j i h1 h2 => by rw [cst_comm]; exact hc i j h2 h1
  have c0 : ∀ i j, 0 ≤ prW W T i j := fun i j => (prW_b W T i j).1
  have c2 : ∀ i j, prW W T i j ≤ 2 := fun i j => (prW_b W T i j).2
  have bT : ∀ j, j < (T.map sg).length → cst 32 ((T.map sg).getD j 0) = 2 := fun j h => cst_b1 hTb (by lia (abstractProof := false))
  have bW : ∀ i, i < (W.map sg).length → cst 32 ((W.map sg).getD i 0) = 2 := fun i h => cst_b1 hWb (by lia (abstractProof := false))
  have bT' : ∀ j, j < (T.map sg).length → cst ((T.map sg).getD j 0) 32 = 2 := fun j h => cst_b2 hTb (by lia (abstractProof := false))
  have bW' : ∀ i, i < (W.map sg).length → cst ((W.map sg).getD i 0) 32 = 2 := fun i h => cst_b2 hWb (by lia (abstractProof := false))
  rcases Nat.le_total r p with h1 | h1
  · rcases Nat.le_total s q with h2 | h2
    · rw [edit_strip p q r s r s _ _ h1 (Nat.le_refl _) h2 (Nat.le_refl _), Nat.sub_self, Nat.sub_self, editI hc bT, lw, lt]
      have k := caseI (d := dI (p - r) 4 3 (prW W T)) (c := prW W T) (p := p - r) (n := 4) (m := 3) (dI_0 c0) (dI_2 c2) (fun u v hu hv => by unfold dI; rw [if_neg (by lia (abstractProof := false))]) (fun i j hi hj => dI_c i j hi hj) (fun u v hu hv => by unfold dI; rw [if_neg (by lia (abstractProof := false))]) (by decide) (by decide) (q - s)
      refine conclude (V := fun pr b a i j => pr - 2 * (a : Int) + 2 * max ((p - r : Nat) : Int) a + 2 * (((4 : Nat) : Int) - 1 - i) + 2 * max ((q - s : Nat) : Int) (((3 : Nat) : Int) - 1 - j)) ?_ k.1 k.2 hM hmin
      intro pr b a i j hC
      have := hC.lt
      have e1 := paid_up (p - r) (b := (b : Int)) (a := (a : Int)) (Int.natCast_nonneg _) (Int.natCast_nonneg _)
      have e2 := paid_up (q - s) (b := 4 - 1 - (i : Int)) (a := 3 - 1 - (j : Int)) (by lia (abstractProof := false)) (by lia (abstractProof := false))
      rw [sub_up h1 hx, sub_up h2 hy]
      unfold priceF wholeF
      dsimp only
      exact lin1 e1 e2
    · rw [edit_strip p q r s r q _ _ h1 (Nat.le_refl _) (Nat.le_refl _) h2, Nat.sub_self, Nat.sub_self, editII hc bT bW', lw, lt]
      have k := caseII (d := dII (p - r) 4 3 (prW W T)) (c := prW W T) (p := p - r) (n := 4) (m := 3) (dII_0 c0) (dII_2 c2) (fun u v hu hv => by unfold dII; rw [if_pos hu, if_pos hv]) (fun i j hi hj => dII_c i j hi hj) (fun u v hu hv => by unfold dII; rw [if_neg (by lia (abstractProof := false)), if_neg (by lia (abstractProof := false))]) (by decide) (by decide) (s - q) (by lia (abstractProof := false))
      refine conclude (V := fun pr b a i j => pr - 2 * (a : Int) + 2 * max ((p - r : Nat) : Int) a + 2 * (((3 : Nat) : Int) - 1 - j) + 2 * max ((s - q : Nat) : Int) (((4 : Nat) : Int) - 1 - i)) ?_ k.1 k.2 hM hmin
      intro pr b a i j hC
      have := hC.lt
      have e1 := paid_up (p - r) (b := (b : Int)) (a := (a : Int)) (Int.natCast_nonneg _) (Int.natCast_nonneg _)
      have e2 := paid_dn (s - q) (b := 4 - 1 - (i : Int)) (a := 3 - 1 - (j : Int)) (by lia (abstractProof := false))
      rw [sub_up h1 hx, sub_dn h2 hy]
      unfold priceF wholeF
      dsimp only
      exact lin2 e1 e2
  · rcases Nat.le_total s q with h2 | h2
    · rw [edit_strip p q r s p s _ _ (Nat.le_refl _) h1 h2 (Nat.le_refl _), Nat.sub_self, Nat.sub_self, ← edit_comm, editII hc' bW bT', lw, lt]
      have k := caseII (d := dII (r - p) 3 4 (fun x y => prW W T y x)) (c := fun x y => prW W T y x) (p := r - p) (n := 3) (m := 4) (dII_0 fun i j => c0 j i) (dII_2 fun i j => c2 j i) (fun u v hu hv => by unfold dII; rw [if_pos hu, if_pos hv]) (fun i j hi hj => dII_c i j hi hj) (fun u v hu hv => by unfold dII; rw [if_neg (by lia (abstractProof := false)), if_neg (by lia (abstractProof := false))]) (by decide) (by decide) (q - s) (by lia (abstractProof := false))
      refine conclude (V := fun pr b a i j => pr - 2 * (b : Int) + 2 * max ((r - p : Nat) : Int) b + 2 * (((4 : Nat) : Int) - 1 - i) + 2 * max ((q - s : Nat) : Int) (((3 : Nat) : Int) - 1 - j)) ?_ ?_ ?_ hM hmin
      · intro pr b a i j hC
        have := hC.lt
        have e1 := paid_dn (r - p) (b := (b : Int)) (a := (a : Int)) (Int.natCast_nonneg _)
        have e2 := paid_up (q - s) (b := 4 - 1 - (i : Int)) (a := 3 - 1 - (j : Int)) (by lia (abstractProof := false)) (by lia (abstractProof := false))
        rw [sub_dn h1 hx, sub_up h2 hy]
        unfold priceF wholeF
        dsimp only
        exact lin1 e1 e2
      · obtain ⟨pr, b, a, i, j, hC, hle⟩ := k.1
        exact ⟨pr, a, b, j, i, hC.swap, hle⟩
      · intro pr b a i j hC
        exact k.2 pr a b j i hC.swap
    · rw [edit_strip p q r s p q _ _ (Nat.le_refl _) h1 (Nat.le_refl _) h2, Nat.sub_self, Nat.sub_self, ← edit_comm, editI hc' bW, lw, lt]
      have k := caseI (d := dI (r - p) 3 4 (fun x y => prW W T y x)) (c := fun x y => prW W T y x) (p := r - p) (n := 3) (m := 4) (dI_0 fun i j => c0 j i) (dI_2 fun i j => c2 j i) (fun u v hu hv => by unfold dI; rw [if_neg (by lia (abstractProof := false))]) (fun i j hi hj => dI_c i j hi hj) (fun u v hu hv => by unfold dI; rw [if_neg (by lia (abstractProof := false))]) (by decide) (by decide) (s - q)
      refine conclude (V := fun pr b a i j => pr - 2 * (b : Int) + 2 * max ((r - p : Nat) : Int) b + 2 * (((3 : Nat) : Int) - 1 - j) + 2 * max ((s - q : Nat) : Int) (((4 : Nat) : Int) - 1 - i)) ?_ ?_ ?_ hM hmin
      · intro pr b a i j hC
        have := hC.lt
        have e1 := paid_dn (r - p) (b := (b : Int)) (a := (a : Int)) (Int.natCast_nonneg _)
        have e2 := paid_dn (s - q) (b := 4 - 1 - (i : Int)) (a := 3 - 1 - (j : Int)) (by lia (abstractProof := false))
        rw [sub_dn h1 hx, sub_dn h2 hy]
        unfold priceF wholeF
        dsimp only
        exact lin2 e1 e2
      · obtain ⟨pr, b, a, i, j, hC, hle⟩ := k.1
        exact ⟨pr, a, b, j, i, hC.swap, hle⟩
      · intro pr b a i j hC
        exact k.2 pr a b j i hC.swap
end
end
section
open PySem PySem.W PyProof.Rows PySem.Calls PySem.Spec
section
variable {prog : Program} {w : World} {A : Around} {E : Value → Shared → Prop} {s : Shared} {env : Env} {h₀ : Heap} {L : Addr}
theorem paired_ints {g : Int → Int} : ∀ {vs ys : List Value} {ns : List Int}, IntsAre vs ns → Paired (fun v r => ∃ n t, v = Value.int n t ∧ ∃ t', r = Value.int (g n) t') (vs.filter fun _ => true) ys → IntsAre ys (ns.map g)
  | _, _, _, .nil, h => by
    simp only [List.filter_nil] at h
    cases h
    exact .nil
  | _, _, _, .cons n t r, h => by
    simp only [List.filter_cons, if_true] at h
    cases h with
    | cons h1 h2 =>
      obtain ⟨n', t', e, t'', rfl⟩ := h1
      cases e
      exact .cons _ _ (paired_ints r h2)
/-- a comprehension over a list of ints of the ledger, its element an int, bound to a name -/
theorem compA {m : Str → Option Value} {news : Led} {l : Addr} {vs : List Value} {ns : List Int} {nn : Nat} {scope : Scope} {x z : Str} {elt : Expr} {Q : Flow → Shared → Prop} (g : Int → Int)
    (hL : env.locals = L) (hh : A.handled = none) (hl : (l, listOf vs.toArray nn) ∈ news) (hi : IntsAre vs ns) (F : Fr h₀ L s.heap m) (N : News h₀ L s.heap news) (hsz : ns.length ≤ 1000)
    (g2 : ∀ C n t s₂ m₂ E', n ∈ ns → s₂.heap.Ns (compEnv scope C env).locals m₂ → m₂ x = some (.int n t) → wpAny (model prog w) A (eval elt (compEnv scope C env)) (fun r s₃ => (∃ t, r = .int (g n) t) ∧ Keeps s₂ s₃) E' s₂)
    (g3 : ∀ D (ys : List Value) nn' h' tk, (∀ p ∈ news, p.1 ≠ D) → Fr h₀ L h' (fun q => if q = z then some (.ref D) else m q) → News h₀ L h' ((D, listOf ys.toArray nn') :: news) → IntsAre ys (ns.map g) → Q .next { s with heap := h', toks := tk }) :
    wpAny (model prog w) A (pyIter (.ref l)) (CompPostA prog w A env scope x z [] elt Q) E s := by
  subst hL
  have hl' : s.heap.IsList l vs.toArray := ⟨_, (N _ hl).1, rfl, nn, rfl⟩
  have hlt : l < s.heap.objs.size := Heap.lt_size (N _ hl).1
  refine wpAny_pyIter_list hl' ?_
  refine ⟨fun _ => true, fun v r => ∃ n t, v = Value.int n t ∧ ∃ t', r = Value.int (g n) t', s.heap.objs.size, [s.heap.objs.size, l], [s.heap.objs.size], vs.toArray.size, _, _, m, rfl, Walks.list hh _ l (Nat.ne_of_lt hlt) vs.toArray, (by rw [List.size_toArray, hi.length, sizeLine_eq]; omega),
    ⟨⟨_, Heap.get?_push_size _ rfl, rfl, rfl⟩, hl'.at fun o e => Heap.get?_push_of_some _ e⟩, ?_, ?_, (F.push _).ns, ⟨?_, ?_⟩, ?_⟩
  · intro b hb
    show b < (s.heap.push _).objs.size
    rw [Heap.size_push]
    rcases List.mem_cons.mp hb with rfl | hb
    · exact Nat.lt_succ_self _
    · rw [List.mem_singleton.mp hb]; exact Nat.lt_succ_of_lt hlt
  · intro hm
    exact absurd F.ns.lt ((List.mem_singleton.mp hm) ▸ Nat.lt_irrefl _)
  · intro C i v s₃ m₃ E' hP hn hm _ htk
    exact wpAny_pure ⟨rfl, s₃.heap, s₃.toks, rfl, fun _ _ e => e⟩
  · intro C i v s₃ m₃ E' hP hp' hn hm _ htk
    obtain ⟨n, t, rfl, hn'⟩ := hi.at i v (by simpa using hP)
    exact wpAny_mono (g2 C n t s₃ m₃ E' (List.mem_of_getElem? hn') hn hm) (fun r s₄ h₄ => ⟨⟨n, t, rfl, h₄.1⟩, h₄.2⟩) fun _ _ e => e
  · intro D h' tk ys vs' hnew hlD hplD hlen hP hF hn' hk
    have e' : vs' = vs := by simpa using walked_is hlen hP
    subst e'
    obtain ⟨nn', e9⟩ := hplD
    have hne : ∀ p ∈ news, p.1 ≠ D := fun p hp e => by rw [← e, Heap.get?_push_of_some _ (N p hp).1] at hnew; cases hnew
    have hD0 : h₀.get? D = none := by
      cases e : h₀.get? D with
      | none => rfl
      | some o' => rw [Heap.get?_push_of_some _ (F.keep _ _ e)] at hnew; cases hnew
    have F' : Fr h₀ env.locals h' (fun q => if q = z then some (.ref D) else m q) := ⟨hn', fun b o' e => hk b o' (Nat.ne_of_lt (Nat.lt_of_lt_of_le (Heap.lt_size e) F.above)) (not_iter_of_old (F.keep b o' e)) (Heap.get?_push_of_some _ (F.keep b o' e)), F.above⟩
    have N' : News h₀ env.locals h' news := fun p hp => ⟨hk _ _ (N p hp).2.1 (not_iter_of_old (N p hp).1) (Heap.get?_push_of_some _ (N p hp).1), (N p hp).2⟩
    have hDL : D ≠ env.locals := by
      rintro rfl
      obtain ⟨o, _, _, ho, _⟩ := F.ns
      have h3 := hnew
      rw [Heap.get?_push_of_some _ ho] at h3
      cases h3
    refine g3 D ys.toList nn' h' tk hne F' (List.forall_mem_cons.mpr ⟨⟨?_, hDL, hD0⟩, N'⟩) (paired_ints hi hF)
    rw [Array.toArray_toList]
    exact e9
end
section
variable {prog : Program} {w : World} {A : Around} {E : Value → Shared → Prop} {s : Shared} {env : Env} {Q : Value → Shared → Prop}
theorem holdSl3 {v : Expr} {lo hi : Option Expr} {st : Expr} {p : Pos} {l r : Addr} (h : wpAny (model prog w) A (Hold (subscriptTail v (.Slice lo hi (some st) p) (.ref l) (.ref r))) Q E s) : wpAny (model prog w) A (subscriptTail v (.Slice lo hi (some st) p) (.ref l) (.ref r)) Q E s := h
theorem holdSub {v : Expr} {p1 p2 : Pos} (h : wpAny (model prog w) A (Hold (eval (.Subscript (.Name (Str.ofString "pair") p1) v p2) env)) Q E s) : wpAny (model prog w) A (eval (.Subscript (.Name (Str.ofString "pair") p1) v p2) env) Q E s := h
def HoldP (P : Prop) : Prop := P
theorem holdP {P : Prop} (h : HoldP P) : P := h
theorem unholdP {P : Prop} (h : P) : HoldP P := h
end
end
section
open PySem PySem.W PyProof.Rows PySem.Calls PySem.Spec
section
variable {prog : Program} {w : World} {A : Around} {E : Value → Shared → Prop} {s : Shared} {env : Env} {h₀ : Heap} {L : Addr}
/-- the items of ys tell, one by one, of the items of ns -/
inductive Tells (G : Int → Value → Prop) : List Int → List Value → Prop
  | nil : Tells G [] []
  | cons {n : Int} {v : Value} {ns : List Int} {vs : List Value} : G n v → Tells G ns vs → Tells G (n :: ns) (v :: vs)
theorem paired_tells {G : Int → Value → Prop} : ∀ {vs ys : List Value} {ns : List Int}, IntsAre vs ns → Paired (fun v r => ∃ n t, v = Value.int n t ∧ G n r) (vs.filter fun _ => true) ys → Tells G ns ys
  | _, _, _, .nil, h => by
    simp only [List.filter_nil] at h
    cases h
    exact .nil
  | _, _, _, .cons n t r, h => by
    simp only [List.filter_cons, if_true] at h
    cases h with
    | cons h1 h2 =>
      obtain ⟨n', t', e, hg⟩ := h1
      cases e
      exact .cons hg (paired_tells r h2)
theorem tells_ints {g : Int → Int} : ∀ {ns : List Int} {ys : List Value}, Tells (fun n r => ∃ t, r = .int (g n) t) ns ys → IntsAre ys (ns.map g)
  | _, _, .nil => .nil
  | _, _, .cons h r => by
    obtain ⟨t, rfl⟩ := h
    exact .cons _ _ (tells_ints r)
theorem tells_strs {g : Int → Str} : ∀ {ns : List Int} {ys : List Value}, Tells (fun n r => ∃ t, r = .str (g n) t) ns ys → StrsAre ys (ns.map g)
  | _, _, .nil => .nil
  | _, _, .cons h r => by
    obtain ⟨t, rfl⟩ := h
    exact .cons _ _ (tells_strs r)
/-- a comprehension over a list of ints of the ledger, as a value -/
theorem compE {m : Str → Option Value} {news : Led} {l : Addr} {vs : List Value} {ns : List Int} {nn : Nat} {scope : Scope} {x : Str} {elt : Expr} {Q : Value → Shared → Prop} (G : Int → Value → Prop)
    (hL : env.locals = L) (hh : A.handled = none) (hl : (l, listOf vs.toArray nn) ∈ news) (hi : IntsAre vs ns) (F : Fr h₀ L s.heap m) (N : News h₀ L s.heap news) (hsz : ns.length ≤ 1000)
    (g2 : ∀ C n t s₂ m₂ E', n ∈ ns → s₂.heap.Ns (compEnv scope C env).locals m₂ → m₂ x = some (.int n t) → wpAny (model prog w) A (eval elt (compEnv scope C env)) (fun r s₃ => G n r ∧ Keeps s₂ s₃) E' s₂)
    (g3 : ∀ D (ys : List Value) nn' h' tk, (∀ p ∈ news, p.1 ≠ D) → Fr h₀ L h' m → News h₀ L h' ((D, listOf ys.toArray nn') :: news) → Tells G ns ys → Q (.ref D) { s with heap := h', toks := tk }) :
    wpAny (model prog w) A (pyIter (.ref l)) (CompPost prog w A env scope x [] elt Q) E s := by
  subst hL
  have hl' : s.heap.IsList l vs.toArray := ⟨_, (N _ hl).1, rfl, nn, rfl⟩
  have hlt : l < s.heap.objs.size := Heap.lt_size (N _ hl).1
  refine wpAny_pyIter_list hl' ?_
  refine ⟨fun _ => true, fun v r => ∃ n t, v = Value.int n t ∧ G n r, s.heap.objs.size, [s.heap.objs.size, l], [s.heap.objs.size], vs.toArray.size, _, _, rfl, Walks.list hh _ l (Nat.ne_of_lt hlt) vs.toArray, (by rw [List.size_toArray, hi.length, sizeLine_eq]; lia (abstractProof := false)),
    ⟨⟨_, Heap.get?_push_size _ rfl, rfl, rfl⟩, hl'.at fun o e => Heap.get?_push_of_some _ e⟩, ?_, ⟨?_, ?_⟩, ?_⟩
  · intro b hb
    show b < (s.heap.push _).objs.size
    rw [Heap.size_push]
    rcases List.mem_cons.mp hb with rfl | hb
    · exact Nat.lt_succ_self _
    · rw [List.mem_singleton.mp hb]; exact Nat.lt_succ_of_lt hlt
  · intro C i v s₃ m₃ E' hP hn hm _ htk
    exact wpAny_pure ⟨rfl, s₃.heap, s₃.toks, rfl, fun _ _ e => e⟩
  · intro C i v s₃ m₃ E' hP hp' hn hm _ htk
    obtain ⟨n, t, rfl, hn'⟩ := hi.at i v (by simpa using hP)
    exact wpAny_mono (g2 C n t s₃ m₃ E' (List.mem_of_getElem? hn') hn hm) (fun r s₄ h₄ => ⟨⟨n, t, rfl, h₄.1⟩, h₄.2⟩) fun _ _ e => e
  · intro D h' tk ys vs' hnew hlD hplD hlen hP hF hk
    have e' : vs' = vs := by simpa using walked_is hlen hP
    subst e'
    obtain ⟨nn', e9⟩ := hplD
    have hne : ∀ p ∈ news, p.1 ≠ D := fun p hp e => by rw [← e, Heap.get?_push_of_some _ (N p hp).1] at hnew; cases hnew
    have hD0 : h₀.get? D = none := by
      cases e : h₀.get? D with
      | none => rfl
      | some o' => rw [Heap.get?_push_of_some _ (F.keep _ _ e)] at hnew; cases hnew
    have hI0 : h₀.get? s.heap.objs.size = none := next_is_new F
    have old : ∀ b o, s.heap.get? b = some o → h'.get? b = some o := fun b o e => hk b o (fun hm => Nat.lt_irrefl _ ((List.mem_singleton.mp hm) ▸ Heap.lt_size e)) (Heap.get?_push_of_some _ e)
    have hDL : D ≠ env.locals := by
      rintro rfl
      obtain ⟨o, _, _, ho, _⟩ := F.ns
      have h3 := hnew
      rw [Heap.get?_push_of_some _ ho] at h3
      cases h3
    refine g3 D ys.toList nn' h' tk hne (F.keeps old) (List.forall_mem_cons.mpr ⟨⟨?_, hDL, hD0⟩, N.grown old⟩) (paired_tells hi hF)
    rw [Array.toArray_toList]
    exact e9
theorem leafSign {C : Addr} {scope : Scope} {m : Str → Option Value} {x : Str} {p1 p2 p3 : Pos} {n : Int} {t : Tok} {kd : Nat} (hk : scope.kind = .function) (hl : (compEnv scope C env).kindOf x = some .local) (hd : (x == ("__debug__" : Str)) = false) (h0 : 0 ≤ n ∧ n ≤ 4)
    (hn : s.heap.Ns (compEnv scope C env).locals m) (hx : m x = some (.int n t)) :
    wpAny (model prog w) A (eval (.Subscript (.Constant (.str (Str.ofString "aAbB\t")) kd p1) (.Name x p2) p3) (compEnv scope C env)) (fun r s₃ => (∃ t, r = .str (S [sg n]) t) ∧ Keeps s s₃) E s := by
  refine Subscript_ (wpAny_Constant_str (wpAny_Name (wpAny_loadName_local hk hl hn hx ?_) hd))
  have hlen : (Str.ofString "aAbB\t").length = 5 := by decide +kernel
  refine item_str (fitsSsize_of (N := 9223372036854775808) (by lia (abstractProof := false)) (by lia (abstractProof := false)) (Int.le_refl _)) (by rw [hlen]; lia (abstractProof := false)) (by rw [hlen]; lia (abstractProof := false)) fun _ => ?_
  have e : Txt.item (Str.ofString "aAbB\t") n = S [sg n] := by
    rw [show Str.ofString "aAbB\t" = S [97, 65, 98, 66, 9] from by decide +kernel, item_pos _ h0.1 (by simp only [List.length_cons, List.length_nil]; lia (abstractProof := false))]
    rfl
  rw [e]
  exact ⟨⟨_, rfl⟩, s.heap, _, rfl, fun _ _ e => e⟩
end
theorem join_signs (W : List Int) : Txt.join (Str.ofString "") (W.map fun n => S [sg n]) = S (W.map sg) := by
  unfold Txt.join
  rw [StrLaws.glued_eq_join]
  induction W with
  | nil => rfl
  | cons n r ih =>
    cases r with
    | nil => rfl
    | cons n' r' =>
      simp only [List.map_cons] at ih ⊢
      rw [show Str.join (Str.ofString "") (S [sg n] :: S [sg n'] :: List.map (fun n => S [sg n]) r') = S [sg n] ++ Str.ofString "" ++ Str.join (Str.ofString "") (S [sg n'] :: List.map (fun n => S [sg n]) r') from rfl, ih]
      have e : (Str.ofString "").cps = #[] := by decide +kernel
      apply Str.ext'
      rw [Str.cps_append, Str.cps_append, e]
      simp
theorem join_small (W : List Int) (h : W.length ≤ 10) : ((W.map fun n => S [sg n]).map (·.length)).sum + (W.map fun n => S [sg n]).length ≤ 1048576 := by
  have e : ∀ W : List Int, ((W.map fun n => S [sg n]).map (·.length)).sum = W.length := by
    intro W
    induction W with
    | nil => rfl
    | cons n r ih => simp only [List.map_cons, List.sum_cons, ih, List.length_cons]; rw [S_len]; simp; lia (abstractProof := false)
  rw [e, List.length_map]
  lia (abstractProof := false)
section
variable {prog : Program} {w : World} {A : Around} {E : Value → Shared → Prop} {s : Shared} {h₀ : Heap} {L : Addr}
theorem join_led {news : Led} {l : Addr} {ys : List Value} {nn : Nat} {t : Tok} {W : List Int} {Q : Value → Shared → Prop} (N : News h₀ L s.heap news) (hl : (l, listOf ys.toArray nn) ∈ news) (hi : StrsAre ys (W.map fun n => S [sg n])) (hW : W.length ≤ 10)
    (h : ∀ t' k, Q (.str (S (W.map sg)) t') { s with toks := k }) : wpAny (model prog w) A (call (.builtin "str.join") [.str (Str.ofString "") t, .ref l]) Q E s := by
  refine join_listW (items := ys.toArray) ⟨_, (N _ hl).1, rfl, nn, rfl⟩ hi (by decide +kernel) (join_small W hW) fun t' k => ?_
  rw [join_signs]
  exact h t' k
end
end
section
open PySem PySem.W PyProof.Rows PySem.Calls PySem.Spec
def padF (total k : Int) : Int := ((total + 198).fdiv (4 ^ k.toNat)).fmod 4
section
variable {prog : Program} {w : World} {A : Around} {E : Value → Shared → Prop} {s : Shared} {env : Env} {h₀ : Heap} {L : Addr}
theorem pow4 {k : Int} (h0 : 0 ≤ k) (h1 : k < 4) : (4 : Int) ^ k.toNat ≠ 0 ∧ ((4 : Int) ^ k.toNat).natAbs < 1073741824 := by
  have : k.toNat = 0 ∨ k.toNat = 1 ∨ k.toNat = 2 ∨ k.toNat = 3 := by lia (abstractProof := false)
  rcases this with h | h | h | h <;> rw [h] <;> decide
theorem leafPads {news : Led} {scope : Scope} {cl : List (Str × Addr)} {C c : Addr} {o : Obj} {m₂ : Str → Option Value} {total k : Int} {tt tk : Tok} {kd1 kd2 kd3 : Nat} {p1 p2 p3 p4 p5 p6 p7 p8 p9 : Pos} {Q : Value → Shared → Prop} (N : News h₀ L s.heap news)
    (hc : cl.lookup (Str.ofString "total") = some c) (hm : (c, o) ∈ news) (hd : o.data = .cell (some (.int total tt)))
    (hk : (compEnvC scope cl C env).scope.kind = .function) (hx : (compEnvC scope cl C env).kindOf (Str.ofString "total") = some .cell ∨ (compEnvC scope cl C env).kindOf (Str.ofString "total") = some .free) (hl : (compEnvC scope cl C env).kindOf (Str.ofString "k") = some .local)
    (hn : s.heap.Ns C m₂) (hk2 : m₂ (Str.ofString "k") = some (.int k tk)) (h0 : 0 ≤ k) (h1 : k < 4)
    (hQ : ∀ t tk', Q (.int (padF total k) t) { s with toks := tk' }) :
    wpAny (model prog w) A (eval (.BinOp (.BinOp (.BinOp (.Name (Str.ofString "total") p1) .Add (.Constant (.int 198) kd1 p2) p3) .FloorDiv (.BinOp (.Constant (.int 4) kd2 p4) .Pow (.Name (Str.ofString "k") p5) p6) p7) .Mod (.Constant (.int 4) kd3 p8) p9) (compEnvC scope cl C env)) Q E s := by
  obtain ⟨e1, e2⟩ := pow4 h0 h1
  have tot : ∀ {Q' : Value → Shared → Prop}, Q' (.int total tt) s → wpAny (model prog w) A (eval (.Name (Str.ofString "total") p1) (compEnvC scope cl C env)) Q' E s := by
    intro Q' h
    rcases hx with hx | hx
    · exact lcf_cell N hc hm hd h hk hx
    · exact lcf_free N hc hm hd h hk hx
  refine wpAny_BinOp (wpAny_BinOp (wpAny_BinOp (tot (wpAny_Constant_int (add_int ?_)))))
  refine wpAny_BinOp (wpAny_Constant_int (wpAny_Name (wpAny_loadName_local hk hl hn hk2 ?_) (by decide)))
  refine pow_int_small h0 (by lia (abstractProof := false)) (by decide) ?_
  refine floordiv_int e1 ?_ (.inl (PyProof.noPylong_small e2))
  refine wpAny_Constant_int (mod_int' (by decide) ?_)
  exact hQ _ _
end
end
section
open PySem PySem.W PyProof.Rows PySem.Calls PySem.Spec
section
variable {prog : Program} {w : World} {A : Around} {E : Value → Shared → Prop} {s : Shared} {env : Env} {h₀ : Heap} {L : Addr}
theorem mulBl {n : Int} {t u : Tok} {Q : Value → Shared → Prop} (h0 : 0 ≤ n ∧ n ≤ 3) (h : ∀ t' k, Q (.str (S (List.replicate n.toNat 32)) t') { s with toks := k }) :
    wpAny (model prog w) A (binaryOp .Mult (.str (Str.ofString " ") t) (.int n u)) Q E s := by
  have e : n = 0 ∨ n = 1 ∨ n = 2 ∨ n = 3 := by lia (abstractProof := false)
  have c : MulOk (Str.ofString " ") n ∧ Txt.mul (Str.ofString " ") n = S (List.replicate n.toNat 32) := by
    rcases e with rfl | rfl | rfl | rfl <;> exact ⟨⟨by decide +kernel, by decide +kernel, by decide +kernel⟩, by decide +kernel⟩
  refine SB.mul c.1 fun t' k => ?_
  rw [c.2]
  exact h t' k
theorem S_app (a b : List Nat) : S a ++ S b = S (a ++ b) := by
  apply Str.ext'
  rw [Str.cps_append]
  simp
/-- the text of a word between its blanks, as the law writes it -/
theorem evalPad {m : Str → Option Value} {news : Led} {x y : Str} {a : Addr} {p q : Int} {tp tq t : Tok} {nn : Nat} {l : List Nat} {k1 k2 k3 k4 : Nat} {p1 p2 p3 p4 p5 p6 p7 p8 p9 p10 p11 p12 p13 : Pos} {Q : Value → Shared → Prop}
    (hk : env.scope.kind = .function) (hx : env.kindOf x = some .local) (hy : env.kindOf y = some .local) (hdx : (x == ("__debug__" : Str)) = false) (hdy : (y == ("__debug__" : Str)) = false) (hL : env.locals = L)
    (F : Fr h₀ L s.heap m) (N : News h₀ L s.heap news) (mx : m x = some (.ref a)) (my : m y = some (.str (S l) t)) (ht : (a, tupOf #[.int p tp, .int q tq] nn) ∈ news) (hp : 0 ≤ p ∧ p ≤ 3) (hq : 0 ≤ q ∧ q ≤ 3) (hl : l.length ≤ 10)
    (h : ∀ t' k, Q (.str (S (pad p.toNat l q.toNat)) t') { s with toks := k }) :
    wpAny (model prog w) A (eval (.BinOp (.BinOp (.BinOp (.Constant (.str (Str.ofString " ")) k1 p1) .Mult (.Subscript (.Name x p2) (.Constant (.int 0) k2 p3) p4) p5) .Add (.Name y p6) p7) .Add (.BinOp (.Constant (.str (Str.ofString " ")) k3 p8) .Mult (.Subscript (.Name x p9) (.Constant (.int 1) k4 p10) p11) p12) p13) env) Q E s := by
  subst hL
  have nm : ∀ {z : Str} {v : Value} {pp : Pos} {s' : Shared} {Q' : Value → Shared → Prop}, env.kindOf z = some .local → (z == ("__debug__" : Str)) = false → s'.heap = s.heap → m z = some v → Q' v s' → wpAny (model prog w) A (eval (.Name z pp) env) Q' E s' := by
    intro z v pp s' Q' h1 h2 h3 h4 h5
    exact wpAny_Name (wpAny_loadName_local hk h1 (h3 ▸ F.ns) h4 h5) h2
  have tup : ∀ {s' : Shared}, s'.heap = s.heap → IsTup s'.heap a [Value.int p tp, Value.int q tq].toArray := by
    intro s' h3
    rw [h3]
    exact ⟨_, (N _ ht).1, rfl, nn, rfl⟩
  refine wpAny_BinOp (wpAny_BinOp (wpAny_BinOp (wpAny_Constant_str ?_)))
  refine Subscript_ (nm hx hdx rfl mx (wpAny_Constant_int ?_))
  refine item_tupleT (tup rfl) (by decide) (by decide) (j := 0) rfl rfl ?_
  refine mulBl hp fun t1 k1 => ?_
  refine nm hy hdy rfl my ?_
  refine add_str (fun t2 k2 => ?_) (by rw [S_len, S_len, List.length_replicate, sizeLine_eq]; lia (abstractProof := false))
  rw [S_app]
  refine wpAny_BinOp (wpAny_Constant_str ?_)
  refine Subscript_ (nm hx hdx rfl mx (wpAny_Constant_int ?_))
  refine item_tupleT (tup rfl) (by decide) (by decide) (j := 1) rfl rfl ?_
  refine mulBl hq fun t1 k1 => ?_
  refine add_str (fun t2 k2 => ?_) (by rw [S_len, S_len, List.length_append, List.length_replicate, List.length_replicate, sizeLine_eq]; lia (abstractProof := false))
  rw [S_app]
  exact h _ _
end
end
section
open PySem PySem.W PyProof.Rows PySem.Calls PySem.Spec
section
variable {w : World} {mean : ExcName → Option Value} {mg mb : Str → Option Value} {f : Addr} {room units : Nat} {news : Led} {vs : List Value} {Out Out' : Value → Led → Prop}
theorem Does.mono (D : Does w mean mg mb f room units news vs Out) (h : ∀ r tl, Out r tl → Out' r tl) : Does w mean mg mb f room units news vs Out' := by
  unfold Does
  intro dp un gd cn cs a ccd cl outer A₀ base h₀ L m s Q E B F X N T hk hd hu ret
  exact D dp un gd cn cs a ccd cl outer A₀ base h₀ L m s Q E B F X N T hk hd hu fun r tl h' tk' F' N' o => ret r tl h' tk' F' N' (h r tl o)
theorem leftF_b {p q a : Int} (hp : 0 ≤ p ∧ p ≤ 3) (hq : 0 ≤ q ∧ q ≤ 3) (ha : -1 ≤ a ∧ a ≤ 4) : (0 ≤ (leftF (p, q) a).1 ∧ (leftF (p, q) a).1 ≤ p) ∧ (0 ≤ (leftF (p, q) a).2 ∧ (leftF (p, q) a).2 ≤ q) := by
  unfold leftF
  split
  · dsimp only; lia (abstractProof := false)
  · dsimp only; lia (abstractProof := false)
theorem slice_pad {p q u v : Nat} (l : List Nat) (hu : u ≤ p) (hv : v ≤ q) : Txt.slice (S (pad p l q)) (some ((p - u : Nat) : Int)) (some ((p + l.length + v : Nat) : Int)) = S (pad u l v) := by
  have e0 : ((p + l.length + v : Nat) : Int) - ((p - u : Nat) : Int) = ((u + l.length + v : Nat) : Int) := by lia (abstractProof := false)
  have e1 : u + l.length + v = (pad u l q).length - (q - v) := by rw [pad_len]; lia (abstractProof := false)
  rw [slice_mid _ (Int.natCast_nonneg _) (by lia (abstractProof := false)) (by rw [pad_len]; lia (abstractProof := false)), e0, Int.toNat_natCast, Int.toNat_natCast, pad_drop _ _ (Nat.sub_le _ _), Nat.sub_sub_self hu, e1, pad_take _ _ (Nat.sub_le _ _), Nat.sub_sub_self hv]
theorem pad_hit {p q k : Nat} {l : List Nat} (hne : ∀ c ∈ l, c ≠ 32) (hk : k < p + l.length + q) : ((pad p l q).getD k 0 = 32) ↔ (k < p ∨ p + l.length ≤ k) := by
  rw [pad_get _ _ _ _ hk]
  by_cases h2 : k < p
  · rw [if_pos h2]
    exact ⟨fun _ => .inl h2, fun _ => rfl⟩
  · rw [if_neg h2]
    by_cases h3 : k < p + l.length
    · rw [if_pos h3]
      have h4 : k - p < l.length := by lia (abstractProof := false)
      have hm : l.getD (k - p) 0 ≠ 32 := by
        rw [List.getD_eq_getElem?_getD, List.getElem?_eq_getElem h4]
        exact hne _ (List.getElem_mem h4)
      exact ⟨fun h => absurd h hm, fun h => h.elim (fun h => absurd h h2) fun h => absurd h3 (Nat.not_lt.mpr h)⟩
    · rw [if_neg h3]
      exact ⟨fun _ => .inr (Nat.not_lt.mp h3), fun _ => rfl⟩
theorem left_i {p q a i : Int} (h : i = if a < 0 then p else min a p) : i = p - (leftF (p, q) a).1 := by
  unfold leftF
  rw [h]
  split <;> dsimp only <;> lia (abstractProof := false)
theorem left_j {p q a n j : Int} (h : j = p + n + q - if a < 0 then q else min (a - min a p) q) : j = p + n + (leftF (p, q) a).2 := by
  unfold leftF
  rw [h]
  split <;> dsimp only <;> lia (abstractProof := false)
theorem nat_of {p : Int} (h : 0 ≤ p) : ∃ n : Nat, p = n := ⟨p.toNat, (Int.toNat_of_nonneg h).symm⟩
/-- _strip_padding upon a word between its blanks -/
theorem stripPad (l : List Nat) (tx : Tok) (a0 : Int) (ta : Tok) (p q : Int) (hp : 0 ≤ p ∧ p ≤ 3) (hq : 0 ≤ q ∧ q ≤ 3) (hl : 1 ≤ l.length ∧ l.length ≤ 4) (hne : ∀ c ∈ l, c ≠ 32) (ha : -1 ≤ a0 ∧ a0 ≤ 4) :
    Does w mean mg mb 21 1 8 news [.str (S (pad p.toNat l q.toNat)) tx, .int a0 ta] (fun r _ => ∃ t, r = .str (S (pad (leftF (p, q) a0).1.toNat l (leftF (p, q) a0).2.toNat)) t) := by
  have hb := leftF_b hp hq ha
  obtain ⟨p', rfl⟩ := nat_of hp.1
  obtain ⟨q', rfl⟩ := nat_of hq.1
  have hlen : ((S (pad p' l q')).length : Int) = p' + (l.length : Int) + q' := by rw [S_len, pad_len]; lia (abstractProof := false)
  rw [Int.toNat_natCast, Int.toNat_natCast]
  refine (strip0 (S (pad p' l q')) tx a0 ta p' l.length q' hp (by lia (abstractProof := false)) hq ha hlen ?_).mono ?_
  · intro k h0 h1
    obtain ⟨k', rfl⟩ := nat_of h0
    rw [item_pos _ h0 (by rw [pad_len]; lia (abstractProof := false)), show Str.ofString " " = S [32] from by decide +kernel, S_inj, Int.toNat_natCast, decide_eq_decide]
    have h := pad_hit (p := p') (q := q') (k := k') hne (by lia (abstractProof := false))
    constructor
    · intro e
      have := h.mp (List.cons.inj e).1
      lia (abstractProof := false)
    · intro e
      rw [h.mpr (by lia (abstractProof := false))]
  · rintro r tl ⟨t, i, j, rfl, hi, hj⟩
    refine ⟨t, ?_⟩
    have hi' := left_i (q := (q' : Int)) hi
    have hj' := left_j hj
    clear hi hj hlen hne
    generalize (leftF ((p' : Int), (q' : Int)) a0).1 = u at *
    generalize (leftF ((p' : Int), (q' : Int)) a0).2 = v at *
    obtain ⟨u', rfl⟩ := nat_of hb.1.1
    obtain ⟨v', rfl⟩ := nat_of hb.2.1
    have hu := Int.ofNat_le.mp hb.1.2
    have hv := Int.ofNat_le.mp hb.2.2
    have ei : i = ((p' - u' : Nat) : Int) := by clear hb hp hq hl ha hj'; lia (abstractProof := false)
    have ej : j = ((p' + l.length + v' : Nat) : Int) := by clear hb hp hq hl ha hi'; lia (abstractProof := false)
    rw [ei, ej, slice_pad l hu hv, Int.toNat_natCast, Int.toNat_natCast]
theorem edit_b (xs ys : List Nat) : 0 ≤ edit xs ys ∧ edit xs ys ≤ 2 * (xs.length : Int) + 2 * ys.length := ⟨D_nonneg dS_0 _ _, by have h : edit xs ys ≤ 2 * ((xs.length : Int) + ys.length) := D_le _ _; lia (abstractProof := false)⟩
theorem levE (xs ys : List Nat) (ta tb tm : Tok) (mc : Int) (hx : xs.length ≤ 30) (hy : ys.length ≤ 30) (hmc : edit xs ys - 1 ≤ mc ∧ mc ≤ edit xs ys + 1) (hxa : ∀ c ∈ xs, c < 128) (hya : ∀ c ∈ ys, c < 128) :
    Does w mean mg mb 35 2 16 news [.str (S xs) ta, .str (S ys) tb, .int mc tm] (fun r _ => ∃ t, r = .int (edit xs ys) t) := by
  have hb := edit_b xs ys
  refine (lev xs ys ta tb tm mc hx hy (by lia (abstractProof := false)) hxa hya).mono ?_
  rintro r tl ⟨t, v, rfl, h⟩
  have : v = edit xs ys := by lia (abstractProof := false)
  exact ⟨t, by rw [this]⟩
theorem cellF_pos {W T : List Int} {i j : Nat} {ws : List W5} : 1 ≤ (cellF W T i j ws).length := by
  unfold cellF longF
  simp only [List.length_append, List.length_cons]
  lia (abstractProof := false)
theorem waysF_pos (W T : List Int) : 1 ≤ (waysF W T 4).length := by
  show 1 ≤ (rowF W T 3 3 (waysF W T 3)).length
  exact cellF_pos
theorem dueE (lw : Addr) (wvs : List Value) (nn : Nat) (W T : List Int) (h0 h1 t0 t1 x y : Int) (tx ty : Tok) (hlw : (lw, listOf wvs.toArray nn) ∈ news) (ht : Tups news wvs ((waysF W T 4).map wholeF))
    (hW : W.length = 4) (hT : T.length = 3) (hWb : ∀ x ∈ W, 0 ≤ x ∧ x ≤ 4) (hTb : ∀ x ∈ T, 0 ≤ x ∧ x ≤ 4) (b0 : 0 ≤ h0 ∧ h0 ≤ 3) (b1 : 0 ≤ h1 ∧ h1 ≤ 3) (c0 : 0 ≤ t0 ∧ t0 ≤ 3) (c1 : 0 ≤ t1 ∧ t1 ≤ 3) (hx : x = h0 - t0) (hy : y = h1 - t1) :
    Does w mean mg mb 56 2 16 news [.ref lw, .int x tx, .int y ty] (fun r _ => ∃ t, r = .int (edit (pad h0.toNat (W.map sg) h1.toNat) (pad t0.toNat (T.map sg) t1.toNat)) t) := by
  have hlen : ((waysF W T 4).map wholeF).length ≤ 5000 := by
    rw [List.length_map]
    have := waysF_l (W := W) (T := T) 4
    lia (abstractProof := false)
  have hpos : 1 ≤ ((waysF W T 4).map wholeF).length := by
    rw [List.length_map]
    exact waysF_pos W T
  refine (due lw wvs nn ((waysF W T 4).map wholeF) x y tx ty hlw ht hlen hpos (by lia (abstractProof := false)) (by lia (abstractProof := false)) ?_).mono ?_
  · intro d hd
    obtain ⟨e, he, rfl⟩ := List.mem_map.mp hd
    have h := waysF_b (W := W) (T := T) 4 (Nat.le_refl _) e he
    unfold B5 at h
    unfold wholeF
    dsimp only
    lia (abstractProof := false)
  · rintro r tl ⟨t, M, rfl, hM, hmin⟩
    exact ⟨t, by rw [plain hW hT hWb hTb (p := h0.toNat) (q := h1.toNat) (r := t0.toNat) (s := t1.toNat) (by lia (abstractProof := false)) (by lia (abstractProof := false)) (by lia (abstractProof := false)) (by lia (abstractProof := false)) (by lia (abstractProof := false)) (by lia (abstractProof := false)) hM hmin]⟩
theorem sg_ok {W : List Int} (h : ∀ x ∈ W, 0 ≤ x ∧ x ≤ 4) : (∀ c ∈ W.map sg, c ≠ 32) ∧ ∀ c ∈ W.map sg, c < 128 := by
  have k : ∀ a : Fin 5, sg (a.val : Int) ≠ 32 ∧ sg (a.val : Int) < 128 := by decide
  constructor <;>
  · intro c hc
    obtain ⟨x, hx, rfl⟩ := List.mem_map.mp hc
    obtain ⟨a, ha⟩ := fin5 (h x hx)
    rw [ha]
    first | exact (k a).1 | exact (k a).2
theorem pad_ok {p q : Nat} {l : List Nat} (h : ∀ c ∈ l, c < 128) : ∀ c ∈ pad p l q, c < 128 := by
  intro c hc
  unfold pad at hc
  rcases List.mem_append.mp hc with hc | hc
  · rcases List.mem_append.mp hc with hc | hc
    · rw [(List.mem_replicate.mp hc).2]; decide
    · exact h c hc
  · rw [(List.mem_replicate.mp hc).2]; decide
end
end
section
open PySem PySem.W PyProof.Rows PySem.Calls PySem.Spec
section
variable {prog : Program} {w : World} {A : Around} {E : Value → Shared → Prop} {s : Shared} {env : Env} {h₀ : Heap} {L : Addr} {m : Str → Option Value} {news : Led}
theorem nmL {z : Str} {v : Value} {pp : Pos} {Q : Value → Shared → Prop} (hk : env.scope.kind = .function) (hL : env.locals = L) (F : Fr h₀ L s.heap m) (h1 : env.kindOf z = some .local) (h2 : (z == ("__debug__" : Str)) = false) (h4 : m z = some v) (h5 : Q v s) :
    wpAny (model prog w) A (eval (.Name z pp) env) Q E s := by
  subst hL
  exact wpAny_Name (wpAny_loadName_local hk h1 F.ns h4 h5) h2
/-- an item of a list of ints of the ledger, both by name -/
theorem evalItem {x y : Str} {l : Addr} {vs : List Value} {ns : List Int} {nn : Nat} {i : Nat} {ti : Tok} {p1 p2 p3 : Pos} {Q : Value → Shared → Prop}
    (hk : env.scope.kind = .function) (hL : env.locals = L) (hx : env.kindOf x = some .local) (hy : env.kindOf y = some .local) (hdx : (x == ("__debug__" : Str)) = false) (hdy : (y == ("__debug__" : Str)) = false)
    (F : Fr h₀ L s.heap m) (N : News h₀ L s.heap news) (mx : m x = some (.ref l)) (my : m y = some (.int (i : Int) ti)) (hl : (l, listOf vs.toArray nn) ∈ news) (hi : IntsAre vs ns) (h1 : i < ns.length) (hf : ns.length ≤ 1000)
    (h : ∀ t, Q (.int (ns.getD i 0) t) s) : wpAny (model prog w) A (eval (.Subscript (.Name x p1) (.Name y p2) p3) env) Q E s := by
  refine Subscript_ (nmL hk hL F hx hdx mx (nmL hk hL F hy hdy my ?_))
  exact item_led N hl hi (by lia (abstractProof := false)) (by lia (abstractProof := false)) (by lia (abstractProof := false)) h
theorem evalA {x y : Str} {l : Addr} {vs : List Value} {ns : List Int} {nn : Nat} {i : Nat} {ti : Tok} {k1 k2 : Nat} {p1 p2 p3 p4 p5 p6 p7 : Pos} {Q : Value → Shared → Prop}
    (hk : env.scope.kind = .function) (hL : env.locals = L) (hx : env.kindOf x = some .local) (hy : env.kindOf y = some .local) (hdx : (x == ("__debug__" : Str)) = false) (hdy : (y == ("__debug__" : Str)) = false)
    (F : Fr h₀ L s.heap m) (N : News h₀ L s.heap news) (mx : m x = some (.ref l)) (my : m y = some (.int (i : Int) ti)) (hl : (l, listOf vs.toArray nn) ∈ news) (hi : IntsAre vs ns) (h1 : i < ns.length) (hf : ns.length ≤ 1000)
    (h : ∀ t tk, Q (.int ((ns.getD i 0).fmod 6 - 1) t) { s with toks := tk }) :
    wpAny (model prog w) A (eval (.BinOp (.BinOp (.Subscript (.Name x p1) (.Name y p2) p3) .Mod (.Constant (.int 6) k1 p4) p5) .Sub (.Constant (.int 1) k2 p6) p7) env) Q E s := by
  refine wpAny_BinOp (wpAny_BinOp (evalItem hk hL hx hy hdx hdy F N mx my hl hi h1 hf fun t => ?_))
  refine wpAny_Constant_int (mod_int' (by decide) ?_)
  refine wpAny_Constant_int (sub_int ?_)
  exact h _ _
theorem evalB {x y : Str} {l : Addr} {vs : List Value} {ns : List Int} {nn : Nat} {i : Nat} {ti : Tok} {k1 k2 k3 : Nat} {p1 p2 p3 p4 p5 p6 p7 p8 p9 : Pos} {Q : Value → Shared → Prop}
    (hk : env.scope.kind = .function) (hL : env.locals = L) (hx : env.kindOf x = some .local) (hy : env.kindOf y = some .local) (hdx : (x == ("__debug__" : Str)) = false) (hdy : (y == ("__debug__" : Str)) = false)
    (F : Fr h₀ L s.heap m) (N : News h₀ L s.heap news) (mx : m x = some (.ref l)) (my : m y = some (.int (i : Int) ti)) (hl : (l, listOf vs.toArray nn) ∈ news) (hi : IntsAre vs ns) (h1 : i < ns.length) (hf : ns.length ≤ 1000)
    (h : ∀ t tk, Q (.int (((ns.getD i 0).fdiv 6).fmod 6 - 1) t) { s with toks := tk }) :
    wpAny (model prog w) A (eval (.BinOp (.BinOp (.BinOp (.Subscript (.Name x p1) (.Name y p2) p3) .FloorDiv (.Constant (.int 6) k3 p8) p9) .Mod (.Constant (.int 6) k1 p4) p5) .Sub (.Constant (.int 1) k2 p6) p7) env) Q E s := by
  refine wpAny_BinOp (wpAny_BinOp (wpAny_BinOp (evalItem hk hL hx hy hdx hdy F N mx my hl hi h1 hf fun t => ?_)))
  refine wpAny_Constant_int (floordiv_int (by decide) ?_ (.inl (PyProof.noPylong_small (by decide))))
  refine wpAny_Constant_int (mod_int' (by decide) ?_)
  refine wpAny_Constant_int (sub_int ?_)
  exact h _ _
theorem evalTup0 {x : Str} {a : Addr} {v0 v1 : Value} {nn : Nat} {k1 : Nat} {p1 p2 p3 : Pos} {Q : Value → Shared → Prop}
    (hk : env.scope.kind = .function) (hL : env.locals = L) (hx : env.kindOf x = some .local) (hdx : (x == ("__debug__" : Str)) = false)
    (F : Fr h₀ L s.heap m) (N : News h₀ L s.heap news) (mx : m x = some (.ref a)) (ht : (a, tupOf #[v0, v1] nn) ∈ news) (h : ∀ k, Q v0 { s with toks := k }) :
    wpAny (model prog w) A (eval (.Subscript (.Name x p1) (.Constant (.int 0) k1 p2) p3) env) Q E s := by
  refine Subscript_ (nmL hk hL F hx hdx mx (wpAny_Constant_int ?_))
  exact item_tupleT (l := [v0, v1]) ⟨_, (N _ ht).1, rfl, nn, rfl⟩ (by decide) (by decide) (j := 0) rfl rfl (h _)
theorem evalTup1 {x : Str} {a : Addr} {v0 v1 : Value} {nn : Nat} {k1 : Nat} {p1 p2 p3 : Pos} {Q : Value → Shared → Prop}
    (hk : env.scope.kind = .function) (hL : env.locals = L) (hx : env.kindOf x = some .local) (hdx : (x == ("__debug__" : Str)) = false)
    (F : Fr h₀ L s.heap m) (N : News h₀ L s.heap news) (mx : m x = some (.ref a)) (ht : (a, tupOf #[v0, v1] nn) ∈ news) (h : ∀ k, Q v1 { s with toks := k }) :
    wpAny (model prog w) A (eval (.Subscript (.Name x p1) (.Constant (.int 1) k1 p2) p3) env) Q E s := by
  refine Subscript_ (nmL hk hL F hx hdx mx (wpAny_Constant_int ?_))
  exact item_tupleT (l := [v0, v1]) ⟨_, (N _ ht).1, rfl, nn, rfl⟩ (by decide) (by decide) (j := 1) rfl rfl (h _)
theorem evalDiff0 {x y : Str} {a b : Addr} {p q p' q' : Int} {tp tq tp' tq' : Tok} {nn nn' : Nat} {k1 k2 : Nat} {p1 p2 p3 p4 p5 p6 p7 : Pos} {Q : Value → Shared → Prop}
    (hk : env.scope.kind = .function) (hL : env.locals = L) (hx : env.kindOf x = some .local) (hy : env.kindOf y = some .local) (hdx : (x == ("__debug__" : Str)) = false) (hdy : (y == ("__debug__" : Str)) = false)
    (F : Fr h₀ L s.heap m) (N : News h₀ L s.heap news) (mx : m x = some (.ref a)) (my : m y = some (.ref b)) (ht : (a, tupOf #[.int p tp, .int q tq] nn) ∈ news) (ht' : (b, tupOf #[.int p' tp', .int q' tq'] nn') ∈ news) (h : ∀ t k, Q (.int (p - p') t) { s with toks := k }) :
    wpAny (model prog w) A (eval (.BinOp (.Subscript (.Name x p1) (.Constant (.int 0) k1 p2) p3) .Sub (.Subscript (.Name y p4) (.Constant (.int 0) k2 p5) p6) p7) env) Q E s := by
  refine wpAny_BinOp (evalTup0 hk hL hx hdx F N mx ht fun k => ?_)
  refine evalTup0 (s := { s with toks := k }) hk hL hy hdy F N my ht' fun k' => ?_
  exact sub_int (h _ _)
theorem evalDiff1 {x y : Str} {a b : Addr} {p q p' q' : Int} {tp tq tp' tq' : Tok} {nn nn' : Nat} {k1 k2 : Nat} {p1 p2 p3 p4 p5 p6 p7 : Pos} {Q : Value → Shared → Prop}
    (hk : env.scope.kind = .function) (hL : env.locals = L) (hx : env.kindOf x = some .local) (hy : env.kindOf y = some .local) (hdx : (x == ("__debug__" : Str)) = false) (hdy : (y == ("__debug__" : Str)) = false)
    (F : Fr h₀ L s.heap m) (N : News h₀ L s.heap news) (mx : m x = some (.ref a)) (my : m y = some (.ref b)) (ht : (a, tupOf #[.int p tp, .int q tq] nn) ∈ news) (ht' : (b, tupOf #[.int p' tp', .int q' tq'] nn') ∈ news) (h : ∀ t k, Q (.int (q - q') t) { s with toks := k }) :
    wpAny (model prog w) A (eval (.BinOp (.Subscript (.Name x p1) (.Constant (.int 1) k1 p2) p3) .Sub (.Subscript (.Name y p4) (.Constant (.int 1) k2 p5) p6) p7) env) Q E s := by
  refine wpAny_BinOp (evalTup1 hk hL hx hdx F N mx ht fun k => ?_)
  refine evalTup1 (s := { s with toks := k }) hk hL hy hdy F N my ht' fun k' => ?_
  exact sub_int (h _ _)
end
theorem am_b (x : Int) : -1 ≤ x.fmod 6 - 1 ∧ x.fmod 6 - 1 ≤ 4 := by
  have h1 := Int.fmod_nonneg_of_pos x (show (0:Int) < 6 by decide)
  have h2 := Int.fmod_lt_of_pos x (show (0:Int) < 6 by decide)
  lia (abstractProof := false)
section
variable {w : World} {mean : ExcName → Option Value} {mg mb : Str → Option Value} {f : Addr} {room units : Nat} {news : Led} {vs : List Value}
  {dp un : Nat} {gd : Option (List Code)} {cn : Str} {cs : Scope} {a : Addr} {ccd : Value} {cl : List (Str × Addr)} {outer : List Env} {A₀ : Around} {base h₀ : Heap} {L : Addr} {m : Str → Option Value} {s : Shared} {Q E : Value → Shared → Prop}
theorem Does.useQ {P : Value → Prop} (D : Does w mean mg mb f room units news vs (fun r _ => P r))
   (B : Below A₀ base outer h₀) (F : Fr h₀ L s.heap m) (X : (Mine.hd.heap_39 w.params).In h₀) (N : News h₀ L s.heap news) (T : Top Mine.hd.view_39 (looseW Mine.hd.view_39 []) mean mg mb h₀) (hk : cs.kind = .function) (hd : dp + room < recursionLimit) (hu : un + units < cLine)
   (ret : ∀ (r : Value) (h' : Heap) (tk' : Nat), Fr h₀ L h' m → News h₀ L h' news → P r → Q r { s with heap := h', toks := tk' }) :
   wpAny (model PySem.Challenge.rw_ph0054_01.row.prog w) (ktrTop dp un gd cn cs L a ccd cl outer) (call (.ref f) vs) Q E s :=
  D.use B F X N T hk hd hu fun r tl h' tk' F' N' o => ret r h' tk' F' (fun p hp => N' p (List.mem_append.mpr (.inr hp))) o
end
end
section
open PySem PySem.W PyProof.Rows PySem.Calls PySem.Spec
theorem neSame {prog : Program} {w : World} {A : Around} {E : Value → Shared → Prop} {s : Shared} {x : Str} {t u : Tok} {Q : Value → Shared → Prop} (h : Q (.bool false) s) : wpAny (model prog w) A (compareOp .NotEq (.str x t) (.str x u)) Q E s := by
  refine P.ne_str ?_
  rw [show (x.cps.toList != x.cps.toList) = false by simp]
  exact h
end
section
open PySem PySem.W PyProof.Rows PySem.Calls
section
variable {prog : Program} {w : World} {A : Around} {E : Value → Shared → Prop} {s : Shared} {env : Env} {C : Addr} {scope : Scope} {m : Str → Option Value} {x : Str} {p1 p2 p3 : Pos} {n k : Int} {t : Tok} {kd : Nat}
theorem leafMod (hk : scope.kind = .function) (hl : (compEnv scope C env).kindOf x = some .local) (hd : (x == ("__debug__" : Str)) = false) (h0 : k ≠ 0)
    (hn : s.heap.Ns (compEnv scope C env).locals m) (hx : m x = some (.int n t)) :
    wpAny (model prog w) A (eval (.BinOp (.Name x p1) .Mod (.Constant (.int k) kd p2) p3) (compEnv scope C env)) (fun r s₃ => (∃ t, r = .int (n.fmod k) t) ∧ Keeps s s₃) E s := by
  refine wpAny_BinOp (wpAny_Name (wpAny_loadName_local hk hl hn hx ?_) hd)
  refine wpAny_Constant_int (mod_int' h0 ⟨⟨_, rfl⟩, s.heap, _, rfl, fun _ _ e => e⟩)
theorem leafDiv (h5 : Builtin.divisionGoesByPylong n k = false) (hk : scope.kind = .function) (hl : (compEnv scope C env).kindOf x = some .local) (hd : (x == ("__debug__" : Str)) = false) (h0 : k ≠ 0)
    (hn : s.heap.Ns (compEnv scope C env).locals m) (hx : m x = some (.int n t)) :
    wpAny (model prog w) A (eval (.BinOp (.Name x p1) .FloorDiv (.Constant (.int k) kd p2) p3) (compEnv scope C env)) (fun r s₃ => (∃ t, r = .int (n.fdiv k) t) ∧ Keeps s s₃) E s := by
  refine wpAny_BinOp (wpAny_Name (wpAny_loadName_local hk hl hn hx ?_) hd)
  refine wpAny_Constant_int (floordiv_int h0 ⟨⟨_, rfl⟩, s.heap, _, rfl, fun _ _ e => e⟩ (.inl h5))
end
theorem slice_from_led {prog : Program} {w : World} {A : Around} {E : Value → Shared → Prop} {s : Shared} {h₀ : Heap} {L : Addr} {m : Str → Option Value} {news : Led} {l : Addr} {vs : List Value} {ns : List Int} {nn : Nat} {value slice : Expr} {x : Int} {t : Tok} {Q : Value → Shared → Prop} (F : Fr h₀ L s.heap m) (N : News h₀ L s.heap news) (hl : (l, listOf vs.toArray nn) ∈ news) (hi' : IntsAre vs ns) (h0 : 0 ≤ x) (hz : ns.length ≤ 1000)
    (h : ∀ D ws h', Fr h₀ L h' m → News h₀ L h' ((D, listOf (List.toArray ws) 0) :: news) → (∀ p ∈ news, p.1 < D) → IntsAre ws (ns.drop x.toNat) → Q (.ref D) { s with heap := h' })
    (hs : subscripted slice false (.ref l) (.ref s.heap.objs.size) = operate [.ref s.heap.objs.size, .ref l] (getItem (.ref l) (.ref s.heap.objs.size)) := by with_unfolding_all rfl) :
    wpAny (model prog w) A (subscriptTail value slice (.ref l) (.ref s.heap.objs.size)) Q E { s with heap := s.heap.push { cls := .type "slice", data := .fields #[.int x t, .none, .none] } } := by
  refine kba_turn (value' := PySem.Expr.Name (PySem.Str.ofString "q") ⟨0, 0, 0, 0⟩) (fun _ => rfl) ?_
  exact kmk_slice_ints F N ⟨_, (N _ hl).1, rfl, nn, rfl⟩ (IsPart.int _ _) IsPart.none hi' (kmk_from hi' h0) rfl (fun D ws h' F' N' l1 hI _ _ => h D ws h' F' N' l1 hI) hs (fun _ => rfl) (kmk_sz hi' (by rw [sizeLine_eq]; lia (abstractProof := false)))
theorem named5 {ys : List Value} {ns : List Int} (a b : Nat) (h : IntsAre ys (List.map (fun n : Int => n.fmod 5) (pickNums ns (some (a : Int)) (some (b : Int)) (some 2)))) : ∃ ms, IntsAre ys ms ∧ ms.length ≤ (b - a + 1) / 2 ∧ ∀ a ∈ ms, 0 ≤ a ∧ a ≤ 4 := by
  refine ⟨_, h, ?_, ?_⟩
  · rw [List.length_map]
    exact pick_len _ a b
  · intro a ha
    obtain ⟨n, _, rfl⟩ := List.mem_map.mp ha
    have h1 := Int.fmod_nonneg_of_pos n (show (0:Int) < 5 by decide)
    have h2 := Int.fmod_lt_of_pos n (show (0:Int) < 5 by decide)
    lia (abstractProof := false)
theorem shrinkW {h₀ h : Heap} {L : Addr} {tl : Led} {e1 e2 e3 e4 e5 e6 e7 e8 e9 e10 e11 : Addr × Obj} (N : News h₀ L h (tl ++ [e1, e2, e3, e4, e5, e6, e7, e8, e9, e10, e11])) : News h₀ L h (e1 :: e4 :: e11 :: tl) := by
  intro p hp
  refine N p ?_
  simp only [List.mem_cons, List.mem_append] at hp ⊢
  rcases hp with h | h | h | h <;> simp [h]
theorem newsTail {h₀ h : Heap} {L : Addr} {e : Addr × Obj} {r : Led} (N : News h₀ L h (e :: r)) : News h₀ L h r := fun p hp => N p (.tail _ hp)
theorem bounds_app {a b : List Int} {c : Nat} {lit : List Int} (h : b = List.drop c lit) (ha : ∀ x ∈ a, 0 ≤ x ∧ x ≤ 4) (hl : ∀ x ∈ lit, 0 ≤ x ∧ x ≤ 4) : ∀ x ∈ a ++ b, 0 ≤ x ∧ x ≤ 4 := by
  intro x hx
  rcases List.mem_append.mp hx with hx | hx
  · exact ha x hx
  · rw [h] at hx
    exact hl x (List.mem_of_mem_drop hx)
theorem padF_b (t k : Int) : 0 ≤ padF t k ∧ padF t k ≤ 3 := by
  have h1 := Int.fmod_nonneg_of_pos ((t + 198).fdiv (4 ^ k.toNat)) (show (0:Int) < 4 by decide)
  have h2 := Int.fmod_lt_of_pos ((t + 198).fdiv (4 ^ k.toNat)) (show (0:Int) < 4 by decide)
  unfold padF
  lia (abstractProof := false)
section
variable {prog : Program} {w : World} {A : Around} {E : Value → Shared → Prop} {s : Shared} {env : Env} {C : Addr} {scope : Scope} {m : Str → Option Value} {x : Str} {p1 p2 p3 : Pos} {n k : Int} {t : Tok} {kd : Nat}
theorem leafDiv5 (hk : scope.kind = .function) (hl : (compEnv scope C env).kindOf x = some .local) (hd : (x == ("__debug__" : Str)) = false)
    (hn : s.heap.Ns (compEnv scope C env).locals m) (hx : m x = some (.int n t)) :
    wpAny (model prog w) A (eval (.BinOp (.Name x p1) .FloorDiv (.Constant (.int 5) kd p2) p3) (compEnv scope C env)) (fun r s₃ => (∃ t, r = .int (n.fdiv 5) t) ∧ Keeps s s₃) E s := by
  refine wpAny_BinOp (wpAny_Name (wpAny_loadName_local hk hl hn hx ?_) hd)
  refine wpAny_Constant_int (floordiv_int (by decide) ⟨⟨_, rfl⟩, s.heap, _, rfl, fun _ _ e => e⟩ (.inl (PyProof.noPylong_small (by decide))))
end
theorem shrinkL {h₀ h : Heap} {L : Addr} {tl : Led} {e1 e2 e3 e4 e5 e6 e7 e8 e9 e10 : Addr × Obj} (N : News h₀ L h (e1 :: e2 :: e3 :: e4 :: e5 :: e6 :: e7 :: e8 :: e9 :: e10 :: tl)) : News h₀ L h (e6 :: e5 :: e1 :: e10 :: tl) := by
  intro p hp
  refine N p ?_
  simp only [List.mem_cons] at hp ⊢
  rcases hp with h | h | h | h | h <;> simp [h]
theorem deeds_len {vs : List Value} {ns : List Int} {k : Nat} (h : IntsAre vs ([7, 8] ++ List.map (fun n : Int => n.fdiv 5) ns)) (e : ns.length = min 3 k) : ∃ ds : List Int, IntsAre vs ds ∧ 2 ≤ ds.length ∧ ds.length ≤ 5 := by
  refine ⟨_, h, ?_, ?_⟩ <;> simp only [List.length_append, List.length_map, List.length_cons, List.length_nil] <;> lia (abstractProof := false)
structure LSt where
  ah : Addr
  h0 : Int
  u0 : Tok
  h1 : Int
  u1 : Tok
  nh : Nat
  aT : Addr
  t0 : Int
  v0 : Tok
  t1 : Int
  v1 : Tok
  nt : Nat
  tf : Tok
  ts : Tok
abbrev LdOf (rest : Led) (c : LSt) : Led := (c.ah, tupOf #[.int c.h0 c.u0, .int c.h1 c.u1] c.nh) :: (c.aT, tupOf #[.int c.t0 c.v0, .int c.t1 c.v1] c.nt) :: rest
def LOk (c : LSt) : Prop := (0 ≤ c.h0 ∧ c.h0 ≤ 3) ∧ (0 ≤ c.h1 ∧ c.h1 ≤ 3) ∧ (0 ≤ c.t0 ∧ c.t0 ≤ 3) ∧ (0 ≤ c.t1 ∧ c.t1 ≤ 3)
theorem newsPick {h₀ h : Heap} {L : Addr} {tl r : Led} {e : Addr × Obj} (hm : e ∈ tl) (N : News h₀ L h (tl ++ r)) : News h₀ L h (e :: r) := by
  intro p hp
  rcases List.mem_cons.mp hp with rfl | hp
  · exact N _ (List.mem_append_left _ hm)
  · exact N _ (List.mem_append_right _ hp)
theorem fmod3_b (x : Int) : 0 ≤ x.fmod 3 ∧ x.fmod 3 ≤ 2 := by
  have h1 := Int.fmod_nonneg_of_pos x (show (0:Int) < 3 by decide)
  have h2 := Int.fmod_lt_of_pos x (show (0:Int) < 3 by decide)
  lia (abstractProof := false)
local macro_rules | `(tactic| walk_at $s) => do if ["exec Assign cons ListComp", "eval ListComp", "subscriptTail List cons Slice ref ref", "exec Assign cons BinOp", "eval BinOp", "call builtin:str.join"].contains s.getString then `(tactic| (k_here; refine hold ?_)) else if ["subscriptTail Name Slice ref ref", "eval Subscript"].contains s.getString then `(tactic| (k_here; with_reducible (first | refine holdSl3 ?_ | refine holdSub ?_))) else Lean.Macro.throwUnsupported
local macro_rules | `(tactic| walk_at "CompSrc") => `(tactic| (refine holdP ?_))
set_option maxRecDepth 100000 in
set_option maxHeartbeats 16000000 in
theorem law_holds : PySem.Challenge.rw_ph0054_01.Holds := Mine.hd (by
  w_top off
  k_go0; (all_goals try k_fold); 
  k_steps
  refine unhold ?_
  refine Assign_ListComp_rowsP (by with_unfolding_all rfl) (by decide) (by decide) (by rfl) (by decide) (by rfl) (by with_unfolding_all rfl) (by with_unfolding_all rfl) ?_
  k_steps
  refine unhold ?_
  dsimp only
  k_dflt (refine' slice3_ints (s := ⟨_, _, _, _, _⟩) ?q1 ?q2 ?q3 ?q4 ?q5 ?q6 ?q7 ?q8 ?_ ?q9 ?q10 ?q11; (case q1 => k_asm); (case q2 => k_asm); (case q3 => kmk_list); (case q4 => kmk_part); (case q5 => kmk_part); (case q6 => kmk_part); (case q7 => decide); (case q8 => l_ints); (case q9 => with_unfolding_all rfl); (case q10 => kmk_pure); (case q11 => exact kmk_sz (by l_ints) (by rw [sizeLine_eq]; lia (abstractProof := false))))
  intro D' ws' h' F' N' l1 hI'
  (try k_lt l1)
  (try k_sweep)
  (try dsimp only)
  k_steps
  refine unhold ?_
  refine' compA (fun n => n.fmod 5) ?y1 ?y2 ?y3 ?y4 ?y5 ?y6 ?y7 ?y8 ?y9; (case y5 => k_asm); (case y6 => k_asm); (case y1 => with_unfolding_all rfl); (case y2 => rfl); (case y3 => k_mem); (case y4 => assumption)
  · refine Nat.le_trans (pick_len ..) ?_
    decide
  · intro C9 n9 t9 s9 m9 E9 _ hn9 hx9
    exact leafMod (k := 5) (by rfl) (by rfl) (by rfl) (by decide) hn9 hx9
  rename Fr _ _ _ _ => Fo; rename News _ _ _ _ => No; clear Fo No
  intro D1 ys1 nn1 h1 tk1 hne1 F1 N1 hI1
  (try dsimp only)
  k_steps
  refine unhold ?_
  refine Assign_ListComp_rowsP (by with_unfolding_all rfl) (by decide) (by decide) (by rfl) (by decide) (by rfl) (by with_unfolding_all rfl) (by with_unfolding_all rfl) ?_
  k_steps
  refine unhold ?_
  dsimp only
  k_dflt (refine' slice3_ints (s := ⟨_, _, _, _, _⟩) ?r1 ?r2 ?r3 ?r4 ?r5 ?r6 ?r7 ?r8 ?_ ?r9 ?r10 ?r11; (case r1 => k_asm); (case r2 => k_asm); (case r3 => kmk_list); (case r4 => kmk_part); (case r5 => kmk_part); (case r6 => kmk_part); (case r7 => decide); (case r8 => l_ints); (case r9 => with_unfolding_all rfl); (case r10 => kmk_pure); (case r11 => exact kmk_sz (by l_ints) (by rw [sizeLine_eq]; lia (abstractProof := false))))
  intro D' ws' h' F' N' l1 hI'
  (try k_lt l1)
  (try k_sweep)
  (try dsimp only)
  k_steps
  refine unhold ?_
  refine' compA (fun n => n.fmod 5) ?v1 ?v2 ?v3 ?v4 ?v5 ?v6 ?v7 ?v8 ?v9; (case v5 => k_asm); (case v6 => k_asm); (case v1 => with_unfolding_all rfl); (case v2 => rfl); (case v3 => k_mem); (case v4 => assumption)
  · refine Nat.le_trans (pick_len ..) ?_
    decide
  · intro C9 n9 t9 s9 m9 E9 _ hn9 hx9
    exact leafMod (k := 5) (by rfl) (by rfl) (by rfl) (by decide) hn9 hx9
  rename Fr _ _ _ _ => Fo; rename News _ _ _ _ => No; clear Fo No
  intro D2 ys2 nn2 h2 tk2 hne2 F2 N2 hI2
  (try dsimp only)
  obtain ⟨ns1, hq1, hl1, hb1⟩ := named5 0 8 hI1
  obtain ⟨ns2, hq2, hl2, hb2⟩ := named5 1 6 hI2
  clear hI1 hI2
  obtain ⟨k1, hk1⟩ : ∃ k : Int, (ns1.length : Int) = k := ⟨_, rfl⟩
  obtain ⟨k2, hk2⟩ : ∃ k : Int, (ns2.length : Int) = k := ⟨_, rfl⟩
  k_steps
  refine unhold ?_
  refine wpAny_Assign_Name (wpAny_BinOp ?_) (by with_unfolding_all rfl)
  k_steps
  refine unhold ?_
  dsimp only
  refine' slice_from_led (s := ⟨_, _, _, _, _⟩) ?a1 ?a2 ?a3 ?a4 ?a5 ?a6 ?a7; (case a1 => k_asm); (case a2 => k_asm); (case a3 => k_mem); (case a4 => exact IntsAre.cons _ _ (IntsAre.cons _ _ (IntsAre.cons _ _ (IntsAre.cons _ _ IntsAre.nil)))); (case a5 => lia (abstractProof := false)); (case a6 => decide)
  rename Fr _ _ _ _ => Fo; rename News _ _ _ _ => No; clear Fo No
  intro D3 ws3 h3 F3 N3 lt3 hI3
  have hn3 : ys1.length + ws3.length = 4 := by rw [hq1.length, hI3.length, List.length_drop]; simp only [List.length_cons, List.length_nil]; lia (abstractProof := false)
  k_steps
  refine unhold ?_
  refine wpAny_Assign_Name (wpAny_BinOp ?_) (by with_unfolding_all rfl)
  k_steps
  refine unhold ?_
  dsimp only
  refine' slice_from_led (s := ⟨_, _, _, _, _⟩) ?b1 ?b2 ?b3 ?b4 ?b5 ?b6 ?b7; (case b1 => k_asm); (case b2 => k_asm); (case b3 => k_mem); (case b4 => exact IntsAre.cons _ _ (IntsAre.cons _ _ (IntsAre.cons _ _ IntsAre.nil))); (case b5 => lia (abstractProof := false)); (case b6 => decide)
  rename Fr _ _ _ _ => Fo; rename News _ _ _ _ => No; clear Fo No
  intro D4 ws4 h4 F4 N4 lt4 hI4
  have hn4 : ys2.length + ws4.length = 3 := by rw [hq2.length, hI4.length, List.length_drop]; simp only [List.length_cons, List.length_nil]; lia (abstractProof := false)
  k_steps
  rename IntsAre _ (ns1 ++ _) => hIW
  rename IntsAre _ (ns2 ++ _) => hIT
  rename _ = Data.cell (some (Value.int _ _)) => hcell
  rename Fr _ _ _ _ => F5
  rename News _ _ _ _ => N5
  have hWl : (ns1 ++ List.drop k1.toNat [0, 2, 1, 3]).length = 4 := by
    rw [List.length_append, List.length_drop]; simp only [List.length_cons, List.length_nil]; lia (abstractProof := false)
  have hTl : (ns2 ++ List.drop k2.toNat [2, 1, 2]).length = 3 := by
    rw [List.length_append, List.length_drop]; simp only [List.length_cons, List.length_nil]; lia (abstractProof := false)
  have hWb : ∀ x ∈ ns1 ++ List.drop k1.toNat [0, 2, 1, 3], 0 ≤ x ∧ x ≤ 4 := bounds_app rfl hb1 (by decide)
  have hTb : ∀ x ∈ ns2 ++ List.drop k2.toNat [2, 1, 2], 0 ≤ x ∧ x ≤ 4 := bounds_app rfl hb2 (by decide)
  generalize ns1 ++ List.drop k1.toNat [0, 2, 1, 3] = W at hIW hWl hWb
  generalize ns2 ++ List.drop k2.toNat [2, 1, 2] = T at hIT hTl hTb
  refine unhold ?_
  k_dflt (refine' Does.use (ways _ _ _ _ _ _ W T ?m1 ?m2 hIW hIT hWl hTl hWb hTb) ?k1 ?k2 ?k3 ?k4 ?k5 ?kK ?kd ?ku ?_)
  case k2 => k_asm
  case k1 => k_asm
  case k3 => k_asm
  case k4 => k_asm
  case k5 => k_asm
  case m1 => k_mem
  case m2 => k_mem
  case kK => rfl
  case kd => first | decide | ktr_room
  case ku => first | decide | ktr_units
  clear F5 N5
  rintro r tl h6 tk6 F6 N6 ⟨lw, wvs, wnn, rfl, hlw, htup⟩
  replace N6 := shrinkW N6
  (try dsimp only)
  k_steps
  refine unhold ?_
  refine ListComp_rowsP (by decide) (by decide) (by rfl) (by decide) (by rfl) ?_
  k_steps
  refine unhold ?_
  (refine' compE (fun n r => ∃ t, r = .str (S [sg n]) t) ?d1 ?d2 ?d3 ?d4 ?d5 ?d6 ?d7 ?d8 ?d9; (case d5 => k_asm); (case d6 => k_asm); (case d1 => with_unfolding_all rfl); (case d2 => rfl); (case d3 => k_mem); (case d4 => assumption); (case d7 => lia (abstractProof := false)))
  · intro C9 n9 t9 s9 m9 E9 hm9 hn9 hx9
    exact leafSign (by rfl) (by rfl) (by rfl) (hWb _ hm9) hn9 hx9
  rename Fr _ _ _ _ => Fo; rename News _ _ _ _ => No; clear Fo No
  intro D6 ys6 nn6 h7 tk7 hne6 F7 N7 hI6
  replace hI6 := tells_strs hI6
  (try dsimp only)
  k_steps
  refine unhold ?_
  refine join_led N7 List.mem_cons_self hI6 (by lia (abstractProof := false)) fun t8 k8 => ?_
  replace N7 := newsTail N7
  k_steps
  refine unhold ?_
  refine ListComp_rowsP (by decide) (by decide) (by rfl) (by decide) (by rfl) ?_
  k_steps
  refine unhold ?_
  (refine' compE (fun n r => ∃ t, r = .str (S [sg n]) t) ?f1 ?f2 ?f3 ?f4 ?f5 ?f6 ?f7 ?f8 ?f9; (case f5 => k_asm); (case f6 => k_asm); (case f1 => with_unfolding_all rfl); (case f2 => rfl); (case f3 => k_mem); (case f4 => assumption); (case f7 => lia (abstractProof := false)))
  · intro C9 n9 t9 s9 m9 E9 hm9 hn9 hx9
    exact leafSign (by rfl) (by rfl) (by rfl) (hTb _ hm9) hn9 hx9
  rename Fr _ _ _ _ => Fo; rename News _ _ _ _ => No; clear Fo No
  intro D7 ys7 nn7 h8 tk8 hne7 F8 N8 hI7
  replace hI7 := tells_strs hI7
  (try dsimp only)
  k_steps
  refine unhold ?_
  refine join_led N8 List.mem_cons_self hI7 (by lia (abstractProof := false)) fun t10 k10 => ?_
  replace N8 := newsTail N8
  k_steps
  obtain ⟨total, htot⟩ : ∃ t : Int, _ = Data.cell (some (Value.int t _)) := ⟨_, hcell⟩
  clear hcell
  refine unhold ?_
  refine LCg.Assign_ListComp_U (F₀ := by k_asm) (by rfl) (by with_unfolding_all rfl) (by with_unfolding_all rfl) (by decide) (by rfl) (by decide) (by rfl) (by rfl) (by rfl) ?_
  k_steps
  refine unholdP ?_
  refine LCg.CompSrc.range (n := 4) (by rfl) (by k_asm) (by k_asm) (by assumption) (by decide) (by rfl) (by exact Nat.le_of_ble_eq_true rfl) ?_
  intro g'
  rename Fr _ _ _ _ => Fo; rename News _ _ _ _ => No; clear Fo No
  refine kcf_range (fun k => padF total k) (fun k' t' I' oI' C' oC' D' m' ys' h' tk' E' hlo' hhi' hC' hx' F' N' off' ne' hMark' => ?_) ?_
  · refine leafPads N' (by rfl) (.tail _ (.tail _ (.tail _ (.tail _ (.tail _ List.mem_cons_self))))) htot (by rfl) (by first | (exact Or.inl rfl) | (exact Or.inr rfl)) (by rfl) (hC'.ns (N' _ (.tail _ (.head _))).1) hx' hlo' (by simpa using hhi') fun t9 tk9 => ?_
    exact LCg.CompEnd.intro F' N' _ (fun p hp => hp) off' trivial ⟨rfl, _, rfl⟩
  unfold KPfDone
  intro ys9 hP9 D9 h9 tk9 F9 N9 off9
  dsimp only at hP9 F9 N9 ⊢
  rename IsRange _ _ _ _ _ _ _ _ => hr; clear hr
  rename Fr _ _ _ _ => F9'
  rename News _ _ _ _ => N9'
  replace hP9 : IntsAre ys9 [padF total 0, padF total 1, padF total 2, padF total 3] := hP9
  have hb0 := padF_b total 0
  have hb1 := padF_b total 1
  have hb2 := padF_b total 2
  have hb3 := padF_b total 3
  generalize padF total 0 = p0 at hP9 hb0
  generalize padF total 1 = p1 at hP9 hb1
  generalize padF total 2 = p2 at hP9 hb2
  generalize padF total 3 = p3 at hP9 hb3
  k_steps
  refine unhold ?_
  refine wpAny_Assign_Name (evalPad (by rfl) (by rfl) (by rfl) (by rfl) (by rfl) (by rfl) (by k_asm) (by k_asm) (by with_unfolding_all rfl) (by with_unfolding_all rfl) (by k_mem) hb0 hb1 (by rw [List.length_map]; lia (abstractProof := false)) fun t11 k11 => ?_) (by with_unfolding_all rfl)
  k_steps
  refine unhold ?_
  refine wpAny_Assign_Name (evalPad (by rfl) (by rfl) (by rfl) (by rfl) (by rfl) (by rfl) (by k_asm) (by k_asm) (by with_unfolding_all rfl) (by with_unfolding_all rfl) (by k_mem) hb2 hb3 (by rw [List.length_map]; lia (abstractProof := false)) fun t12 k12 => ?_) (by with_unfolding_all rfl)
  k_steps
  refine unhold ?_
  refine wpAny_Assign_Name (wpAny_BinOp ?_) (by with_unfolding_all rfl)
  k_steps
  refine unhold ?_
  refine ListComp_rowsP (by decide) (by decide) (by rfl) (by decide) (by rfl) ?_
  dsimp only
  k_steps
  rename IntsAre _ (List.take 3 _) => hI3'
  rename ((List.take 3 _).length = min 3 _) => hC3
  refine unhold ?_
  dsimp only
  (refine' compE (fun n r => ∃ t, r = .int (n.fdiv 5) t) ?e1 ?e2 ?e3 ?e4 ?e5 ?e6 ?e7 ?e8 ?e9; (case e5 => k_asm); (case e6 => k_asm); (case e1 => with_unfolding_all rfl); (case e2 => rfl); (case e3 => k_mem); (case e4 => assumption); (case e7 => lia (abstractProof := false)))
  · intro C9 n9 t9 s9 m9 E9 hm9 hn9 hx9
    exact leafDiv5 (by rfl) (by rfl) (by rfl) hn9 hx9
  rename Fr _ _ _ _ => Fo; rename News _ _ _ _ => No; clear Fo No
  intro D10 ys10 nn10 h10 tk10 hne10 F10 N10 hI10
  replace hI10 := tells_ints hI10
  (try dsimp only)
  k_steps
  rename IntsAre _ ([7, 8] ++ _) => hId
  rename Fr _ _ _ _ => F11
  rename News _ _ _ _ => N11
  replace N11 := shrinkL N11
  replace hId := deeds_len hId hC3
  obtain ⟨ds, hId, hdl⟩ := hId
  obtain ⟨n, hn⟩ : ∃ n : Nat, ds.length = n := ⟨_, rfl⟩
  have hnI : (ds.length : Int) = (n : Int) := by rw [hn]
  have hns : n ≤ 1000 := by lia (abstractProof := false)
  clear hdl
  refine unhold ?_
  refine For_invVF F11 rfl rfl ?_
  k_steps
  refine unhold ?_
  rename IsRange _ _ _ _ _ _ _ _ => R12
  rename Fr _ _ _ _ => F12
  rename News _ _ _ _ => N12
  dsimp only at F12 N12 R12 ⊢
  refine forR (σ := LSt) (n := n) (LdOf _) (fun c => [(Str.ofString "first", .str (S (pad c.h0.toNat (W.map sg) c.h1.toNat)) c.tf), (Str.ofString "second", .str (S (pad c.t0.toNat (T.map sg) c.t1.toNat)) c.ts), (Str.ofString "here", .ref c.ah), (Str.ofString "there", .ref c.aT)])
    [Str.ofString "k", Str.ofString "due", Str.ofString "room", Str.ofString "pair", Str.ofString "told"]
    (fun _ c => LOk c) ⟨_, p0, _, p1, _, _, _, p2, _, p3, _, _, _, _⟩ (by rfl) (by rfl) R12 (small_one (by lia (abstractProof := false)) (by lia (abstractProof := false)) (by lia (abstractProof := false)) (by lia (abstractProof := false))) (by rw [rangeSize_nat]; lia (abstractProof := false)) (by decide) F12 N12 (fun _ h => h) (by (repeat' (first | exact List.forall_mem_nil _ | (refine List.forall_mem_cons.mpr ⟨by with_unfolding_all exact rfl, ?_⟩)))) ⟨hb0, hb1, hb2, hb3⟩ ?_ ?_
  · rintro ⟨ah, h0, u0, h1, u1, nh, aT, t0, v0, t1, v1, nt, tf, ts⟩ i ti u hh1 tkk1 own hi hOk hoff F13 N13
    simp only [LdOf, LOk, List.cons_append] at hOk hoff F13 N13
    clear F12 N12 R12
    obtain ⟨ob0, ob1, oc0, oc1⟩ := hOk
    have hil : i < ds.length := by lia (abstractProof := false)
    have hds : ds.length ≤ 1000 := by lia (abstractProof := false)
    obtain ⟨hW32, hW128⟩ := sg_ok hWb
    obtain ⟨hT32, hT128⟩ := sg_ok hTb
    have hWs : (W.map sg).length = 4 := by rw [List.length_map, hWl]
    have hTs : (T.map sg).length = 3 := by rw [List.length_map, hTl]
    have hA := am_b (ds.getD i 0)
    have hB := am_b ((ds.getD i 0).fdiv 6)
    k_steps
    refine unhold ?_
    refine evalA (by rfl) (by rfl) (by rfl) (by rfl) (by rfl) (by rfl) F13 N13 (by with_unfolding_all rfl) (by with_unfolding_all rfl) (by k_mem) hId hil hds fun ta1 ka1 => ?_
    k_steps
    refine unhold ?_
    k_dflt (refine' Does.useQ (stripPad (W.map sg) _ _ _ h0 h1 ob0 ob1 (by lia (abstractProof := false)) hW32 hA) ?k1 ?k2 ?k3 ?k4 ?k5 ?kK ?kd ?ku ?_; (case k2 => k_asm); (case k1 => k_asm); (case k3 => k_asm); (case k4 => k_asm); (case k5 => k_asm); (case kK => rfl); (case kd => first | decide | ktr_room); (case ku => first | decide | ktr_units))
    clear F13 N13
    rintro r h14 tk14 F14 N14 ⟨t14, rfl⟩
    dsimp only
    k_steps
    refine unhold ?_
    refine evalB (by rfl) (by rfl) (by rfl) (by rfl) (by rfl) (by rfl) (by k_asm) (by k_asm) (by with_unfolding_all rfl) (by with_unfolding_all rfl) (by k_mem) hId hil hds fun ta2 ka2 => ?_
    k_steps
    refine unhold ?_
    k_dflt (refine' Does.useQ (stripPad (T.map sg) _ _ _ t0 t1 oc0 oc1 (by lia (abstractProof := false)) hT32 hB) ?k1 ?k2 ?k3 ?k4 ?k5 ?kK ?kd ?ku ?_; (case k2 => k_asm); (case k1 => k_asm); (case k3 => k_asm); (case k4 => k_asm); (case k5 => k_asm); (case kK => rfl); (case kd => first | decide | ktr_room); (case ku => first | decide | ktr_units))
    rename Fr _ _ _ _ => Fo; rename News _ _ _ _ => No; clear Fo No
    rintro r h15 tk15 F15 N15 ⟨t15, rfl⟩
    dsimp only
    k_steps
    refine unhold ?_
    refine evalA (by rfl) (by rfl) (by rfl) (by rfl) (by rfl) (by rfl) (by k_asm) (by k_asm) (by with_unfolding_all rfl) (by with_unfolding_all rfl) (by k_mem) hId hil hds fun ta3 ka3 => ?_
    k_steps
    refine unhold ?_
    k_dflt (refine' Does.use (left ah h0 h1 _ u0 u1 _ nh ?hm) ?k1 ?k2 ?k3 ?k4 ?k5 ?kK ?kd ?ku ?_; (case k2 => k_asm); (case k1 => k_asm); (case k3 => k_asm); (case k4 => k_asm); (case k5 => k_asm); (case kK => rfl); (case kd => first | decide | ktr_room); (case ku => first | decide | ktr_units); (case hm => k_mem))
    rename Fr _ _ _ _ => Fo; rename News _ _ _ _ => No; clear Fo No
    rintro r tl16 h16 tk16 F16 N16 ⟨D16, w0, w1, n16, rfl, hm16⟩
    replace N16 := newsPick hm16 N16
    dsimp only
    k_steps
    refine unhold ?_
    refine evalB (by rfl) (by rfl) (by rfl) (by rfl) (by rfl) (by rfl) (by k_asm) (by k_asm) (by with_unfolding_all rfl) (by with_unfolding_all rfl) (by k_mem) hId hil hds fun ta4 ka4 => ?_
    k_steps
    refine unhold ?_
    k_dflt (refine' Does.use (left aT t0 t1 _ v0 v1 _ nt ?hm) ?k1 ?k2 ?k3 ?k4 ?k5 ?kK ?kd ?ku ?_; (case k2 => k_asm); (case k1 => k_asm); (case k3 => k_asm); (case k4 => k_asm); (case k5 => k_asm); (case kK => rfl); (case kd => first | decide | ktr_room); (case ku => first | decide | ktr_units); (case hm => k_mem))
    rename Fr _ _ _ _ => Fo; rename News _ _ _ _ => No; clear Fo No
    rintro r tl17 h17 tk17 F17 N17 ⟨D17, x0, x1, n17, rfl, hm17⟩
    replace N17 := newsPick hm17 N17
    dsimp only
    have hg := leftF_b ob0 ob1 hA
    have hg' := leftF_b oc0 oc1 hB
    generalize (ds.getD i 0).fmod 6 - 1 = am at *
    generalize ((ds.getD i 0).fdiv 6).fmod 6 - 1 = bm at *
    generalize (leftF (h0, h1) am).1 = g0 at *
    generalize (leftF (h0, h1) am).2 = g1 at *
    generalize (leftF (t0, t1) bm).1 = e0 at *
    generalize (leftF (t0, t1) bm).2 = e1 at *
    have pb0 : 0 ≤ g0 ∧ g0 ≤ 3 := by lia (abstractProof := false)
    have pb1 : 0 ≤ g1 ∧ g1 ≤ 3 := by lia (abstractProof := false)
    have pc0 : 0 ≤ e0 ∧ e0 ≤ 3 := by lia (abstractProof := false)
    have pc1 : 0 ≤ e1 ∧ e1 ≤ 3 := by lia (abstractProof := false)
    clear hg hg'
    k_steps
    refine unhold ?_
    refine evalPad (by rfl) (by rfl) (by rfl) (by rfl) (by rfl) (by rfl) (by k_asm) (by k_asm) (by with_unfolding_all rfl) (by with_unfolding_all rfl) (by k_mem) pb0 pb1 (by lia (abstractProof := false)) fun t18 k18 => ?_
    refine neSame ?_
    k_steps
    refine unhold ?_
    refine evalPad (by rfl) (by rfl) (by rfl) (by rfl) (by rfl) (by rfl) (by k_asm) (by k_asm) (by with_unfolding_all rfl) (by with_unfolding_all rfl) (by k_mem) pc0 pc1 (by lia (abstractProof := false)) fun t19 k19 => ?_
    refine neSame ?_
    k_steps
    refine unhold ?_
    refine evalDiff0 (by rfl) (by rfl) (by rfl) (by rfl) (by rfl) (by rfl) (by k_asm) (by k_asm) (by with_unfolding_all rfl) (by with_unfolding_all rfl) (by k_mem) (by k_mem) fun t20 k20 => ?_
    k_steps
    refine unhold ?_
    refine evalDiff1 (by rfl) (by rfl) (by rfl) (by rfl) (by rfl) (by rfl) (by k_asm) (by k_asm) (by with_unfolding_all rfl) (by with_unfolding_all rfl) (by k_mem) (by k_mem) fun t21 k21 => ?_
    k_steps
    refine unhold ?_
    k_dflt (refine' Does.useQ (dueE lw wvs wnn W T g0 g1 e0 e1 _ _ _ _ ?hm ?ht hWl hTl hWb hTb pb0 pb1 pc0 pc1 rfl rfl) ?k1 ?k2 ?k3 ?k4 ?k5 ?kK ?kd ?ku ?_; (case k2 => k_asm); (case k1 => k_asm); (case k3 => k_asm); (case k4 => k_asm); (case k5 => k_asm); (case kK => rfl); (case kd => first | decide | ktr_room); (case ku => first | decide | ktr_units))
    case hm => k_mem
    case ht => exact htup.mono fun p hp => by k_mem
    rename Fr _ _ _ _ => Fo; rename News _ _ _ _ => No; clear Fo No
    rintro r h22 tk22 F22 N22 ⟨t22, rfl⟩
    dsimp only
    obtain ⟨E9, hE9⟩ : ∃ E9, edit (pad g0.toNat (W.map sg) g1.toNat) (pad e0.toNat (T.map sg) e1.toNat) = E9 := ⟨_, rfl⟩
    rw [hE9]
    k_steps
    refine unhold ?_
    refine wpAny_Assign_Name (wpAny_BinOp (wpAny_BinOp ?_)) (by with_unfolding_all rfl)
    k_steps
    refine unhold ?_
    refine wpAny_BinOp (wpAny_BinOp (wpAny_BinOp ?_))
    k_steps
    refine unhold ?_
    dsimp only
    refine wpAny_BinOp ?_
    have hm3 := fmod3_b (total + (i : Int) + 1)
    k_steps
    · refine unhold ?_
      refine evalTup0 (by rfl) (by rfl) (by rfl) (by rfl) (by k_asm) (by k_asm) (by with_unfolding_all rfl) (by k_mem) fun k30 => ?_
      k_steps
      refine unhold ?_
      refine evalTup1 (by rfl) (by rfl) (by rfl) (by rfl) (by k_asm) (by k_asm) (by with_unfolding_all rfl) (by k_mem) fun k31 => ?_
      k_steps
      refine unhold ?_
      k_dflt (refine' Does.useQ (levE (pad g0.toNat (W.map sg) g1.toNat) (pad e0.toNat (T.map sg) e1.toNat) _ _ _ _ ?x1 ?x2 ?x3 (pad_ok hW128) (pad_ok hT128)) ?k1 ?k2 ?k3 ?k4 ?k5 ?kK ?kd ?ku ?_; (case k2 => k_asm); (case k1 => k_asm); (case k3 => k_asm); (case k4 => k_asm); (case k5 => k_asm); (case kK => rfl); (case kd => first | decide | ktr_room); (case ku => first | decide | ktr_units))
      case x1 => rw [pad_len]; lia (abstractProof := false)
      case x2 => rw [pad_len]; lia (abstractProof := false)
      case x3 => rw [hE9]; lia (abstractProof := false)
      rename Fr _ _ _ _ => Fo; rename News _ _ _ _ => No; clear Fo No
      rintro r h23 tk23 F23 N23 ⟨t23, rfl⟩
      rw [hE9]
      dsimp only
      k_steps
      · exact absurd rfl (by assumption)
      · refine hpure (tnext (tend ⟨D16, g0, w0, g1, w1, n16, D17, e0, x0, e1, x1, n17, t14, t15⟩ (by assumption) (by assumption) ?_ ?_ ?_ (by (repeat' (first | exact List.forall_mem_nil _ | (refine List.forall_mem_cons.mpr ⟨by with_unfolding_all exact rfl, ?_⟩)))) (by (intro z h2 h3; have h4 := h2; have h5 := h3; (try simp only [List.forall_mem_cons, List.not_mem_nil, false_implies, implies_true, and_true, ne_eq] at h4); (try simp only [List.contains_cons, List.contains_nil, Bool.or_false, Bool.or_eq_false_iff, beq_eq_false_iff_ne, ne_eq] at h5); (repeat' (first | (with_reducible rfl) | (with_reducible refine same_if (by first | (simp [h4]; done) | (simp [h5]; done)) ?_) | (with_reducible refine same_kst (by first | exact List.forall_mem_nil _ | (simp [h4]; done) | (simp [h5]; done) | (simp [h4, h5]; done)) (by first | rfl | (simp [h5]; done) | (simp [h4]; done) | (simp [h4, h5]; done)) ?_))))) ⟨pb0, pb1, pc0, pc1⟩))
        · intro p hp
          simp only [LdOf, List.mem_cons, List.mem_append] at hp ⊢
          rcases hp with h | h | h | h | h <;> simp [h]
        · intro p hp
          simp only [List.mem_cons, List.mem_append]
          simp [hp]
        · exact List.forall_mem_cons.mpr ⟨.inr (.inr rfl), List.forall_mem_cons.mpr ⟨.inr (.inr rfl), fun q hq => .inl (List.mem_map.mpr ⟨q, .tail _ (.tail _ hq), rfl⟩)⟩⟩
    · refine unhold ?_
      refine evalTup0 (by rfl) (by rfl) (by rfl) (by rfl) (by k_asm) (by k_asm) (by with_unfolding_all rfl) (by k_mem) fun k30 => ?_
      k_steps
      refine unhold ?_
      refine evalTup1 (by rfl) (by rfl) (by rfl) (by rfl) (by k_asm) (by k_asm) (by with_unfolding_all rfl) (by k_mem) fun k31 => ?_
      k_steps
      refine unhold ?_
      k_dflt (refine' Does.useQ (levE (pad e0.toNat (T.map sg) e1.toNat) (pad g0.toNat (W.map sg) g1.toNat) _ _ _ _ ?x1 ?x2 ?x3 (pad_ok hT128) (pad_ok hW128)) ?k1 ?k2 ?k3 ?k4 ?k5 ?kK ?kd ?ku ?_; (case k2 => k_asm); (case k1 => k_asm); (case k3 => k_asm); (case k4 => k_asm); (case k5 => k_asm); (case kK => rfl); (case kd => first | decide | ktr_room); (case ku => first | decide | ktr_units))
      case x1 => rw [pad_len]; lia (abstractProof := false)
      case x2 => rw [pad_len]; lia (abstractProof := false)
      case x3 => rw [edit_comm, hE9]; lia (abstractProof := false)
      rename Fr _ _ _ _ => Fo; rename News _ _ _ _ => No; clear Fo No
      rintro r h23 tk23 F23 N23 ⟨t23, rfl⟩
      rw [edit_comm, hE9]
      dsimp only
      k_steps
      · exact absurd rfl (by assumption)
      · refine hpure (tnext (tend ⟨D16, g0, w0, g1, w1, n16, D17, e0, x0, e1, x1, n17, t14, t15⟩ (by assumption) (by assumption) ?_ ?_ ?_ (by (repeat' (first | exact List.forall_mem_nil _ | (refine List.forall_mem_cons.mpr ⟨by with_unfolding_all exact rfl, ?_⟩)))) (by (intro z h2 h3; have h4 := h2; have h5 := h3; (try simp only [List.forall_mem_cons, List.not_mem_nil, false_implies, implies_true, and_true, ne_eq] at h4); (try simp only [List.contains_cons, List.contains_nil, Bool.or_false, Bool.or_eq_false_iff, beq_eq_false_iff_ne, ne_eq] at h5); (repeat' (first | (with_reducible rfl) | (with_reducible refine same_if (by first | (simp [h4]; done) | (simp [h5]; done)) ?_) | (with_reducible refine same_kst (by first | exact List.forall_mem_nil _ | (simp [h4]; done) | (simp [h5]; done) | (simp [h4, h5]; done)) (by first | rfl | (simp [h5]; done) | (simp [h4]; done) | (simp [h4, h5]; done)) ?_))))) ⟨pb0, pb1, pc0, pc1⟩))
        · intro p hp
          simp only [LdOf, List.mem_cons, List.mem_append] at hp ⊢
          rcases hp with h | h | h | h | h <;> simp [h]
        · intro p hp
          simp only [List.mem_cons, List.mem_append]
          simp [hp]
        · exact List.forall_mem_cons.mpr ⟨.inr (.inr rfl), List.forall_mem_cons.mpr ⟨.inr (.inr rfl), fun q hq => .inl (List.mem_map.mpr ⟨q, .tail _ (.tail _ hq), rfl⟩)⟩⟩
  · rintro ⟨ah, h0, u0, h1, u1, nh, aT, t0, v0, t1, v1, nt, tf, ts⟩ u hh1 tkk1 hOk F13 N13
    simp only [LdOf] at F13 N13
    clear F12 N12 R12
    k_steps)
end
end Mine
end
theorem PySem.Challenge.cw_ph0054_01_holds : PySem.Challenge.rw_ph0054_01.Holds :=
  Mine.law_holds

import PyProof.Rows.All
import Wide.All
import OpenK.AllK
import Wide.FinOn
import PySem.Challenge.RW_uc0020_01
set_option Elab.async false
set_option rowWalk.seconds 0
set_option linter.all false

section
open PySem PySem.W PyProof.Rows
namespace Mine
set_option maxRecDepth 100000
set_option maxHeartbeats 0
open_top hd for PySem.Challenge.rw_uc0020_01
end Mine
end

namespace Mine
local macro_rules | `(tactic| walk_at $s:str) => `(tactic| k_extra $s)

section
open PySem PySem.W PyProof.Rows
theorem rest_UB {prog : PySem.Program} {w : PySem.World} {A : PySem.Around} {env : PySem.Env} {Q : PySem.Flow → PySem.Shared → Prop} {E : PySem.Value → PySem.Shared → Prop} {s : PySem.Shared} (h : PySem.wpAny (PySem.model prog w) A (PySem.execs [] env) Q E s) : PySem.wpAny (PySem.model prog w) A (PySem.execs [] env) Q E s := by
  w_top off
  k_with_none
  first | (walk1; fail) | exact h
set_option maxRecDepth 100000
set_option maxHeartbeats 0

/-- what a contract says: called so, from any frame, with room for d frames and u units, the call ends and hands on what ret says -/
noncomputable abbrev Claim (prog : Program) (w : World) (K : Frag) (p : Program) (loose : List Str) (mean : ExcName → Option Value) (mg mb : Str → Option Value) (d u : Nat) (t : Sem Value) (news : List (Addr × Obj)) (pre : Prop)
    (ret : Heap → Addr → (Str → Option Value) → Shared → (Value → Shared → Prop) → Prop) : Prop :=
  ∀ (dp un : Nat) (gd : Option (List Code)) (cn : Str) (cs : Scope) (a : Addr) (ccd : Value) (cl : List (Str × Addr)) (outer : List Env) (A₀ : Around) (base h₀ : Heap) (L : Addr) (m : Str → Option Value) (s : Shared) (Q E : Value → Shared → Prop),
    Below A₀ base outer h₀ → Fr h₀ L s.heap m → K.In h₀ → News h₀ L s.heap news → Top p loose mean mg mb h₀ → cs.kind = .function →
      pre → dp + d < recursionLimit → un + u < cLine → ret h₀ L m s Q →
      wpAny (model prog w) (ktrTop dp un gd cn cs L a ccd cl outer) t Q E s

theorem fdiv_lo {x n : Int} (h : 0 ≤ x) (hn : 0 < n) : 0 ≤ Int.fdiv x n := by
  rw [Int.fdiv_eq_ediv_of_nonneg x (by omega)]; exact Int.ediv_nonneg h (by omega)
theorem fdiv_le {x n : Int} (h : 0 ≤ x) (hn : 0 < n) : Int.fdiv x n ≤ x := by
  rw [Int.fdiv_eq_ediv_of_nonneg x (by omega)]; exact Int.ediv_le_self _ h

noncomputable abbrev RetStr (x : Str) (news : List (Addr × Obj)) (h₀ : Heap) (L : Addr) (m : Str → Option Value) (s : Shared) (Q : Value → Shared → Prop) : Prop :=
  ∀ (t : Tok) (h' : Heap) (tk' : Nat), Fr h₀ L h' m → News h₀ L h' news → Q (.str x t) { s with heap := h', toks := tk' }
noncomputable abbrev RetInt (x : Int) (news : List (Addr × Obj)) (h₀ : Heap) (L : Addr) (m : Str → Option Value) (s : Shared) (Q : Value → Shared → Prop) : Prop :=
  ∀ (t : Tok) (h' : Heap) (tk' : Nat), Fr h₀ L h' m → News h₀ L h' news → Q (.int x t) { s with heap := h', toks := tk' }
noncomputable abbrev RetNew (P : Obj → Prop) (news : List (Addr × Obj)) (h₀ : Heap) (L : Addr) (m : Str → Option Value) (s : Shared) (Q : Value → Shared → Prop) : Prop :=
  ∀ (a : Addr) (o : Obj) (h' : Heap) (tk' : Nat), P o → Fr h₀ L h' m → News h₀ L h' ((a, o) :: news) → (∀ p ∈ news, p.1 < a) → Q (.ref a) { s with heap := h', toks := tk' }
theorem allLt_to {d : Addr} : ∀ {l : List (Addr × Obj)}, AllLt d l → ∀ p ∈ l, p.1 < d
  | [], _, _, hp => (nomatch hp)
  | q :: r, h, p, hp => by
    rcases List.mem_cons.mp hp with rfl | hp
    · exact h.1
    · exact allLt_to h.2 p hp
theorem ret_new {P : Obj → Prop} {news news' : List (Addr × Obj)} {h₀ h' : Heap} {L a : Addr} {m : Str → Option Value} {s : Shared} {Q : Value → Shared → Prop} {o : Obj} {tk' : Nat} (hret : RetNew P news h₀ L m s Q) (F : Fr h₀ L h' m) (N : News h₀ L h' news')
    (hm : (a, o) ∈ news') (hs : ∀ p ∈ news, p ∈ news') (hl : AllLt a news) (hP : P o) : Q (.ref a) { s with heap := h', toks := tk' } :=
  hret a o h' tk' hP F (fun p hp => by
    rcases List.mem_cons.mp hp with rfl | hp
    · exact N _ hm
    · exact N p (hs p hp)) (allLt_to hl)
theorem ret_str {x y : Str} {news news' : List (Addr × Obj)} {h₀ h' : Heap} {L : Addr} {m : Str → Option Value} {s : Shared} {Q : Value → Shared → Prop} {t : Tok} {tk' : Nat} (hret : RetStr x news h₀ L m s Q) (F : Fr h₀ L h' m) (N : News h₀ L h' news')
    (hs : ∀ p ∈ news, p ∈ news') (e : y = x) : Q (.str y t) { s with heap := h', toks := tk' } := by
  subst e
  exact hret t h' tk' F fun p hp => N p (hs p hp)
theorem ret_int {x y : Int} {news news' : List (Addr × Obj)} {h₀ h' : Heap} {L : Addr} {m : Str → Option Value} {s : Shared} {Q : Value → Shared → Prop} {t : Tok} {tk' : Nat} (hret : RetInt x news h₀ L m s Q) (F : Fr h₀ L h' m) (N : News h₀ L h' news')
    (hs : ∀ p ∈ news, p ∈ news') (e : y = x) : Q (.int y t) { s with heap := h', toks := tk' } := by
  subst e
  exact hret t h' tk' F fun p hp => N p (hs p hp)
end

section
open PySem PySem.W PySem.Spec PyProof.Rows
theorem rest_ULoop {prog : PySem.Program} {w : PySem.World} {A : PySem.Around} {env : PySem.Env} {Q : PySem.Flow → PySem.Shared → Prop} {E : PySem.Value → PySem.Shared → Prop} {s : PySem.Shared} (h : PySem.wpAny (PySem.model prog w) A (PySem.execs [] env) Q E s) : PySem.wpAny (PySem.model prog w) A (PySem.execs [] env) Q E s := by
  w_top off
  k_with_none
  first | (walk1; fail) | exact h
set_option maxRecDepth 100000
set_option maxHeartbeats 0

section
variable {prog : Program} {w : World} {A : Around} {E : Value → Shared → Prop} {s : Shared} {env : Env} {h₀ : Heap} {Q : Flow → Shared → Prop}

/-- a for loop with an else arm, by what holds of the frame and the ledger -/
theorem loop_els {x : Str} {px : Pos} {body els : List Stmt} {I : Addr} {fp wr : List Addr} {n : Nat} {P : Nat → Value → Prop} {St : Nat → Heap → Prop} {m₀ : Str → Option Value} {news : List (Addr × Obj)}
    (J : Nat → (Str → Option Value) → List (Addr × Obj) → Prop) (W : Walks prog w A I fp wr n P St) (hx : env.kindOf x = some .local)
    (hp : (env.scope.kind == .class || (env.scope.kind == .module && env.locals != env.globals)) = false)
    (hL : env.locals ∉ fp) (hwr : ∀ b ∈ wr, h₀.get? b = none) (hnw : ∀ p ∈ news, p.1 ∉ fp)
    (hst : St 0 s.heap) (F : Fr h₀ env.locals s.heap m₀) (N : News h₀ env.locals s.heap news) (h0 : J 0 m₀ news)
    (turn : ∀ i v m₁ nx h tk own, i < n → P i v → nx.map (·.1) = news.map (·.1) → OwnOff own (news.map (·.1)) → J i m₁ nx → Fr h₀ env.locals h (fun y => if y = x then some v else m₁ y) → News h₀ env.locals h (nx ++ own) →
      wpAny (model prog w) A (execs body env) (InvPostN h₀ env.locals (J (i + 1)) own (news.map (·.1)) { s with heap := h, toks := tk } Q) E { s with heap := h, toks := tk })
    (done : ∀ m₁ nx h tk, J n m₁ nx → Fr h₀ env.locals h m₁ → News h₀ env.locals h nx → wpAny (model prog w) A (execs els env) Q E { s with heap := h, toks := tk })
    (hE : PassesOwn (model prog w) A env E) :
    codeAny (model prog w) A (.forLoop (.Name x px) (.ref I) body els env) (fun r s' => match r with | .ok f => Q f s' | .error e => cameBackBy (model prog w) A env E e s') s := by
  have hLw : env.locals ∉ wr := fun h => hL (W.sub _ h)
  refine codeAny_forLoop
    (fun k s' => ∃ h' tk m' nx i, s' = { s with heap := h', toks := tk } ∧ St i h' ∧ Fr h₀ env.locals h' m' ∧ News h₀ env.locals h' nx ∧ nx.map (·.1) = news.map (·.1) ∧ J i m' nx ∧ i ≤ n ∧ k = n + 1 - i) ?_ (n + 1)
    ⟨s.heap, s.toks, m₀, news, 0, rfl, hst, F, N, rfl, h0, Nat.zero_le _, rfl⟩
  rintro k s' ⟨h', tk, m', nx, i, rfl, hst', F', N', ha, hJ, hi, rfl⟩
  have off : ∀ p ∈ nx, p.1 ∉ fp := fun p hp hf => by
    have : p.1 ∈ news.map (·.1) := ha ▸ List.mem_map_of_mem hp
    obtain ⟨q, hq, e⟩ := List.mem_map.mp this
    exact hnw q hq (by rw [e]; exact hf)
  have next : ∀ h₁ : Heap, (∀ b o, b ∉ wr → h'.get? b = some o → h₁.get? b = some o) → Fr h₀ env.locals h₁ m' ∧ News h₀ env.locals h₁ nx := fun h₁ hk =>
    ⟨⟨F'.ns.at' fun o e => hk _ o hLw e, fun b o e => hk b o (fun hb => by rw [hwr b hb] at e; cases e) (F'.keep b o e), F'.above⟩,
      fun p hp => ⟨hk _ _ (fun hb => off p hp (W.sub _ hb)) (N' p hp).1, (N' p hp).2⟩⟩
  by_cases hlt : i < n
  · refine W.item i _ _ _ hlt hst' fun v h₁ tk₁ hP hst₁ hk₁ => ?_
    obtain ⟨F₁, N₁⟩ := next h₁ hk₁
    refine wpAny_assign_Name (wpAny_storeName_local hx F₁.ns (fun h₂ hn₂ hs₂ => ?_) hp)
    have F₂ := F₁.set hn₂ hs₂
    have No : News h₀ env.locals h₂ (ownOf h₀ fp h₂) := news_ownOf hL
    have oo : OwnOff (ownOf h₀ fp h₂) (news.map (·.1)) := fun p hp b hb e => by
      obtain ⟨q, hq, e'⟩ := List.mem_map.mp hb
      exact hnw q hq (by rw [e', ← e]; exact ownOf_sub p hp)
    have N₂ : News h₀ env.locals h₂ (nx ++ ownOf h₀ fp h₂) := fun p hp => by
      rcases List.mem_append.mp hp with hp | hp
      · exact N₁.set hs₂ p hp
      · exact No p hp
    refine wpAny_mono (wpAny_passesOwn hE (turn i v m' nx h₂ _ (ownOf h₀ fp h₂) hlt hP ha oo hJ F₂ N₂)) (fun f s₃ h₃ => ?_) fun _ _ e => e
    have go : InvEndN h₀ env.locals (J (i + 1)) (ownOf h₀ fp h₂) (news.map (·.1)) { s with heap := h₂, toks := tk₁ + 1 } s₃ →
        ∃ k, k < n + 1 - i ∧ ∃ h' tk m' nx i, s₃ = { s with heap := h', toks := tk } ∧ St i h' ∧ Fr h₀ env.locals h' m' ∧ News h₀ env.locals h' nx ∧ nx.map (·.1) = news.map (·.1) ∧ J i m' nx ∧ i ≤ n ∧ k = n + 1 - i := by
      rintro ⟨h₄, tk₄, m₄, news₄, nx₄, rfl, F₄, N₄, hn₄, ho₄, ha₄, hJ₄⟩
      refine ⟨n + 1 - (i + 1), by omega, h₄, tk₄, m₄, nx₄, i + 1, rfl, ?_, F₄, fun p hp => N₄ p (hn₄ p hp), ha₄, hJ₄, hlt, rfl⟩
      refine W.frame _ _ _ hst₁ fun b hb o e => ?_
      have e₂ : h₂.get? b = some o := (hs₂.2 b fun q => hL (q ▸ hb)).trans e
      cases hn : h₀.get? b with
      | some o₀ =>
        have : o₀ = o := by have := F₂.keep b o₀ hn; rw [e₂] at this; exact (Option.some.inj this).symm
        exact this ▸ F₄.keep b o₀ hn
      | none => exact (N₄ _ (ho₄ _ (mem_ownOf hb hn e₂))).1
    cases f with
    | ret v => exact h₃
    | brk => exact h₃
    | cont => exact go h₃
    | next => exact go h₃
  · have hin : i = n := by omega
    subst hin
    refine W.done _ _ _ hst' fun h₁ tk₁ hk₁ => ?_
    obtain ⟨F₁, N₁⟩ := next h₁ hk₁
    exact wpAny_passesOwn hE (done m' nx h₁ tk₁ hJ F₁ N₁)

/-- the same over a range by ones, the state in letters -/
theorem range_els {σ : Type} {x : Str} {px : Pos} {body els : List Stmt} {r : Addr} {a₀ b₀ : Int} {t₀ u₀ v₀ : Tok} {n : Nat} {m₀ : Str → Option Value} (Led : σ → List (Addr × Obj)) (ps : σ → List (Str × Value)) (Facts : σ → Prop) (stored : List Str) (P : Nat → σ → Prop) (c₀ : σ)
    (hx : env.kindOf x = some .local) (hp : (env.scope.kind == .class || (env.scope.kind == .module && env.locals != env.globals)) = false) (hE : PassesOwn (model prog w) A env E)
    (hh : A.handled = none) (hr : IsRange s.heap r a₀ b₀ 1 t₀ u₀ v₀) (hsmall : Builtin.Range.small a₀ b₀ 1 = true) (hn : Builtin.Range.rangeSize a₀ b₀ 1 = (n : Int))
    (F : Fr h₀ env.locals s.heap m₀) (N : News h₀ env.locals s.heap (Led c₀)) (hf : Facts c₀) (hk : ∀ p ∈ ps c₀, m₀ p.1 = some p.2) (h0 : P 0 c₀)
    (turn : ∀ (c : σ) (i : Nat) t (u : Str → Option Value) h tk own, i < n → OwnOff own ((Led c₀).map (·.1)) → Facts c → P i c →
      Fr h₀ env.locals h (fun y => if y = x then some (.int (a₀ + (i : Int)) t) else kstB (fun z => if stored.contains z then u z else m₀ z) (ps c) y) → News h₀ env.locals h (Led c ++ own) →
      wpAny (model prog w) A (execs body env) (InvPostN h₀ env.locals (KstS Led ps Facts x stored m₀ (fun _ => P (i + 1)) []) own ((Led c₀).map (·.1)) { s with heap := h, toks := tk } Q) E { s with heap := h, toks := tk })
    (done : ∀ (c : σ) (u : Str → Option Value) h tk, Facts c → P n c → Fr h₀ env.locals h (fun y => if y = x then u y else kstB (fun z => if stored.contains z then u z else m₀ z) (ps c) y) → News h₀ env.locals h (Led c) →
      wpAny (model prog w) A (execs els env) Q E { s with heap := h, toks := tk }) :
    wpAny (model prog w) A (pyIter (.ref r)) (fun it s₂ => codeAny (model prog w) A (.forLoop (.Name x px) it body els env) (fun r s' => match r with | .ok f => Q f s' | .error e => cameBackBy (model prog w) A env E e s') s₂) E s := by
  refine wpAny_pyIter_range hr hsmall ?_
  have W : Walks prog w A s.heap.objs.size [s.heap.objs.size] [s.heap.objs.size] n (fun i v => i < n ∧ ∃ t, v = .int (a₀ + i * 1) t)
      (fun i h => IsRangeIter h s.heap.objs.size (a₀ + (i : Nat) * 1) ((n : Int) - (i : Nat)) 1) := (Walks.range hh _ a₀ 1 n).bound
  refine loop_els (fun i m nx => KstS Led ps Facts x stored m₀ (fun _ => P i) [] m nx) W hx hp ?_ ?_ ?_ (by show IsRangeIter _ _ _ _ _; rw [hn]; simpa using Heap.get?_push_size _ rfl) (F.push _)
    (fun p hp => ⟨Heap.get?_push_of_some _ (N p hp).1, (N p hp).2⟩) ⟨c₀, rfl, hf, hk, fun _ _ _ _ => rfl, h0⟩ ?_ ?_ hE
  · intro hm
    exact absurd F.ns.lt ((List.mem_singleton.mp hm) ▸ Nat.lt_irrefl _)
  · intro b hb
    rw [List.mem_singleton.mp hb]
    exact next_is_new F
  · intro p hp hI
    exact absurd (Heap.lt_size (N p hp).1) ((List.mem_singleton.mp hI) ▸ Nat.lt_irrefl _)
  · rintro i v m₁ nx h tk own hi ⟨_, t, rfl⟩ _ hoff ⟨c, rfl, hf', h1, h2, hp'⟩ F₁ N₁
    have e1 : a₀ + (i : Int) * 1 = a₀ + (i : Int) := by omega
    rw [e1] at F₁
    exact turn c i t m₁ h tk own hi hoff hf' hp' (kst_fr h1 h2 F₁) N₁
  · rintro m₁ nx h tk ⟨c, rfl, hf', h1, h2, hp'⟩ F₁ N₁
    exact done c m₁ h tk hf' hp' (kst_frOut h1 h2 F₁) N₁

/-- what a turn's end says, the ledger free to change its places -/
noncomputable def InvG (h₀ : Heap) (L : Addr) (J : (Str → Option Value) → List (Addr × Obj) → Prop) (own : List (Addr × Obj)) (s₁ s₂ : Shared) : Prop :=
  ∃ h' tk m' nx, s₂ = { s₁ with heap := h', toks := tk } ∧ Fr h₀ L h' m' ∧ News h₀ L h' (nx ++ own) ∧ OwnOff own (nx.map (·.1)) ∧ J m' nx
noncomputable def InvPG (h₀ : Heap) (L : Addr) (J : (Str → Option Value) → List (Addr × Obj) → Prop) (own : List (Addr × Obj)) (s₁ : Shared) (Q : Flow → Shared → Prop) (f : Flow) (s₂ : Shared) : Prop :=
  match f with
  | .ret v => Q (.ret v) s₂
  | .brk => Q .next s₂
  | _ => InvG h₀ L J own s₁ s₂

theorem loop_gen {x : Str} {px : Pos} {body els : List Stmt} {I : Addr} {fp wr : List Addr} {n : Nat} {P : Nat → Value → Prop} {St : Nat → Heap → Prop} {m₀ : Str → Option Value} {news : List (Addr × Obj)}
    (J : Nat → (Str → Option Value) → List (Addr × Obj) → Prop) (W : Walks prog w A I fp wr n P St) (hx : env.kindOf x = some .local)
    (hp : (env.scope.kind == .class || (env.scope.kind == .module && env.locals != env.globals)) = false)
    (hL : env.locals ∉ fp) (hwr : ∀ b ∈ wr, h₀.get? b = none) (hnw : ∀ p ∈ news, p.1 ∉ fp)
    (hfp : ∀ b ∈ fp, ∀ i h, St i h → h.get? b = none → False) (hst : St 0 s.heap) (F : Fr h₀ env.locals s.heap m₀) (N : News h₀ env.locals s.heap news) (h0 : J 0 m₀ news)
    (turn : ∀ i v m₁ nx h tk own, i < n → P i v → OwnOff own (nx.map (·.1)) → J i m₁ nx → Fr h₀ env.locals h (fun y => if y = x then some v else m₁ y) → News h₀ env.locals h (nx ++ own) →
      wpAny (model prog w) A (execs body env) (InvPG h₀ env.locals (J (i + 1)) own { s with heap := h, toks := tk } Q) E { s with heap := h, toks := tk })
    (done : ∀ m₁ nx h tk, J n m₁ nx → Fr h₀ env.locals h m₁ → News h₀ env.locals h nx → wpAny (model prog w) A (execs els env) Q E { s with heap := h, toks := tk })
    (hE : PassesOwn (model prog w) A env E) :
    codeAny (model prog w) A (.forLoop (.Name x px) (.ref I) body els env) (fun r s' => match r with | .ok f => Q f s' | .error e => cameBackBy (model prog w) A env E e s') s := by
  have hLw : env.locals ∉ wr := fun h => hL (W.sub _ h)
  refine codeAny_forLoop
    (fun k s' => ∃ h' tk m' nx i, s' = { s with heap := h', toks := tk } ∧ St i h' ∧ Fr h₀ env.locals h' m' ∧ News h₀ env.locals h' nx ∧ (∀ p ∈ nx, p.1 ∉ fp) ∧ J i m' nx ∧ i ≤ n ∧ k = n + 1 - i) ?_ (n + 1)
    ⟨s.heap, s.toks, m₀, news, 0, rfl, hst, F, N, hnw, h0, Nat.zero_le _, rfl⟩
  rintro k s' ⟨h', tk, m', nx, i, rfl, hst', F', N', off, hJ, hi, rfl⟩
  have next : ∀ h₁ : Heap, (∀ b o, b ∉ wr → h'.get? b = some o → h₁.get? b = some o) → Fr h₀ env.locals h₁ m' ∧ News h₀ env.locals h₁ nx := fun h₁ hk =>
    ⟨⟨F'.ns.at' fun o e => hk _ o hLw e, fun b o e => hk b o (fun hb => by rw [hwr b hb] at e; cases e) (F'.keep b o e), F'.above⟩,
      fun p hp => ⟨hk _ _ (fun hb => off p hp (W.sub _ hb)) (N' p hp).1, (N' p hp).2⟩⟩
  by_cases hlt : i < n
  · refine W.item i _ _ _ hlt hst' fun v h₁ tk₁ hP hst₁ hk₁ => ?_
    obtain ⟨F₁, N₁⟩ := next h₁ hk₁
    refine wpAny_assign_Name (wpAny_storeName_local hx F₁.ns (fun h₂ hn₂ hs₂ => ?_) hp)
    have F₂ := F₁.set hn₂ hs₂
    have No : News h₀ env.locals h₂ (ownOf h₀ fp h₂) := news_ownOf hL
    have oo : OwnOff (ownOf h₀ fp h₂) (nx.map (·.1)) := fun p hp b hb e => by
      obtain ⟨q, hq, e'⟩ := List.mem_map.mp hb
      exact off q hq (by rw [e', ← e]; exact ownOf_sub p hp)
    have N₂ : News h₀ env.locals h₂ (nx ++ ownOf h₀ fp h₂) := fun p hp => by
      rcases List.mem_append.mp hp with hp | hp
      · exact N₁.set hs₂ p hp
      · exact No p hp
    refine wpAny_mono (wpAny_passesOwn hE (turn i v m' nx h₂ _ (ownOf h₀ fp h₂) hlt hP oo hJ F₂ N₂)) (fun f s₃ h₃ => ?_) fun _ _ e => e
    have go : InvG h₀ env.locals (J (i + 1)) (ownOf h₀ fp h₂) { s with heap := h₂, toks := tk₁ + 1 } s₃ →
        ∃ k, k < n + 1 - i ∧ ∃ h' tk m' nx i, s₃ = { s with heap := h', toks := tk } ∧ St i h' ∧ Fr h₀ env.locals h' m' ∧ News h₀ env.locals h' nx ∧ (∀ p ∈ nx, p.1 ∉ fp) ∧ J i m' nx ∧ i ≤ n ∧ k = n + 1 - i := by
      rintro ⟨h₄, tk₄, m₄, nx₄, rfl, F₄, N₄, o₄, hJ₄⟩
      have hown : ∀ b ∈ fp, ∀ o, h₂.get? b = some o → h₀.get? b = none → (b, o) ∈ ownOf h₀ fp h₂ := fun b hb o e hn => mem_ownOf hb hn e
      have kept : ∀ b ∈ fp, ∀ o, h₁.get? b = some o → h₄.get? b = some o := fun b hb o e => by
        have e₂ : h₂.get? b = some o := (hs₂.2 b fun q => hL (q ▸ hb)).trans e
        cases hn : h₀.get? b with
        | some o₀ =>
          have : o₀ = o := by have := F₂.keep b o₀ hn; rw [e₂] at this; exact (Option.some.inj this).symm
          exact this ▸ F₄.keep b o₀ hn
        | none => exact (N₄ _ (List.mem_append_right _ (hown b hb o e₂ hn))).1
      refine ⟨n + 1 - (i + 1), by omega, h₄, tk₄, m₄, nx₄, i + 1, rfl, W.frame _ _ _ hst₁ kept, F₄, fun p hp => N₄ p (List.mem_append_left _ hp), ?_, hJ₄, hlt, rfl⟩
      intro p hp hf
      have hz := (N₄ p (List.mem_append_left _ hp)).2.2
      cases hg : h₂.get? p.1 with
      | some o => exact o₄ _ (hown p.1 hf o hg hz) p.1 (List.mem_map_of_mem hp) rfl
      | none => exact (hfp p.1 hf (i + 1) h₁ hst₁ (by rw [← hs₂.2 p.1 (fun q => hL (q ▸ hf))]; exact hg)).elim
    cases f with
    | ret v => exact h₃
    | brk => exact h₃
    | cont => exact go h₃
    | next => exact go h₃
  · have hin : i = n := by omega
    subst hin
    refine W.done _ _ _ hst' fun h₁ tk₁ hk₁ => ?_
    obtain ⟨F₁, N₁⟩ := next h₁ hk₁
    exact wpAny_passesOwn hE (done m' nx h₁ tk₁ hJ F₁ N₁)

/-- the signs of a text below 128, the state in letters, the ledger free -/
theorem text_gen {σ : Type} {x : Str} {px : Pos} {body els : List Stmt} {xt : Str} {tx : Tok} {m₀ : Str → Option Value} (Led : σ → List (Addr × Obj)) (ps : σ → List (Str × Value)) (Facts : σ → Prop) (stored : List Str) (P : Nat → σ → Prop) (c₀ : σ)
    (hx : env.kindOf x = some .local) (hp : (env.scope.kind == .class || (env.scope.kind == .module && env.locals != env.globals)) = false) (hE : PassesOwn (model prog w) A env E)
    (hh : A.handled = none) (ha : xt.cps.all (· < 128) = true)
    (F : Fr h₀ env.locals s.heap m₀) (N : News h₀ env.locals s.heap (Led c₀)) (hf : Facts c₀) (hk : ∀ p ∈ ps c₀, m₀ p.1 = some p.2) (h0 : P 0 c₀)
    (turn : ∀ (c : σ) (i k : Nat) t (u : Str → Option Value) h tk own, xt.cps[i]? = some k → OwnOff own ((Led c).map (·.1)) → Facts c → P i c →
      Fr h₀ env.locals h (fun y => if y = x then some (.str ⟨#[k]⟩ t) else kstB (fun z => if stored.contains z then u z else m₀ z) (ps c) y) → News h₀ env.locals h (Led c ++ own) →
      wpAny (model prog w) A (execs body env) (InvPG h₀ env.locals (KstS Led ps Facts x stored m₀ (fun _ => P (i + 1)) []) own { s with heap := h, toks := tk } Q) E { s with heap := h, toks := tk })
    (done : ∀ (c : σ) (u : Str → Option Value) h tk, Facts c → P xt.cps.size c → Fr h₀ env.locals h (fun y => if y = x then u y else kstB (fun z => if stored.contains z then u z else m₀ z) (ps c) y) → News h₀ env.locals h (Led c) →
      wpAny (model prog w) A (execs els env) Q E { s with heap := h, toks := tk }) :
    wpAny (model prog w) A (pyIter (.str xt tx)) (fun it s₂ => codeAny (model prog w) A (.forLoop (.Name x px) it body els env) (fun r s' => match r with | .ok f => Q f s' | .error e => cameBackBy (model prog w) A env E e s') s₂) E s := by
  refine wpAny_pyIter_ascii ha ?_
  have W := Walks.strAscii (prog := prog) (w := w) hh s.heap.objs.size xt tx
  refine loop_gen (fun i m nx => KstS Led ps Facts x stored m₀ (fun _ => P i) [] m nx) W hx hp ?_ ?_ ?_ ?_ ⟨_, Heap.get?_push_size _ rfl, rfl, rfl⟩ (F.push _)
    (fun p hp => ⟨Heap.get?_push_of_some _ (N p hp).1, (N p hp).2⟩) ⟨c₀, rfl, hf, hk, fun _ _ _ _ => rfl, h0⟩ ?_ ?_ hE
  · intro hm
    exact absurd F.ns.lt ((List.mem_singleton.mp hm) ▸ Nat.lt_irrefl _)
  · intro b hb
    rw [List.mem_singleton.mp hb]
    exact next_is_new F
  · intro p hp hI
    exact absurd (Heap.lt_size (N p hp).1) ((List.mem_singleton.mp hI) ▸ Nat.lt_irrefl _)
  · rintro b hb i h ⟨o, ho, _⟩ hn
    rw [List.mem_singleton.mp hb, ho] at hn
    cases hn
  · rintro i v m₁ nx h tk own hi ⟨k, t, hk, rfl⟩ hoff ⟨c, rfl, hf', h1, h2, hp'⟩ F₁ N₁
    exact turn c i k t m₁ h tk own hk hoff hf' hp' (kst_fr h1 h2 F₁) N₁
  · rintro m₁ nx h tk ⟨c, rfl, hf', h1, h2, hp'⟩ F₁ N₁
    exact done c m₁ h tk hf' hp' (kst_frOut h1 h2 F₁) N₁
theorem invG_end {σ : Type} {x : Str} {Led : σ → List (Addr × Obj)} {ps : σ → List (Str × Value)} {Facts : σ → Prop} {stored : List Str} {m₀ : Str → Option Value} {P : List Int → σ → Prop} {pre : List Int} (c : σ) {L : Addr} {m' : Str → Option Value} {own news' : List (Addr × Obj)} {s₁ : Shared} {h' : Heap} {tk : Nat}
    (F : Fr h₀ L h' m') (N : News h₀ L h' news') (hn : ∀ p ∈ Led c, p ∈ news') (ho : ∀ p ∈ own, p ∈ news') (ha : OwnOff own ((Led c).map (·.1))) (hf : Facts c) (hk : ∀ p ∈ ps c, m' p.1 = some p.2) (hr : ∀ z, z ≠ x → (∀ p ∈ ps c, z ≠ p.1) → stored.contains z = false → m' z = m₀ z) (hp : P pre c) :
    InvG h₀ L (KstS Led ps Facts x stored m₀ P pre) own s₁ { s₁ with heap := h', toks := tk } :=
  ⟨h', tk, m', Led c, rfl, F, fun p hp => by
    rcases List.mem_append.mp hp with hp | hp
    · exact N p (hn p hp)
    · exact N p (ho p hp), ha, ⟨c, rfl, hf, hk, hr, hp⟩⟩
theorem allLt_right {d : Addr} : ∀ {a b : List (Addr × Obj)}, AllLt d (a ++ b) → AllLt d b
  | [], _, h => h
  | _ :: a, _, h => allLt_right (a := a) h.2
theorem allLt_left {d : Addr} : ∀ {a b : List (Addr × Obj)}, AllLt d (a ++ b) → AllLt d a
  | [], _, _ => trivial
  | _ :: a, _, h => ⟨h.1, allLt_left (a := a) h.2⟩
theorem ownOff_new {own : List (Addr × Obj)} {d : Addr} {bs cs : List Addr} (h : AllLt d own) (o : OwnOff own cs) (hs : ∀ b ∈ bs, b ∈ cs) : OwnOff own (d :: bs) := fun p hp b hb => by
  rcases List.mem_cons.mp hb with rfl | hb
  · exact Nat.ne_of_lt (allLt_to h p hp)
  · exact o p hp b (hs b hb)

/-- one object of the turn's making at the ledger's head, behind all the rest -/
theorem text_one {σ : Type} {x : Str} {px : Pos} {body els : List Stmt} {xt : Str} {tx : Tok} {m₀ : Str → Option Value} (rest : List (Addr × Obj)) (adr : σ → Addr) (obj : σ → Obj) (ps : σ → List (Str × Value)) (Facts : σ → Prop) (stored : List Str) (P : Nat → σ → Prop) (c₀ : σ)
    (hx : env.kindOf x = some .local) (hp : (env.scope.kind == .class || (env.scope.kind == .module && env.locals != env.globals)) = false) (hE : PassesOwn (model prog w) A env E)
    (hh : A.handled = none) (ha : xt.cps.all (· < 128) = true)
    (F : Fr h₀ env.locals s.heap m₀) (N : News h₀ env.locals s.heap ((adr c₀, obj c₀) :: rest)) (hf : Facts c₀) (hlt : AllLt (adr c₀) rest) (hk : ∀ p ∈ ps c₀, m₀ p.1 = some p.2) (h0 : P 0 c₀)
    (turn : ∀ (c : σ) (i k : Nat) t (u : Str → Option Value) h tk own, xt.cps[i]? = some k → OwnOff own (adr c :: rest.map (·.1)) → Facts c → AllLt (adr c) rest → P i c →
      Fr h₀ env.locals h (fun y => if y = x then some (.str ⟨#[k]⟩ t) else kstB (fun z => if stored.contains z then u z else m₀ z) (ps c) y) → News h₀ env.locals h (((adr c, obj c) :: rest) ++ own) →
      wpAny (model prog w) A (execs body env) (InvPG h₀ env.locals (KstS (fun c => (adr c, obj c) :: rest) ps (fun c => Facts c ∧ AllLt (adr c) rest) x stored m₀ (fun _ => P (i + 1)) []) own { s with heap := h, toks := tk } Q) E { s with heap := h, toks := tk })
    (done : ∀ (c : σ) (u : Str → Option Value) h tk, Facts c → AllLt (adr c) rest → P xt.cps.size c → Fr h₀ env.locals h (fun y => if y = x then u y else kstB (fun z => if stored.contains z then u z else m₀ z) (ps c) y) → News h₀ env.locals h ((adr c, obj c) :: rest) →
      wpAny (model prog w) A (execs els env) Q E { s with heap := h, toks := tk }) :
    wpAny (model prog w) A (pyIter (.str xt tx)) (fun it s₂ => codeAny (model prog w) A (.forLoop (.Name x px) it body els env) (fun r s' => match r with | .ok f => Q f s' | .error e => cameBackBy (model prog w) A env E e s') s₂) E s :=
  text_gen (fun c => (adr c, obj c) :: rest) ps (fun c => Facts c ∧ AllLt (adr c) rest) stored P c₀ hx hp hE hh ha F N ⟨hf, hlt⟩ hk h0
    (fun c i k t u h tk own hk o f p F N => turn c i k t u h tk own hk o f.1 f.2 p F N) (fun c u h tk f p F N => done c u h tk f.1 f.2 p F N)
end
end

section
open PySem PySem.W PySem.Spec PySem.Calls PyProof.Rows
open PySem.Builtin
theorem rest_USetFn {prog : PySem.Program} {w : PySem.World} {A : PySem.Around} {env : PySem.Env} {Q : PySem.Flow → PySem.Shared → Prop} {E : PySem.Value → PySem.Shared → Prop} {s : PySem.Shared} (h : PySem.wpAny (PySem.model prog w) A (PySem.execs [] env) Q E s) : PySem.wpAny (PySem.model prog w) A (PySem.execs [] env) Q E s := by
  w_top off
  k_with_none
  first | (walk1; fail) | exact h
set_option maxRecDepth 100000
set_option maxHeartbeats 0
theorem slot_fn_set : Slot "function" "__setattr__" "object.__setattr__" :=
  .of (owner := "object") (n := "__setattr__") (by rw [typeLookup_type, builtinLookup_eq_fast]; kernel_rfl) (by decide +kernel) (by decide +kernel) (by decide +kernel)
    (by first | exact .inl (by decide +kernel) | exact .inr (by decide +kernel)) (by rw [isSubtype_type]; kernel_rfl)
theorem entry_set : entryFor table "object.__setattr__" = some Builtin.«object.__setattr__» := entryFor_of_fast (by kernel_rfl)
theorem args_set (a b c : Value) : argsOk "object.__setattr__" ⟨[a, b, c], []⟩ := by unfold argsOk; kernel_rfl
theorem fn_read : typeLookup (.type "function") "read" = pure none := by rw [typeLookup_type, builtinLookup_eq_fast]; kernel_rfl
section
variable {prog : Program} {w : World} {A : Around} {E : Value → Shared → Prop} {s : Shared}
theorem set_fn {f : Addr} {fd : FuncData} {sl : Array (Option Value)} {v : Value} {Q : Unit → Shared → Prop} (hf : s.heap.get? f = some ⟨.type "function", none, .func fd, sl⟩)
    (h : ∀ h' k tk, (∀ b o, b ≠ f → s.heap.get? b = some o → h'.get? b = some o) → h'.get? f = some ⟨.type "function", some s.heap.objs.size, .func fd, sl⟩ →
      h'.get? s.heap.objs.size = some (dictOf [⟨PyData.keyHash w.params (Str.ofString "read"), .str (Str.ofString "read") k, v⟩] 1) → Q () { s with heap := h', toks := tk }) :
    wpAny (model prog w) A (setAttr (.ref f) "read" v) Q E s := by
  unfold setAttr
  refine wpAny_bind ?_
  show wpAny _ _ (mkText "read") _ _ _
  unfold mkText
  refine wpAny_bind (wpAny_fresh ?_)
  refine wpAny_pure ?_
  refine wpAny_bind (wpAny_callSpecial?_slot ⟨_, hf, rfl⟩ slot_fn_set ?_)
  refine wpAny_call (codeAny_call_builtin slot_fn_set.plain entry_set (slot_fn_set.check _ _ _ _ _ _ _ _ ⟨_, hf, rfl⟩ (args_set _ _ _) ?_))
  unfold Builtin.«object.__setattr__»
  have hmro : ∃ l, mroOf (.type "function") = pure l ∧ refuseLoop (.ref f) "__setattr__" l = pure () := ⟨[.type "function", .type "object"], by kernel_rfl, by kernel_rfl⟩
  obtain ⟨l, hm, hl⟩ := hmro
  have hread := fn_read
  repeat (first | rw [refuse_eq] | rw [hm] | rw [hl] | rw [hread] | (with_reducible refine wpAny_loadPart_at hf ?_) | wp_step)
  have hfs : f ≠ s.heap.objs.size := Nat.ne_of_lt (Heap.lt_size hf)
  refine wpAny_askSetting (wpAny_pure ?_)
  refine wpAny_bind (wpAny_mkText ?_)
  have hD : ((s.heap.push { cls := .type "dict", data := .dict #[] }).update f fun o => { cls := o.cls, dict := some s.heap.objs.size, data := o.data, slots := o.slots }).get? s.heap.objs.size
      = some { cls := .type "dict", data := .dict #[] } :=
    (Heap.get?_update_ne _ _ _ _ hfs.symm).trans (Heap.get?_push_at rfl rfl)
  refine wpAny_bind (wpAny_loadPart hD ?_)
  dsimp only
  have hc : ∀ k, aRefKeyMayBeTheName k #[] = false := fun k => rfl
  rw [hc, if_neg Bool.false_ne_true]
  refine wpAny_updatePart hD ?_
  generalize ek : (Obj.putName (Str.ofString "read") (if (Str.ofString "read").cps.isEmpty = true then 0 else reduceHash ((model prog w).w.params.strHash (Str.ofString "read").cps)) (Value.str (Str.ofString "read") (s.toks + 1)) v) = pn
  have ek2 : pn { cls := .type "dict", data := .dict #[] } = dictOf [⟨PyData.keyHash w.params (Str.ofString "read"), .str (Str.ofString "read") (s.toks + 1), v⟩] 1 := by
    rw [← ek]
    rfl
  have hD2 := Heap.get?_update_self pn hD (by rw [ek2]; rfl)
  rw [ek2] at hD2
  refine wpAny_bind (wpAny_lookBehind hD2 (by kernel_rfl) ?_)
  refine wpAny_pure ?_
  refine wpAny_pure ?_
  refine h _ _ _ (fun b o hb hbo => ?_) ?_ hD2
  · exact (Heap.get?_update_ne _ _ _ _ (Nat.ne_of_lt (Heap.lt_size hbo))).trans ((Heap.get?_update_ne _ _ _ _ hb).trans (Heap.get?_push_of_some _ hbo))
  · exact (Heap.get?_update_ne _ _ _ _ hfs).trans (Heap.get?_update_self _ (Heap.get?_push_of_some _ hf) rfl)
theorem set_fnK {h₀ : Heap} {L f : Addr} {m : Str → Option Value} {p0 p1 : Addr × Obj} {post : List (Addr × Obj)} {o : Obj} {fd : FuncData} {sl : Array (Option Value)} {v : Value} {Q : Unit → Shared → Prop}
    (F : Fr h₀ L s.heap m) (N : News h₀ L s.heap (p0 :: p1 :: (f, o) :: post)) (ho : o = ⟨.type "function", none, .func fd, sl⟩) (h0 : p0.1 ≠ f) (h1 : p1.1 ≠ f) (h2 : ∀ p ∈ post, p.1 ≠ f)
    (h : ∀ D h' k tk, Fr h₀ L h' m →
      News h₀ L h' ((D, dictOf [⟨PyData.keyHash w.params (Str.ofString "read"), .str (Str.ofString "read") k, v⟩] 1) :: p0 :: p1 :: (f, ⟨.type "function", some D, .func fd, sl⟩) :: post) →
      (∀ p ∈ p0 :: p1 :: (f, o) :: post, p.1 < D) → Q () { s with heap := h', toks := tk }) :
    wpAny (model prog w) A (setAttr (.ref f) "read" v) Q E s := by
  subst ho
  have Df := N (f, _) (.tail _ (.tail _ (.head _)))
  have F' := F.ns
  have hLlt : L < s.heap.objs.size := F'.lt
  have hbase : h₀.get? s.heap.objs.size = none := by
    cases hq : h₀.get? s.heap.objs.size with
    | none => rfl
    | some o' => exact absurd (Heap.lt_size (F.keep _ _ hq)) (Nat.lt_irrefl _)
  refine set_fn Df.1 fun h' k tk hk hf hd => ?_
  have Fk : Fr h₀ L h' m := by
    obtain ⟨oL, es, ep, hL, r⟩ := F.ns
    exact ⟨⟨oL, es, ep, hk _ _ (Ne.symm Df.2.1) hL, r⟩, fun b o e => hk _ _ (fun z => by rw [z, Df.2.2] at e; cases e) (F.keep b o e), F.above⟩
  refine h _ h' k tk Fk ?_ (fun p hp => Heap.lt_size (N p hp).1)
  have old : ∀ p ∈ p0 :: p1 :: (f, (⟨.type "function", none, .func fd, sl⟩ : Obj)) :: post, p.1 ≠ f → h'.get? p.1 = some p.2 ∧ p.1 ≠ L ∧ h₀.get? p.1 = none :=
    fun p hp hn => ⟨hk _ _ hn (N p hp).1, (N p hp).2⟩
  intro p hp
  rcases List.mem_cons.mp hp with rfl | hp
  · exact ⟨hd, Nat.ne_of_gt hLlt, hbase⟩
  rcases List.mem_cons.mp hp with rfl | hp
  · exact old _ (.head _) h0
  rcases List.mem_cons.mp hp with rfl | hp
  · exact old _ (.tail _ (.head _)) h1
  rcases List.mem_cons.mp hp with rfl | hp
  · exact ⟨hf, Df.2⟩
  · exact old _ (.tail _ (.tail _ (.tail _ hp))) (h2 _ hp)
theorem set_fnK1 {h₀ : Heap} {L f : Addr} {m : Str → Option Value} {p0 : Addr × Obj} {post : List (Addr × Obj)} {o : Obj} {fd : FuncData} {sl : Array (Option Value)} {v : Value} {Q : Unit → Shared → Prop}
    (F : Fr h₀ L s.heap m) (N : News h₀ L s.heap (p0 :: (f, o) :: post)) (ho : o = ⟨.type "function", none, .func fd, sl⟩) (h0 : p0.1 ≠ f) (h2 : ∀ p ∈ post, p.1 ≠ f)
    (h : ∀ D h' k tk, Fr h₀ L h' m →
      News h₀ L h' ((D, dictOf [⟨PyData.keyHash w.params (Str.ofString "read"), .str (Str.ofString "read") k, v⟩] 1) :: p0 :: (f, ⟨.type "function", some D, .func fd, sl⟩) :: post) →
      (∀ p ∈ p0 :: (f, o) :: post, p.1 < D) → Q () { s with heap := h', toks := tk }) :
    wpAny (model prog w) A (setAttr (.ref f) "read" v) Q E s := by
  subst ho
  have Df := N (f, _) (.tail _ (.head _))
  have F' := F.ns
  have hLlt : L < s.heap.objs.size := F'.lt
  have hbase : h₀.get? s.heap.objs.size = none := by
    cases hq : h₀.get? s.heap.objs.size with
    | none => rfl
    | some o' => exact absurd (Heap.lt_size (F.keep _ _ hq)) (Nat.lt_irrefl _)
  refine set_fn Df.1 fun h' k tk hk hf hd => ?_
  have Fk : Fr h₀ L h' m := by
    obtain ⟨oL, es, ep, hL, r⟩ := F.ns
    exact ⟨⟨oL, es, ep, hk _ _ (Ne.symm Df.2.1) hL, r⟩, fun b o e => hk _ _ (fun z => by rw [z, Df.2.2] at e; cases e) (F.keep b o e), F.above⟩
  refine h _ h' k tk Fk ?_ (fun p hp => Heap.lt_size (N p hp).1)
  have old : ∀ p ∈ p0 :: (f, (⟨.type "function", none, .func fd, sl⟩ : Obj)) :: post, p.1 ≠ f → h'.get? p.1 = some p.2 ∧ p.1 ≠ L ∧ h₀.get? p.1 = none :=
    fun p hp hn => ⟨hk _ _ hn (N p hp).1, (N p hp).2⟩
  intro p hp
  rcases List.mem_cons.mp hp with rfl | hp
  · exact ⟨hd, Nat.ne_of_gt hLlt, hbase⟩
  rcases List.mem_cons.mp hp with rfl | hp
  · exact old _ (.head _) h0
  rcases List.mem_cons.mp hp with rfl | hp
  · exact ⟨hf, Df.2⟩
  · exact old _ (.tail _ (.tail _ hp)) (h2 _ hp)
end
end

section
open PySem PySem.W PyProof.Rows
theorem rest_UName {prog : PySem.Program} {w : PySem.World} {A : PySem.Around} {env : PySem.Env} {Q : PySem.Flow → PySem.Shared → Prop} {E : PySem.Value → PySem.Shared → Prop} {s : PySem.Shared} (h : PySem.wpAny (PySem.model prog w) A (PySem.execs [] env) Q E s) : PySem.wpAny (PySem.model prog w) A (PySem.execs [] env) Q E s := by
  w_top off
  k_with_none
  first | (walk1; fail) | exact h
set_option maxRecDepth 100000
set_option maxHeartbeats 0
noncomputable def nameTab : List Str := ["OPTIMIZED", "NEWLOCALS", "VARARGS", "VARKEYWORDS", "NESTED", "GENERATOR", "NOFREE", "COROUTINE", "ITERABLE_COROUTINE", "ASYNC_GENERATOR"]
noncomputable def lawName (p : Int) : Str := if p < 10 then nameTab.getD p.toNat Str.empty else Str.ofString "0x" ++ Txt.item (Str.ofString "1248") (Int.fmod p 4) ++ Txt.mul (Str.ofString "0") (Int.fdiv p 4)
structure IsName (p : Int) (x : Str) : Prop where
  eq : x = lawName p
theorem name_lo {p : Int} {x : Str} (H : IsName p x) (h : p < 10) : nameTab.getD p.toNat Str.empty = x := by rw [H.eq, lawName, if_pos h]
theorem name_hi {p : Int} {x : Str} (H : IsName p x) (h : ¬ p < 10) : Str.ofString "0x" ++ Txt.item (Str.ofString "1248") (Int.fmod p 4) ++ Txt.mul (Str.ofString "0") (Int.fdiv p 4) = x := by rw [H.eq, lawName, if_neg h]
theorem name_claim {w : World} {p : Program} {loose : List Str} {mean : ExcName → Option Value} {mg mb : Str → Option Value} (news : List (Addr × Obj)) (x : Int) (y : Str) (tx : Tok) :
    Claim PySem.Challenge.rw_uc0020_01.row.prog w (hd.heap_39 w.params) p loose mean mg mb 10 30 (call (.ref 185) [.int x tx]) news (0 ≤ x ∧ x < 64 ∧ IsName x y) (RetStr y news) := by
  k_fill
  dsimp only [Claim, RetStr, RetInt, RetNew]; intros
  rename_i hx _ _ hret
  obtain ⟨h1, h2, hN⟩ := hx
  have h3 : 0 ≤ Int.fdiv x 4 := fdiv_lo h1 (by decide)
  have h4 : Int.fdiv x 4 ≤ x := fdiv_le h1 (by decide)
  refine wpAny_call ?_
  k_dflt cell_enter
  k_steps
  · exact ret_str hret (by assumption) (by assumption) (by kst_inAny) (name_lo hN (by assumption))
  · exact ret_str hret (by assumption) (by assumption) (by kst_inAny) (name_hi hN (by assumption))
end

section
open PySem PySem.W PyProof.Rows
theorem rest_UWalk {prog : PySem.Program} {w : PySem.World} {A : PySem.Around} {env : PySem.Env} {Q : PySem.Flow → PySem.Shared → Prop} {E : PySem.Value → PySem.Shared → Prop} {s : PySem.Shared} (h : PySem.wpAny (PySem.model prog w) A (PySem.execs [] env) Q E s) : PySem.wpAny (PySem.model prog w) A (PySem.execs [] env) Q E s := by
  w_top off
  k_with_none
  first | (walk1; fail) | exact h
set_option maxRecDepth 100000
set_option maxHeartbeats 0
set_option pp.deepTerms false
noncomputable def bitsF : Nat → Int → List Int
  | 0, _ => []
  | f + 1, n => if 1 < n then bitsF f (Int.fdiv n 2) ++ [Int.fmod n 2] else []
noncomputable def walkStep (p : Int × Int) (b : Int) : Int × Int := if b = 1 then (p.1 + p.2, p.2) else (p.1, p.2 + p.1)
noncomputable def walkF (n g : Int) : Int × Int := (bitsF 64 n).foldl walkStep (g, g)
structure WalkInv (x n : Int) (st : List Int) : Prop where
  lo : 0 ≤ n
  bits : ∃ f, n < 2 ^ f ∧ st.length + f ≤ 64 ∧ bitsF 64 x = bitsF f n ++ st
structure IsWalk (x g : Int) (p : Int × Int) : Prop where
  eq : p = walkF x g
structure WalkFold (g : Int) (pre : List Int) (o u : Int) : Prop where
  eq : (o, u) = pre.foldl walkStep (g, g)
theorem walk_start {x : Int} (h : 0 ≤ x) (h' : x < 2 ^ 60) : WalkInv x x [] := ⟨h, 64, by omega, by simp, by simp⟩
theorem walk_turn {x n : Int} {st : List Int} (H : WalkInv x n st) (h : 1 < n) : WalkInv x (Int.fdiv n 2) (Int.fmod n 2 :: st) := by
  obtain ⟨h0, f, h1, h2, h3⟩ := H
  cases f with
  | zero => simp at h1; omega
  | succ f =>
    have e : Int.fdiv n 2 = n / 2 := Int.fdiv_eq_ediv_of_nonneg n (by omega)
    refine ⟨by rw [e]; omega, f, ?_, by simp only [List.length_cons]; omega, ?_⟩
    · rw [e]; rw [Int.pow_succ] at h1; omega
    · rw [h3, bitsF, if_pos h]; simp
theorem walk_less {x n : Int} {st : List Int} (H : WalkInv x n st) (h : 1 < n) : (Int.fdiv n 2).toNat < n.toNat := by
  rw [Int.fdiv_eq_ediv_of_nonneg n (by omega)]; omega
theorem walk_end {x n : Int} {st : List Int} (H : WalkInv x n st) (h : ¬ 1 < n) : st = bitsF 64 x := by
  obtain ⟨h0, f, h1, h2, h3⟩ := H
  cases f with
  | zero => rw [h3]; rfl
  | succ f => rw [h3, bitsF, if_neg h]; rfl
theorem walk_len {x n : Int} {st : List Int} (H : WalkInv x n st) : st.length ≤ 64 := by
  obtain ⟨_, f, _, h2, _⟩ := H
  omega
theorem ins_size {vs : List Value} {x n : Int} {st : List Int} (hI : IntsAre vs st) (H : WalkInv x n st) : vs.toArray.toList.length ≤ sizeLine := by
  have := walk_len H
  have e := hI.length
  rw [sizeLine_eq]
  simp only [List.toList_toArray]
  omega
theorem ins_zero (vs : List Value) (y : Value) : kl_ins vs.toArray.toList 0 y = y :: vs := by simp [kl_ins]
theorem rule_UWalk_1 : True := by
  k_with "call builtin:list.insert" => ((k_here; (with_reducible show wpAny _ _ (call (Value.builtin _) [Value.ref _, Value.int _ _, _]) _ _ _); k_dflt (refine' kl_insert ?F ?N ?f ?e ?U ?z ?_; (case F => k_asm); (case N => k_asm); (case U => k_upd); (case f => rfl); (case e => exact ins_zero _ _); (case z => exact ins_size (by assumption) (by assumption))); kl_rest))
  exact trivial
local macro_rules | `(tactic| kst_facts1) => `(tactic| exact IntsAre.cons _ _ (by assumption))
theorem walk_fin {x y n o u : Int} {st : List Int} (H : WalkInv x n st) (h : ¬ 1 < n) (W : WalkFold y st o u) : (o, u) = walkF x y := by
  have := walk_end H h
  subst this
  exact W.eq
theorem wf_nil (g : Int) : WalkFold g [] g g := ⟨rfl⟩
theorem wf_one {g : Int} {pre : List Int} {o u n : Int} (H : WalkFold g pre o u) (h : n = 1) : WalkFold g (pre ++ [n]) (o + u) u := ⟨by rw [List.foldl_append, ← H.eq]; simp [walkStep, h]⟩
theorem wf_zero {g : Int} {pre : List Int} {o u n : Int} (H : WalkFold g pre o u) (h : ¬ n = 1) : WalkFold g (pre ++ [n]) o (u + o) := ⟨by rw [List.foldl_append, ← H.eq]; simp [walkStep, h]⟩
theorem walk_claim {w : World} {p : Program} {loose : List Str} {mean : ExcName → Option Value} {mg mb : Str → Option Value} (news : List (Addr × Obj)) (x y : Int) (tx ty : Tok) :
    Claim PySem.Challenge.rw_uc0020_01.row.prog w (hd.heap_39 w.params) p loose mean mg mb 10 30 (call (.ref 211) [.int x tx, .int y ty]) news (0 ≤ x ∧ x < 2 ^ 60)
      (RetNew (fun o => ∃ a b t u n, IsWalk x y (a, b) ∧ o = { cls := .type "tuple", data := .seq #[.int a t, .int b u] n }) news) := by
  k_fill
  dsimp only [Claim, RetStr, RetInt, RetNew]; intros
  rename_i hx _ _ hret
  have hw0 : WalkInv x x [] := walk_start hx.1 hx.2
  clear hx
  have hI0 : IntsAre ([] : List Value) [] := .nil
  refine wpAny_call ?_
  k_dflt cell_enter
  iterate 9 (first | (k_unfold; (try dsimp only)) | (k_end; wrow_close) | walk1 | (dsimp only; walk1) | (leave1; walk_say "STEP leave1"; try dsimp only) | fail "no step")
  k_with "state" => first | exact hw0 | exact walk_turn (by assumption) (by assumption) | exact wf_nil _ | exact wf_one (by assumption) (by assumption) | exact wf_zero (by assumption) (by assumption)
  k_with "measure" => exact walk_less (by assumption) (by assumption)
  k_while (fun _ n st => WalkInv x n st) (fun _ n _ => n.toNat) "number" "steps"
  trace "while in"
  k_with "pyIter ref" => k_state (fun pre o u => WalkFold y pre o u) "over" "under"
  k_steps
  exact ret_new hret (by assumption) (by assumption) (List.mem_cons_self ..) (by kst_inAny) (by first | assumption | exact And.right (by assumption)) ⟨_, _, _, _, _, ⟨walk_fin (by assumption) (by assumption) (by assumption)⟩, rfl⟩
end

section
open PySem PySem.W PyProof.Rows
theorem rest_UFlags {prog : PySem.Program} {w : PySem.World} {A : PySem.Around} {env : PySem.Env} {Q : PySem.Flow → PySem.Shared → Prop} {E : PySem.Value → PySem.Shared → Prop} {s : PySem.Shared} (h : PySem.wpAny (PySem.model prog w) A (PySem.execs [] env) Q E s) : PySem.wpAny (PySem.model prog w) A (PySem.execs [] env) Q E s := by
  w_top off
  k_with_none
  first | (walk1; fail) | exact h
set_option maxRecDepth 100000
set_option maxHeartbeats 0
set_option pp.deepTerms false
noncomputable def flagNames : List Str := ["OPTIMIZED", "NEWLOCALS", "VARARGS", "VARKEYWORDS", "NESTED", "GENERATOR", "NOFREE", "COROUTINE", "ITERABLE_COROUTINE", "ASYNC_GENERATOR"]
noncomputable def flagName (i : Nat) : Str := if i < 10 then flagNames.getD i "" else baseText "0x" 16 (1 * 2 ^ ((i : Int)).toNat)
noncomputable def flagsOf (X i : Nat) : List Str := ((List.range i).filter (fun j => X.testBit j)).map flagName
structure FlagInv (X : Nat) (i : Nat) (f : Int) (ws : List Str) : Prop where
  val : f = ((2 ^ i * (X / 2 ^ i) : Nat) : Int)
  pos : f ≠ 0
  names : ws = flagsOf X i
structure FlagEnd (X : Nat) (ws : List Str) : Prop where
  names : ws = flagsOf X 32
theorem flag_start {X : Nat} (h : 0 < X) : FlagInv X 0 (X : Int) [] := ⟨by simp, by omega, rfl⟩
theorem and_bit (X i : Nat) : Builtin.bitAnd ((2 ^ i * (X / 2 ^ i) : Nat) : Int) (1 * 2 ^ ((i : Int)).toNat) = (((X.testBit i).toNat * 2 ^ i : Nat) : Int) := by
  have e : (1 * 2 ^ ((i : Int)).toNat : Int) = ((2 ^ i : Nat) : Int) := by simp
  rw [e, bitAnd_pp (Int.natCast_nonneg _) (Int.natCast_nonneg _), Int.toNat_natCast, Int.toNat_natCast]
  congr 1
  have hq : (2 ^ i * (X / 2 ^ i)).testBit i = X.testBit i := by
    rw [Nat.testBit_eq_decide_div_mod_eq, Nat.testBit_eq_decide_div_mod_eq, Nat.mul_div_cancel_left _ (Nat.two_pow_pos i)]
  apply Nat.eq_of_testBit_eq
  intro j
  rw [Nat.testBit_and, Nat.testBit_two_pow]
  by_cases hj : i = j
  · subst hj
    rw [hq]
    cases X.testBit i <;> simp
  · cases X.testBit i <;> simp [hj, Nat.testBit_two_pow]
theorem half_step (X i : Nat) : 2 ^ i * (X / 2 ^ i) = 2 ^ (i + 1) * (X / 2 ^ (i + 1)) + (X.testBit i).toNat * 2 ^ i := by
  have e : X / 2 ^ (i + 1) = X / 2 ^ i / 2 := by rw [Nat.pow_succ, Nat.div_div_eq_div_mul]
  rw [e, Nat.pow_succ, Nat.testBit_eq_decide_div_mod_eq]
  generalize X / 2 ^ i = q
  generalize 2 ^ i = p
  rcases Nat.mod_two_eq_zero_or_one q with h | h
  · have hq : q = 2 * (q / 2) := by omega
    rw [h]; simp
    generalize q / 2 = r at hq
    subst hq
    rw [Nat.mul_assoc]
  · have hq : q = 2 * (q / 2) + 1 := by omega
    rw [h]; simp
    generalize q / 2 = r at hq
    subst hq
    rw [Nat.mul_add, Nat.mul_assoc, Nat.mul_one]
theorem flagsOf_succ (X i : Nat) : flagsOf X (i + 1) = flagsOf X i ++ (if X.testBit i then [flagName i] else []) := by
  unfold flagsOf
  rw [List.range_succ, List.filter_append, List.map_append]
  by_cases h : X.testBit i <;> simp [h]
theorem flag_miss {X i : Nat} {f : Int} {ws : List Str} (H : FlagInv X i f ws) (h : Builtin.bitAnd f (1 * 2 ^ ((i : Int)).toNat) = 0) : FlagInv X (i + 1) f ws := by
  obtain ⟨h1, h2, h3⟩ := H
  rw [h1, and_bit] at h
  have hb : X.testBit i = false := by
    cases hq : X.testBit i with
    | false => rfl
    | true =>
      rw [hq] at h
      have h' : true.toNat * 2 ^ i = 0 := by exact_mod_cast h
      simp at h'
  refine ⟨?_, h2, ?_⟩
  · rw [h1, half_step, hb]; simp
  · rw [h3, flagsOf_succ, hb]; simp
theorem flag_xor {X i : Nat} {f : Int} {ws : List Str} (H : FlagInv X i f ws) (h : Builtin.bitAnd f (1 * 2 ^ ((i : Int)).toNat) ≠ 0) : Builtin.bitXor f (1 * 2 ^ ((i : Int)).toNat) = ((2 ^ (i + 1) * (X / 2 ^ (i + 1)) : Nat) : Int) ∧ X.testBit i = true := by
  obtain ⟨h1, h2, h3⟩ := H
  rw [bitXor_and, h1, and_bit]
  rw [h1, and_bit] at h
  have hb : X.testBit i = true := by
    cases hq : X.testBit i with
    | false => rw [hq] at h; simp at h
    | true => rfl
  refine ⟨?_, hb⟩
  have e : (1 * 2 ^ ((i : Int)).toNat : Int) = ((2 ^ i : Nat) : Int) := by simp
  rw [e, half_step, hb]
  simp only [Bool.toNat_true, Nat.one_mul]
  generalize 2 ^ (i + 1) * (X / 2 ^ (i + 1)) = a
  generalize 2 ^ i = b
  rw [Int.natCast_add]
  omega
theorem flag_hit {X i : Nat} {f : Int} {ws : List Str} (H : FlagInv X i f ws) (h : Builtin.bitAnd f (1 * 2 ^ ((i : Int)).toNat) ≠ 0) (hn : Builtin.bitXor f (1 * 2 ^ ((i : Int)).toNat) ≠ 0) : FlagInv X (i + 1) (Builtin.bitXor f (1 * 2 ^ ((i : Int)).toNat)) (ws ++ [flagName i]) := by
  obtain ⟨a, b⟩ := flag_xor H h
  refine ⟨a, hn, ?_⟩
  rw [flagsOf_succ, b, H.names]; simp
theorem flagsOf_stop (X i : Nat) (h : X / 2 ^ i = 0) : ∀ k, flagsOf X (i + k) = flagsOf X i
  | 0 => rfl
  | k + 1 => by
    have hb : X.testBit (i + k) = false := by
      rw [Nat.testBit_eq_decide_div_mod_eq]
      have : X / 2 ^ (i + k) = 0 := by rw [Nat.pow_add, ← Nat.div_div_eq_div_mul, h]; simp
      rw [this]; rfl
    rw [← Nat.add_assoc, flagsOf_succ, hb, flagsOf_stop X i h k]; simp
theorem flag_end {X i : Nat} {f : Int} {ws : List Str} (hi : i < 32) (H : FlagInv X i f ws) (h : Builtin.bitAnd f (1 * 2 ^ ((i : Int)).toNat) ≠ 0) (hn : Builtin.bitXor f (1 * 2 ^ ((i : Int)).toNat) = 0) : FlagEnd X (ws ++ [flagName i]) := by
  obtain ⟨a, b⟩ := flag_xor H h
  rw [a] at hn
  have hz : X / 2 ^ (i + 1) = 0 := by
    have := Nat.two_pow_pos (i + 1)
    have : 2 ^ (i + 1) * (X / 2 ^ (i + 1)) = 0 := by exact_mod_cast hn
    rcases Nat.mul_eq_zero.mp this with h | h
    · omega
    · exact h
  constructor
  obtain ⟨k, hk⟩ := Nat.exists_eq_add_of_le (show i + 1 ≤ 32 by omega)
  rw [hk, flagsOf_stop X (i + 1) hz k, flagsOf_succ, b, H.names]; simp
theorem flag_len {X i : Nat} {f : Int} {ws : List Str} (H : FlagInv X i f ws) (hi : i < 32) : ws.length ≤ 32 := by
  rw [H.names]
  unfold flagsOf
  rw [List.length_map]
  exact Nat.le_trans (List.length_filter_le _ _) (by rw [List.length_range]; omega)
theorem flag_over {X : Nat} {f : Int} {ws : List Str} (hX : X < 2 ^ 31) (H : FlagInv X 32 f ws) : False := by
  apply H.pos
  rw [H.val, Nat.div_eq_of_lt (by omega)]; rfl
theorem hex_len : ∀ i : Nat, i < 32 → (baseText "0x" 16 (1 * 2 ^ ((i : Int)).toNat)).length ≤ sizeLine := by
  have h : ∀ i : Fin 32, (baseText "0x" 16 (1 * 2 ^ ((i.1 : Int)).toNat)).length ≤ sizeLine := by decide +kernel
  exact fun i hi => h ⟨i, hi⟩
/-- the text under an int in a table of texts -/
noncomputable def pickD : List (Int × KTD.Dat) → Int → Option (Option Str)
  | [], _ => some none
  | (x, d) :: D, k => if k = x then (match d with | .flat (.str y) => some (some y) | _ => none) else pickD D k
theorem each_some {h : Heap} {P : Value → Prop} {els : Prop} {k : Int} {x : Str} : ∀ {D : List (Int × KTD.Dat)}, pickD D k = some (some x) → (∀ t, P (.str x t)) → KTD.Each h k P els D
  | [], e, _ => by cases e
  | (y, d) :: D, e, H => by
    unfold pickD at e
    unfold KTD.Each
    by_cases q : k = y
    · rw [if_pos q] at e
      rw [if_pos (decide_eq_true q)]
      split at e
      · cases e; exact H
      · cases e
    · rw [if_neg q] at e
      rw [if_neg (by simp [q])]
      exact each_some e H
theorem each_none {h : Heap} {P : Value → Prop} {els : Prop} {k : Int} : ∀ {D : List (Int × KTD.Dat)}, pickD D k = some none → els → KTD.Each h k P els D
  | [], _, H => H
  | (y, d) :: D, e, H => by
    unfold pickD at e
    unfold KTD.Each
    by_cases q : k = y
    · rw [if_pos q] at e
      split at e <;> cases e
    · rw [if_neg q] at e
      rw [if_neg (by simp [q])]
      exact each_none e H
theorem each_flag {h : Heap} {P : Value → Prop} {i : Nat} {D : List (Int × KTD.Dat)} (hi : i < 32) (hD : ∀ j : Fin 32, pickD D (1 * 2 ^ ((j.1 : Int)).toNat) = some (if j.1 < 10 then some (flagName j.1) else none)) (H : ∀ t, P (.str (flagName i) t)) :
    KTD.Each h (1 * 2 ^ ((i : Int)).toNat) P (KTD.Opened h P (.flat (.str (baseText "0x" 16 (1 * 2 ^ ((i : Int)).toNat))))) D := by
  have e := hD ⟨i, hi⟩
  by_cases h10 : i < 10
  · rw [if_pos h10] at e
    exact each_some e H
  · rw [if_neg h10] at e
    refine each_none e ?_
    intro t
    have := H t
    unfold flagName at this
    rw [if_neg h10] at this
    exact this
theorem rule_UFlags_1 : True := by
  k_with "call builtin:hex" => ((with_reducible refine P.hex_of_int ?_ (hex_len _ (by assumption))))
  exact trivial
theorem rule_UFlags_2 : True := by
  k_with "Each" => ((k_dflt (refine' each_flag ?hi ?hD ?_; (case hi => assumption); (case hD => decide +kernel)); intro _; (try dsimp only)))
  exact trivial
structure IsFlags (X : Nat) (y : Str) : Prop where
  eq : y = Txt.join ", " (flagsOf X 32)
theorem flagName_len : ∀ i : Nat, i < 32 → (flagName i).length ≤ 64 := by
  have h : ∀ i : Fin 32, (flagName i.1).length ≤ 64 := by decide +kernel
  exact fun i hi => h ⟨i, hi⟩
theorem sum_le {l : List Nat} {b : Nat} (h : ∀ x ∈ l, x ≤ b) : l.sum ≤ l.length * b := by
  induction l with
  | nil => simp
  | cons x r ih =>
    rw [List.sum_cons, List.length_cons, Nat.succ_mul]
    have := h x (.head _)
    have := ih fun y hy => h y (.tail _ hy)
    omega
theorem flag_weight {X : Nat} {ws : List Str} (H : FlagEnd X ws) : (ws.map (·.length)).sum + ws.length * (Str.ofString ", ").length ≤ 16777216 := by
  have hl : ws.length ≤ 32 := by
    rw [H.names]
    unfold flagsOf
    rw [List.length_map]
    exact Nat.le_trans (List.length_filter_le _ _) (by rw [List.length_range]; omega)
  have h1 : (ws.map (·.length)).sum ≤ (ws.map (·.length)).length * 64 := by
    refine sum_le fun x hx => ?_
    obtain ⟨y, hy, rfl⟩ := List.mem_map.mp hx
    rw [H.names] at hy
    obtain ⟨j, hj, rfl⟩ := List.mem_map.mp hy
    exact flagName_len j (List.mem_range.mp (List.mem_filter.mp hj).1)
  rw [List.length_map] at h1
  have h2 : (Str.ofString ", ").length = 2 := by decide +kernel
  rw [h2]
  omega
theorem flags_claim {w : World} {p : Program} {loose : List Str} {mean : ExcName → Option Value} {mg mb : Str → Option Value} (news : List (Addr × Obj)) (X : Nat) (y : Str) (tx : Tok) :
    Claim PySem.Challenge.rw_uc0020_01.row.prog w (hd.heap_39 w.params) p loose mean mg mb 10 30 (call (.ref 112) [.int (X : Int) tx]) news (0 < X ∧ X < 2 ^ 31 ∧ IsFlags X y)
      (RetStr y news) := by
  k_fill
  dsimp only [Claim, RetStr, RetInt, RetNew]; intros
  rename_i hx _ _ hret
  have hw0 : FlagInv X 0 (X : Int) [] := flag_start hx.1
  have hover : ∀ f ws, FlagInv X 32 f ws → False := fun _ _ => flag_over hx.2.1
  have hI0 : IntsAre ([] : List Value) [] := .nil
  have hS0 : StrsAre ([] : List Value) [] := .nil
  refine wpAny_call ?_
  k_dflt cell_enter
  iterate 9 (first | (k_unfold; (try dsimp only)) | (k_end; wrow_close) | walk1 | (dsimp only; walk1) | (leave1; walk_say "STEP leave1"; try dsimp only) | fail "no step")
  refine wpAny_For ?_ (by intro _; rfl)
  k_steps
  (rename Fr _ _ _ _ => lF')
  (rename News _ _ _ _ => lN')
  (rename IsRange _ _ _ _ _ _ _ _ => rgX)
  with_unfolding_all refine' range_els (n := 32) (σ := Int × Tok × List Value × List Str × Nat) (fun c => (_, W.listOf c.2.2.1.toArray c.2.2.2.2) :: news) (fun c => [("flags", .int c.1 c.2.1)]) (fun c => StrsAre c.2.2.1 c.2.2.2.1) ["flag"] (fun i c => FlagInv X i c.1 c.2.2.2.1) ((X : Int), tx, [], [], 0) ?k1 ?k2 ?k3 ?k4 rgX ?k5 ?k6 lF' ?kn hS0 ?kk hw0 ?_ ?_
  (case k1 => rfl)
  (case k2 => rfl)
  (case k3 => passes_own)
  (case k4 => rfl)
  (case k5 => decide)
  (case k6 => rfl)
  (case kn => with_unfolding_all exact lN')
  (case kk => kst_all)
  (all_goals clear lF' lN')
  · rintro ⟨f, tf, us, ws, n⟩ i t u h tk own hi hoff hS hP F N
    have kMark := kstMark
    dsimp only [kstB] at F hS hP N hoff
    simp only [Int.zero_add] at F
    simp only [List.cons_append] at N
    have hl1 := hS.length
    have hl2 := flag_len hP hi
    k_with "state" => first | exact flag_miss (by assumption) (by assumption) | exact flag_hit (by assumption) (by assumption) (by assumption)
    k_steps
    have hE := flag_end hi hP (by assumption) (by assumption)
    refine join_list (ys := ws ++ [flagName i]) (by is_list) ?hs (flag_weight hE) ?_
    (case hs => (rw [Array.toList_push]; exact StrsAre.append' hS (.cons _ _ .nil)))
    intro t' k
    k_steps
    exact ret_str hret (by assumption) (by assumption) (by kst_inAny) (by rw [hx.2.2.eq, hE.names])
  · rintro ⟨f, tf, us, ws, n⟩ u h tk hS hP F N
    exact (hover _ _ hP).elim
end

section
open PySem PySem.W PyProof.Rows
theorem rest_UWs {prog : PySem.Program} {w : PySem.World} {A : PySem.Around} {env : PySem.Env} {Q : PySem.Flow → PySem.Shared → Prop} {E : PySem.Value → PySem.Shared → Prop} {s : PySem.Shared} (h : PySem.wpAny (PySem.model prog w) A (PySem.execs [] env) Q E s) : PySem.wpAny (PySem.model prog w) A (PySem.execs [] env) Q E s := by
  w_top off
  k_with_none
  first | (walk1; fail) | exact h
set_option maxRecDepth 100000
set_option maxHeartbeats 0
set_option pp.deepTerms false
local macro_rules | `(tactic| k_room) => `(tactic| ktr_room)
local macro_rules | `(tactic| k_enter) => `(tactic| cell_enter)
/-- what __init__ reckons of a text's signs: the end of the leading blanks -/
noncomputable def bump (cnt : List Int) (b : Int) : List Int :=
  let c := if (cnt.length : Int) ≤ b then cnt ++ (List.replicate (b - cnt.length + 1).toNat [0]).flatten else cnt
  c.set b.toNat (c.getD b.toNat 0 + 1)
noncomputable def wsGo : List Nat → Int → Int → Int → List Int → Int × Int × Int × List Int
  | [], b, n, nt, cnt => (b, n, nt, cnt)
  | k :: r, b, n, nt, cnt => if k = 32 then wsGo r (b + 1) (n + 1) nt cnt else if k = 9 then wsGo r 0 (n + 1) (nt + 1) (bump cnt b) else (b, n, nt, cnt)
noncomputable def blankSign (k : Nat) : Bool := k == 32 || k == 9
structure WsInv (x : Str) (i : Nat) (b n nt : Int) (cnt : List Int) : Prop where
  go : wsGo (x.cps.toList.drop i) b n nt cnt = wsGo x.cps.toList 0 0 0 []
  b0 : 0 ≤ b
  bi : b ≤ i
  ci : cnt.length ≤ i
  il : i ≤ x.cps.size
  blank : (x.cps.toList.take i).all blankSign = true
structure WsEnd (x : Str) (b n nt : Int) (cnt : List Int) : Prop where
  go : wsGo x.cps.toList 0 0 0 [] = (b, n, nt, cnt)
theorem ws_start (x : Str) : WsInv x 0 0 0 0 [] := ⟨rfl, by omega, by simp, by simp, by simp, by simp⟩
theorem rule_UWs_1 : True := by
  k_with "exec For Name Attribute cons nil" => ((k_dflt (refine wpAny_For ?_ (by intro _; rfl))))
  exact trivial
theorem idx_lt {x : Str} {i k : Nat} (h : x.cps[i]? = some k) : i < x.length := by
  obtain ⟨h1, _⟩ := Array.getElem?_eq_some_iff.mp h
  exact h1
theorem sign_eq {k c : Nat} {x : String} (hx : (Str.ofString x).cps = #[c]) (h : ((⟨#[k]⟩ : Str) == Str.ofString x) = true) : k = c := by
  have e : (⟨#[k]⟩ : Str) = Str.ofString x := by simpa using h
  have := congrArg Str.cps e
  rw [hx] at this
  simpa using this
theorem sign_ne {k c : Nat} {x : String} (hx : (Str.ofString x).cps = #[c]) (h : ((⟨#[k]⟩ : Str) == Str.ofString x) = false) : k ≠ c := by
  rintro rfl
  have e : (⟨#[k]⟩ : Str) = Str.ofString x := by
    cases hq : Str.ofString x with
    | mk a => rw [hq] at hx; simp at hx; rw [hx]
  rw [e] at h
  simp at h
theorem drop_at {x : Str} {i k : Nat} (h : x.cps[i]? = some k) : x.cps.toList.drop i = k :: x.cps.toList.drop (i + 1) := by
  obtain ⟨h1, h2⟩ := Array.getElem?_eq_some_iff.mp h
  have := List.drop_eq_getElem_cons (l := x.cps.toList) (i := i) (by simpa using h1)
  rw [this]
  simp [h2]
theorem sp_cps : (Str.ofString " ").cps = #[32] := by decide +kernel
theorem tb_cps : (Str.ofString "\t").cps = #[9] := by decide +kernel
theorem take_blank {x : Str} {i k : Nat} (hk : x.cps[i]? = some k) (h : (x.cps.toList.take i).all blankSign = true) (hb : blankSign k = true) : (x.cps.toList.take (i + 1)).all blankSign = true := by
  have e : x.cps.toList[i]? = some k := by rw [Array.getElem?_toList]; exact hk
  rw [List.take_add_one, e, List.all_append, h]
  simp [hb]
theorem ws_space {x : Str} {i k : Nat} {b n nt : Int} {cnt : List Int} (H : WsInv x i b n nt cnt) (hk : x.cps[i]? = some k) (h : ((⟨#[k]⟩ : Str) == Str.ofString " ") = true) : WsInv x (i + 1) (b + 1) (n + 1) nt cnt := by
  have e := sign_eq sp_cps h
  obtain ⟨h1, h2, h3, h4, h5, h6⟩ := H
  have := (Array.getElem?_eq_some_iff.mp hk).1
  refine ⟨?_, by omega, by omega, by omega, by omega, take_blank hk h6 (by rw [e]; rfl)⟩
  rw [← h1, drop_at hk, wsGo, if_pos e]
theorem flat_len (k : Nat) : ((List.replicate k [(0 : Int)]).flatten).length = k := by
  induction k with
  | zero => rfl
  | succ k ih => rw [List.replicate_succ, List.flatten_cons, List.length_append, ih]; simp; omega
theorem ws_tab {x : Str} {i k : Nat} {b n nt : Int} {cnt : List Int} (H : WsInv x i b n nt cnt) (hk : x.cps[i]? = some k) (h : ((⟨#[k]⟩ : Str) == Str.ofString " ") = false) (h' : ((⟨#[k]⟩ : Str) == Str.ofString "\t") = true) :
    WsInv x (i + 1) 0 (n + 1) (nt + 1) (bump cnt b) := by
  have e := sign_eq tb_cps h'
  obtain ⟨h1, h2, h3, h4, h5, h6⟩ := H
  have := (Array.getElem?_eq_some_iff.mp hk).1
  have hl : (bump cnt b).length ≤ i + 1 := by
    unfold bump
    simp only [List.length_set]
    split
    · rw [List.length_append, flat_len]; omega
    · omega
  refine ⟨?_, by omega, by omega, hl, by omega, take_blank hk h6 (by rw [e]; rfl)⟩
  rw [← h1, drop_at hk, wsGo, if_neg (by omega), if_pos e]
theorem ws_tab_new {x : Str} {i k : Nat} {b n nt : Int} {cnt : List Int} (H : WsInv x i b n nt cnt) (hk : x.cps[i]? = some k) (h : ((⟨#[k]⟩ : Str) == Str.ofString " ") = false) (h' : ((⟨#[k]⟩ : Str) == Str.ofString "\t") = true) (hb : (cnt.length : Int) ≤ b) :
    WsInv x (i + 1) 0 (n + 1) (nt + 1) ((cnt ++ (List.replicate (b - (cnt.length : Int) + 1).toNat [0]).flatten).set b.toNat ((cnt ++ (List.replicate (b - (cnt.length : Int) + 1).toNat [0]).flatten).getD b.toNat 0 + 1)) := by
  have := ws_tab H hk h h'
  unfold bump at this
  simp only [if_pos hb] at this
  exact this
theorem ws_tab_old {x : Str} {i k : Nat} {b n nt : Int} {cnt : List Int} (H : WsInv x i b n nt cnt) (hk : x.cps[i]? = some k) (h : ((⟨#[k]⟩ : Str) == Str.ofString " ") = false) (h' : ((⟨#[k]⟩ : Str) == Str.ofString "\t") = true) (hb : ¬ (cnt.length : Int) ≤ b) :
    WsInv x (i + 1) 0 (n + 1) (nt + 1) (cnt.set b.toNat (cnt.getD b.toNat 0 + 1)) := by
  have := ws_tab H hk h h'
  unfold bump at this
  simp only [if_neg hb] at this
  exact this
theorem ws_end {x : Str} {i k : Nat} {b n nt : Int} {cnt : List Int} (H : WsInv x i b n nt cnt) (hk : x.cps[i]? = some k) (h : ((⟨#[k]⟩ : Str) == Str.ofString " ") = false) (h' : ((⟨#[k]⟩ : Str) == Str.ofString "\t") = false) : WsEnd x b n nt cnt := by
  have e1 := sign_ne sp_cps h
  have e2 := sign_ne tb_cps h'
  refine ⟨?_⟩
  rw [← H.go, drop_at hk, wsGo, if_neg e1, if_neg e2]
theorem ws_over {x : Str} {b n nt : Int} {cnt : List Int} (H : WsInv x x.cps.size b n nt cnt) (hx : x.cps.toList.all blankSign = false) : False := by
  have := H.blank
  rw [List.take_of_length_le (by simp), hx] at this
  cases this
theorem rule_UWs_2 : True := by
  k_with "R UWs 2" => (show InvG _ _ _ _ _ _)
  exact trivial
local macro_rules | `(tactic| walk_at "ws_close") => `(tactic| (k_extra "R UWs 2"; (rename News _ _ _ _ => nE'); (refine' invG_end ⟨_, _, _, _, _, _, _, _, _, _⟩ ?F ?N ?hn ?ho ?ha ⟨?hf, ?lt⟩ ?hk ?hr ?hp; (case F => assumption); (case N => exact nE'); (case hk => kst_all); (case hn => kst_inAny); (case ho => kst_anyIn); (case hf => kst_facts); (case hr => kst_same)); (try dsimp only)))
theorem rule_UWs_3 : True := by
  k_with "R UWs 3" => (k_here; (with_reducible show wpAny _ _ (call (Value.type _) [Value.ref _]) _ _ _); k_dflt (refine' kde_tupleOf ?k1 ?k2 ?k3 ?k4 ?k5 ?_; (case k1 => k_asm); (case k2 => k_asm); (case k3 => exact News.isList (by k_asm) (by k_mem)); (case k4 => (rw [List.size_toArray]; omega)); (case k5 => exact List.toList_toArray); k_whole))
  exact trivial
local macro_rules | `(tactic| walk_at "call type:tuple") => `(tactic| (k_extra "R UWs 3"; intro D' h' F' N' l1; (try k_lt l1)))
/-- what is handed on of a Whitespace: the object, its dict, the pair and the counts -/
noncomputable abbrev wsDict (w : World) (x : Str) (n nt : Int) (T : Addr) (q : Bool) (k1 k2 k3 k4 k5 t1 t2 t3 : Tok) : Obj :=
  dictOf [⟨PyData.keyHash w.params (Str.ofString "raw"), .str (Str.ofString "raw") k1, .str x t1⟩, ⟨PyData.keyHash w.params (Str.ofString "n"), .str (Str.ofString "n") k2, .int n t2⟩, ⟨PyData.keyHash w.params (Str.ofString "nt"), .str (Str.ofString "nt") k3, .int nt t3⟩,
    ⟨PyData.keyHash w.params (Str.ofString "norm"), .str (Str.ofString "norm") k4, .ref T⟩, ⟨PyData.keyHash w.params (Str.ofString "is_simple"), .str (Str.ofString "is_simple") k5, .bool q⟩] 5
noncomputable abbrev RetWs (w : World) (x : Str) (news : List (Addr × Obj)) (h₀ : Heap) (L : Addr) (m : Str → Option Value) (s : Shared) (Q : Value → Shared → Prop) : Prop :=
  ∀ (a d T C : Addr) (us : List Value) (cnt : List Int) (b n nt : Int) (q : Bool) (k1 k2 k3 k4 k5 t1 t2 t3 tb : Tok) (h' : Heap) (tk' : Nat), WsEnd x b n nt cnt → IntsAre us cnt → cnt.length ≤ 2007 → 0 ≤ b → b ≤ 2007 → Fr h₀ L h' m →
    News h₀ L h' ((T, ({ cls := .type "tuple", data := .seq #[.ref C, .int b tb] } : Obj)) :: (C, ({ cls := .type "tuple", data := .seq us.toArray } : Obj)) :: (a, instObj 100 d) :: (d, wsDict w x n nt T q k1 k2 k3 k4 k5 t1 t2 t3) :: news) → Q (.ref a) { s with heap := h', toks := tk' }
theorem ws_claim {w : World} {p : Program} {loose : List Str} {mean : ExcName → Option Value} {mg mb : Str → Option Value} (news : List (Addr × Obj)) (x : Str) (tx : Tok) :
    Claim PySem.Challenge.rw_uc0020_01.row.prog w (hd.heap_39 w.params) p loose mean mg mb 10 30 (call (.ref 100) [.str x tx]) news (x.length ≤ 2007 ∧ x.cps.all (· < 128) = true ∧ x.cps.toList.all blankSign = false)
      (RetWs w x news) := by
  k_fill
  dsimp only [Claim, RetStr, RetInt, RetNew, RetWs]; intros
  rename_i hx _ _ hret
  have hI0 : IntsAre ([] : List Value) [] := .nil
  have hS0 : StrsAre ([] : List Value) [] := .nil
  k_steps
  (rename Fr _ _ _ _ => lF')
  (rename News _ _ _ _ => lN')
  with_unfolding_all refine' text_one (σ := Addr × List Value × List Int × Nat × Int × Tok × Int × Tok × Int × Tok) _ (fun c => c.1) (fun c => W.listOf c.2.1.toArray c.2.2.2.1) (fun c => [("count", .ref c.1), ("b", .int c.2.2.2.2.1 c.2.2.2.2.2.1), ("n", .int c.2.2.2.2.2.2.1 c.2.2.2.2.2.2.2.1), ("nt", .int c.2.2.2.2.2.2.2.2.1 c.2.2.2.2.2.2.2.2.2)]) (fun c => IntsAre c.2.1 c.2.2.1) [] (fun i c => WsInv x i c.2.2.2.2.1 c.2.2.2.2.2.2.1 c.2.2.2.2.2.2.2.2.1 c.2.2.1) (_, [], [], 0, 0, _, 0, _, 0, _) ?k1 ?k2 ?k3 ?k4 hx.2.1 lF' ?kn hI0 ?klt ?kk (ws_start x) ?_ ?_
  (case kn => with_unfolding_all exact lN')
  (case k1 => rfl)
  (case k2 => rfl)
  (case k3 => passes_own)
  (case k4 => rfl)
  (case kk => kst_all)
  (case klt => (simp only [AllLt]; refine ⟨?_, ?_, ?_, ?_⟩ <;> first | omega | assumption | exact And.right (by assumption) | exact And.right (And.right (by assumption)) | exact And.right (And.right (And.right (by assumption)))))
  (all_goals (try clear lF' lN'))
  · rintro ⟨l, us, cnt, q, b, tb, n, tn, nt, tnt⟩ i k t u h tk own hk hoff hI hlt hP F N
    have kMark := kstMark
    dsimp only [kstB] at F hI hlt hP N hoff
    simp only [List.cons_append] at N
    simp only [List.map_cons] at hoff
    simp only [AllLt] at hlt
    have hl := hI.length
    have hc := hP.ci
    have hb0 := hP.b0
    have hbi := hP.bi
    have hi : i < 2007 := Nat.lt_of_lt_of_le (idx_lt hk) hx.1
    k_steps
    · walk_at "ws_close"
      (case ha => exact hoff)
      (case lt => exact hlt)
      (case hp => exact ws_space hP hk (by assumption))
    · walk_at "ws_close"
      (case ha => ((rename _ ∧ _ ∧ _ ∧ _ ∧ _ ∧ _ ∧ AllLt _ (_ ++ _) => l9); exact ownOff_new (allLt_right l9.2.2.2.2.2.2) hoff fun b hb => List.mem_cons_of_mem _ hb))
      (case lt => ((rename _ ∧ _ ∧ _ ∧ _ ∧ _ ∧ _ ∧ AllLt _ (_ ++ _) => l9); exact ⟨l9.2.2.2.1, l9.2.2.2.2.1, l9.2.2.2.2.2.1, allLt_left l9.2.2.2.2.2.2⟩))
      (case hp => exact ws_tab_new hP hk (by assumption) (by assumption) (by assumption))
    · walk_at "ws_close"
      (case ha => exact hoff)
      (case lt => exact hlt)
      (case hp => exact ws_tab_old hP hk (by assumption) (by assumption) (by assumption))
    · have hE := ws_end hP hk (by assumption) (by assumption)
      dsimp only [InvPG]
      k_steps
      exact hret _ _ _ _ us cnt b n nt _ _ _ _ _ _ _ _ _ _ _ _ hE hI (by omega) hb0 (by omega) (by assumption) (kst_newsOf (by assumption) (by kst_inAny))
  · rintro ⟨l, us, cnt, q, b, tb, n, tn, nt, tnt⟩ u h tk hI hlt hP F N
    exact (ws_over hP hx.2.2).elim
end

section
open PySem PySem.W PyProof.Rows
theorem rest_UStop {prog : PySem.Program} {w : PySem.World} {A : PySem.Around} {env : PySem.Env} {Q : PySem.Flow → PySem.Shared → Prop} {E : PySem.Value → PySem.Shared → Prop} {s : PySem.Shared} (h : PySem.wpAny (PySem.model prog w) A (PySem.execs [] env) Q E s) : PySem.wpAny (PySem.model prog w) A (PySem.execs [] env) Q E s := by
  w_top off
  k_with_none
  first | (walk1; fail) | exact h
set_option maxRecDepth 100000
set_option maxHeartbeats 0
set_option pp.deepTerms false
noncomputable def gapCodes (a : Int) : List Nat := List.replicate a.toNat 32 ++ [9]
noncomputable def rawCodes (ns : List Int) : List Nat := 9 :: (ns.flatMap gapCodes ++ [32, 32, 120, 9])
noncomputable def leadOf (ns : List Int) : Str := Txt.join (Str.ofString "") (ns.map fun a => Txt.mul (Str.ofString " ") a ++ Str.ofString "\t")
/-- a text kept as a letter -/
structure IsTxt (z x : Str) : Prop where
  eq : z = x
theorem gap_codes (a : Int) : (Txt.mul (Str.ofString " ") a ++ Str.ofString "\t").cps.toList = gapCodes a := by
  have h1 : Str.ofString " " = ⟨#[32]⟩ := by decide +kernel
  have h2 : (Str.ofString "\t").cps = #[9] := by decide +kernel
  rw [Str.cps_append, Array.toList_append, h2, h1, mul_one_list]
  rfl
theorem lead_codes1 (a : Int) : (leadOf [a]).cps.toList = [a].flatMap gapCodes := by
  rw [List.flatMap_cons, List.flatMap_nil, List.append_nil, ← gap_codes]
  rfl
theorem lead_codes2 (a b : Int) : (leadOf [a, b]).cps.toList = [a, b].flatMap gapCodes := by
  have h0 : (Str.ofString "").cps = #[] := by decide +kernel
  rw [List.flatMap_cons, List.flatMap_cons, List.flatMap_nil, List.append_nil, ← gap_codes, ← gap_codes]
  show ((Txt.mul (Str.ofString " ") a ++ Str.ofString "\t").cps ++ (Str.ofString "").cps ++ (Txt.mul (Str.ofString " ") b ++ Str.ofString "\t").cps).toList = _
  rw [h0]
  simp
theorem gap_len {a : Int} : (Txt.mul (Str.ofString " ") a ++ Str.ofString "\t").length = a.toNat + 1 := by
  have e := congrArg List.length (gap_codes a)
  rw [Array.length_toList] at e
  show (Txt.mul (Str.ofString " ") a ++ Str.ofString "\t").cps.size = _
  rw [e]; simp [gapCodes]
theorem lead_len {ns : List Int} (hc : (leadOf ns).cps.toList = ns.flatMap gapCodes) : (leadOf ns).length = (ns.map fun a => a.toNat + 1).sum := by
  have e := congrArg List.length hc
  rw [Array.length_toList] at e
  show (leadOf ns).cps.size = _
  rw [e, List.length_flatMap]
  congr 1
  exact List.map_congr_left fun a _ => by simp [gapCodes]
section
variable {prog : Program} {w : World} {A : Around} {E : Value → Shared → Prop} {s : Shared}
theorem join1 {a : Int} {t u : Tok} {D : Addr} {Q : Value → Shared → Prop} (hl : s.heap.IsList D #[.str (Txt.mul (Str.ofString " ") a ++ Str.ofString "\t") u]) (h0 : 0 ≤ a) (h1 : a < 1000)
    (h : ∀ z t' k, IsTxt z (leadOf [a]) → z.length ≤ 2002 → Q (.str z t') { s with toks := k }) : wpAny (model prog w) A (call (.builtin "str.join") [.str (Str.ofString "") t, .ref D]) Q E s :=
  join_list hl (.cons _ _ .nil) (by
    have h2 : (Str.ofString "").length = 0 := by decide +kernel
    simp only [List.map_cons, List.map_nil, List.sum_cons, List.sum_nil, gap_len, h2]
    omega) fun t' k => h _ t' k ⟨rfl⟩ (by
    show (leadOf [a]).length ≤ 2002
    rw [lead_len (lead_codes1 a)]
    simp only [List.map_cons, List.map_nil, List.sum_cons, List.sum_nil]
    omega)
theorem join2 {a b : Int} {t u v : Tok} {D : Addr} {Q : Value → Shared → Prop} (hl : s.heap.IsList D #[.str (Txt.mul (Str.ofString " ") a ++ Str.ofString "\t") u, .str (Txt.mul (Str.ofString " ") b ++ Str.ofString "\t") v]) (h0 : 0 ≤ a) (h1 : a < 1000) (h0' : 0 ≤ b) (h1' : b < 1000)
    (h : ∀ z t' k, IsTxt z (leadOf [a, b]) → z.length ≤ 2002 → Q (.str z t') { s with toks := k }) : wpAny (model prog w) A (call (.builtin "str.join") [.str (Str.ofString "") t, .ref D]) Q E s :=
  join_list hl (.cons _ _ (.cons _ _ .nil)) (by
    have h2 : (Str.ofString "").length = 0 := by decide +kernel
    simp only [List.map_cons, List.map_nil, List.sum_cons, List.sum_nil, gap_len, h2]
    omega) fun t' k => h _ t' k ⟨rfl⟩ (by
    show (leadOf [a, b]).length ≤ 2002
    rw [lead_len (lead_codes2 a b)]
    simp only [List.map_cons, List.map_nil, List.sum_cons, List.sum_nil]
    omega)
theorem add_tab {z : Str} {t u : Tok} {Q : Value → Shared → Prop} (hz : z.length ≤ 2002) (h : ∀ x t' k, IsTxt x (Str.ofString "\t" ++ z) → x.length ≤ 2003 → Q (.str x t') { s with toks := k }) : wpAny (model prog w) A (binaryOp .Add (.str (Str.ofString "\t") t) (.str z u)) Q E s := by
  have h1 : (Str.ofString "\t").length = 1 := by decide +kernel
  exact add_str (fun t' k => h _ t' k ⟨rfl⟩ (by rw [Str.length_append, h1]; omega)) (by rw [h1, sizeLine_eq]; omega)
theorem add_x {z : Str} {t u : Tok} {Q : Value → Shared → Prop} (hz : z.length ≤ 2003) (h : ∀ x t' k, IsTxt x (z ++ Str.ofString "  x\t") → x.length ≤ 2007 → Q (.str x t') { s with toks := k }) : wpAny (model prog w) A (binaryOp .Add (.str z t) (.str (Str.ofString "  x\t") u)) Q E s := by
  have h1 : (Str.ofString "  x\t").length = 4 := by decide +kernel
  exact add_str (fun t' k => h _ t' k ⟨rfl⟩ (by rw [Str.length_append, h1]; omega)) (by rw [h1, sizeLine_eq]; omega)
end
section
variable {prog : Program} {w : World} {A : Around} {E : Value → Shared → Prop} {s : Shared}
theorem len_tupI {t : Addr} {us : List Value} {ns : List Int} {Q : Value → Shared → Prop} (ht : IsTup s.heap t us.toArray) (hi : IntsAre us ns) (hfit : (ns.length : Int) < 2 ^ 63)
    (h : Q (.int (ns.length : Int) (s.toks + 1)) { s with toks := s.toks + 1 + 1 }) : wpAny (model prog w) A (call (.builtin "len") [.ref t]) Q E s := by
  have e : us.toArray.size = ns.length := by rw [List.size_toArray]; exact hi.length
  exact len_tuple ht (by rw [e]; exact hfit) (by rw [e]; exact h)
end
theorem fdiv_ok {k x b : Int} (h0 : 0 ≤ k) (h1 : k < 2 ^ 60) (hx : 0 < x) : PySem.IntMulOk (Int.fdiv k x) b := by
  have a1 := fdiv_lo h0 hx
  have a2 := fdiv_le h0 hx
  exact PySem.IntMulOk.of_left (PySem.intBits_le_64 (by omega) (by omega))
theorem raw_codes {ns : List Int} {x y z : Str} (h1 : IsTxt x (y ++ Str.ofString "  x\t")) (h2 : IsTxt y (Str.ofString "\t" ++ z)) (h3 : IsTxt z (leadOf ns)) (hc : (leadOf ns).cps.toList = ns.flatMap gapCodes) : x.cps.toList = rawCodes ns := by
  have e1 : (Str.ofString "\t").cps = #[9] := by decide +kernel
  have e2 : (Str.ofString "  x\t").cps = #[32, 32, 120, 9] := by decide +kernel
  rw [h1.eq, h2.eq, h3.eq, Str.cps_append, Str.cps_append, Array.toList_append, Array.toList_append, e1, e2, hc]
  rfl
theorem raw_pre {ns : List Int} {x : Str} (h : x.cps.toList = rawCodes ns) : x.cps.all (· < 128) = true ∧ x.cps.toList.all blankSign = false := by
  constructor
  · rw [← Array.all_toList, h]
    unfold rawCodes
    simp only [List.all_cons, List.all_append, List.all_nil, Bool.and_true]
    have : (ns.flatMap gapCodes).all (· < 128) = true := by
      rw [List.all_eq_true]
      intro k hk
      obtain ⟨a, _, hk⟩ := List.mem_flatMap.mp hk
      unfold gapCodes at hk
      rcases List.mem_append.mp hk with hk | hk
      · rw [List.eq_of_mem_replicate hk]; rfl
      · rw [List.mem_singleton.mp hk]; rfl
    rw [this]; rfl
  · rw [h]
    unfold rawCodes
    simp [blankSign]
noncomputable def levelF (size : Int) (cnt : List Int) (b nt : Int) : Int := b + size * ((((rangeKs size ((cnt.length : Int) - size).toNat).map fun i => Int.fdiv i size * cnt.getD i.toNat 0).sum) + nt)
noncomputable def stopF (size : Int) (ns : List Int) : Int := match wsGo (rawCodes ns) 0 0 0 [] with | (b, _, nt, cnt) => levelF size cnt b nt - size - 2
structure LevelInv (size : Int) (cnt : List Int) (pre : List Int) (il : Int) : Prop where
  eq : il = (pre.map fun i => Int.fdiv i size * cnt.getD i.toNat 0).sum
theorem level_start (size : Int) (cnt : List Int) : LevelInv size cnt [] 0 := ⟨rfl⟩
theorem level_turn {size : Int} {cnt pre : List Int} {il k : Int} (H : LevelInv size cnt pre il) : LevelInv size cnt (pre ++ [k]) (il + Int.fdiv k size * cnt.getD k.toNat 0) := ⟨by rw [H.eq]; simp⟩
theorem stop_is {size b n nt il : Int} {x : Str} {ns cnt : List Int} (hc : x.cps.toList = rawCodes ns) (hE : WsEnd x b n nt cnt) (H : LevelInv size cnt (rangeKs size ((cnt.length : Int) - size).toNat) il) : b + size * (il + nt) - size - 2 = stopF size ns := by
  have := hE.go
  rw [hc] at this
  unfold stopF
  rw [this]
  dsimp only
  unfold levelF
  rw [← H.eq]
section
theorem compEnd_tail1 {h₀ : Heap} {L I C D : Addr} {m : Str → Option Value} {s₁ : Shared} {oI oC oD : Obj} {S : List (Addr × Obj) → Prop} {rest : Value → List (Addr × Obj) → Prop} {y : Value} {h' : Heap} {tk : Nat} {news' : List (Addr × Obj)}
    (F : Fr h₀ L h' m) (N : News h₀ L h' ((I, oI) :: (C, oC) :: (D, oD) :: news')) (off : LCg.Off3 I C D news') (hS : S news') (r : rest y news') :
    LCg.CompEnd h₀ L m s₁ I oI C oC D oD S rest y { s₁ with heap := h', toks := tk } := LCg.CompEnd.intro F N news' (fun _ hp => hp) off hS r
local macro_rules | `(tactic| lcg_off) => `(tactic| first | assumption | exact And.right (by assumption))
theorem rule_UStop_1 : True := by
  k_with "CompEnd" => ((k_dflt (refine' compEnd_tail1 ?kF ?kN ?kO ?kS ?_; (case kF => assumption); (case kN => assumption); (case kO => first | assumption | lcg_off); (case kS => lcg_src))))
  exact trivial
theorem rule_UStop_2 : True := by
  k_with "call builtin:str.join" => ((k_here; k_dflt (refine' join1 ?hl ?h0 ?h1 ?_; (case hl => is_list); (case h0 => assumption); (case h1 => assumption)); intro _ _ _ _ _; (try dsimp only)))
  exact trivial
theorem rule_UStop_3 : True := by
  k_with "binaryOp Add str str" => ((k_here; with_reducible (refine' add_tab ?h0 ?_; (case h0 => assumption)); intro _ _ _ _ _; (try dsimp only)))
  exact trivial
theorem rule_UStop_4 : True := by
  k_with "binaryOp Add str str" => ((k_here; with_reducible (refine' add_x ?h0 ?_; (case h0 => assumption)); intro _ _ _ _ _; (try dsimp only)))
  exact trivial
theorem rule_UStop_5 : True := by
  k_with "R UStop 5" => (refine' code_def ?k1 ?k2 ?k3 ?k4 ?k5 ?kA ?kF ?kK ?k6 ?k7 ?k8 ?k9 ?kB ?_ ?c2 ?c3 ?c4 ?c5; (case kA => exact rfl); (case kF => exact rfl); (case kK => first | exact rfl | assumption); (case k1 => k_asm); (case k2 => k_asm); (case k3 => k_asm); (case k4 => k_asm); (case k5 => k_asm); (case k6 => k_is); (case k7 => k_is); (case k8 => ktr_room); (case k9 => exact BindsTo.of_eq rfl); (case c5 => decide); (case kB => exact locs rfl); (case c2 => exact rfl); (case c3 => exact rfl); (case c4 => exact rfl); k_whole)
  exact trivial
local macro_rules | `(tactic| walk_at "enterM") => `(tactic| (k_extra "R UStop 5"; intro g' L' h' FG' F' N' B' X' T'; (try dsimp only); (try k_lift B'); (try k_fold)))
theorem rule_UStop_6 : True := by
  k_with "call builtin:len" => ((k_here; (with_reducible show wpAny _ _ (call (Value.builtin _) [Value.ref _]) _ _ _); k_dflt (refine' len_tupI ?h1 ?h2 ?h3 ?_; (case h1 => exact News.isTup (by k_asm) (by k_mem)); (case h2 => assumption); (case h3 => omega)); (try dsimp only)))
  exact trivial
theorem rule_UStop_7 : True := by
  k_with "subscriptTail Name Name ref int" => ((k_here; (with_reducible show wpAny _ _ (subscriptTail _ _ (Value.ref _) (Value.int _ _)) _ _ _); k_dflt (refine' item_tuple_ints ?h1 ?h2 ?h3 ?h4 ?h5 ?_; (case h1 => exact News.isTup (by k_asm) (by k_mem)); (case h2 => assumption); (case h3 => omega); (case h4 => omega); (case h5 => omega)); intro _))
  exact trivial
theorem rule_UStop_8 : True := by
  k_with "binaryOp Mult int int" => ((k_here; (with_reducible show wpAny _ _ (binaryOp _ (Value.int (Int.fdiv _ _) _) _) _ _ _); k_dflt (refine' mul_int ?_ (fdiv_ok ?h0 ?h1 ?h2); (case h0 => omega); (case h1 => omega); (case h2 => omega))))
  exact trivial
theorem stop1_claim {w : World} {p : Program} {loose : List Str} {mean : ExcName → Option Value} {mg mb : Str → Option Value} (news : List (Addr × Obj)) (x a : Int) (tx ta : Tok) (r : Addr) (n0 : Nat) :
    Claim PySem.Challenge.rw_uc0020_01.row.prog w (hd.heap_39 w.params) p loose mean mg mb 20 60 (call (.ref 197) [.int x tx, .ref r]) ((r, W.listOf #[.int a ta] n0) :: news) (0 < x ∧ x < 2 ^ 20 ∧ 0 ≤ a ∧ a < 1000)
      (RetInt (stopF x [a]) ((r, W.listOf #[.int a ta] n0) :: news)) := by
  k_fill
  dsimp only [Claim, RetStr, RetInt, RetNew]; intros
  rename_i hx _ _ hret
  obtain ⟨hx1, hx2, ha1, ha2⟩ := hx
  have hI0 : IntsAre ([] : List Value) [] := .nil
  have hS0 : StrsAre ([] : List Value) [] := .nil
  refine wpAny_call ?_
  k_dflt cell_enter
  k_steps
  (rename IsTxt _ (_ ++ Str.ofString "  x\t") => hT1)
  (rename IsTxt _ (Str.ofString "\t" ++ _) => hT2)
  (rename IsTxt _ (leadOf _) => hT3)
  (rename Str.length _ ≤ 2007 => hT4)
  have hc := raw_codes hT1 hT2 hT3 (lead_codes1 _)
  refine' ws_claim _ _ _ _ _ _ _ _ _ _ _ _ _ _ _ _ _ _ _ _ ?kB ?kF ?kK ?kN ?kT ?kc ⟨hT4, raw_pre hc⟩ ?kd ?ku ?_
  (case kB => k_asm)
  (case kF => k_asm)
  (case kK => k_asm)
  (case kN => k_asm)
  (case kT => k_asm)
  (case kc => exact rfl)
  (case kd => ktr_room)
  (case ku => ktr_units)
  dsimp only [RetWs]
  intro aW dW T C us cnt bb nn nt q k1 k2 k3 k4 k5 t1 t2 t3 tb' h9 tk9 hE hI hcl hb0 hb1 F9 N9
  have hul := hI.length
  k_steps
  refine wpAny_call ?_
  k_dflt (walk_at "enterM")
  k_with "pyIter ref" => k_state (fun pre il => LevelInv x cnt pre il) "il"
  k_with "state" => first | exact level_start _ _ | exact level_turn (by assumption)
  k_steps
  exact ret_int hret (by assumption) (by assumption) (by kst_inAny) (stop_is hc hE (by assumption))
end
section
theorem compEnd_tail2 {h₀ : Heap} {L I C D : Addr} {m : Str → Option Value} {s₁ : Shared} {oI oC oD : Obj} {S : List (Addr × Obj) → Prop} {rest : Value → List (Addr × Obj) → Prop} {y : Value} {h' : Heap} {tk : Nat} {news' : List (Addr × Obj)}
    (F : Fr h₀ L h' m) (N : News h₀ L h' ((I, oI) :: (C, oC) :: (D, oD) :: news')) (off : LCg.Off3 I C D news') (hS : S news') (r : rest y news') :
    LCg.CompEnd h₀ L m s₁ I oI C oC D oD S rest y { s₁ with heap := h', toks := tk } := LCg.CompEnd.intro F N news' (fun _ hp => hp) off hS r
local macro_rules | `(tactic| lcg_off) => `(tactic| first | assumption | exact And.right (by assumption))
theorem rule_UStop_9 : True := by
  k_with "CompEnd" => ((k_dflt (refine' compEnd_tail2 ?kF ?kN ?kO ?kS ?_; (case kF => assumption); (case kN => assumption); (case kO => first | assumption | lcg_off); (case kS => lcg_src))))
  exact trivial
theorem rule_UStop_10 : True := by
  k_with "call builtin:str.join" => ((k_here; k_dflt (refine' join2 ?hl ?h0 ?h1 ?h2 ?h3 ?_; (case hl => is_list); (case h0 => assumption); (case h1 => assumption); (case h2 => assumption); (case h3 => assumption)); intro _ _ _ _ _; (try dsimp only)))
  exact trivial
theorem rule_UStop_11 : True := by
  k_with "binaryOp Add str str" => ((k_here; with_reducible (refine' add_tab ?h0 ?_; (case h0 => assumption)); intro _ _ _ _ _; (try dsimp only)))
  exact trivial
theorem rule_UStop_12 : True := by
  k_with "binaryOp Add str str" => ((k_here; with_reducible (refine' add_x ?h0 ?_; (case h0 => assumption)); intro _ _ _ _ _; (try dsimp only)))
  exact trivial
theorem rule_UStop_13 : True := by
  k_with "R UStop 13" => (refine' code_def ?k1 ?k2 ?k3 ?k4 ?k5 ?kA ?kF ?kK ?k6 ?k7 ?k8 ?k9 ?kB ?_ ?c2 ?c3 ?c4 ?c5; (case kA => exact rfl); (case kF => exact rfl); (case kK => first | exact rfl | assumption); (case k1 => k_asm); (case k2 => k_asm); (case k3 => k_asm); (case k4 => k_asm); (case k5 => k_asm); (case k6 => k_is); (case k7 => k_is); (case k8 => ktr_room); (case k9 => exact BindsTo.of_eq rfl); (case c5 => decide); (case kB => exact locs rfl); (case c2 => exact rfl); (case c3 => exact rfl); (case c4 => exact rfl); k_whole)
  exact trivial
local macro_rules | `(tactic| walk_at "enterM") => `(tactic| (k_extra "R UStop 13"; intro g' L' h' FG' F' N' B' X' T'; (try dsimp only); (try k_lift B'); (try k_fold)))
theorem rule_UStop_14 : True := by
  k_with "call builtin:len" => ((k_here; (with_reducible show wpAny _ _ (call (Value.builtin _) [Value.ref _]) _ _ _); k_dflt (refine' len_tupI ?h1 ?h2 ?h3 ?_; (case h1 => exact News.isTup (by k_asm) (by k_mem)); (case h2 => assumption); (case h3 => omega)); (try dsimp only)))
  exact trivial
theorem rule_UStop_15 : True := by
  k_with "subscriptTail Name Name ref int" => ((k_here; (with_reducible show wpAny _ _ (subscriptTail _ _ (Value.ref _) (Value.int _ _)) _ _ _); k_dflt (refine' item_tuple_ints ?h1 ?h2 ?h3 ?h4 ?h5 ?_; (case h1 => exact News.isTup (by k_asm) (by k_mem)); (case h2 => assumption); (case h3 => omega); (case h4 => omega); (case h5 => omega)); intro _))
  exact trivial
theorem rule_UStop_16 : True := by
  k_with "binaryOp Mult int int" => ((k_here; (with_reducible show wpAny _ _ (binaryOp _ (Value.int (Int.fdiv _ _) _) _) _ _ _); k_dflt (refine' mul_int ?_ (fdiv_ok ?h0 ?h1 ?h2); (case h0 => omega); (case h1 => omega); (case h2 => omega))))
  exact trivial
theorem stop2_claim {w : World} {p : Program} {loose : List Str} {mean : ExcName → Option Value} {mg mb : Str → Option Value} (news : List (Addr × Obj)) (x a b : Int) (tx ta tb : Tok) (r : Addr) (n0 : Nat) :
    Claim PySem.Challenge.rw_uc0020_01.row.prog w (hd.heap_39 w.params) p loose mean mg mb 20 60 (call (.ref 197) [.int x tx, .ref r]) ((r, W.listOf #[.int a ta, .int b tb] n0) :: news) (0 < x ∧ x < 2 ^ 20 ∧ 0 ≤ a ∧ a < 1000 ∧ 0 ≤ b ∧ b < 1000)
      (RetInt (stopF x [a, b]) ((r, W.listOf #[.int a ta, .int b tb] n0) :: news)) := by
  k_fill
  dsimp only [Claim, RetStr, RetInt, RetNew]; intros
  rename_i hx _ _ hret
  obtain ⟨hx1, hx2, ha1, ha2, hb1, hb2⟩ := hx
  have hI0 : IntsAre ([] : List Value) [] := .nil
  have hS0 : StrsAre ([] : List Value) [] := .nil
  refine wpAny_call ?_
  k_dflt cell_enter
  k_steps
  (rename IsTxt _ (_ ++ Str.ofString "  x\t") => hT1)
  (rename IsTxt _ (Str.ofString "\t" ++ _) => hT2)
  (rename IsTxt _ (leadOf _) => hT3)
  (rename Str.length _ ≤ 2007 => hT4)
  have hc := raw_codes hT1 hT2 hT3 (lead_codes2 _ _)
  refine' ws_claim _ _ _ _ _ _ _ _ _ _ _ _ _ _ _ _ _ _ _ _ ?kB ?kF ?kK ?kN ?kT ?kc ⟨hT4, raw_pre hc⟩ ?kd ?ku ?_
  (case kB => k_asm)
  (case kF => k_asm)
  (case kK => k_asm)
  (case kN => k_asm)
  (case kT => k_asm)
  (case kc => exact rfl)
  (case kd => ktr_room)
  (case ku => ktr_units)
  dsimp only [RetWs]
  intro aW dW T C us cnt bb nn nt q k1 k2 k3 k4 k5 t1 t2 t3 tb' h9 tk9 hE hI hcl hb0 hb1 F9 N9
  have hul := hI.length
  k_steps
  refine wpAny_call ?_
  k_dflt (walk_at "enterM")
  k_with "pyIter ref" => k_state (fun pre il => LevelInv x cnt pre il) "il"
  k_with "state" => first | exact level_start _ _ | exact level_turn (by assumption)
  k_steps
  exact ret_int hret (by assumption) (by assumption) (by kst_inAny) (stop_is hc hE (by assumption))
end
end

section
open PySem PySem.W PySem.Spec PySem.Calls PyProof.Rows
theorem rest_UExt {prog : PySem.Program} {w : PySem.World} {A : PySem.Around} {env : PySem.Env} {Q : PySem.Flow → PySem.Shared → Prop} {E : PySem.Value → PySem.Shared → Prop} {s : PySem.Shared} (h : PySem.wpAny (PySem.model prog w) A (PySem.execs [] env) Q E s) : PySem.wpAny (PySem.model prog w) A (PySem.execs [] env) Q E s := by
  w_top off
  k_with_none
  first | (walk1; fail) | exact h
set_option maxRecDepth 100000
set_option maxHeartbeats 0
/-- a walk that begins behind k items -/
theorem walks_shift {prog : Program} {w : World} {A : Around} {I : Addr} {fp wr : List Addr} {G : Array GenState → Array GenState → Prop} {n : Nat} {P : Nat → Value → Prop} {St : Nat → Shared → Prop} (W : WalksS prog w A I fp wr G n P St) (k : Nat) (Pk : Nat → Value → Prop) :
    WalksS prog w A I fp wr G (k + n) (fun i v => if i < k then Pk i v else P (i - k) v) (fun i s => k ≤ i ∧ St (i - k) s) where
  sub := W.sub
  grefl := W.grefl
  gtrans := W.gtrans
  frame := fun i s h' tk st ht hk => ⟨st.1, W.frame _ s h' tk st.2 ht hk⟩
  item := fun i s Q E hi st hQ => W.item (i - k) s Q E (by have := st.1; omega) st.2 fun v s' p st' m => hQ v s' (by
      have := st.1
      rw [if_neg (by omega)]; exact p) ⟨by have := st.1; omega, by
      have e : i + 1 - k = i - k + 1 := by have := st.1; omega
      rw [e]; exact st'⟩ m
  done := fun s Q E st hQ => W.done s Q E (by
      have e : k + n - k = n := by omega
      rw [← e]; exact st.2) hQ
  self := fun i s Q E st hQ => W.self (i - k) s Q E st.2 hQ
theorem ints_of_get : ∀ {ns : List Int} {l : List Value}, l.length = ns.length → (∀ (j : Nat) (v : Value), l[j]? = some v → ∃ t, v = .int (ns.getD j 0) t) → IntsAre l ns
  | [], [], _, _ => .nil
  | n :: ns, v :: l, h, hp => by
    obtain ⟨t, e⟩ := hp 0 v (by simp)
    have e' : v = .int n t := by simpa using e
    subst e'
    exact .cons _ _ (ints_of_get (by simpa using h) fun j v hv => by
      have := hp (j + 1) v (by simpa using hv)
      simpa using this)
  | [], _ :: _, h, _ => by simp at h
  | _ :: _, [], h, _ => by simp at h
section
variable {prog : Program} {w : World} {A : Around} {E : Value → Shared → Prop} {s : Shared} {h₀ : Heap} {L S : Addr} {m : Str → Option Value} {news news' : List (Addr × Obj)}
theorem ext_range {us : List Value} {ps : List Int} {r : Addr} {a b : Int} {t u v : Tok} {n c₀ : Nat} {Q : Value → Shared → Prop} (hh : A.handled = none) (hS : s.heap.get? S = some (W.listOf us.toArray c₀)) (hi : IntsAre us ps) (hr : IsRange s.heap r a b 1 t u v)
    (hsmall : Builtin.Range.small a b 1 = true) (hn : Builtin.Range.rangeSize a b 1 = n) (hlen : ps.length + n ≤ 2 ^ 20)
    (hQ : ∀ h' tk us' c', (∀ b o, b ≠ S → s.heap.get? b = some o → h'.get? b = some o) → h'.get? S = some (W.listOf us'.toArray c') → IntsAre us' (ps ++ rangeKs a n) → Q .none { s with heap := h', toks := tk }) :
    wpAny (model prog w) A (call (.builtin "list.extend") [.ref S, .ref r]) Q E s := by
  have hSr : S ≠ r := fun e => by rw [e, hr] at hS; simp at hS
  have hSlt : S < s.heap.objs.size := Heap.lt_size hS
  have hSI : S ≠ s.heap.objs.size := Nat.ne_of_lt hSlt
  have hSf : S ∉ [s.heap.objs.size] := fun hm => hSI (List.mem_singleton.mp hm)
  have hul := hi.length
  refine wpAny_call (codeAny_call_builtin PySem.F.slot_list_extend.plain PySem.F.entry_list_extend (PySem.F.slot_list_extend.check _ _ _ _ _ _ _ _ ⟨_, hS, rfl⟩ (PySem.F.args_list_extend_2 _ _) ?_))
  have W0 := (Walks.range (prog := prog) (w := w) (A := A.in1) hh s.heap.objs.size a 1 n).toS
  have W := walks_shift W0 us.length (fun i v => us[i]? = some v)
  show wpAny _ _ (Builtin.List.listExtendWith (.ref S) (.ref r) .none) _ _ s
  have fin : ∀ (s' : Shared) (acc' : Array Value) (c' : Nat), (∀ b o, b ≠ S → s.heap.get? b = some o → s'.heap.get? b = some o) → s'.heap.get? S = some { cls := .type "list", dict := none, data := .seq acc' c', slots := #[] } →
      ItemsOf (fun i v => if i < us.length then us[i]? = some v else ∃ t, v = Value.int (a + ((i - us.length : Nat) : Int) * 1) t) acc' (us.length + n) → s' = { s with heap := s'.heap, toks := s'.toks } → Q .none s' := by
    intro s' acc' c' hk hS' hacc hs
    rw [hs]
    refine hQ s'.heap s'.toks acc'.toList c' hk (by rw [Array.toArray_toList]; exact hS') ?_
    refine ints_of_get (by rw [Array.length_toList, hacc.1, List.length_append, rangeKs_length, hul]) fun j v hv => ?_
    have hv' : acc'[j]? = some v := by rw [← Array.getElem?_toList]; exact hv
    have hp := hacc.2 j v hv'
    dsimp only at hp
    by_cases hj : j < us.length
    · rw [if_pos hj] at hp
      obtain ⟨t, e⟩ := hi.get j (ps.getD j 0) (by
        rw [List.getD_eq_getElem?_getD, List.getElem?_eq_getElem (by omega)]; rfl)
      rw [e] at hp
      refine ⟨t, ?_⟩
      rw [List.getD_eq_getElem?_getD, List.getElem?_append_left (by omega), ← List.getD_eq_getElem?_getD]
      exact (Option.some.inj hp).symm
    · rw [if_neg hj] at hp
      obtain ⟨t, e⟩ := hp
      refine ⟨t, ?_⟩
      have hjn : j < us.length + n := by
        have := (Array.getElem?_eq_some_iff.mp hv').1
        rw [hacc.1] at this
        exact this
      rw [List.getD_eq_getElem?_getD, List.getElem?_append_right (by omega), e]
      congr 1
      have hidx : j - ps.length < n := by omega
      have : (rangeKs a n)[j - ps.length]? = some (a + ((j - ps.length : Nat) : Int)) := by
        unfold rangeKs
        rw [List.getElem?_map, List.getElem?_range hidx]; rfl
      rw [this, hul]
      simp
  have key : ∀ (h : Heap) (c₁ tk : Nat), IsRangeIter h s.heap.objs.size (a + ((0 : Nat) : Int) * 1) ((n : Int) - ((0 : Nat) : Int)) 1 → (∀ b o, b ≠ S → s.heap.get? b = some o → h.get? b = some o) →
      h.get? S = some { cls := .type "list", data := .seq us.toArray c₁ } → codeAny (model prog w) A (.builtin "list.extend.loop" ⟨[.ref S, .ref s.heap.objs.size, .none], []⟩) (fun r s' => match r with | .ok (.ret v) => Q v s' | .ok _ => False | .error e => E e s') { s with heap := h, toks := tk } := by
    intro h c₁ tk hit hk hS₁
    refine codeAny_extend_loopS W (by rw [sizeLine_eq]; omega) S hSf .none n us.length _ us.toArray c₁ (by omega) (by omega) ⟨Nat.le_refl _, by rw [Nat.sub_self]; exact hit⟩ hS₁ ⟨by simp, fun j v hv => by
      have hj : j < us.length := by simpa using (Array.getElem?_eq_some_iff.mp hv).1
      dsimp only
      rw [if_pos hj]; simpa using hv⟩ fun s' acc' c' hm hS' hacc => ?_
    refine fin s' acc' c' (fun b o hb e => hm.heap b o (fun hmem => ?_) (hk b o hb e)) hS' hacc (by have e9 := Moved.eq_with hm; exact e9)
    rcases List.mem_cons.mp hmem with e' | hmem
    · exact hb e'
    · exact absurd (Heap.lt_size e) (by rw [List.mem_singleton.mp hmem]; exact Nat.lt_irrefl _)
  unfold Builtin.List.listExtendWith
  refine wpAny_bind (wpAny_typeOf (T := "range") ⟨_, hr, rfl⟩ ?_)
  have h1 : Builtin.List.listSameRef (.ref S) (.ref r) = false := by simp [Builtin.List.listSameRef, hSr]
  have h2 : (Value.type "range" == Value.type "list") = false := by decide
  have h3 : (Value.type "range" == Value.type "tuple") = false := by decide
  simp only [h1, h2, h3, Bool.or_false, Bool.false_eq_true, if_false]
  refine wpAny_bind (wpAny_pyIter_range hr hsmall ?_)
  refine wpAny_bind (wpAny_holding (wpAny_hint_range (n := n) (Heap.get?_push_of_some _ hr) hn (by omega) ?_))
  have hit₁ : IsRangeIter (s.heap.push { cls := .type "range_iterator", data := .fields #[rawInt a, rawInt (Builtin.Range.rangeSize a b 1), rawInt 1] }) s.heap.objs.size (a + ((0 : Nat) : Int) * 1) ((n : Int) - ((0 : Nat) : Int)) 1 := by
    show IsRangeIter _ _ _ _ _; rw [hn]; simpa using Heap.get?_push_size _ rfl
  have hS₁ := Heap.get?_push_of_some { cls := .type "range_iterator", data := .fields #[rawInt a, rawInt (Builtin.Range.rangeSize a b 1), rawInt 1] } hS
  refine wpAny_ite_split (fun _ => ?_) (fun _ => wpAny_pure ⟨plainId_quiet F.plain_extend_loop _, key _ c₀ _ hit₁ (fun b o _ e => Heap.get?_push_of_some _ e) hS₁⟩)
  refine wpAny_bind (wpAny_rule ?_)
  refine wpAny_bind ?_
  show wpAny _ _ (updateSeq S (·.push .none) >>= fun _ => updateSeq S (·.pop)) _ _ _
  refine wpAny_bind (wpAny_updateSeq hS₁ rfl ?_ (by rw [List.size_toArray, sizeLine_eq]; omega) (by show (us.toArray.push Value.none).size ≤ sizeLine + 1; rw [Array.size_push, List.size_toArray, sizeLine_eq]; omega))
  have hS₂ := Heap.get?_update_self (Obj.mapSeq (·.push Value.none)) hS₁ rfl
  refine wpAny_updateSeq hS₂ rfl ?_ (by show (us.toArray.push Value.none).size ≤ sizeLine; rw [Array.size_push, List.size_toArray, sizeLine_eq]; omega) (by show ((us.toArray.push Value.none).pop).size ≤ sizeLine + 1; rw [Array.size_pop, Array.size_push, List.size_toArray, sizeLine_eq]; omega)
  have hS₃ := Heap.get?_update_self (Obj.mapSeq (·.pop)) hS₂ rfl
  obtain ⟨c₁, hc₁⟩ : ∃ c₁, Obj.mapSeq (·.pop) (Obj.mapSeq (·.push Value.none) (PySem.W.listOf us.toArray c₀)) = { cls := .type "list", data := .seq us.toArray c₁ } := by
    have e : ∃ k, Obj.mapSeq (·.pop) (Obj.mapSeq (·.push Value.none) (PySem.W.listOf us.toArray c₀)) = (⟨Value.type "list", none, .seq ((us.toArray.push Value.none).pop) k, #[]⟩ : Obj) := ⟨_, rfl⟩
    obtain ⟨k, e⟩ := e
    exact ⟨k, by rw [e, Array.pop_push]⟩
  rw [hc₁] at hS₃
  refine wpAny_pure ⟨plainId_quiet F.plain_extend_loop _, key _ c₁ _ ?_ (fun b o hb e => ?_) hS₃⟩
  · exact (Heap.get?_update_other _ _ hSI).trans ((Heap.get?_update_other _ _ hSI).trans hit₁)
  · exact (Heap.get?_update_other _ _ (Ne.symm hb)).trans ((Heap.get?_update_other _ _ (Ne.symm hb)).trans (Heap.get?_push_of_some _ e))
theorem ext_rangeK {us : List Value} {ps : List Int} {r : Addr} {a b : Int} {t u v : Tok} {n c₀ : Nat} {rest : List (Addr × Obj)} {Q : Value → Shared → Prop} (hh : A.handled = none) (F : Fr h₀ L s.heap m) (N : News h₀ L s.heap news) (hm : (S, PySem.W.listOf us.toArray c₀) ∈ news)
    (hi : IntsAre us ps) (hr : IsRange s.heap r a b 1 t u v) (hsmall : Builtin.Range.small a b 1 = true) (hn : Builtin.Range.rangeSize a b 1 = n) (hlen : ps.length + n ≤ 2 ^ 20) (hs : ∀ p ∈ rest, p ∈ news) (hlt : ∀ p ∈ rest, p.1 < S)
    (hQ : ∀ h' tk us' c', Fr h₀ L h' m → News h₀ L h' ((S, PySem.W.listOf us'.toArray c') :: rest) → IntsAre us' (ps ++ rangeKs a n) → Q .none { s with heap := h', toks := tk }) :
    wpAny (model prog w) A (call (.builtin "list.extend") [.ref S, .ref r]) Q E s := by
  obtain ⟨hS, hSL, hS0⟩ := N _ hm
  refine ext_range hh hS hi hr hsmall hn hlen fun h' tk us' c' hk hS' hI => hQ h' tk us' c' ?_ ?_ hI
  · refine ⟨F.ns.at' fun o e => hk L o (fun q => hSL q.symm) e, fun b o e => hk b o (fun q => ?_) (F.keep b o e), F.above⟩
    rw [q] at e
    rw [hS0] at e
    cases e
  · intro p hp
    rcases List.mem_cons.mp hp with rfl | hp
    · exact ⟨hS', hSL, hS0⟩
    · obtain ⟨a1, a2, a3⟩ := N p (hs p hp)
      exact ⟨hk _ _ (Nat.ne_of_lt (hlt p hp)) a1, a2, a3⟩
end
end

section
open PySem PySem.W PyProof.Rows
theorem rest_UPlaces {prog : PySem.Program} {w : PySem.World} {A : PySem.Around} {env : PySem.Env} {Q : PySem.Flow → PySem.Shared → Prop} {E : PySem.Value → PySem.Shared → Prop} {s : PySem.Shared} (h : PySem.wpAny (PySem.model prog w) A (PySem.execs [] env) Q E s) : PySem.wpAny (PySem.model prog w) A (PySem.execs [] env) Q E s := by
  w_top off
  k_with_none
  first | (walk1; fail) | exact h
set_option maxRecDepth 100000
set_option maxHeartbeats 0
set_option pp.deepTerms false
structure PlOk (o u p : Int) (ps : List Int) : Prop where
  o0 : 0 < o
  u0 : 0 < u
  o1 : o < 1000
  u1 : u < 1000
  p0 : 0 ≤ p
  p1 : p < 1000
  l1 : ps.length < 1000
noncomputable def plOk (o u p : Int) (ps : List Int) : Bool := decide (0 < o) && decide (0 < u) && decide (o < 1000) && decide (u < 1000) && decide (0 ≤ p) && decide (p < 1000) && decide (ps.length < 1000)
theorem plOk_of {o u p : Int} {ps : List Int} (h : plOk o u p ps = true) : PlOk o u p ps := by
  simp only [plOk, Bool.and_eq_true, decide_eq_true_eq] at h
  obtain ⟨⟨⟨⟨⟨⟨h1, h2⟩, h3⟩, h4⟩, h5⟩, h6⟩, h7⟩ := h
  exact ⟨h1, h2, h3, h4, h5, h6, h7⟩
/-- how often the less goes into the more, told by a tab stop -/
noncomputable def timesF (u o : Int) : Int := Int.fdiv (stopF u [o - 1]) u - 1
noncomputable def placesRun : Nat → Int → Int → Int → List Int → Option (List Int)
  | 0, _, _, _, _ => none
  | f + 1, o, u, p, ps =>
    if plOk o u p ps = true then
      if o = u then some (ps ++ [p])
      else if u < o then
        if 0 < timesF u o ∧ timesF u o < 1000 then placesRun f (o - timesF u o * u) u (p + timesF u o) (ps ++ rangeKs p (timesF u o).toNat) else none
      else
        if 0 < timesF o u ∧ timesF o u < 1000 then placesRun f o (u - timesF o u * o) (p + timesF o u) ps else none
    else none
structure PlInv (ys : List Int) (o u p : Int) (ps : List Int) : Prop where
  run : ∃ f, placesRun f o u p ps = some ys
theorem pl_ok {ys : List Int} {o u p : Int} {ps : List Int} (H : PlInv ys o u p ps) : PlOk o u p ps := by
  obtain ⟨f, h⟩ := H.run
  cases f with
  | zero => cases h
  | succ f =>
    rw [placesRun] at h
    by_cases hk : plOk o u p ps = true
    · exact plOk_of hk
    · rw [if_neg hk] at h; cases h
theorem pl_end {ys : List Int} {o u p : Int} {ps : List Int} (H : PlInv ys o u p ps) (e : o = u) : ys = ps ++ [p] := by
  obtain ⟨f, h⟩ := H.run
  cases f with
  | zero => cases h
  | succ f =>
    rw [placesRun] at h
    by_cases hk : plOk o u p ps = true
    · rw [if_pos hk, if_pos e] at h; exact (Option.some.inj h).symm
    · rw [if_neg hk] at h; cases h
theorem pl_more {ys : List Int} {o u p : Int} {ps : List Int} (H : PlInv ys o u p ps) (e : u < o) : 0 < timesF u o ∧ timesF u o < 1000 ∧ PlInv ys (o - timesF u o * u) u (p + timesF u o) (ps ++ rangeKs p (timesF u o).toNat) := by
  obtain ⟨f, h⟩ := H.run
  cases f with
  | zero => cases h
  | succ f =>
    rw [placesRun] at h
    by_cases hk : plOk o u p ps = true
    · rw [if_pos hk, if_neg (by omega), if_pos e] at h
      by_cases hq : 0 < timesF u o ∧ timesF u o < 1000
      · rw [if_pos hq] at h; exact ⟨hq.1, hq.2, ⟨f, h⟩⟩
      · rw [if_neg hq] at h; cases h
    · rw [if_neg hk] at h; cases h
theorem pl_less {ys : List Int} {o u p : Int} {ps : List Int} (H : PlInv ys o u p ps) (e : ¬ u < o) (e' : ¬ o = u) : 0 < timesF o u ∧ timesF o u < 1000 ∧ PlInv ys o (u - timesF o u * o) (p + timesF o u) ps := by
  obtain ⟨f, h⟩ := H.run
  cases f with
  | zero => cases h
  | succ f =>
    rw [placesRun] at h
    by_cases hk : plOk o u p ps = true
    · rw [if_pos hk, if_neg e', if_neg e] at h
      by_cases hq : 0 < timesF o u ∧ timesF o u < 1000
      · rw [if_pos hq] at h; exact ⟨hq.1, hq.2, ⟨f, h⟩⟩
      · rw [if_neg hq] at h; cases h
    · rw [if_neg hk] at h; cases h
theorem pl_m1 {ys : List Int} {o u p : Int} {ps : List Int} (H : PlInv ys o u p ps) (e : u < o) : (o - timesF u o * u + u).toNat < (o + u).toNat := by
  have h1 := (pl_more H e).1
  have h2 := pl_ok H
  have h3 := Int.mul_pos h1 h2.u0
  have h4 := h2.o0
  have h5 := h2.u0
  generalize timesF u o * u = q at *
  omega
theorem pl_m2 {ys : List Int} {o u p : Int} {ps : List Int} (H : PlInv ys o u p ps) (e : ¬ u < o) (e' : ¬ o = u) : (o + (u - timesF o u * o)).toNat < (o + u).toNat := by
  have h1 := (pl_less H e e').1
  have h2 := pl_ok H
  have h3 := Int.mul_pos h1 h2.o0
  have h4 := h2.o0
  have h5 := h2.u0
  generalize timesF o u * o = q at *
  omega
theorem pl_ext {prog : Program} {w : World} {A : Around} {E : Value → Shared → Prop} {s : Shared} {h₀ : Heap} {L S : Addr} {m : Str → Option Value} {news rest : List (Addr × Obj)} {ys : List Int} {o u p : Int} {ps : List Int} {us : List Value} {r : Addr} {t v q : Tok} {c₀ : Nat} {Q : Value → Shared → Prop}
    (H : PlInv ys o u p ps) (e : u < o) (hh : A.handled = none) (F : Fr h₀ L s.heap m) (N : News h₀ L s.heap news) (hm : (S, W.listOf us.toArray c₀) ∈ news) (hi : IntsAre us ps) (hr : IsRange s.heap r p (p + (Int.fdiv (stopF u [o - 1]) u - 1)) 1 t v q) (hs : ∀ p ∈ rest, p ∈ news) (hlt : ∀ p ∈ rest, p.1 < S)
    (hQ : ∀ h' tk us' c', Fr h₀ L h' m → News h₀ L h' ((S, W.listOf us'.toArray c') :: rest) → IntsAre us' (ps ++ rangeKs p (timesF u o).toNat) → Q .none { s with heap := h', toks := tk }) :
    wpAny (model prog w) A (call (.builtin "list.extend") [.ref S, .ref r]) Q E s := by
  obtain ⟨h1, h2, h3, h4, h5, h6, h7⟩ := pl_ok H
  obtain ⟨g1, g2, _⟩ := pl_more H e
  have hr' : IsRange s.heap r p (p + timesF u o) 1 t v q := hr
  refine ext_rangeK (n := (timesF u o).toNat) hh F N hm hi hr' (small_one (by omega) (by omega) (by omega) (by omega)) ?_ (by omega) hs hlt hQ
  have en : (timesF u o).toNat = (p + timesF u o - p).toNat := by omega
  rw [en]
  exact rangeSize_nat _ _
theorem pl_fin {ys : List Int} {o u p : Int} {ps : List Int} {vs : List Value} (H : PlInv ys o u p ps) (e : o = u) (hi : IntsAre vs (ps ++ [p])) : IntsAre vs ys := by
  rw [pl_end H e]; exact hi
theorem rule_UPlaces_1 : True := by
  k_with "R UPlaces 1" => (k_here; (with_reducible show wpAny _ _ (call (Value.ref 197) [Value.int _ _, Value.ref _]) _ _ _); k_dflt (refine' stop1_claim _ _ _ _ _ _ _ _ _ _ _ _ _ _ _ _ _ _ _ _ _ _ _ _ ?kB ?kF ?kK ?kN ?kT ?kc ?kp ?kd ?ku ?_; (case kB => k_asm); (case kF => k_asm); (case kK => k_asm); (case kN => k_asm); (case kT => k_asm); (case kc => first | exact rfl | assumption); (case kp => exact ⟨by omega, by omega, by omega, by omega⟩); (case kd => ktr_room); (case ku => ktr_units)); dsimp only [RetInt])
  exact trivial
local macro_rules | `(tactic| walk_at "call ref") => `(tactic| (k_extra "R UPlaces 1"; intro t9 h9 tk9 F9 N9; (try dsimp only)))
theorem places_claim {w : World} {p : Program} {loose : List Str} {mean : ExcName → Option Value} {mg mb : Str → Option Value} (news : List (Addr × Obj)) (x y : Int) (ys : List Int) (tx ty : Tok) :
    Claim PySem.Challenge.rw_uc0020_01.row.prog w (hd.heap_39 w.params) p loose mean mg mb 40 100 (call (.ref 204) [.int x tx, .int y ty]) news (PlInv ys x y 0 [])
      (RetNew (fun o => ∃ us n, IntsAre us ys ∧ o = W.listOf us.toArray n) news) := by
  k_fill
  dsimp only [Claim, RetStr, RetInt, RetNew]; intros
  rename_i hx _ _ hret
  have hI0 : IntsAre ([] : List Value) [] := .nil
  have hS0 : StrsAre ([] : List Value) [] := .nil
  refine wpAny_call ?_
  k_dflt cell_enter
  k_with "exec While Compare cons nil" => k_while (fun _ o u p ps => PlInv ys o u p ps) (fun _ o u _ _ => (o + u).toNat) "over" "under" "place" "places"; (have hO9 := pl_ok (by assumption)); obtain ⟨hO1, hO2, hO3, hO4, hO5, hO6, hO7⟩ := hO9
  k_with "state" => first | exact hx | exact (pl_more (by assumption) (by assumption)).2.2 | exact (pl_less (by assumption) (by assumption) (by assumption)).2.2
  k_with "measure" => first | exact pl_m1 (by assumption) (by assumption) | exact pl_m2 (by assumption) (by assumption) (by assumption)
  k_steps
  · (rename IsRange _ _ _ _ _ _ _ _ => rgX)
    (rename ∀ p ∈ news, p.1 < _ => l9)
    refine pl_ext (rest := news) (by assumption) (by assumption) rfl (by k_asm) (by k_asm) (by k_mem) (by assumption) rgX (by kst_inAny) l9 ?_
    intro h9 tk9 us9 c9 F9 N9 I9
    (try dsimp only)
    k_steps
  · (rename IntsAre _ (_ ++ [_]) => hI9)
    (rename _ ∧ _ ∧ AllLt _ _ => l9)
    exact ret_new hret (by assumption) (by assumption) (List.mem_cons_self ..) (by kst_inAny) l9.2.2 ⟨_, _, pl_fin (by assumption) (by assumption) hI9, rfl⟩
end

section
open PySem PySem.W PySem.Spec PySem.Calls PyProof.Rows
open PySem.Builtin PySem.Builtin.Re
theorem rest_URe {prog : PySem.Program} {w : PySem.World} {A : PySem.Around} {env : PySem.Env} {Q : PySem.Flow → PySem.Shared → Prop} {E : PySem.Value → PySem.Shared → Prop} {s : PySem.Shared} (h : PySem.wpAny (PySem.model prog w) A (PySem.execs [] env) Q E s) : PySem.wpAny (PySem.model prog w) A (PySem.execs [] env) Q E s := by
  w_top off
  k_with_none
  first | (walk1; fail) | exact h
set_option maxRecDepth 100000
set_option maxHeartbeats 0
theorem slot_re_sub : Slot "re.Pattern" "sub" "re.Pattern.sub" :=
  .of (owner := "re.Pattern") (n := "sub") (by rw [typeLookup_type, builtinLookup_eq_fast]; kernel_rfl) (by decide +kernel) (by decide +kernel) (by decide +kernel)
    (by first | exact .inl (by decide +kernel) | exact .inr (by decide +kernel)) (by rw [isSubtype_type]; kernel_rfl)
theorem type_re_sub : typeOf (.builtin "re.Pattern.sub") = pure (.type "method_descriptor") := by show builtinType _ = _; rw [builtinType_eq_fast]; kernel_rfl
theorem entry_re_sub : entryFor table "re.Pattern.sub" = some Builtin.«re.Pattern.sub» := entryFor_of_fast (by kernel_rfl)
theorem entry_re_loop : entryFor table "re.Pattern.sub.loop" = some Builtin.«re.Pattern.sub.loop» := entryFor_of_fast (by kernel_rfl)
theorem plain_re_loop : plainId "re.Pattern.sub.loop" = true := by decide +kernel
theorem args_re_sub (a b c : Value) : argsOk "re.Pattern.sub" ⟨[a, b, c], []⟩ := by
  unfold argsOk
  kernel_rfl
theorem plainAttrs_re : PlainAttrs "re.Pattern" :=
  ⟨⟨"object.__getattribute__", by rw [typeLookup_type, builtinLookup_eq_fast]; kernel_rfl, by decide +kernel⟩, by rw [typeLookup_type, builtinLookup_eq_fast]; kernel_rfl⟩
/-- the machine's run, in so many turns -/
noncomputable def driveF : Nat → Sre.M → Option Sre.M
  | 0, _ => none
  | k + 1, m => if (m.runFor reTurnSteps).outcome.isSome then some (m.runFor reTurnSteps) else driveF k (m.runFor reTurnSteps)
noncomputable def findF (code text : Array Nat) (groups start lim : Nat) (must : Bool) : Option (Option Sre.M) :=
  match driveF 64 (Sre.forSearch code text groups start lim must) with
  | none => none
  | some m => match m.outcome with
    | some .matched => some (some m)
    | some .failed => some none
    | _ => none
section
variable {M : Model} {A : Around} {E : Value → Shared → Prop} {s : Shared}
theorem wp_drive {Q : Sre.M → Shared → Prop} {m' : Sre.M} : ∀ (k turns : Nat) (m : Sre.M), driveF k m = some m' → k ≤ turns → Q m' s → wpAny M A (reDrive turns m) Q E s
  | 0, _, _, h, _, _ => by cases h
  | k + 1, 0, _, _, h, _ => absurd h (Nat.not_succ_le_zero _)
  | k + 1, turns + 1, m, h, hk, hQ => by
    unfold driveF at h
    show wpAny M A (if (m.runFor reTurnSteps).outcome.isSome then pure (m.runFor reTurnSteps) else (rule "sre.turn" >>= fun _ => reDrive turns (m.runFor reTurnSteps))) Q E s
    by_cases hq : (m.runFor reTurnSteps).outcome.isSome = true
    · rw [if_pos hq] at h ⊢
      cases h
      exact wpAny_pure hQ
    · rw [if_neg hq] at h ⊢
      exact wpAny_bind (wpAny_rule (wp_drive k turns _ h (Nat.le_of_succ_le_succ hk) hQ))
theorem wp_marks {Q : PUnit → Shared → Prop} {p : Nat → Bool} {f : Nat → String} (hQ : Q PUnit.unit s) : ∀ l : List Nat, wpAny M A (forIn l PUnit.unit fun i (_ : PUnit) => (if p i = true then (rule (f i) >>= fun _ => pure (ForInStep.yield PUnit.unit)) else pure (ForInStep.yield PUnit.unit) : Sem (ForInStep PUnit))) Q E s
  | [] => by rw [List.forIn_nil]; exact wpAny_pure hQ
  | i :: l => by
    rw [List.forIn_cons]
    refine wpAny_bind ?_
    by_cases hp : p i = true
    · rw [if_pos hp]
      exact wpAny_bind (wpAny_rule (wpAny_pure (wp_marks hQ l)))
    · rw [if_neg hp]
      exact wpAny_pure (wp_marks hQ l)
theorem wp_found {Q : Option Sre.M → Shared → Prop} {m m' : Sre.M} (h : driveF 64 m = some m') (hm : m'.outcome = some .matched) (hQ : Q (some m') s) : wpAny M A (reRunToEnd m) Q E s := by
  unfold reRunToEnd
  refine wpAny_bind (wp_drive 64 _ m h (by decide) ?_)
  refine wpAny_bind (wp_marks ?_ _)
  rw [hm]
  exact wpAny_pure hQ
theorem wp_none {Q : Option Sre.M → Shared → Prop} {m m' : Sre.M} (h : driveF 64 m = some m') (hm : m'.outcome = some .failed) (hQ : Q none s) : wpAny M A (reRunToEnd m) Q E s := by
  unfold reRunToEnd
  refine wpAny_bind (wp_drive 64 _ m h (by decide) ?_)
  refine wpAny_bind (wp_marks ?_ _)
  rw [hm]
  exact wpAny_pure hQ
theorem wp_next {Q : Option Sre.M → Shared → Prop} {t : ReTarget} {start : Nat} {must : Bool} {r : Option Sre.M} (h : findF t.code t.text t.groups start t.lim must = some r) (hQ : Q r s) : wpAny M A (reNextFound t start must) Q E s := by
  unfold findF at h
  unfold reNextFound
  cases hd : driveF 64 (Sre.forSearch t.code t.text t.groups start t.lim must) with
  | none => rw [hd] at h; cases h
  | some m =>
    rw [hd] at h
    dsimp only at h
    cases ho : m.outcome with
    | none => rw [ho] at h; cases h
    | some o =>
      rw [ho] at h
      cases o with
      | matched => cases h; exact wp_found hd ho hQ
      | failed => cases h; exact wp_none hd ho hQ
      | stuck why => cases h
end
/-- the pattern's object and its words -/
structure Pat (h : Heap) (a : Addr) (code : Array Nat) : Prop where
  at_ : ∃ v0 t1 t2 v3 v4 c t6 cs n d sl d' sl', h.get? a = some ⟨.type "re.Pattern", d, .fields #[v0, t1, .int 0 t2, v3, v4, .ref c, .int 0 t6], sl⟩ ∧ h.get? c = some ⟨.type "tuple", d', .seq cs n, sl'⟩ ∧ (cs.map reRawOf).map (·.toNat) = code ∧ d = none
theorem Pat.keeps {h h' : Heap} {a : Addr} {code : Array Nat} (P : Pat h a code) (hk : ∀ b o, h.get? b = some o → h'.get? b = some o) : Pat h' a code := by
  obtain ⟨v0, t1, t2, v3, v4, c, t6, cs, n, d, sl, d', sl', h1, h2, h3, h4⟩ := P.at_
  exact ⟨v0, t1, t2, v3, v4, c, t6, cs, n, d, sl, d', sl', hk _ _ h1, hk _ _ h2, h3, h4⟩
noncomputable abbrev targetOf (a : Addr) (x : Str) (t : Tok) (code : Array Nat) : ReTarget := { pattern := .ref a, string := .str x t, code := code, text := x.cps, kind := 0, groups := 0, pos := 0, lim := x.cps.size }
section
variable {prog : Program} {w : World} {A : Around} {E : Value → Shared → Prop} {s : Shared} {a : Addr} {code : Array Nat} {x r : Str} {t u : Tok}
theorem wp_target {Q : ReTarget → Shared → Prop} (P : Pat s.heap a code) (hQ : Q (targetOf a x t code) s) : wpAny (model prog w) A (reWholeTarget (.ref a) (.str x t)) Q E s := by
  obtain ⟨v0, t1, t2, v3, v4, c, t6, cs, n, d, sl, d', sl', h1, h2, h3, h4⟩ := P.at_
  unfold reWholeTarget
  refine wpAny_bind (wpAny_fieldsOf h1 rfl ?_)
  refine wpAny_bind ?_
  show wpAny (model prog w) A (pure (x.cps, 0)) _ E s
  refine wpAny_pure ?_
  show wpAny (model prog w) A (reNoCollectionInside (.str x t) 0 >>= fun _ => reRawItems (.ref c) >>= fun l => pure (({ pattern := .ref a, string := .str x t, code := l.map (fun y => y.toNat), text := x.cps, kind := 0, groups := 0, pos := 0, lim := x.cps.size } : ReTarget))) Q E s
  refine wpAny_bind ?_
  show wpAny (model prog w) A (pure ()) _ E s
  refine wpAny_pure (wpAny_bind ?_)
  unfold reRawItems
  refine wpAny_bind (wpAny_seqItems h2 rfl (wpAny_pure (wpAny_pure ?_)))
  show Q { pattern := .ref a, string := .str x t, code := (cs.map reRawOf).map (fun y => y.toNat), text := x.cps, kind := 0, groups := 0, pos := 0, lim := x.cps.size } s
  rw [h3]
  exact hQ
/-- the pieces that sub lays into its list -/
noncomputable def sliceOf (x : Str) (b e : Nat) : Str := ⟨x.cps.extract b e⟩
noncomputable def piecesF (code : Array Nat) (x r : Str) : Nat → (done start : Nat) → Bool → List Str → Option (List Str)
  | 0, _, _, _, _ => none
  | f + 1, done, start, must, ps =>
    match findF code x.cps 0 start x.cps.size must with
    | none => none
    | some none => some (if done < x.cps.size then ps ++ [sliceOf x done x.cps.size] else ps)
    | some (some m) => piecesF code x r f m.handed m.handed (m.handed == m.start) ((if done < m.start then ps ++ [sliceOf x done m.start] else ps) ++ [r])
noncomputable def subF (code : Array Nat) (x r : Str) : Option Str := match piecesF code x r 64 0 0 false [] with
  | none => none
  | some ps => if ps.length ≤ 200 ∧ (ps.map (·.length)).sum ≤ 5000 then some (Txt.join (Str.ofString "") ps) else none
theorem slice_len (x : Str) (b e : Nat) : (sliceOf x b e).length ≤ x.length := by
  show (x.cps.extract b e).size ≤ x.cps.size
  rw [Array.size_extract]
  omega
theorem slice_nil (x : Str) : sliceOf x 0 0 = Str.ofString "" := by
  have h : (Str.ofString "").cps = #[] := by decide +kernel
  apply Str.ext'
  rw [h]
  show x.cps.extract 0 0 = #[]
  simp
theorem wp_push {l : Addr} {us : List Value} {c₀ : Nat} {v : Value} {Q : Unit → Shared → Prop} (hl : s.heap.get? l = some (W.listOf us.toArray c₀)) (hz : us.length ≤ 400)
    (hQ : ∀ h', (∀ b o, b ≠ l → s.heap.get? b = some o → h'.get? b = some o) → h'.get? l = some (W.listOf (us ++ [v]).toArray (c₀ + 1)) → Q () { s with heap := h' }) : wpAny (model prog w) A (updateSeq l fun y => y.push v) Q E s := by
  refine wpAny_updateSeq hl rfl (hQ _ (fun b o hb e => (Heap.get?_update_other _ _ (Ne.symm hb)).trans e) ?_) (by rw [List.size_toArray, sizeLine_eq]; omega) (by show (us.toArray.push v).size ≤ sizeLine + 1; rw [Array.size_push, List.size_toArray, sizeLine_eq]; omega)
  rw [Heap.get?_update_self _ hl rfl]
  show some (⟨.type "list", none, .seq (us.toArray.push v) (if (us.toArray.push v).size == us.toArray.size then c₀ else c₀ + 1), #[]⟩ : Obj) = _
  rw [if_neg (by simp)]
  simp
theorem wp_slice {b e : Nat} {Q : Value → Shared → Prop} (hx : x.length ≤ 1000) (hQ : Q (.str (sliceOf x b e) s.toks) { s with toks := s.toks + 1 }) : wpAny (model prog w) A (reSlice x.cps 0 b e) Q E s := by
  show wpAny _ _ (mkStr ⟨x.cps.extract b e⟩) _ _ _
  exact wpAny_mkStr hQ (by
    show (sliceOf x b e).length ≤ sizeLine
    have := slice_len x b e
    rw [sizeLine_eq]; omega)
theorem Pat.off {h h' : Heap} {l : Addr} {us : List Value} {c₀ : Nat} (P : Pat h a code) (hl : h.get? l = some (W.listOf us.toArray c₀)) (hk : ∀ b o, b ≠ l → h.get? b = some o → h'.get? b = some o) : Pat h' a code := by
  obtain ⟨v0, t1, t2, v3, v4, c, t6, cs, n, d, sl, d', sl', h1, h2, h3, h4⟩ := P.at_
  refine ⟨v0, t1, t2, v3, v4, c, t6, cs, n, d, sl, d', sl', hk _ _ (fun e => ?_) h1, hk _ _ (fun e => ?_) h2, h3, h4⟩
  · rw [e, hl] at h1; simp at h1
  · rw [e, hl] at h2; simp at h2
theorem nil_len : (Str.ofString "").length = 0 := by decide +kernel
theorem join_nil : Txt.join (Str.ofString "") [] = Str.ofString "" := by decide +kernel
theorem strs_empty {us : List Value} {qs : List Str} (h : StrsAre us qs) (he : ((some us.toArray).getD #[]).isEmpty = true) : qs = [] := by
  have hl := h.length
  have : us = [] := by simpa using he
  subst this
  cases qs with
  | nil => rfl
  | cons _ _ => simp at hl
theorem IsL_list {h : Heap} {l : Addr} {us : List Value} {c : Nat} (hl : h.get? l = some (W.listOf us.toArray c)) : h.IsList l us.toArray := ⟨_, hl, rfl, c, rfl⟩
theorem wp_loop {l : Addr} {qs : List Str} {R : Result → Shared → Prop} (hx : x.length ≤ 1000) (hok : qs.length ≤ 200 ∧ (qs.map (·.length)).sum ≤ 5000) : ∀ (f : Nat) (s : Shared) (ps : List Str) (us : List Value) (c₀ n done start : Nat) (must : Bool),
    piecesF code x r f done start must ps = some qs → ps.length + 2 * f ≤ 200 → Pat s.heap a code → s.heap.get? l = some (W.listOf us.toArray c₀) → StrsAre us ps →
    (∀ h' tk t', (∀ b o, b ≠ l → s.heap.get? b = some o → h'.get? b = some o) → R (.ok (.ret (.str (Txt.join (Str.ofString "") qs) t'))) { s with heap := h', toks := tk }) →
    codeAny (model prog w) A (.builtin "re.Pattern.sub.loop" ⟨[.ref a, .str x t, .str r u, rawInt 0, rawInt 0, rawInt n, rawInt done, rawInt start, .bool must, .ref l, .bool false], []⟩) R s
  | 0, _, _, _, _, _, _, _, _, h, _, _, _, _, _ => by cases h
  | f + 1, s, ps, us, c₀, n, done, start, must, h, hz, P, hl, hi, hR => by
    have hul := hi.length
    refine codeAny_builtin entry_re_loop ?_
    rw [Around.under_plainId plain_re_loop _]
    show wpAny _ A.in1 (reWholeTarget (.ref a) (.str x t) >>= _) _ _ s
    refine wpAny_bind (wp_target P ?_)
    dsimp only
    refine wpAny_ite_split (fun _ => ?_) (fun hab => absurd rfl hab)
    refine wpAny_bind ?_
    show wpAny _ _ (pure ()) _ _ _
    refine wpAny_pure ?_
    unfold piecesF at h
    cases hf : findF code x.cps 0 start x.cps.size must with
    | none => rw [hf] at h; cases h
    | some fm =>
      rw [hf] at h
      (try dsimp only at h)
      refine wpAny_bind (wpAny_ite_split (fun hab => absurd hab (by simp)) fun _ => ?_)
      have hs : ((start : Int)).toNat = start := Int.toNat_natCast start
      rw [hs]
      refine wp_next (t := targetOf a x t code) hf ?_
      cases fm with
      | none =>
        (try dsimp only at h); (try dsimp only)
        have hd : ((done : Int)).toNat = done := Int.toNat_natCast done
        rw [hd]
        refine wpAny_ite_split (fun hlt => ?_) (fun hlt => ?_)
        · rw [if_pos hlt] at h
          have hqs := Option.some.inj h
          refine wpAny_bind (wp_slice hx ?_)
          refine wpAny_bind (wp_push (by exact hl) (by omega) fun h₁ hk₁ hl₁ => ?_)
          have hi₁ := StrsAre.append' hi (.cons (sliceOf x done x.cps.size) s.toks .nil)
          rw [hqs] at hi₁
          -- the tail
          refine wpAny_bind (wp_slice hx ?_)
          refine wpAny_bind (wpAny_seqItems hl₁ rfl ?_)
          refine wpAny_ite_split (fun he => ?_) (fun he => ?_)
          · refine wpAny_bind (wpAny_pure ?_)
            refine wpAny_ite_split (fun hab => absurd hab (by simp)) fun _ => ?_
            refine wpAny_pure ?_
            have hq := strs_empty hi₁ he
            have e : sliceOf x 0 0 = Txt.join (Str.ofString "") qs := by rw [hq, join_nil, slice_nil]
            rw [e]
            exact hR h₁ _ _ hk₁
          · refine wpAny_bind ?_
            show wpAny _ _ (call (.builtin "str.join") [.str (sliceOf x 0 0) _, .ref l]) _ _ _
            rw [slice_nil]
            refine join_list (IsL_list hl₁) (by simpa using hi₁) (by rw [nil_len]; omega) fun t' k => ?_
            refine wpAny_ite_split (fun hab => absurd hab (by simp)) fun _ => ?_
            refine wpAny_pure ?_
            exact hR h₁ k t' hk₁
        · rw [if_neg hlt] at h
          have hqs := Option.some.inj h
          rw [hqs] at hi
          -- the tail
          refine wpAny_bind (wp_slice hx ?_)
          refine wpAny_bind (wpAny_seqItems hl rfl ?_)
          refine wpAny_ite_split (fun he => ?_) (fun he => ?_)
          · refine wpAny_bind (wpAny_pure ?_)
            refine wpAny_ite_split (fun hab => absurd hab (by simp)) fun _ => ?_
            refine wpAny_pure ?_
            have hq := strs_empty hi he
            have e : sliceOf x 0 0 = Txt.join (Str.ofString "") qs := by rw [hq, join_nil, slice_nil]
            rw [e]
            exact hR s.heap _ _ (fun _ _ _ e => e)
          · refine wpAny_bind ?_
            show wpAny _ _ (call (.builtin "str.join") [.str (sliceOf x 0 0) _, .ref l]) _ _ _
            rw [slice_nil]
            refine join_list (IsL_list hl) (by simpa using hi) (by rw [nil_len]; omega) fun t' k => ?_
            refine wpAny_ite_split (fun hab => absurd hab (by simp)) fun _ => ?_
            refine wpAny_pure ?_
            exact hR s.heap k t' (fun _ _ _ e => e)
      | some m =>
        (try dsimp only at h); (try dsimp only)
        have hd : ((done : Int)).toNat = done := Int.toNat_natCast done
        have hn : ((n : Int) + 1) = ((n + 1 : Nat) : Int) := by omega
        rw [hd]
        refine wpAny_ite_split (fun hlt => ?_) (fun hlt => ?_)
        · rw [if_pos hlt] at h
          refine wpAny_bind (wp_slice hx ?_)
          refine wpAny_bind (wp_push (by exact hl) (by omega) fun h₁ hk₁ hl₁ => ?_)
          have hi₁ := StrsAre.append' hi (.cons (sliceOf x done m.start) s.toks .nil)
          have P₁ := P.off hl hk₁
          refine wpAny_ite_split (fun _ => ?_) (fun hab => absurd rfl hab)
          refine wpAny_bind (wpAny_pure ?_)
          refine wpAny_ite_split (fun _ => ?_) (fun hab => absurd rfl hab)
          refine wpAny_bind (wp_push (by exact hl₁) (by rw [hi₁.length, List.length_append]; simp only [List.length_cons, List.length_nil]; omega) fun h₂ hk₂ hl₂ => ?_)
          have hi₂ := StrsAre.append' hi₁ (.cons r u .nil)
          rw [hn]
          refine wpAny_pure ⟨plainId_quiet plain_re_loop _, wp_loop hx hok f _ _ _ _ _ _ _ _ h (by simp only [List.length_append, List.length_cons, List.length_nil]; omega) (P₁.off hl₁ hk₂) hl₂ hi₂ ?_⟩
          exact fun h' tk t' hk => hR h' tk t' fun b o hb e => hk b o hb (hk₂ b o hb (hk₁ b o hb e))
        · rw [if_neg hlt] at h
          refine wpAny_ite_split (fun _ => ?_) (fun hab => absurd rfl hab)
          refine wpAny_bind (wpAny_pure ?_)
          refine wpAny_ite_split (fun _ => ?_) (fun hab => absurd rfl hab)
          refine wpAny_bind (wp_push (by exact hl) (by omega) fun h₂ hk₂ hl₂ => ?_)
          have hi₂ := StrsAre.append' hi (.cons r u .nil)
          rw [hn]
          refine wpAny_pure ⟨plainId_quiet plain_re_loop _, wp_loop hx hok f _ _ _ _ _ _ _ _ h (by simp only [List.length_append, List.length_cons, List.length_nil]; omega) (P.off hl hk₂) hl₂ hi₂ ?_⟩
          exact fun h' tk t' hk => hR h' tk t' fun b o hb e => hk b o hb (hk₂ b o hb e)
theorem named_sub (b c : Value) : reNamed "re.Pattern.sub" "sub" ["repl", "string", "count"] 2 [b, c] [] = pure [some b, some c, none] := by kernel_rfl
theorem no_call : typeLookup (.type "str") "__call__" = pure none := by rw [typeLookup_type, builtinLookup_eq_fast]; kernel_rfl
theorem call_sub {y : Str} {Q : Value → Shared → Prop} (hx : x.length ≤ 1000) (hr : r.cps.contains 92 = false) (P : Pat s.heap a code) (hy : subF code x r = some y)
    (hQ : ∀ h' tk t', (∀ b o, s.heap.get? b = some o → h'.get? b = some o) → Q (.str y t') { s with heap := h', toks := tk }) :
    wpAny (model prog w) A (call (.builtin "re.Pattern.sub") [.ref a, .str r u, .str x t]) Q E s := by
  refine wpAny_call (codeAny_call_builtin slot_re_sub.plain entry_re_sub (slot_re_sub.check _ _ _ _ _ _ _ _ (by
    obtain ⟨v0, t1, t2, v3, v4, c, t6, cs, n, d, sl, d', sl', h1, h2, h3, h4⟩ := P.at_
    exact ⟨_, h1, rfl⟩) (args_re_sub _ _ _) ?_))
  show wpAny _ _ (reSubstitute "re.Pattern.sub" "sub" false ⟨[.ref a, .str r u, .str x t], []⟩) _ _ _
  unfold reSubstitute
  dsimp only
  rw [named_sub]
  refine wpAny_bind (wpAny_pure ?_)
  dsimp only
  refine wpAny_bind (wpAny_pure ?_)
  refine wpAny_bind (wpAny_specialOf (typeIs_str s r u) no_call ?_)
  refine wpAny_ite_split (fun hab => absurd hab (by simp)) fun _ => ?_
  refine wpAny_bind (show wpAny _ _ (pure (some r)) _ _ _ from wpAny_pure ?_)
  dsimp only
  refine wpAny_bind (wpAny_pure ?_)
  refine wpAny_ite_split (fun hab => absurd hab (by simp)) fun _ => ?_
  refine wpAny_ite_split (fun _ => ?_) (fun hab => absurd (by rw [hr]; rfl) hab)
  refine wpAny_bind (wpAny_pure ?_)
  refine wpAny_bind (wpAny_holding (wp_target P ?_))
  refine wpAny_ite_split (fun hab => absurd hab (by simp)) fun _ => ?_
  refine wpAny_bind (wpAny_newList ?_)
  unfold subF at hy
  cases hp : piecesF code x r 64 0 0 false [] with
  | none => rw [hp] at hy; cases hy
  | some qs =>
    rw [hp] at hy
    dsimp only at hy
    by_cases hok : qs.length ≤ 200 ∧ (qs.map (·.length)).sum ≤ 5000
    · rw [if_pos hok] at hy
      have hyq := Option.some.inj hy
      refine wpAny_pure ⟨plainId_quiet plain_re_loop _, wp_loop hx hok 64 _ [] [] _ 0 0 0 false hp (by simp) (P.keeps fun b o e => Heap.get?_push_of_some _ e) (Heap.get?_push_size _ rfl) .nil ?_⟩
      intro h' tk t' hk
      rw [hyq]
      exact hQ h' tk t' fun b o e => hk b o (Nat.ne_of_lt (Heap.lt_size e)) (Heap.get?_push_of_some _ e)
    · rw [if_neg hok] at hy; cases hy
end
end

section
open PySem PySem.W PyProof.Rows
theorem rest_UQuote {prog : PySem.Program} {w : PySem.World} {A : PySem.Around} {env : PySem.Env} {Q : PySem.Flow → PySem.Shared → Prop} {E : PySem.Value → PySem.Shared → Prop} {s : PySem.Shared} (h : PySem.wpAny (PySem.model prog w) A (PySem.execs [] env) Q E s) : PySem.wpAny (PySem.model prog w) A (PySem.execs [] env) Q E s := by
  w_top off
  k_with_none
  first | (walk1; fail) | exact h
set_option maxRecDepth 100000
set_option maxHeartbeats 0
noncomputable def code1 : Array Nat := #[14, 4, 0, 1, 1, 6, 1, 16, 46, 1]
noncomputable def code2 : Array Nat := #[14, 9, 4, 1, 2, 16, 10, 16, 13, 0, 7, 7, 16, 13, 16, 10, 15, 18, 5, 16, 10, 15, 13, 11, 16, 13, 5, 5, 0, 16, 10, 1, 15, 2, 0, 1]
theorem look1 (P : Params) : (hd.heap_39 P).lookup 159 = some ⟨.type "re.Pattern", none, .fields #[.str (Str.ofString "(?m)^\\.") 493, .int 40 506, .int 0 0, .none, .none, .ref 158, .int 0 0], #[]⟩ := by kernel_rfl
theorem look1c (P : Params) : (hd.heap_39 P).lookup 158 = some ⟨.type "tuple", none, .seq #[.int 14 0, .int 4 0, .int 0 0, .int 1 0, .int 1 0, .int 6 0, .int 1 0, .int 16 0, .int 46 0, .int 1 0] 0, #[]⟩ := by kernel_rfl
theorem look2 (P : Params) : (hd.heap_39 P).lookup 164 = some ⟨.type "re.Pattern", none, .fields #[.str (Str.ofString "(?:\\r\\n|\\n|\\r(?!\\n))") 509, .int 32 548, .int 0 0, .none, .none, .ref 163, .int 0 0], #[]⟩ := by kernel_rfl
theorem look2c (P : Params) : (hd.heap_39 P).lookup 163 = some ⟨.type "tuple", none, .seq #[.int 14 0, .int 9 0, .int 4 0, .int 1 0, .int 2 0, .int 16 0, .int 10 0, .int 16 0, .int 13 0, .int 0 0, .int 7 0, .int 7 0, .int 16 0, .int 13 0, .int 16 0, .int 10 0, .int 15 0, .int 18 0, .int 5 0, .int 16 0, .int 10 0, .int 15 0, .int 13 0, .int 11 0, .int 16 0, .int 13 0, .int 5 0, .int 5 0, .int 0 0, .int 16 0, .int 10 0, .int 1 0, .int 15 0, .int 2 0, .int 0 0, .int 1 0] 0, #[]⟩ := by kernel_rfl
theorem pat1 {P : Params} {h : Heap} (X : (hd.heap_39 P).In h) : Pat h 159 code1 :=
  ⟨_, _, _, _, _, _, _, _, _, _, _, _, _, X 159 _ (look1 P), X 158 _ (look1c P), by decide +kernel, rfl⟩
theorem pat2 {P : Params} {h : Heap} (X : (hd.heap_39 P).In h) : Pat h 164 code2 :=
  ⟨_, _, _, _, _, _, _, _, _, _, _, _, _, X 164 _ (look2 P), X 163 _ (look2c P), by decide +kernel, rfl⟩
/-- what sub gives, as a letter -/
structure IsSub (code : Array Nat) (x r y : Str) : Prop where
  eq : subF code x r = some y
section
variable {prog : Program} {w : World} {A : Around} {E : Value → Shared → Prop} {s : Shared} {h₀ : Heap} {L a : Addr} {m : Str → Option Value} {news : List (Addr × Obj)} {code : Array Nat} {x r y : Str} {t u : Tok}
theorem re_method {pl : Sem Bool} {Q : Value × List Value → Shared → Prop} (F : Fr h₀ L s.heap m) (P : Pat h₀ a code) (h : Q (.builtin "re.Pattern.sub", [.ref a]) s) : wpAny (model prog w) A (getMethod (.ref a) "sub" pl) Q E s := by
  obtain ⟨v0, t1, t2, v3, v4, c, t6, cs, n, d, sl, d', sl', h1, h2, h3, h4⟩ := (P.keeps F.keep).at_
  exact getMethod_builtin ⟨_, h1, rfl⟩ plainAttrs_re slot_re_sub type_re_sub (fun b e => by cases e; exact ⟨_, h1, h4⟩) h
theorem re_subK {Q : Value → Shared → Prop} (F : Fr h₀ L s.heap m) (N : News h₀ L s.heap news) (P : Pat h₀ a code) (hx : x.length ≤ 1000) (hr : r.cps.contains 92 = false) (H : IsSub code x r y)
    (hQ : ∀ t' h' tk, Fr h₀ L h' m → News h₀ L h' news → Q (.str y t') { s with heap := h', toks := tk }) : wpAny (model prog w) A (call (.builtin "re.Pattern.sub") [.ref a, .str r u, .str x t]) Q E s :=
  call_sub hx hr (P.keeps F.keep) H.eq fun h' tk t' hk => hQ t' h' tk (F.keeps hk) fun p hp => ⟨hk _ _ (N p hp).1, (N p hp).2⟩
end
theorem crlf_no : (Str.ofString "\r\n").cps.contains 92 = false := by decide +kernel
theorem dots_no : (Str.ofString "..").cps.contains 92 = false := by decide +kernel
section
theorem rule_UQuote_1 : True := by
  k_with "getMethod ref" => ((k_here; k_dflt (first | refine re_method (by k_asm) (pat1 (by k_in)) ?_ | refine re_method (by k_asm) (pat2 (by k_in)) ?_)))
  exact trivial
theorem rule_UQuote_2 : True := by
  k_with "R UQuote 2" => (k_here; k_dflt (first | (refine' re_subK ?F ?N (pat1 ?K) ?x dots_no ?H ?_; (case F => k_asm); (case N => k_asm); (case K => k_in); (case x => assumption); (case H => assumption)) | (refine' re_subK ?F ?N (pat2 ?K) ?x crlf_no ?H ?_; (case F => k_asm); (case N => k_asm); (case K => k_in); (case x => assumption); (case H => assumption))))
  exact trivial
local macro_rules | `(tactic| walk_at "call builtin:re.Pattern.sub") => `(tactic| (k_extra "R UQuote 2"; intro _ h' _ F' N'))
theorem fix_claim {w : World} {p : Program} {loose : List Str} {mean : ExcName → Option Value} {mg mb : Str → Option Value} (news : List (Addr × Obj)) (x y : Str) (tx : Tok) :
    Claim PySem.Challenge.rw_uc0020_01.row.prog w (hd.heap_39 w.params) p loose mean mg mb 10 30 (call (.ref 178) [.str x tx]) news (x.length ≤ 1000 ∧ IsSub code2 x (Str.ofString "\r\n") y) (RetStr y news) := by
  k_fill
  dsimp only [Claim, RetStr, RetInt, RetNew]; intros
  rename_i hx _ _ hret
  obtain ⟨hx1, hx2⟩ := hx
  refine wpAny_call ?_
  k_dflt cell_enter
  k_steps
  exact ret_str hret (by assumption) (by assumption) (by kst_inAny) rfl
theorem quote_claim {w : World} {p : Program} {loose : List Str} {mean : ExcName → Option Value} {mg mb : Str → Option Value} (news : List (Addr × Obj)) (x y z : Str) (tx : Tok) :
    Claim PySem.Challenge.rw_uc0020_01.row.prog w (hd.heap_39 w.params) p loose mean mg mb 10 30 (call (.ref 171) [.str x tx]) news (x.length ≤ 1000 ∧ y.length ≤ 1000 ∧ IsSub code2 x (Str.ofString "\r\n") y ∧ IsSub code1 y (Str.ofString "..") z) (RetStr z news) := by
  k_fill
  dsimp only [Claim, RetStr, RetInt, RetNew]; intros
  rename_i hx _ _ hret
  obtain ⟨hx1, hx2, hx3, hx4⟩ := hx
  refine wpAny_call ?_
  k_dflt cell_enter
  k_steps
  exact ret_str hret (by assumption) (by assumption) (by kst_inAny) rfl
end
end

section
open PySem PySem.W PyProof.Rows
theorem rest_ULex {prog : PySem.Program} {w : PySem.World} {A : PySem.Around} {env : PySem.Env} {Q : PySem.Flow → PySem.Shared → Prop} {E : PySem.Value → PySem.Shared → Prop} {s : PySem.Shared} (h : PySem.wpAny (PySem.model prog w) A (PySem.execs [] env) Q E s) : PySem.wpAny (PySem.model prog w) A (PySem.execs [] env) Q E s := by
  w_top off
  k_with_none
  first | (walk1; fail) | exact h
set_option maxRecDepth 100000
set_option maxHeartbeats 0
set_option pp.deepTerms false
noncomputable abbrev ClaimH (prog : Program) (w : World) (K : Frag) (p : Program) (loose : List Str) (mean : ExcName → Option Value) (mg mb : Str → Option Value) (d u : Nat) (t : Sem Value) (news : List (Addr × Obj)) (pre : Heap → Prop)
    (ret : Heap → Addr → (Str → Option Value) → Shared → (Value → Shared → Prop) → Prop) : Prop :=
  ∀ (dp un : Nat) (gd : Option (List Code)) (cn : Str) (cs : Scope) (a : Addr) (ccd : Value) (cl : List (Str × Addr)) (outer : List Env) (A₀ : Around) (base h₀ : Heap) (L : Addr) (m : Str → Option Value) (s : Shared) (Q E : Value → Shared → Prop),
    Below A₀ base outer h₀ → Fr h₀ L s.heap m → K.In h₀ → News h₀ L s.heap news → Top p loose mean mg mb h₀ → cs.kind = .function →
      pre h₀ → dp + d < recursionLimit → un + u < cLine → ret h₀ L m s Q →
      wpAny (model prog w) (ktrTop dp un gd cn cs L a ccd cl outer) t Q E s
theorem strs_of_carried : ∀ {vs : List Value} {ws : List Str}, CarriedAll vs (ws.map PyData.str) → StrsAre vs ws
  | [], [], _ => .nil
  | v :: vs, x :: ws, h => by
    cases h with
    | cons h1 h2 =>
      cases h1
      exact .cons _ _ (strs_of_carried h2)
  | [], _ :: _, h => by cases h
  | _ :: _, [], h => by cases h
theorem allLt_succ {d : Addr} : ∀ {l : List (Addr × Obj)}, AllLt d l → AllLt (d + 1) l
  | [], _ => trivial
  | _ :: _, h => ⟨Nat.lt_succ_of_lt h.1, allLt_succ h.2⟩
theorem list_textK {prog : Program} {w : World} {A : Around} {E : Value → Shared → Prop} {s : Shared} {h₀ : Heap} {L : Addr} {m : Str → Option Value} {Q : Value → Shared → Prop} {x : Str} {t : Tok} {news : List (Addr × Obj)} (hh : A.handled = none) (F : Fr h₀ L s.heap m) (N : News h₀ L s.heap news) (hx : x.length ≤ 1000)
    (h : ∀ D h' tk vs n, Fr h₀ L h' m → News h₀ L h' ((D, W.listOf (List.toArray vs) n) :: news) → (∀ p ∈ news, p.1 < D) → StrsAre vs (signs x) → Q (.ref D) { s with heap := h', toks := tk }) : wpAny (model prog w) A (call (.type "list") [.str x t]) Q E s := by
  refine list_strD hh F N (fun h' tk ys F' N' hk h0 hl hp hc => ?_) (by rw [sizeLine_eq]; omega)
  obtain ⟨n, N''⟩ := made_enters hp F' N' h0
  exact h _ h' tk ys n F' N'' (fun p hp => Heap.lt_size (N p hp).1) (strs_of_carried hc)
local macro_rules | `(tactic| k_room) => `(tactic| ktr_room)
theorem rule_ULex_1 : True := by
  k_with "R ULex 1" => (refine' code_def ?k1 ?k2 ?k3 ?k4 ?k5 ?kA ?kF ?kK ?k6 ?k7 ?k8 ?k9 ?kB ?_ ?c2 ?c3 ?c4 ?c5; (case kA => exact rfl); (case kF => exact rfl); (case kK => first | exact rfl | assumption); (case k1 => k_asm); (case k2 => k_asm); (case k3 => k_asm); (case k4 => k_asm); (case k5 => k_asm); (case k6 => k_is); (case k7 => k_is); (case k8 => ktr_room); (case k9 => exact BindsTo.of_eq rfl); (case c5 => decide); (case kB => exact locs rfl); (case c2 => exact rfl); (case c3 => exact rfl); (case c4 => exact rfl); k_whole)
  exact trivial
local macro_rules | `(tactic| walk_at "enterM") => `(tactic| (k_extra "R ULex 1"; intro g' L' h' FG' F' N' B' X' T'; (try dsimp only); (try k_lift B'); (try k_fold)))
local macro_rules | `(tactic| k_enter) => `(tactic| walk_at "enterM")
theorem rule_ULex_2 : True := by
  k_with "R ULex 2" => (k_here; (with_reducible show wpAny _ _ (call (Value.type _) [Value.str _ _]) _ _ _); k_dflt (refine' list_textK ?hh ?F ?N ?hx ?_; (case hh => exact rfl); (case F => k_asm); (case N => k_asm); (case hx => assumption)))
  exact trivial
local macro_rules | `(tactic| walk_at "call type:list") => `(tactic| (k_extra "R ULex 2"; intro D' h' tk' vs' n' F' N' l1 hs'; (try k_lt l1)))
theorem rule_ULex_3 : True := by
  k_with "R ULex 3" => (refine' code_defC ?k1 ?k2 ?k3 ?k4 ?k5 ?kA ?kF ?kK ?k6 ?k7 ?k8 ?k9 ?kB ?kD ?_ ?c2 ?c3 ?c4; (case kA => exact rfl); (case kF => exact rfl); (case kK => first | exact rfl | assumption); (case k1 => k_asm); (case k2 => k_asm); (case k3 => k_asm); (case k4 => k_asm); (case k5 => k_asm); (case k6 => k_is); (case k7 => k_is); (case k8 => ktr_room); (case k9 => exact BindsTo.of_eq rfl); (case kB => exact rfl); (case kD => decide +kernel); (case c2 => exact rfl); (case c3 => exact rfl); (case c4 => exact rfl); k_whole)
  exact trivial
local macro_rules | `(tactic| walk_at "enterC") => `(tactic| (k_extra "R ULex 3"; intro g' L' h' tk' cells' FG' F' N' Y' B' X' T' l1; (try k_lt l1); (have l2 := allLt_succ (And.right l1)); (have hcd9 := CodeHd.keeps (by assumption) (Fr.keep FG')); k_cells Y'; (try simp only [List.cons_append, List.nil_append] at N'); (try dsimp only); (try k_lift B'); (try k_fold)))
theorem allNe_cons {f : Addr} {p : Addr × Obj} {l : List (Addr × Obj)} (h : p.1 ≠ f) (r : ∀ q ∈ l, q.1 ≠ f) : ∀ q ∈ p :: l, q.1 ≠ f := fun q hq => by
  rcases List.mem_cons.mp hq with rfl | hq
  · exact h
  · exact r q hq
theorem allLt_ne {d f : Addr} (hd : @LE.le Nat _ d f) : ∀ {l : List (Addr × Obj)}, AllLt d l → ∀ q ∈ l, q.1 ≠ f
  | [], _ => fun _ hq => nomatch hq
  | p :: _, h => allNe_cons (Nat.ne_of_lt (Nat.lt_of_lt_of_le h.1 hd)) (allLt_ne hd h.2)
theorem rule_ULex_4 : True := by
  k_with "R ULex 4" => (k_here; (with_reducible show wpAny _ _ (setAttr (Value.ref _) _ (Value.ref _)) _ _ _); k_dflt (refine' set_fnK ?F ?N ?ho ?h0 ?h1 ?h2 ?_; (case F => k_asm); (case N => k_asm); (case ho => exact rfl); (case h0 => (apply Nat.ne_of_gt; dsimp only; omega)); (case h1 => (apply Nat.ne_of_gt; dsimp only; omega)); (case h2 => (repeat' (refine allNe_cons (by first | (apply Nat.ne_of_lt; dsimp only; omega) | (apply Nat.ne_of_gt; dsimp only; omega)) ?_)); first | (exact allLt_ne (Nat.le_of_lt (by first | assumption | omega)) (‹_ ∧ AllLt _ _›).2) | (exact allLt_ne (Nat.le_of_lt (by first | assumption | omega)) (‹_ ∧ _ ∧ AllLt _ _›).2.2) | (exact allLt_ne (Nat.le_of_lt (by first | assumption | omega)) (‹_ ∧ _ ∧ _ ∧ AllLt _ _›).2.2.2) | (exact allLt_ne (Nat.le_of_lt (by first | assumption | omega)) (‹_ ∧ _ ∧ _ ∧ _ ∧ AllLt _ _›).2.2.2.2) | (exact allLt_ne (Nat.le_of_lt (by first | assumption | omega)) (‹_ ∧ _ ∧ _ ∧ _ ∧ _ ∧ AllLt _ _›).2.2.2.2.2) | (exact allLt_ne (Nat.le_of_lt (by first | assumption | omega)) (‹_ ∧ _ ∧ _ ∧ _ ∧ _ ∧ _ ∧ AllLt _ _›).2.2.2.2.2.2)); k_whole))
  exact trivial
local macro_rules | `(tactic| walk_at "setAttr ref") => `(tactic| (k_extra "R ULex 4"; intro D' h' t' tk' F' N' l1; (try k_lt l1)))
noncomputable abbrev zp (a b c d : Nat) : Pos := { line := a, col := b, endLine := c, endCol := d }
noncomputable abbrev readParams : Arguments := { posonlyargs := [], args := [{ arg := Str.ofString "size", annotation := none, pos := { line := 128, col := 25, endLine := 128, endCol := 29 } }], vararg := none, kwonlyargs := [], kw_defaults := [], kwarg := none, defaults := [] }
noncomputable abbrev readBody : Expr := (((Expr.Name (Str.ofString "signs") { line := 128, col := 47, endLine := 128, endCol := 52 }).Compare [CmpOp.NotEq] [Expr.List [] { line := 128, col := 56, endLine := 128, endCol := 58 }] { line := 128, col := 47, endLine := 128, endCol := 58 }).IfExp (((Expr.Name (Str.ofString "signs") { line := 128, col := 31, endLine := 128, endCol := 36 }).Attribute (Str.ofString "pop") { line := 128, col := 31, endLine := 128, endCol := 40 }).Call [Expr.Constant (Const.int 0) 0 { line := 128, col := 41, endLine := 128, endCol := 42 }] [] { line := 128, col := 31, endLine := 128, endCol := 43 }) (Expr.Constant (Const.str (Str.ofString "")) 0 { line := 128, col := 64, endLine := 128, endCol := 66 }) { line := 128, col := 31, endLine := 128, endCol := 66 })
noncomputable abbrev readScope : Scope := { kind := ScopeKind.function, names := [(Str.ofString "size", NameKind.local), (Str.ofString "signs", NameKind.free)], isGenerator := false, isCoroutine := false }
noncomputable abbrev noneParams : Arguments := { posonlyargs := [], args := [], vararg := none, kwonlyargs := [], kw_defaults := [], kwarg := none, defaults := [] }
noncomputable abbrev noneBody : Expr := (Expr.Constant Const.none 0 { line := 127, col := 21, endLine := 127, endCol := 25 })
noncomputable abbrev noneScope : Scope := { kind := ScopeKind.function, names := [], isGenerator := false, isCoroutine := false }
/-- the lambda that hands out the signs one by one -/
noncomputable abbrev readObj (q : Str) (cel : Addr) (pm : Value) (cR : Addr) (ct : Value) : Obj := kla_obj (Str.ofString "<lambda>") q readParams readBody readScope [(Str.ofString "signs", cel)] pm cR ct
/-- the function object that serves as stream -/
noncomputable abbrev streamObj (q : Str) (dS : Addr) (pm : Value) (cS : Addr) (ct : Value) : Obj := { cls := .type "function", dict := some dS, data := .func (kla_fn (Str.ofString "<lambda>") q noneParams noneBody noneScope [] pm (.ref cS) ct) }
/-- the lexer's own dict -/
noncomputable abbrev lexDict (w : World) (ln : Int) (S l : Addr) (k0 k1 k2 k3 k4 k5 : Tok) : Obj :=
  dictOf [⟨PyData.keyHash w.params (Str.ofString "lineno"), .str (Str.ofString "lineno") k0, .int ln k1⟩, ⟨PyData.keyHash w.params (Str.ofString "instream"), .str (Str.ofString "instream") k2, .ref S⟩,
    ⟨PyData.keyHash w.params (Str.ofString "whitespace"), .str (Str.ofString "whitespace") k3, .str (Str.ofString "\n\t\x0d ") k4⟩, ⟨PyData.keyHash w.params (Str.ofString "pushback"), .str (Str.ofString "pushback") k5, .ref l⟩] 4
noncomputable abbrev readDict (w : World) (R : Addr) (k : Tok) : Obj := dictOf [⟨PyData.keyHash w.params (Str.ofString "read"), .str (Str.ofString "read") k, .ref R⟩] 1
noncomputable def lamQual : Str := Str.ofString "_law_lexer.<locals>.<lambda>"
structure LamCode (q : Str) (o : Obj) : Prop where
  fields : ∃ vs t, o.data = .fields vs ∧ vs[1]? = some (.str q t)
structure IsCellOf (o : Obj) (D : Addr) : Prop where
  at' : o.data = .cell (some (.ref D))
/-- how the addresses of a new lexer lie -/
structure LexOrd (l I dI dS R cR S cS D cel : Addr) (news : List (Addr × Obj)) : Prop where
  a : @LT.lt Nat _ I l ∧ @LT.lt Nat _ dI l ∧ @LT.lt Nat _ dS l ∧ @LT.lt Nat _ R l ∧ @LT.lt Nat _ cR l ∧ @LT.lt Nat _ S l ∧ @LT.lt Nat _ cS l ∧ @LT.lt Nat _ D l ∧ @LT.lt Nat _ cel l ∧ @LT.lt Nat _ 187 l ∧ AllLt l news
  b : AllLt cel news
  c : @LT.lt Nat _ 187 cel ∧ @LT.lt Nat _ cel D ∧ @LT.lt Nat _ D cS ∧ @LT.lt Nat _ cS S ∧ @LT.lt Nat _ S cR ∧ @LT.lt Nat _ cR R ∧ @LT.lt Nat _ R dS ∧ @LT.lt Nat _ dS I ∧ @LT.lt Nat _ dS dI ∧ @Ne Nat I dI
noncomputable abbrev RetLex1 (w : World) (x : Str) (mg : Str → Option Value) (news : List (Addr × Obj)) (h₀ : Heap) (L : Addr) (m : Str → Option Value) (s : Shared) (Q : Value → Shared → Prop) : Prop :=
  ∀ {l I dI dS R cR S cS D cel : Addr} {q1 q2 : Str} {ocR ocS ocell : Obj} {pm1 pm2 ct1 ct2 : Value} {vs : List Value} {n : Nat} {h' : Heap} {tk : Nat} {k0 k1 k2 k3 k4 k5 k6 : Tok} {ta tb tc td : Tok},
    Fr h₀ L h' m → News h₀ L h' ((l, W.listOf #[] 0) :: (I, instObj 150 dI) :: (dI, lexDict w 1 S l k0 k1 k2 k3 k4 k5) :: (dS, readDict w R k6) :: (R, readObj q1 cel pm1 cR ct1) :: (cR, ocR) :: (S, streamObj q2 dS pm2 cS ct2) :: (cS, ocS) ::
      (D, W.listOf vs.toArray n) :: (cel, ocell) :: (187, tabObj (#[] ++ #[.int 127 ta, .int 13 tb, .ref cS] ++ #[.int 128 tc, .int 18 td, .ref cR])) :: news) →
    StrsAre vs (signs x) → IsCellOf ocell D → q1 = lamQual → q2 = lamQual → LamCode q1 ocR → LamCode q2 ocS → LexOrd l I dI dS R cR S cS D cel news → Q (.ref I) { s with heap := h', toks := tk }
theorem lexer_claim {w : World} {p : Program} {loose : List Str} {mean : ExcName → Option Value} {mg mb : Str → Option Value} (news : List (Addr × Obj)) (x : Str) (tx : Tok) :
    ClaimH PySem.Challenge.rw_uc0020_01.row.prog w (hd.heap_39 w.params) p loose mean mg mb 20 60 (call (.ref 192) [.str x tx]) ((187, tabObj #[]) :: news) (fun h => x.length ≤ 1000 ∧ x.cps.all (· < 128) = true ∧ CodeHd h 191 187 ∧ OwnOff news [187]) (RetLex1 w x mg news) := by
  k_fill
  dsimp only [ClaimH, RetLex1]; intros
  rename_i hx _ _ hret
  obtain ⟨hx1, hx2, hcd, h187⟩ := hx
  have kMark := kstMark
  refine wpAny_call ?_
  k_dflt (walk_at "enterC")
  k_steps
  refine' hret ?F ?N ?s ?c ?q1 ?q2 ?lR ?lS ?o
  case F => assumption
  case N => assumption
  case s => assumption
  case c => exact ⟨by assumption⟩
  case q1 => kernel_rfl
  case q2 => kernel_rfl
  case lR => exact ⟨_, _, by assumption, by assumption⟩
  case lS => exact ⟨_, _, by assumption, by assumption⟩
  case o => exact ⟨by assumption, by assumption, by omega⟩
end

section
open PySem PySem.W PyProof.Rows
theorem rest_ULex2 {prog : PySem.Program} {w : PySem.World} {A : PySem.Around} {env : PySem.Env} {Q : PySem.Flow → PySem.Shared → Prop} {E : PySem.Value → PySem.Shared → Prop} {s : PySem.Shared} (h : PySem.wpAny (PySem.model prog w) A (PySem.execs [] env) Q E s) : PySem.wpAny (PySem.model prog w) A (PySem.execs [] env) Q E s := by
  w_top off
  k_with_none
  first | (walk1; fail) | exact h
set_option maxRecDepth 100000
set_option maxHeartbeats 0
set_option pp.deepTerms false
local macro_rules | `(tactic| k_room) => `(tactic| ktr_room)
theorem rule_ULex2_1 : True := by
  k_with "R ULex2 1" => (refine' code_def ?k1 ?k2 ?k3 ?k4 ?k5 ?kA ?kF ?kK ?k6 ?k7 ?k8 ?k9 ?kB ?_ ?c2 ?c3 ?c4 ?c5; (case kA => exact rfl); (case kF => exact rfl); (case kK => first | exact rfl | assumption); (case k1 => k_asm); (case k2 => k_asm); (case k3 => k_asm); (case k4 => k_asm); (case k5 => k_asm); (case k6 => k_is); (case k7 => k_is); (case k8 => ktr_room); (case k9 => exact BindsTo.of_eq rfl); (case c5 => decide); (case kB => exact locs rfl); (case c2 => exact rfl); (case c3 => exact rfl); (case c4 => exact rfl); k_whole)
  exact trivial
local macro_rules | `(tactic| walk_at "enterM") => `(tactic| (k_extra "R ULex2 1"; intro g' L' h' FG' F' N' B' X' T'; (try dsimp only); (try k_lift B'); (try k_fold)))
local macro_rules | `(tactic| k_enter) => `(tactic| walk_at "enterM")
theorem rule_ULex2_2 : True := by
  k_with "R ULex2 2" => (k_here; (with_reducible show wpAny _ _ (call (Value.type _) [Value.str _ _]) _ _ _); k_dflt (refine' list_textK ?hh ?F ?N ?hx ?_; (case hh => exact rfl); (case F => k_asm); (case N => k_asm); (case hx => assumption)))
  exact trivial
local macro_rules | `(tactic| walk_at "call type:list") => `(tactic| (k_extra "R ULex2 2"; intro D' h' tk' vs' n' F' N' l1 hs'; (try k_lt l1)))
theorem rule_ULex2_3 : True := by
  k_with "R ULex2 3" => (refine' code_defC ?k1 ?k2 ?k3 ?k4 ?k5 ?kA ?kF ?kK ?k6 ?k7 ?k8 ?k9 ?kB ?kD ?_ ?c2 ?c3 ?c4; (case kA => exact rfl); (case kF => exact rfl); (case kK => first | exact rfl | assumption); (case k1 => k_asm); (case k2 => k_asm); (case k3 => k_asm); (case k4 => k_asm); (case k5 => k_asm); (case k6 => k_is); (case k7 => k_is); (case k8 => ktr_room); (case k9 => exact BindsTo.of_eq rfl); (case kB => exact rfl); (case kD => decide +kernel); (case c2 => exact rfl); (case c3 => exact rfl); (case c4 => exact rfl); k_whole)
  exact trivial
local macro_rules | `(tactic| walk_at "enterC") => `(tactic| (k_extra "R ULex2 3"; intro g' L' h' tk' cells' FG' F' N' Y' B' X' T' l1; (try k_lt l1); (have l2 := allLt_succ (And.right (And.right (And.right l1)))); (have hcd9 := CodeHd.keeps (by assumption) (Fr.keep FG')); k_cells Y'; (try simp only [List.cons_append, List.nil_append] at N'); (try dsimp only); (try k_lift B'); (try k_fold)))
theorem rule_ULex2_4 : True := by
  k_with "R ULex2 4" => (k_here; (with_reducible show wpAny _ _ (setAttr (Value.ref _) _ (Value.ref _)) _ _ _); k_dflt (refine' set_fnK1 ?F ?N ?ho ?h0 ?h2 ?_; (case F => k_asm); (case N => k_asm); (case ho => exact rfl); (case h0 => (apply Nat.ne_of_gt; dsimp only; omega)); (case h2 => (repeat' (refine allNe_cons (by first | (apply Nat.ne_of_lt; dsimp only; omega) | (apply Nat.ne_of_gt; dsimp only; omega)) ?_)); first | kst_allNe | (exact allLt_ne (Nat.le_of_lt (by first | assumption | omega)) (‹_ ∧ AllLt _ _›).2) | (exact allLt_ne (Nat.le_of_lt (by first | assumption | omega)) (‹_ ∧ _ ∧ AllLt _ _›).2.2) | (exact allLt_ne (Nat.le_of_lt (by first | assumption | omega)) (‹_ ∧ _ ∧ _ ∧ AllLt _ _›).2.2.2) | (exact allLt_ne (Nat.le_of_lt (by first | assumption | omega)) (‹_ ∧ _ ∧ _ ∧ _ ∧ AllLt _ _›).2.2.2.2) | (exact allLt_ne (Nat.le_of_lt (by first | assumption | omega)) (‹_ ∧ _ ∧ _ ∧ _ ∧ _ ∧ AllLt _ _›).2.2.2.2.2) | (exact allLt_ne (Nat.le_of_lt (by first | assumption | omega)) (‹_ ∧ _ ∧ _ ∧ _ ∧ _ ∧ _ ∧ AllLt _ _›).2.2.2.2.2.2)); k_whole))
  exact trivial
local macro_rules | `(tactic| walk_at "setAttr ref") => `(tactic| (k_extra "R ULex2 4"; intro D' h' t' tk' F' N' l1; (try k_lt l1)))
structure LexOrd2 (l I dI dS R S D cel cS cR : Addr) (news : List (Addr × Obj)) : Prop where
  a : @LT.lt Nat _ I l ∧ @LT.lt Nat _ dI l ∧ @LT.lt Nat _ dS l ∧ @LT.lt Nat _ R l ∧ @LT.lt Nat _ S l ∧ @LT.lt Nat _ D l ∧ @LT.lt Nat _ cel l ∧ @LT.lt Nat _ 187 l ∧ @LT.lt Nat _ cS l ∧ @LT.lt Nat _ cR l ∧ AllLt l news
  b : AllLt cel news
  c : @LT.lt Nat _ 187 cel ∧ @LT.lt Nat _ cS cel ∧ @LT.lt Nat _ cR cel ∧ @LT.lt Nat _ cel D ∧ @LT.lt Nat _ D S ∧ @LT.lt Nat _ S R ∧ @LT.lt Nat _ R dS ∧ @LT.lt Nat _ dS I ∧ @LT.lt Nat _ dS dI ∧ @Ne Nat I dI
noncomputable abbrev RetLex2 (w : World) (x : Str) (mg : Str → Option Value) (rest news : List (Addr × Obj)) (cR cS : Addr) (h₀ : Heap) (L : Addr) (m : Str → Option Value) (s : Shared) (Q : Value → Shared → Prop) : Prop :=
  ∀ {l I dI dS R S D cel : Addr} {q1 q2 : Str} {ocell : Obj} {pm1 pm2 ct1 ct2 : Value} {vs : List Value} {n : Nat} {h' : Heap} {tk : Nat} {k0 k1 k2 k3 k4 k5 k6 : Tok},
    Fr h₀ L h' m → News h₀ L h' ((l, W.listOf #[] 0) :: (I, instObj 150 dI) :: (dI, lexDict w 1 S l k0 k1 k2 k3 k4 k5) :: (dS, readDict w R k6) :: (R, readObj q1 cel pm1 cR ct1) :: (S, streamObj q2 dS pm2 cS ct2) ::
      (D, W.listOf vs.toArray n) :: (cel, ocell) :: rest) →
    StrsAre vs (signs x) → IsCellOf ocell D → q1 = lamQual → q2 = lamQual → LexOrd2 l I dI dS R S D cel cS cR news → Q (.ref I) { s with heap := h', toks := tk }
theorem lexer_claim2 {w : World} {p : Program} {loose : List Str} {mean : ExcName → Option Value} {mg mb : Str → Option Value} (news : List (Addr × Obj)) (cS cR : Addr) (ocS ocR : Obj) (ta tb tc td : Tok) (x : Str) (tx : Tok) :
    ClaimH PySem.Challenge.rw_uc0020_01.row.prog w (hd.heap_39 w.params) p loose mean mg mb 20 60 (call (.ref 192) [.str x tx]) ((187, tabObj #[.int 127 ta, .int 13 tb, .ref cS, .int 128 tc, .int 18 td, .ref cR]) :: (cS, ocS) :: (cR, ocR) :: news)
      (fun h => x.length ≤ 1000 ∧ x.cps.all (· < 128) = true ∧ CodeHd h 191 187 ∧ OwnOff news [187] ∧ OwnOff news [cS] ∧ OwnOff news [cR] ∧ LamCode lamQual ocS ∧ LamCode lamQual ocR ∧ @LT.lt Nat _ 187 cS ∧ @LT.lt Nat _ cS cR)
      (RetLex2 w x mg ((187, tabObj #[.int 127 ta, .int 13 tb, .ref cS, .int 128 tc, .int 18 td, .ref cR]) :: (cS, ocS) :: (cR, ocR) :: news) news cR cS) := by
  k_fill
  dsimp only [ClaimH, RetLex2]; intros
  rename_i hx _ _ hret
  obtain ⟨hx1, hx2, hcd, h187, hS, hR, lS, lR, o1, o2⟩ := hx
  obtain ⟨vsS, tS, eS1, eS2⟩ := lS.fields
  obtain ⟨vsR, tR, eR1, eR2⟩ := lR.fields
  have kMark := kstMark
  refine wpAny_call ?_
  k_dflt (walk_at "enterC")
  k_steps
  refine' hret ?F ?N ?s ?c ?q1 ?q2 ?o
  case F => assumption
  case N => assumption
  case s => assumption
  case c => exact ⟨by assumption⟩
  case q1 => kernel_rfl
  case q2 => kernel_rfl
  case o => exact ⟨by assumption, by first | assumption | exact And.right (by assumption) | exact And.right (And.right (by assumption)) | exact And.right (And.right (And.right (by assumption))), by omega⟩
end

section
open PySem PySem.W PySem.Spec PyProof.Rows
theorem rest_URead {prog : PySem.Program} {w : PySem.World} {A : PySem.Around} {env : PySem.Env} {Q : PySem.Flow → PySem.Shared → Prop} {E : PySem.Value → PySem.Shared → Prop} {s : PySem.Shared} (h : PySem.wpAny (PySem.model prog w) A (PySem.execs [] env) Q E s) : PySem.wpAny (PySem.model prog w) A (PySem.execs [] env) Q E s := by
  w_top off
  k_with_none
  first | (walk1; fail) | exact h
set_option maxRecDepth 100000
set_option maxHeartbeats 0
set_option pp.deepTerms false
section
variable {prog : Program} {w : World} {A : Around} {E : Value → Shared → Prop} {s : Shared} {h₀ : Heap} {L D : Addr} {m : Str → Option Value} {news news' : List (Addr × Obj)}
theorem pop0 {v : Value} {vs : List Value} {n : Nat} {u : Tok} {Q : Value → Shared → Prop} (F : Fr h₀ L s.heap m) (N : News h₀ L s.heap news) (U : Upd D (listOf (v :: vs).toArray n) (listOf vs.toArray (n + 1)) news news')
    (hz : vs.length ≤ 1000) (h : ∀ h', Fr h₀ L h' m → News h₀ L h' news' → Q v { s with heap := h' }) : wpAny (model prog w) A (call (.builtin "list.pop") [.ref D, .int 0 u]) Q E s := by
  refine kl_popAt (p := []) (q := vs) (k := 0) F N (by decide) ?_ ?_ U ?_ h
  · rw [List.size_toArray, List.length_cons]
    unfold seqIndex?
    simp
  · simp [kl_cut]
  · rw [sizeLine_eq]
    simp only [List.length_cons]
    omega
theorem ne_nilT {v : Value} {vs : List Value} {n k : Nat} {l : Addr} {Q : Value → Shared → Prop} (N : News h₀ L s.heap news) (hD : (D, W.listOf (v :: vs).toArray n) ∈ news) (hl : (l, W.listOf #[] k) ∈ news) (hu : A.units < cLine) (h : Q (.bool true) s) :
    wpAny (model prog w) A (compareOp .NotEq (.ref D) (.ref l)) Q E s :=
  PySem.SeqAt.RcNeAt.lists_lengths ⟨_, (N _ hD).1, rfl, n, rfl⟩ ⟨_, (N _ hl).1, rfl, k, rfl⟩ (by simp) hu prog w E Q h
theorem ne_nilF {n k : Nat} {l : Addr} {Q : Value → Shared → Prop} (N : News h₀ L s.heap news) (hD : (D, W.listOf (List.toArray []) n) ∈ news) (hl : (l, W.listOf #[] k) ∈ news) (hu : A.units < cLine) (h : Q (.bool false) s) :
    wpAny (model prog w) A (compareOp .NotEq (.ref D) (.ref l)) Q E s :=
  PySem.SeqAt.RcNeAt.lists (e := fun _ => true) ⟨_, (N _ hD).1, rfl, n, rfl⟩ ⟨_, (N _ hl).1, rfl, k, rfl⟩ (by simp) hu (fun j h1 _ => by simp at h1) prog w E Q h
end
section
variable {prog : Program} {w : World} {A A₀ : Around} {s : Shared} {K : Frag} {L : Addr} {h₀ base : Heap} {m mg mb : Str → Option Value} {news : List (Addr × Obj)} {p : Program} {loose : List Str} {mean : ExcName → Option Value}
theorem kla_codeT {env : Env} {outer : List Env} {R : Result → Shared → Prop} {name qual : Str} {params : Arguments} {body : Expr} {scope : Scope} {cl : List (Str × Addr)} {pm ctv : Value} {c' : Addr} {f : Addr} {args : Args} {binds : List (Str × Value)}
    (B : Below A₀ base outer h₀) (F : Fr h₀ L s.heap m) (X₀ : K.In h₀) (N : News h₀ L s.heap news) (T : Top p loose mean mg mb h₀) (hA : A.frames = some (env :: outer)) (hf : env.frame = some L) (hke : env.scope.kind = .function)
    (ho : (f, kla_obj name qual params body scope cl pm c' ctv) ∈ news) (hcd : s.heap.CodeRec (.ref c') qual) (hroom : A.depth < recursionLimit)
    (hbind : bindArgs (kla_fn name qual params body scope cl pm (.ref c') ctv) args = pure binds) (hloc : ∀ y ∈ binds, scope.names.lookup y.1 = some .local)
    (h : ∀ g L' h₁ tk, Fr h₀ L g m → Fr g L' h₁ (fun y => binds.reverse.lookup y) → News g L' h₁ news → Below A base (env :: outer) g → K.In g → Top p loose mean mg mb g →
      wpAny (model prog w) (A.deeper (envX qual scope L' f (.ref c') cl)) (eval body (envX qual scope L' f (.ref c') cl))
        (fun v s' => LeaveK h₀ L m g R v s')
        (fun e s' => wpAny (model prog w) (A.deeper (envX qual scope L' f (.ref c') cl)) (leaving (envX qual scope L' f (.ref c') cl) e) (fun _ s'' => R (.error e) s'') (fun e' s'' => R (.error e') s'') s')
        { s with heap := h₁, toks := tk })
    (hco : scope.isCoroutine = false) (hgen : scope.isGenerator = false) (hk : scope.kind = .function)
    (hcell : ∀ x ∈ scope.names, x.2 ≠ .cell) : codeAny (model prog w) A (.call (.ref f) args) R s :=
  kla_code B F X₀ N T hA hf hke ho hcd hroom hbind hloc (fun g L' h₁ a b c d e f => h g L' h₁ _ a b c d e f) hco hgen hk hcell
end
section
variable {w : World} {p : Program} {loose : List Str} {mean : ExcName → Option Value} {mg mb : Str → Option Value}
noncomputable abbrev RetRead (xs : List Str) (R D : Addr) (q : Str) (cel : Addr) (pm : Value) (cR : Addr) (ct : Value) (rest : List (Addr × Obj)) (h₀ : Heap) (L : Addr) (m : Str → Option Value) (s : Shared) (Q : Value → Shared → Prop) : Prop :=
  ∀ {vs' : List Value} {n' : Nat} {t : Tok} {h' : Heap} {tk : Nat}, Fr h₀ L h' m → News h₀ L h' ((R, readObj q cel pm cR ct) :: (D, W.listOf vs'.toArray n') :: rest) → StrsAre vs' xs.tail → Q (.str (xs.headD (Str.ofString "")) t) { s with heap := h', toks := tk }
structure ReadOrd (R D cel cR : Addr) (news : List (Addr × Obj)) : Prop where
  a : D ≠ R ∧ D ≠ cel ∧ D ≠ cR
  b : OwnOff news [D]
local macro_rules | `(tactic| k_ne) => `(tactic| ((try dsimp only); first | with_reducible assumption | (refine Ne.symm ?_; with_reducible assumption)))
local macro_rules | `(tactic| k_room) => `(tactic| ktr_room)
theorem rule_URead_1 : True := by
  k_with "R URead 1" => (refine' kla_codeT ?k1 ?k2 ?k3 ?k4 ?k5 ?kA ?kF ?kK ?k6 ?k7 ?k8 ?k9 ?kB ?_ ?c2 ?c3 ?c4 ?c5; (case kA => exact rfl); (case kF => exact rfl); (case kK => first | exact rfl | assumption); (case k1 => k_asm); (case k2 => k_asm); (case k3 => k_asm); (case k4 => k_asm); (case k5 => k_asm); (case k6 => k_mem); (case k7 => exact codeRec_news (by k_asm) (by k_mem) (by assumption) (by assumption)); (case k8 => ktr_room); (case k9 => exact rfl); (case kB => exact locs rfl); (case c2 => exact rfl); (case c3 => exact rfl); (case c4 => exact rfl); (case c5 => decide +kernel); k_whole)
  exact trivial
local macro_rules | `(tactic| walk_at "enterL") => `(tactic| (k_extra "R URead 1"; intro g' L' h' tk' FG' F' N' B' X' T'; (try dsimp only); (try k_lift B'); (try k_fold)))
theorem rule_URead_2 : True := by
  k_with "compareOp NotEq ref ref" => ((k_here; k_dflt (first | (refine' ne_nilT ?N ?D ?l ?u ?_; (case N => k_asm); (case D => k_mem); (case l => k_mem); (case u => ktr_units)) | (refine' ne_nilF ?N ?D ?l ?u ?_; (case N => k_asm); (case D => k_mem); (case l => k_mem); (case u => ktr_units)))))
  exact trivial
theorem rule_URead_3 : True := by
  k_with "eval Name" => ((k_here; name_kind "free"; k_dflt (refine' nameX_F ?N ?c ?m ?d ?_ ?a ?b; (case a => rfl); (case b => rfl); (case N => k_asm); (case c => rfl); (case m => k_mem); (case d => k_asm); k_whole)))
  exact trivial
theorem rule_URead_4 : True := by
  k_with "R URead 4" => (k_here; (with_reducible show wpAny _ _ (call (Value.builtin _) [Value.ref _, Value.int 0 _]) _ _ _); k_dflt (refine' pop0 ?F ?N ?U ?hz ?_; (case F => k_asm); (case N => k_asm); (case U => k_upd); (case hz => assumption)))
  exact trivial
local macro_rules | `(tactic| walk_at "call builtin:list.pop") => `(tactic| (k_extra "R URead 4"; intro h' F' N'; (try dsimp only [List.nil_append, List.cons_append] at N')))
theorem read_cons (x : Str) (xs : List Str) (v : Value) (vs : List Value) {R D cel cR : Addr} {q : Str} {pm ct : Value} {ocell ocR : Obj} {n : Nat} (news : List (Addr × Obj)) (one : Tok) :
    Claim PySem.Challenge.rw_uc0020_01.row.prog w (hd.heap_39 w.params) p loose mean mg mb 20 60 (call (.ref R) [.int 1 one]) ((R, readObj q cel pm cR ct) :: (D, W.listOf (v :: vs).toArray n) :: (cel, ocell) :: (cR, ocR) :: news)
      (StrsAre (v :: vs) (x :: xs) ∧ vs.length ≤ 1000 ∧ IsCellOf ocell D ∧ LamCode q ocR ∧ ReadOrd R D cel cR news) (RetRead (x :: xs) R D q cel pm cR ct ((cel, ocell) :: (cR, ocR) :: news)) := by
  k_fill
  dsimp only [Claim, RetRead]; intros
  rename_i hx _ _ hret
  obtain ⟨hs, hlen, hcell, hcode, hord⟩ := hx
  obtain ⟨⟨ho1, ho3, ho4⟩, ho2⟩ := hord
  cases hs
  rename_i tv hs'
  obtain ⟨hcell⟩ := hcell
  obtain ⟨cfs, ctk, hcd1, hcd2⟩ := hcode
  have kMark := kstMark
  refine wpAny_call ?_
  k_dflt (walk_at "enterL")
  have hI0 : IntsAre [] [] := .nil
  have hS0 : StrsAre [] [] := .nil
  delta readBody
  k_steps
  refine' hret ?F ?N ?s
  case F => assumption
  case N => exact fun p hp => ‹News _ _ _ _› p (.tail _ hp)
  case s => assumption
theorem read_nil {R D cel cR : Addr} {q : Str} {pm ct : Value} {ocell ocR : Obj} {n : Nat} (news : List (Addr × Obj)) (one : Tok) :
    Claim PySem.Challenge.rw_uc0020_01.row.prog w (hd.heap_39 w.params) p loose mean mg mb 20 60 (call (.ref R) [.int 1 one]) ((R, readObj q cel pm cR ct) :: (D, W.listOf (List.toArray []) n) :: (cel, ocell) :: (cR, ocR) :: news)
      (IsCellOf ocell D ∧ LamCode q ocR ∧ ReadOrd R D cel cR news) (RetRead [] R D q cel pm cR ct ((cel, ocell) :: (cR, ocR) :: news)) := by
  k_fill
  dsimp only [Claim, RetRead]; intros
  rename_i hx _ _ hret
  obtain ⟨hcell, hcode, hord⟩ := hx
  obtain ⟨⟨ho1, ho3, ho4⟩, ho2⟩ := hord
  obtain ⟨hcell⟩ := hcell
  obtain ⟨cfs, ctk, hcd1, hcd2⟩ := hcode
  have kMark := kstMark
  refine wpAny_call ?_
  k_dflt (walk_at "enterL")
  have hI0 : IntsAre [] [] := .nil
  have hS0 : StrsAre [] [] := .nil
  delta readBody
  k_steps
  refine' hret ?F ?N ?s
  case F => assumption
  case N => exact fun p hp => ‹News _ _ _ _› p (.tail _ hp)
  case s => exact .nil
/-- the stream's read(1): the next sign, or none -/
theorem read_claim (xs : List Str) (vs : List Value) {R D cel cR : Addr} {q : Str} {pm ct : Value} {ocell ocR : Obj} {n : Nat} (news : List (Addr × Obj)) (one : Tok) :
    Claim PySem.Challenge.rw_uc0020_01.row.prog w (hd.heap_39 w.params) p loose mean mg mb 20 60 (call (.ref R) [.int 1 one]) ((R, readObj q cel pm cR ct) :: (D, W.listOf vs.toArray n) :: (cel, ocell) :: (cR, ocR) :: news)
      (StrsAre vs xs ∧ vs.length ≤ 1000 ∧ IsCellOf ocell D ∧ LamCode q ocR ∧ ReadOrd R D cel cR news) (RetRead xs R D q cel pm cR ct ((cel, ocell) :: (cR, ocR) :: news)) := by
  dsimp only [Claim]
  intro dp un gd cn cs a ccd cl outer A₀ base h₀ L m s Q E B F X N T hk hpre hd hu hret
  obtain ⟨hs, hlen, h3⟩ := hpre
  cases vs with
  | nil =>
    cases hs
    exact read_nil (w := w) (p := p) (loose := loose) (mean := mean) (mg := mg) (mb := mb) news one dp un gd cn cs a ccd cl outer A₀ base h₀ L m s Q E B F X N T hk h3 hd hu hret
  | cons v vs =>
    cases xs with
    | nil => cases hs
    | cons x xs => exact read_cons (w := w) (p := p) (loose := loose) (mean := mean) (mg := mg) (mb := mb) x xs v vs news one dp un gd cn cs a ccd cl outer A₀ base h₀ L m s Q E B F X N T hk ⟨hs, by simp at hlen; omega, h3⟩ hd hu hret
end
end

section
open PySem PySem.W PySem.Spec PyProof.Rows
theorem rest_UFnGet {prog : PySem.Program} {w : PySem.World} {A : PySem.Around} {env : PySem.Env} {Q : PySem.Flow → PySem.Shared → Prop} {E : PySem.Value → PySem.Shared → Prop} {s : PySem.Shared} (h : PySem.wpAny (PySem.model prog w) A (PySem.execs [] env) Q E s) : PySem.wpAny (PySem.model prog w) A (PySem.execs [] env) Q E s := by
  w_top off
  k_with_none
  first | (walk1; fail) | exact h
set_option maxRecDepth 100000
set_option maxHeartbeats 0
set_option pp.deepTerms false
namespace FG
theorem lk_ga : typeLookup (.type "function") "__getattr__" = pure none := by rw [typeLookup_type, builtinLookup_eq_fast]; kernel_rfl
theorem slot_ga : Slot "function" "__getattribute__" "object.__getattribute__" :=
  .of (owner := "object") (n := "__getattribute__") (by rw [typeLookup_type, builtinLookup_eq_fast]; kernel_rfl) (by decide +kernel) (by decide +kernel) (by decide +kernel)
    (by first | exact .inl (by decide +kernel) | exact .inr (by decide +kernel)) (by rw [isSubtype_type]; kernel_rfl)
theorem args_ga (a b : Value) : argsOk "object.__getattribute__" ⟨[a, b], []⟩ := by unfold argsOk; kernel_rfl
theorem canon_ga : (Manifest.canonical "object.__getattribute__" != "object.__getattribute__") = false := by decide +kernel
theorem sub_static : isSubtype (.type "function") (.type "staticmethod") = pure false := by rw [isSubtype_type]; kernel_rfl
theorem sub_classm : isSubtype (.type "function") (.type "classmethod") = pure false := by rw [isSubtype_type]; kernel_rfl
end FG
structure IsFnD (h : Heap) (S D : Addr) (oD : Obj) : Prop where
  fn : ∃ fd sl, h.get? S = some { cls := .type "function", dict := some D, data := .func fd, slots := sl }
  dict : h.get? D = some oD
section
variable {prog : Program} {w : World} {A : Around} {E : Value → Shared → Prop} {h : Heap} {g : Array GenState} {d : Drawn} {t : Nat} {os : OsState} {S D : Addr} {oD : Obj}
theorem fn_object_entry {name : Str} {tk : Tok} {v : Value} {Q : Fin → Shared → Prop} (hm : IsFnD h S D oD) (hnm : typeLookup (.type "function") name = pure none) (hv : lookIn name oD = some (some v))
    (hq : Q (.done (.ret v)) ⟨h, g, d, t, os⟩) : wpAny (model prog w) A (Builtin.«object.__getattribute__» ⟨[.ref S, .str name tk], []⟩) Q E ⟨h, g, d, t, os⟩ := by
  obtain ⟨⟨fd, sl, hM⟩, hD⟩ := hm
  have hT : (⟨h, g, d, t, os⟩ : Shared).TypeIs (.ref S) "function" := ⟨_, hM, rfl⟩
  have f1 := FG.sub_static
  have f2 := FG.sub_classm
  have f3 := nsLook_of hv
  repeat (any_goals (first | assumption | rw [f3] | (with_reducible refine wpAny_loadPart_at hD ?_) | wp_step))
theorem getAttr_fnD {name : Str} {v : Value} {Q : Value → Shared → Prop} (hm : IsFnD h S D oD) (hnm : typeLookup (.type "function") name = pure none) (hv : lookIn name oD = some (some v))
    (hh : handedOut v = pure v) (hq : Q v ⟨h, g, d, t + 1, os⟩) : wpAny (model prog w) A (getAttr (.ref S) name) Q E ⟨h, g, d, t, os⟩ := by
  obtain ⟨fd, sl, hM⟩ := hm.fn
  have hT : (⟨h, g, d, t, os⟩ : Shared).TypeIs (.ref S) "function" := ⟨_, hM, rfl⟩
  have hT1 : (⟨h, g, d, t + 1, os⟩ : Shared).TypeIs (.ref S) "function" := ⟨_, hM, rfl⟩
  have f1 := FG.slot_ga.lookup
  have f2 := FG.lk_ga
  have f4 := FG.slot_ga.bind (.ref S)
  repeat (any_goals (first | assumption | (rw [if_neg (show ¬ (true && onTheHeap (Value.builtin "object.__getattribute__")) = true by decide)]) | wp_step))
  refine codeAny_call_builtin FG.slot_ga.plain PySem.F.entry_object_getattribute (FG.slot_ga.check _ _ _ _ _ _ _ _ hT1 (FG.args_ga _ _) (fn_object_entry hm hnm hv ?_))
  repeat (any_goals (first | assumption | wp_step))
theorem getMethod_fnD {name : Str} {v : Value} {pl : Sem Bool} {Q : Value × List Value → Shared → Prop} (hm : IsFnD h S D oD) (hnm : typeLookup (.type "function") name = pure none) (hv : lookIn name oD = some (some v))
    (hh : handedOut v = pure v) (hq : Q (v, []) ⟨h, g, d, t + 1, os⟩) : wpAny (model prog w) A (getMethod (.ref S) name pl) Q E ⟨h, g, d, t, os⟩ := by
  obtain ⟨fd, sl, hM⟩ := hm.fn
  have hT : (⟨h, g, d, t, os⟩ : Shared).TypeIs (.ref S) "function" := ⟨_, hM, rfl⟩
  unfold getMethod
  refine wpAny_bind (wpAny_specialOf hT FG.slot_ga.lookup ?_)
  show wpAny _ A (if (Manifest.canonical "object.__getattribute__" != "object.__getattribute__") = true then _ else _) Q E _
  rw [FG.canon_ga, if_neg Bool.false_ne_true]
  refine wpAny_bind (wpAny_specialOf hT FG.lk_ga ?_)
  show wpAny _ A (if (Option.isSome none) = true then _ else _) Q E _
  rw [if_neg (by decide)]
  refine wpAny_bind (wpAny_specialOf hT hnm ?_)
  exact wpAny_bind (getAttr_fnD hm hnm hv hh (wpAny_pure hq))
end
theorem look_readDict {w : World} {R : Addr} {k : Tok} : lookIn (Str.ofString "read") (readDict w R k) = some (some (.ref R)) := by
  simp [lookIn, Value.isStr]
end

section
open PySem PySem.W PySem.Spec PyProof.Rows
theorem rest_UChar {prog : PySem.Program} {w : PySem.World} {A : PySem.Around} {env : PySem.Env} {Q : PySem.Flow → PySem.Shared → Prop} {E : PySem.Value → PySem.Shared → Prop} {s : PySem.Shared} (h : PySem.wpAny (PySem.model prog w) A (PySem.execs [] env) Q E s) : PySem.wpAny (PySem.model prog w) A (PySem.execs [] env) Q E s := by
  w_top off
  k_with_none
  first | (walk1; fail) | exact h
set_option maxRecDepth 100000
set_option maxHeartbeats 0
set_option pp.deepTerms false
/-- how the addresses of a lexer lie apart, as far as reading goes -/
structure CharOrd (R D cel cR I dI dS S : Addr) (news : List (Addr × Obj)) : Prop where
  a : D ≠ R ∧ D ≠ cel ∧ D ≠ cR ∧ D ≠ I ∧ D ≠ dI ∧ D ≠ dS ∧ D ≠ S
  b : dI ≠ R ∧ dI ≠ cel ∧ dI ≠ cR ∧ dI ≠ I ∧ dI ≠ dS ∧ dI ≠ S
  c : OwnOff news [D, dI]
theorem CharOrd.read {R D cel cR I dI dS S : Addr} {news : List (Addr × Obj)} {o1 o2 o3 o4 : Obj} (h : CharOrd R D cel cR I dI dS S news) : ReadOrd R D cel cR ((I, o1) :: (dI, o2) :: (dS, o3) :: (S, o4) :: news) := by
  obtain ⟨⟨a1, a2, a3, a4, a5, a6, a7⟩, _, c⟩ := h
  refine ⟨⟨a1, a2, a3⟩, ?_⟩
  intro p hp b hb
  simp only [List.mem_singleton] at hb
  subst hb
  simp only [List.mem_cons] at hp
  rcases hp with rfl | rfl | rfl | rfl | hp
  · exact fun e => a4 e.symm
  · exact fun e => a5 e.symm
  · exact fun e => a6 e.symm
  · exact fun e => a7 e.symm
  · exact c p hp _ (by simp)
/-- a contract on a call taken as code (so that a tail call may use it) -/
noncomputable abbrev ClaimC (prog : Program) (w : World) (K : Frag) (p : Program) (loose : List Str) (mean : ExcName → Option Value) (mg mb : Str → Option Value) (d u : Nat) (f : Value) (args : List Value) (news : List (Addr × Obj)) (pre : Prop)
    (ret : Heap → Addr → (Str → Option Value) → Shared → (Value → Shared → Prop) → Prop) : Prop :=
  ∀ (dp un : Nat) (gd : Option (List Code)) (cn : Str) (cs : Scope) (a : Addr) (ccd : Value) (cl : List (Str × Addr)) (outer : List Env) (A₀ : Around) (base h₀ : Heap) (L : Addr) (m : Str → Option Value) (s : Shared) (Q E : Value → Shared → Prop),
    Below A₀ base outer h₀ → Fr h₀ L s.heap m → K.In h₀ → News h₀ L s.heap news → Top p loose mean mg mb h₀ → cs.kind = .function →
      pre → dp + d < recursionLimit → un + u < cLine → ret h₀ L m s Q →
      codeAny (model prog w) (ktrTop dp un gd cn cs L a ccd cl outer) (.call f ⟨args, []⟩) (fun r s' => match r with | .ok (.ret v) => Q v s' | .ok _ => False | .error e => E e s') s
section
variable {prog : Program} {w : World} {A : Around} {E : Value → Shared → Prop} {s : Shared} {h₀ : Heap} {L : Addr} {m : Str → Option Value} {news : List (Addr × Obj)}
theorem read_method {S dS R cS : Addr} {q : Str} {pm ct : Value} {k : Tok} {pl : Sem Bool} {Q : Value × List Value → Shared → Prop} (N : News h₀ L s.heap news) (hS : (S, streamObj q dS pm cS ct) ∈ news) (hd : (dS, readDict w R k) ∈ news)
    (h : Q (.ref R, []) { s with toks := s.toks + 1 }) : wpAny (model prog w) A (getMethod (.ref S) "read" pl) Q E s := by
  obtain ⟨hh, g, d, t, os⟩ := s
  exact getMethod_fnD (oD := readDict w R k) ⟨⟨_, _, (N _ hS).1⟩, (N _ hd).1⟩ fn_read look_readDict rfl h
end
section
variable {w : World} {p : Program} {loose : List Str} {mean : ExcName → Option Value} {mg mb : Str → Option Value}
noncomputable def lineF (ln : Int) (xs : List Str) : Int := if xs.headD (Str.ofString "") = Str.ofString "\n" then ln + 1 else ln
noncomputable abbrev RetCh (w : World) (ln : Int) (xs : List Str) (R D I dI dS S l : Addr) (q1 q2 : Str) (cel : Addr) (pm1 pm2 : Value) (cR cS : Addr) (ct1 ct2 : Value) (ocell ocR : Obj) (k6 : Tok) (news : List (Addr × Obj)) (h₀ : Heap) (L : Addr) (m : Str → Option Value) (s : Shared) (Q : Value → Shared → Prop) : Prop :=
  ∀ {vs' : List Value} {n' : Nat} {t : Tok} {h' : Heap} {tk : Nat} {k0 k1 k2 k3 k4 k5 : Tok}, Fr h₀ L h' m →
    News h₀ L h' ((R, readObj q1 cel pm1 cR ct1) :: (D, W.listOf vs'.toArray n') :: (cel, ocell) :: (cR, ocR) :: (I, instObj 150 dI) :: (dI, lexDict w (lineF ln xs) S l k0 k1 k2 k3 k4 k5) :: (dS, readDict w R k6) :: (S, streamObj q2 dS pm2 cS ct2) :: news) →
    StrsAre vs' xs.tail → Q (.str (xs.headD (Str.ofString "")) t) { s with heap := h', toks := tk }
local macro_rules | `(tactic| k_room) => `(tactic| ktr_room)
local macro_rules | `(tactic| k_ne) => `(tactic| ((try dsimp only); first | with_reducible assumption | (refine Ne.symm ?_; with_reducible assumption)))
theorem rule_UChar_1 : True := by
  k_with "getMethod ref" => ((k_here; (with_reducible show wpAny _ _ (getMethod (Value.ref _) (PySem.Str.ofString "read") _) _ _ _); k_dflt (refine' read_method ?N ?S ?d ?_; (case N => k_asm); (case S => k_mem); (case d => k_mem)); (try dsimp only)))
  exact trivial
theorem rule_UChar_2 : True := by
  k_with "callWith ref" => ((k_here; (with_reducible show wpAny _ _ (callWith _ (Value.ref _) [] (backTo _ (starEach (_ :: _) _)) _) _ _ _); k_dflt (refine' callWith_F ?k1 ?_; (case k1 => exact FnAt.of (by k_asm) (by k_mem)); k_whole)))
  exact trivial
theorem rule_UChar_3 : True := by
  k_with "R UChar 3" => (k_here; (with_reducible show wpAny _ _ (call (Value.ref _) [Value.int 1 _]) _ _ _); k_dflt (refine' read_claim _ _ _ _ _ _ _ _ _ _ _ _ _ _ _ _ _ _ _ _ _ ?kB ?kF ?kK ?kN ?kT ?kc ?kp ?kd ?ku ?_; (case kB => k_asm); (case kF => k_asm); (case kK => k_asm); (case kN => k_asm); (case kT => k_asm); (case kc => first | exact rfl | assumption); (case kp => exact ⟨by assumption, by assumption, by assumption, by assumption, CharOrd.read (by assumption)⟩); (case kd => ktr_room); (case ku => ktr_units)); dsimp only [RetRead])
  exact trivial
local macro_rules | `(tactic| walk_at "call ref") => `(tactic| (k_extra "R UChar 3"; intro vs' n' t' h' tk' F' N' hs'))
theorem char_code (ln : Int) (xs : List Str) (vs : List Value) {R D cel cR I dI dS S l cS : Addr} {q1 q2 : Str} {pm1 pm2 ct1 ct2 : Value} {ocell ocR : Obj} {n : Nat} {k0 k1 k2 k3 k4 k5 k6 : Tok} (news : List (Addr × Obj)) :
    ClaimC PySem.Challenge.rw_uc0020_01.row.prog w (hd.heap_39 w.params) p loose mean mg mb 40 120 (.ref 133) [.ref I]
      ((R, readObj q1 cel pm1 cR ct1) :: (D, W.listOf vs.toArray n) :: (cel, ocell) :: (cR, ocR) :: (I, instObj 150 dI) :: (dI, lexDict w ln S l k0 k1 k2 k3 k4 k5) :: (dS, readDict w R k6) :: (S, streamObj q2 dS pm2 cS ct2) :: news)
      (StrsAre vs xs ∧ vs.length ≤ 1000 ∧ IsCellOf ocell D ∧ LamCode q1 ocR ∧ CharOrd R D cel cR I dI dS S news)
      (RetCh w ln xs R D I dI dS S l q1 q2 cel pm1 pm2 cR cS ct1 ct2 ocell ocR k6 news) := by
  k_fill
  dsimp only [ClaimC, RetCh]; intros
  rename_i hx _ _ hret
  obtain ⟨hs, hlen, hcell, hcode, hord⟩ := hx
  obtain ⟨⟨a1, a2, a3, a4, a5, a6, a7⟩, ⟨b1, b2, b3, b4, b5, b6⟩, hoff⟩ := id hord
  have kMark := kstMark
  have hI0 : IntsAre [] [] := .nil
  have hS0 : StrsAre [] [] := .nil
  k_dflt cell_enter
  k_steps
  · have e : lineF ln xs = ln + 1 := by
      unfold lineF
      rw [if_pos (by simpa using ‹(xs.headD _ == _) = true›)]
    rw [e] at hret
    refine' hret ?F ?N ?s
    case F => assumption
    case N => assumption
    case s => assumption
  · have e : lineF ln xs = ln := by
      unfold lineF
      rw [if_neg (by simpa using ‹(xs.headD _ == _) = false›)]
    rw [e] at hret
    refine' hret ?F ?N ?s
    case F => assumption
    case N => assumption
    case s => assumption
theorem char_claim (ln : Int) (xs : List Str) (vs : List Value) {R D cel cR I dI dS S l cS : Addr} {q1 q2 : Str} {pm1 pm2 ct1 ct2 : Value} {ocell ocR : Obj} {n : Nat} {k0 k1 k2 k3 k4 k5 k6 : Tok} (news : List (Addr × Obj)) :
    Claim PySem.Challenge.rw_uc0020_01.row.prog w (hd.heap_39 w.params) p loose mean mg mb 40 120 (call (.ref 133) [.ref I])
      ((R, readObj q1 cel pm1 cR ct1) :: (D, W.listOf vs.toArray n) :: (cel, ocell) :: (cR, ocR) :: (I, instObj 150 dI) :: (dI, lexDict w ln S l k0 k1 k2 k3 k4 k5) :: (dS, readDict w R k6) :: (S, streamObj q2 dS pm2 cS ct2) :: news)
      (StrsAre vs xs ∧ vs.length ≤ 1000 ∧ IsCellOf ocell D ∧ LamCode q1 ocR ∧ CharOrd R D cel cR I dI dS S news)
      (RetCh w ln xs R D I dI dS S l q1 q2 cel pm1 pm2 cR cS ct1 ct2 ocell ocR k6 news) := by
  dsimp only [Claim]
  intro dp un gd cn cs a ccd cl outer A₀ base h₀ L m s Q E B F X N T hk hpre hd hu hret
  exact wpAny_call (char_code (w := w) (p := p) (loose := loose) (mean := mean) (mg := mg) (mb := mb) ln xs vs news dp un gd cn cs a ccd cl outer A₀ base h₀ L m s Q E B F X N T hk hpre hd hu hret)
end
end

section
open PySem PySem.W PySem.Spec PyProof.Rows
theorem rest_UNext {prog : PySem.Program} {w : PySem.World} {A : PySem.Around} {env : PySem.Env} {Q : PySem.Flow → PySem.Shared → Prop} {E : PySem.Value → PySem.Shared → Prop} {s : PySem.Shared} (h : PySem.wpAny (PySem.model prog w) A (PySem.execs [] env) Q E s) : PySem.wpAny (PySem.model prog w) A (PySem.execs [] env) Q E s := by
  w_top off
  k_with_none
  first | (walk1; fail) | exact h
set_option maxRecDepth 100000
set_option maxHeartbeats 0
set_option pp.deepTerms false
namespace CI
theorem slot_next : Slot "callable_iterator" "__next__" "callable_iterator.__next__" :=
  .of (owner := "callable_iterator") (n := "__next__") (by rw [typeLookup_type, builtinLookup_eq_fast]; kernel_rfl) (by decide +kernel) (by decide +kernel) (by decide +kernel)
    (by first | exact .inl (by decide +kernel) | exact .inr (by decide +kernel)) (by rw [isSubtype_type]; kernel_rfl)
theorem entry_next : entryFor table "callable_iterator.__next__" = some Builtin.«callable_iterator.__next__» := entryFor_of_tree (by kernel_rfl)
theorem args_next (a : Value) : argsOk "callable_iterator.__next__" ⟨[a], []⟩ := by unfold argsOk; kernel_rfl
end CI
noncomputable abbrev iterOn (bm : Addr) (t : Tok) : Obj := { cls := .type "callable_iterator", data := .fields #[.ref bm, .str (Str.ofString "") t, .bool false] }
noncomputable abbrev iterOff : Obj := { cls := .type "callable_iterator", data := .fields #[.none, .none, .bool true] }
theorem wpAny_callBorrowed {M : Model} {A : Around} {E : Value → Shared → Prop} {s : Shared} {f : Value} {pos : List Value} {Q : Value → Shared → Prop}
    (hc : codeAny M A (.call f ⟨pos, []⟩) (fun r s' => match r with | .ok (.ret v) => Q v s' | .ok _ => False | .error e => E e s') s) : wpAny M A (callBorrowed f pos) Q E s := by
  intro Γ p hΓ
  have h0 := wpAny_runValue (M := M) (A := A) (E := E) (Q := Q) hc Γ p hΓ
  rw [Sem.wp_runValue] at h0
  refine wpCode_mono ?_ h0
  intro r s' hr
  rcases r with e | f
  · exact hr
  · cases f <;> exact hr
section
variable {prog : Program} {w : World} {A : Around} {s : Shared} {it bm f x : Addr} {t : Tok}
/-- where the callable iterator, its bound method and the method's function stand -/
structure IterAt (h : Heap) (it bm f x : Addr) (t : Tok) : Prop where
  it : h.get? it = some (iterOn bm t)
  bm : h.get? bm = some (methodObj (.ref f) (.ref x))
  fn : ∃ o fd, h.get? f = some o ∧ o.data = .func fd
theorem borrows {E : Value → Shared → Prop} {Q : Bool → Shared → Prop} (H : IterAt s.heap it bm f x t) (h : Q true s) : wpAny (model prog w) A (borrowsExactly (.ref bm)) Q E s := by
  obtain ⟨hit, hbm, o, fd, hf, hfd⟩ := H
  obtain ⟨cls, dd, data, sl⟩ := o
  simp only at hfd
  subst hfd
  unfold borrowsExactly
  refine wpAny_bind (wpAny_load hbm ?_)
  show wpAny _ _ (if (Value.type "method" == Value.type "method") = true then _ else _) _ _ _
  rw [if_pos (by decide)]
  exact wpAny_bind (wpAny_load hf (wpAny_pure h))
theorem next_call {E : Value → Shared → Prop} {Q : Option Value → Shared → Prop} (hh : A.handled = none) (H : IterAt s.heap it bm f x t)
    (hc : codeAny (model prog w) A.in1 (.call (.ref f) ⟨[.ref x], []⟩) (fun r s' => match r with | .ok (.ret v) => ∃ y ty, v = .str y ty ∧ IterAt s'.heap it bm f x t ∧
      (if y = Str.ofString "" then (∀ h' tk, (∀ b o, b ≠ it → s'.heap.get? b = some o → h'.get? b = some o) → h'.get? it = some iterOff → Q none { s' with heap := h', toks := tk }) else Q (some (.str y ty)) s') | .ok _ => False | .error _ => False) s) :
    wpAny (model prog w) A (pyNext (.ref it)) Q E s := by
  have hT : s.TypeIs (.ref it) "callable_iterator" := ⟨_, H.it, rfl⟩
  unfold pyNext
  refine wpAny_bind (wpAny_attempt (wpAny_callSpecial?_slot (name := Str.ofString "__next__") hT CI.slot_next
    (wpAny_call_entry CI.slot_next hT CI.entry_next ?_ (CI.args_next _))))
  show wpAny _ _ (field (.ref it) 2 >>= _) _ _ s
  refine wpAny_bind (wpAny_field H.it rfl (x := .bool false) rfl ?_)
  show wpAny _ _ (if (Value.bool false == Value.bool true) = true then _ else _) _ _ s
  rw [if_neg (by decide)]
  show wpAny _ _ (field (.ref it) 0 >>= _) _ _ s
  refine wpAny_bind (wpAny_field H.it rfl (x := .ref bm) rfl ?_)
  refine wpAny_bind (wpAny_attempt ?_)
  unfold callOutOfASlot
  refine wpAny_bind (borrows H ?_)
  show wpAny _ _ (if true = true then _ else _) _ _ s
  rw [if_pos rfl]
  refine wpAny_callBorrowed (ks_codeAny_call_bound H.bm ?_)
  refine codeAny_mono hc ?_
  intro r s' hr
  rcases r with e | fl
  · exact hr.elim
  · cases fl with
    | next => exact hr.elim
    | cont => exact hr.elim
    | brk => exact hr.elim
    | ret v =>
      obtain ⟨y, ty, rfl, H', hy⟩ := hr
      show wpAny _ _ (field (.ref it) 2 >>= _) _ _ s'
      refine wpAny_bind (wpAny_field H'.it rfl (x := .bool false) rfl ?_)
      show wpAny _ _ (if (Value.bool false == Value.bool true) = true then _ else _) _ _ s'
      rw [if_neg (by decide)]
      show wpAny _ _ (field (.ref it) 1 >>= _) _ _ s'
      refine wpAny_bind (wpAny_field H'.it rfl (x := .str (Str.ofString "") t) rfl ?_)
      refine wpAny_bind (wpAny_holding (wpAny_eqBool_str ?_))
      by_cases hy0 : y = Str.ofString ""
      · subst hy0
        rw [if_pos rfl] at hy
        show wpAny _ _ (if (!decide (Str.ofString "" = Str.ofString "")) = true then _ else _) _ _ s'
        rw [if_neg (by decide)]
        refine wpAny_bind (wpAny_rule ?_)
        refine wpAny_bind ?_
        show wpAny _ _ (field (.ref it) 0 >>= _) _ _ s'
        refine wpAny_bind (wpAny_field H'.it rfl (x := .ref bm) rfl ?_)
        refine wpAny_bind ?_
        unfold slotLetsGo
        refine wpAny_bind (borrows H' ?_)
        show wpAny _ _ (if true = true then _ else _) _ _ s'
        rw [if_pos rfl]
        refine wpAny_pure ?_
        refine wpAny_bind (wpAny_setField_rec H'.it (by simp) fun h1 e1 b1 => ?_)
        refine wpAny_bind (wpAny_setField_rec e1 (by simp) fun h2 e2 b2 => ?_)
        refine wpAny_setField_rec e2 (by simp) fun h3 e3 b3 => ?_
        show wpAny _ _ (newExc (.type "StopIteration") [] >>= _) _ _ _
        refine wpAny_bind ?_
        simp only [newExc, newTuple]
        refine wpAny_bind (wpAny_newObj_type ?_ (by size_fits))
        refine wpAny_bind (m := firstArgMember _ _) (wpAny_of_eq (a := Value.none) (by first | rfl | (simp only [firstArgMember]; rfl)) ?_)
        refine wpAny_newObj_type ?_ (by size_fits)
        simp only [raiseNew]
        refine wpAny_bind (wpAny_handled ?_)
        rw [show A.in1.handled = none from hh]
        refine wpAny_bind (wpAny_pure (wpAny_throw ?_))
        refine wpAny_bind (wpAny_isInstance (T := "StopIteration") (b := true) ⟨_, Heap.get?_push_size _ rfl, rfl⟩ isSubtype_stop ?_)
        refine wpAny_pure (hy _ _ (fun b o hb hbo => ?_) ?_)
        · exact Heap.get?_push_of_some _ (Heap.get?_push_of_some _ ((b3.2 b hb).trans ((b2.2 b hb).trans ((b1.2 b hb).trans hbo))))
        · exact Heap.get?_push_of_some _ (Heap.get?_push_of_some _ e3)
      · rw [if_neg hy0] at hy
        show wpAny _ _ (if (!decide (Str.ofString "" = y)) = true then _ else _) _ _ s'
        rw [if_pos (by simpa using fun e => hy0 e.symm)]
        exact wpAny_bind (wpAny_pure (wpAny_pure ⟨_, rfl, wpAny_pure hy⟩))
end
theorem fn133_ok (P : Params) : ((hd.heap_39 P).lookup 133).any (fun o => match o.data with | .func _ => true | _ => false) = true := by kernel_rfl
theorem fn133 {P : Params} {h : Heap} (X : (hd.heap_39 P).In h) : ∃ o fd, h.get? 133 = some o ∧ o.data = .func fd := by
  have h0 := fn133_ok P
  cases hl : (hd.heap_39 P).lookup 133 with
  | none => rw [hl] at h0; cases h0
  | some o =>
    rw [hl] at h0
    obtain ⟨cls, dd, data, sl⟩ := o
    cases data with
    | func fd => exact ⟨_, fd, X 133 _ hl, rfl⟩
    | _ => cases h0
/-- no sign is empty -/
structure Filled (xs : List Str) : Prop where
  ne : ∀ x ∈ xs, x ≠ Str.ofString ""
theorem Filled.tail {xs : List Str} (h : Filled xs) : Filled xs.tail := ⟨fun x hx => h.ne x (List.mem_of_mem_tail hx)⟩
noncomputable def iterF (bm : Addr) (t : Tok) (xs : List Str) : Obj := if xs = [] then iterOff else iterOn bm t
noncomputable def nextIs (xs : List Str) (v : Option Value) : Prop := match xs with | [] => v = none | x :: _ => ∃ t, v = some (.str x t)
/-- the ledger entries of a lexer that reading touches -/
noncomputable abbrev coreL (w : World) (ln : Int) (vs : List Value) (n : Nat) (R D I dI dS S l : Addr) (q1 q2 : Str) (cel : Addr) (pm1 pm2 : Value) (cR cS : Addr) (ct1 ct2 : Value) (ocell ocR : Obj) (k0 k1 k2 k3 k4 k5 k6 : Tok) (rest : List (Addr × Obj)) : List (Addr × Obj) :=
  (R, readObj q1 cel pm1 cR ct1) :: (D, W.listOf vs.toArray n) :: (cel, ocell) :: (cR, ocR) :: (I, instObj 150 dI) :: (dI, lexDict w ln S l k0 k1 k2 k3 k4 k5) :: (dS, readDict w R k6) :: (S, streamObj q2 dS pm2 cS ct2) :: rest
section
variable {w : World} {p : Program} {loose : List Str} {mean : ExcName → Option Value} {mg mb : Str → Option Value}
theorem next_claim (ln : Int) (xs : List Str) (vs : List Value) {R D cel cR I dI dS S l cS it bm : Addr} {q1 q2 : Str} {pm1 pm2 ct1 ct2 : Value} {ocell ocR : Obj} {n : Nat} {k0 k1 k2 k3 k4 k5 k6 ti : Tok} (rest : List (Addr × Obj))
    (dp un : Nat) (gd : Option (List Code)) (cn : Str) (cs : Scope) (a : Addr) (ccd : Value) (cl : List (Str × Addr)) (outer : List Env) (A₀ : Around) (base h₀ : Heap) (L : Addr) (m : Str → Option Value) (s : Shared) (Q : Option Value → Shared → Prop) (E : Value → Shared → Prop)
    (B : Below A₀ base outer h₀) (F : Fr h₀ L s.heap m) (X : (hd.heap_39 w.params).In h₀)
    (N : News h₀ L s.heap (coreL w ln vs n R D I dI dS S l q1 q2 cel pm1 pm2 cR cS ct1 ct2 ocell ocR k0 k1 k2 k3 k4 k5 k6 ((it, iterOn bm ti) :: (bm, methodObj (.ref 133) (.ref I)) :: rest)))
    (T : Top p loose mean mg mb h₀) (hk : cs.kind = .function)
    (hs : StrsAre vs xs) (hlen : vs.length ≤ 1000) (hcell : IsCellOf ocell D) (hcode : LamCode q1 ocR) (hfill : Filled xs)
    (hord : CharOrd R D cel cR I dI dS S ((it, iterOn bm ti) :: (bm, methodObj (.ref 133) (.ref I)) :: rest))
    (hit : it ≠ R ∧ it ≠ D ∧ it ≠ cel ∧ it ≠ cR ∧ it ≠ I ∧ it ≠ dI ∧ it ≠ dS ∧ it ≠ S ∧ it ≠ bm) (hitr : OwnOff rest [it])
    (hd : dp + 40 < recursionLimit) (hu : un + 130 < cLine)
    (hret : ∀ {v : Option Value} {vs' : List Value} {n' : Nat} {h' : Heap} {tk : Nat} {k0 k1 k2 k3 k4 k5 : Tok}, Fr h₀ L h' m →
      News h₀ L h' (coreL w (lineF ln xs) vs' n' R D I dI dS S l q1 q2 cel pm1 pm2 cR cS ct1 ct2 ocell ocR k0 k1 k2 k3 k4 k5 k6 ((it, iterF bm ti xs) :: (bm, methodObj (.ref 133) (.ref I)) :: rest)) →
      StrsAre vs' xs.tail → nextIs xs v → Q v { s with heap := h', toks := tk }) :
    wpAny (model PySem.Challenge.rw_uc0020_01.row.prog w) (ktrTop dp un gd cn cs L a ccd cl outer) (pyNext (.ref it)) Q E s := by
  have f133 := fn133 X
  obtain ⟨o133, fd133, e133, d133⟩ := f133
  have look : ∀ {h' : Heap} {m' : Str → Option Value} {vs' : List Value} {n' : Nat} {ln' : Int} {k0 k1 k2 k3 k4 k5 : Tok}, Fr h₀ L h' m' → News h₀ L h' (coreL w ln' vs' n' R D I dI dS S l q1 q2 cel pm1 pm2 cR cS ct1 ct2 ocell ocR k0 k1 k2 k3 k4 k5 k6 ((it, iterOn bm ti) :: (bm, methodObj (.ref 133) (.ref I)) :: rest)) → IterAt h' it bm 133 I ti :=
    fun F' N' => ⟨(N' (it, _) (by k_mem)).1, (N' (bm, _) (by k_mem)).1, ⟨o133, fd133, F'.keep _ _ e133, d133⟩⟩
  refine next_call rfl (look F N) ?_
  refine char_code (w := w) (p := p) (loose := loose) (mean := mean) (mg := mg) (mb := mb) (E := fun _ _ => False) ln xs vs ((it, iterOn bm ti) :: (bm, methodObj (.ref 133) (.ref I)) :: rest) dp (un + 1) gd cn cs a ccd cl outer A₀ base h₀ L m s _ B F X N T hk ⟨hs, hlen, hcell, hcode, hord⟩ hd (by omega) ?_
  intro vs' n' t h' tk k0 k1 k2 k3 k4 k5 F' N' hs'
  refine ⟨_, _, rfl, look F' N', ?_⟩
  cases xs with
  | nil =>
    rw [if_pos (show ([] : List Str).headD (Str.ofString "") = Str.ofString "" from rfl)]
    intro h2 tk2 hkeep hoff
    refine hret (v := none) (vs' := vs') (n' := n') (k0 := k0) (k1 := k1) (k2 := k2) (k3 := k3) (k4 := k4) (k5 := k5) ?_ ?_ hs' rfl
    · refine ⟨F'.ns.at' (fun o e => hkeep _ o (fun z => (N' (it, iterOn bm ti) (by k_mem)).2.1 z.symm) e), fun b o e => hkeep b o (fun z => ?_) (F'.keep b o e), F'.above⟩
      have := (N' (it, iterOn bm ti) (by k_mem)).2.2
      rw [z] at e
      rw [this] at e
      cases e
    · obtain ⟨i1, i2, i3, i4, i5, i6, i7, i8, i9⟩ := hit
      have keep : ∀ q ∈ coreL w (lineF ln []) vs' n' R D I dI dS S l q1 q2 cel pm1 pm2 cR cS ct1 ct2 ocell ocR k0 k1 k2 k3 k4 k5 k6 ((it, iterOn bm ti) :: (bm, methodObj (.ref 133) (.ref I)) :: rest), q.1 ≠ it → h2.get? q.1 = some q.2 ∧ q.1 ≠ L ∧ h₀.get? q.1 = none :=
        fun q hq hn => ⟨hkeep _ _ hn (N' q hq).1, (N' q hq).2⟩
      refine List.forall_mem_cons.mpr ⟨keep _ (by k_mem) i1.symm, ?_⟩
      refine List.forall_mem_cons.mpr ⟨keep _ (by k_mem) i2.symm, ?_⟩
      refine List.forall_mem_cons.mpr ⟨keep _ (by k_mem) i3.symm, ?_⟩
      refine List.forall_mem_cons.mpr ⟨keep _ (by k_mem) i4.symm, ?_⟩
      refine List.forall_mem_cons.mpr ⟨keep _ (by k_mem) i5.symm, ?_⟩
      refine List.forall_mem_cons.mpr ⟨keep _ (by k_mem) i6.symm, ?_⟩
      refine List.forall_mem_cons.mpr ⟨keep _ (by k_mem) i7.symm, ?_⟩
      refine List.forall_mem_cons.mpr ⟨keep _ (by k_mem) i8.symm, ?_⟩
      refine List.forall_mem_cons.mpr ⟨⟨hoff, (N' (it, iterOn bm ti) (by k_mem)).2⟩, ?_⟩
      refine List.forall_mem_cons.mpr ⟨keep _ (by k_mem) i9.symm, ?_⟩
      exact fun q hq => keep q (.tail _ (.tail _ (.tail _ (.tail _ (.tail _ (.tail _ (.tail _ (.tail _ (.tail _ (.tail _ hq)))))))))) (hitr q hq _ (.head _))
  | cons x xs =>
    have hx : x ≠ Str.ofString "" := hfill.ne x (by simp)
    rw [if_neg (by simpa using hx)]
    exact hret F' N' hs' ⟨_, rfl⟩
end
end

section
open PySem PySem.W PySem.Spec PyProof.Rows
theorem rest_UIter {prog : PySem.Program} {w : PySem.World} {A : PySem.Around} {env : PySem.Env} {Q : PySem.Flow → PySem.Shared → Prop} {E : PySem.Value → PySem.Shared → Prop} {s : PySem.Shared} (h : PySem.wpAny (PySem.model prog w) A (PySem.execs [] env) Q E s) : PySem.wpAny (PySem.model prog w) A (PySem.execs [] env) Q E s := by
  w_top off
  k_with_none
  first | (walk1; fail) | exact h
set_option maxRecDepth 100000
set_option maxHeartbeats 0
set_option pp.deepTerms false
namespace CI
theorem slot_iter : Slot "callable_iterator" "__iter__" "callable_iterator.__iter__" :=
  .of (owner := "callable_iterator") (n := "__iter__") (by rw [typeLookup_type, builtinLookup_eq_fast]; kernel_rfl) (by decide +kernel) (by decide +kernel) (by decide +kernel)
    (by first | exact .inl (by decide +kernel) | exact .inr (by decide +kernel)) (by rw [isSubtype_type]; kernel_rfl)
theorem entry_iter : entryFor table "callable_iterator.__iter__" = some Builtin.«dict_keyiterator.__iter__» := entryFor_alias (id' := "dict_keyiterator.__iter__") (by kernel_rfl) rfl (by decide +kernel) (by kernel_rfl)
theorem args_iter (a : Value) : argsOk "callable_iterator.__iter__" ⟨[a], []⟩ := by unfold argsOk; kernel_rfl
theorem kind_it : builtinKind "iter" = none := by decide +kernel
theorem plain_it : plainId "iter" = true := by decide +kernel
theorem entry_it : entryFor table "iter" = some Builtin.«iter» := entryFor_of_tree (by kernel_rfl)
theorem args_it (a b : Value) : argsOk "iter" ⟨[a, b], []⟩ := by unfold argsOk; kernel_rfl
theorem method_call : typeLookup (.type "method") "__call__" = pure (some (.builtin "method.__call__")) := by rw [typeLookup_type, builtinLookup_eq_fast]; kernel_rfl
end CI
section
variable {prog : Program} {w : World} {A : Around} {E : Value → Shared → Prop} {s : Shared} {it bm f x : Addr} {t : Tok}
theorem iter_call {Q : Value → Shared → Prop} (hb : s.heap.get? bm = some (methodObj (.ref f) (.ref x))) (h : Q (.ref s.heap.objs.size) { s with heap := s.heap.push (iterOn bm t) }) :
    wpAny (model prog w) A (call (.builtin "iter") [.ref bm, .str (Str.ofString "") t]) Q E s := by
  refine Calls.call_function_entry CI.kind_it CI.plain_it CI.entry_it (CI.args_it _ _) ?_
  unfold Builtin.«iter»
  refine wpAny_bind (wpAny_of_eq (a := [.ref bm, .str (Str.ofString "") t]) (by first | rfl | kernel_rfl) ?_)
  dsimp only
  refine wpAny_bind (wpAny_specialOf ⟨_, hb, rfl⟩ CI.method_call ?_)
  show wpAny _ _ (if Option.isNone (some _) = true then _ else _) _ _ _
  rw [if_neg (by decide)]
  refine wpAny_bind (wpAny_rule ?_)
  exact wpAny_bind (wpAny_newObj_type (wpAny_pure ⟨_, rfl, h⟩))
theorem pyIter_it {o : Obj} {Q : Value → Shared → Prop} (hit : s.heap.get? it = some o) (hc : o.cls = .type "callable_iterator") (h : Q (.ref it) s) : wpAny (model prog w) A (pyIter (.ref it)) Q E s := by
  refine wpAny_pyIter_slot ⟨_, hit, hc⟩ CI.slot_iter (wpAny_call_entry CI.slot_iter ⟨_, hit, hc⟩ CI.entry_iter ?_ (CI.args_iter _))
  show wpAny _ _ (ret (.ref it)) _ _ s
  exact wpAny_pure ⟨_, rfl, "callable_iterator", _, ⟨_, hit, hc⟩, CI.slot_next.lookup, h⟩
/-- an iterator that has ended hands on nothing more -/
theorem next_off {Q : Option Value → Shared → Prop} (hh : A.handled = none) (hit : s.heap.get? it = some iterOff) (h : ∀ h' tk, (∀ b o, s.heap.get? b = some o → h'.get? b = some o) → Q none { s with heap := h', toks := tk }) :
    wpAny (model prog w) A (pyNext (.ref it)) Q E s := by
  have hT : s.TypeIs (.ref it) "callable_iterator" := ⟨_, hit, rfl⟩
  unfold pyNext
  refine wpAny_bind (wpAny_attempt (wpAny_callSpecial?_slot (name := Str.ofString "__next__") hT CI.slot_next
    (wpAny_call_entry CI.slot_next hT CI.entry_next ?_ (CI.args_next _))))
  show wpAny _ _ (field (.ref it) 2 >>= _) _ _ s
  refine wpAny_bind (wpAny_field hit rfl (x := .bool true) rfl ?_)
  show wpAny _ _ (if (Value.bool true == Value.bool true) = true then _ else _) _ _ s
  rw [if_pos (by decide)]
  refine wpAny_bind (wpAny_rule ?_)
  refine wpAny_bind ?_
  show wpAny _ _ (newExc (.type "StopIteration") [] >>= _) _ _ _
  refine wpAny_bind ?_
  simp only [newExc, newTuple]
  refine wpAny_bind (wpAny_newObj_type ?_ (by size_fits))
  refine wpAny_bind (m := firstArgMember _ _) (wpAny_of_eq (a := Value.none) (by first | rfl | (simp only [firstArgMember]; rfl)) ?_)
  refine wpAny_newObj_type ?_ (by size_fits)
  simp only [raiseNew]
  refine wpAny_bind (wpAny_handled ?_)
  rw [show A.in1.handled = none from hh]
  refine wpAny_bind (wpAny_pure (wpAny_throw ?_))
  refine wpAny_bind (wpAny_isInstance (T := "StopIteration") (b := true) ⟨_, Heap.get?_push_size _ rfl, rfl⟩ isSubtype_stop ?_)
  exact wpAny_pure (h _ _ fun b o e => Heap.get?_push_of_some _ (Heap.get?_push_of_some _ e))
end
section
variable {prog : Program} {w : World} {A : Around} {E : Value → Shared → Prop} {s : Shared} {env : Env}
/-- what a turn of a for loop leaves -/
noncomputable def TurnPost (I : Nat → Shared → Prop) (n : Nat) (Q : Flow → Shared → Prop) (f : Flow) (s₃ : Shared) : Prop := match f with
  | .next => ∃ k, k < n ∧ I k s₃
  | .cont => ∃ k, k < n ∧ I k s₃
  | .brk => Q .next s₃
  | .ret z => Q (.ret z) s₃
theorem for_inv {v : Str} {px : Pos} {body : List Stmt} {x : Addr} {Q : Flow → Shared → Prop} (I : Nat → Shared → Prop)
    (turn : ∀ n s', I n s' → wpAny (model prog w) A (pyNext (.ref x)) (fun r s₁ => match r with
      | none => Q .next s₁
      | some y => wpAny (model prog w) A (storeName env v y) (fun _ s₂ => wpAny (model prog w) A (execs body env) (TurnPost I n Q) E s₂) E s₁) E s')
    (n : Nat) (h : I n s) (hE : PassesOwn (model prog w) A env E) :
    codeAny (model prog w) A (.forLoop (.Name v px) (.ref x) body [] env) (fun r s' => match r with | .ok f => Q f s' | .error e => cameBackBy (model prog w) A env E e s') s := by
  refine codeAny_forLoop (R := fun r s' => match r with | .ok f => Q f s' | .error e => cameBackBy (model prog w) A env E e s') I ?_ n h
  intro k s' hk
  refine wpAny_passesOwn hE (wpAny_mono (turn k s' hk) (fun r s₁ hr => ?_) fun _ _ z => z)
  cases r with
  | none => exact wpAny_execs_nil hr
  | some y =>
    refine wpAny_passesOwn hE (wpAny_assign_Name (wpAny_mono hr (fun _ s₂ h₂ => ?_) fun _ _ z => z))
    refine wpAny_passesOwn hE (wpAny_mono h₂ (fun f s₃ h₃ => ?_) fun _ _ z => z)
    cases f with
    | next => exact h₃
    | cont => exact h₃
    | brk => exact h₃
    | ret _ => exact h₃
/-- a for loop over an iterator that stands on the heap -/
noncomputable def ForAt (prog : Program) (w : World) (A : Around) (E : Value → Shared → Prop) (env : Env) (v : Str) (px : Pos) (body : List Stmt) (Q : Flow → Shared → Prop) (xv : Value) (s : Shared) : Prop :=
  ∃ it o, xv = .ref it ∧ s.heap.get? it = some o ∧ o.cls = .type "callable_iterator" ∧
    codeAny (model prog w) A (.forLoop (.Name v px) (.ref it) body [] env) (fun r s' => match r with | .ok f => Q f s' | .error e => cameBackBy (model prog w) A env E e s') s
theorem for_at {v : Str} {px : Pos} {body : List Stmt} {x : Addr} {Q : Flow → Shared → Prop} {o : Obj} (I : Nat → Shared → Prop) (n : Nat)
    (ho : s.heap.get? x = some o) (hc : o.cls = .type "callable_iterator") (h : I n s)
    (turn : ∀ n s', I n s' → wpAny (model prog w) A (pyNext (.ref x)) (fun r s₁ => match r with
      | none => Q .next s₁
      | some y => wpAny (model prog w) A (storeName env v y) (fun _ s₂ => wpAny (model prog w) A (execs body env) (TurnPost I n Q) E s₂) E s₁) E s')
    (hE : PassesOwn (model prog w) A env E := by passes_own) : ForAt prog w A E env v px body Q (.ref x) s :=
  ⟨x, o, rfl, ho, hc, for_inv I turn n h hE⟩
theorem for_it {v y : Str} {px py pos : Pos} {body : List Stmt} {Q : Flow → Shared → Prop} {h₀ : Heap} {m : Str → Option Value} {news : List (Addr × Obj)} {it : Addr} {bm : Addr} {t : Tok}
    (_F : Fr h₀ env.locals s.heap m) (_m : m y = some (.ref it)) (_N : News h₀ env.locals s.heap news) (_hit : (it, iterOn bm t) ∈ news)
    (h : wpAny (model prog w) A (eval (.Name y py) env) (ForAt prog w A E env v px body Q) E s) (hs : ∀ x, foldedSetIterable (.Name y py) env x = pure x := by intro _; rfl) :
    wpAny (model prog w) A (exec (.For (.Name v px) (.Name y py) body [] pos) env) Q E s := by
  refine wpAny_For (wpAny_mono h (fun xv s₁ h₁ => ?_) fun _ _ z => z) hs
  obtain ⟨it, o, rfl, ho, hc, h2⟩ := h₁
  exact pyIter_it ho hc h2
theorem fr_kst {h₀ h : Heap} {L : Addr} {m : Str → Option Value} (ps : List (Str × Value)) (hm : ∀ p ∈ ps, m p.1 = some p.2) (F : Fr h₀ L h m) : Fr h₀ L h (kstB m ps) := by
  have e : kstB m ps = m := funext fun z => kstB_eq hm fun _ => rfl
  rw [e]
  exact F
end
end

section
open PySem PySem.W PySem.Spec PyProof.Rows
theorem rest_UTok {prog : PySem.Program} {w : PySem.World} {A : PySem.Around} {env : PySem.Env} {Q : PySem.Flow → PySem.Shared → Prop} {E : PySem.Value → PySem.Shared → Prop} {s : PySem.Shared} (h : PySem.wpAny (PySem.model prog w) A (PySem.execs [] env) Q E s) : PySem.wpAny (PySem.model prog w) A (PySem.execs [] env) Q E s := by
  w_top off
  k_with_none
  first | (walk1; fail) | exact h
set_option maxRecDepth 100000
set_option maxHeartbeats 0
set_option pp.deepTerms false
noncomputable def isWs (x : Str) : Bool := x == Str.ofString "\n" || x == Str.ofString "\r"
/-- the rest of a token, from the second sign on -/
noncomputable def tokB (ln : Int) (tok : Str) : List Str → Str × Int × List Str
  | [] => (tok, ln, [])
  | x :: xs => if isWs x then (tok, lineF ln (x :: xs), xs) else tokB ln (tok ++ x) xs
noncomputable def tokA (ln : Int) : List Str → Str × Int × List Str
  | [] => (Str.ofString "", ln, [])
  | x :: xs => if isWs x then tokA (lineF ln (x :: xs)) xs else tokB ln x xs
/-- signs of a mail: dots and line ends -/
structure Mail (xs : List Str) : Prop where
  ok : ∀ x ∈ xs, x = Str.ofString "." ∨ x = Str.ofString "\r" ∨ x = Str.ofString "\n"
section
variable {prog : Program} {w : World} {A : Around} {E : Value → Shared → Prop} {s : Shared} {h₀ : Heap} {L : Addr} {m : Str → Option Value} {news : List (Addr × Obj)}
theorem iter_callK {bm f x : Addr} {t : Tok} {Q : Value → Shared → Prop} (F : Fr h₀ L s.heap m) (N : News h₀ L s.heap news) (hm : (bm, methodObj (.ref f) (.ref x)) ∈ news)
    (h : ∀ it h', Fr h₀ L h' m → News h₀ L h' ((it, iterOn bm t) :: news) → (∀ p ∈ news, p.1 < it) → Q (.ref it) { s with heap := h' }) : wpAny (model prog w) A (call (.builtin "iter") [.ref bm, .str (Str.ofString "") t]) Q E s :=
  iter_call (N _ hm).1 (h _ _ (F.push _) (N.push F _) fun p hp => Heap.lt_size (N p hp).1)
end
theorem CharOrd.two {R D cel cR I dI dS S it bm : Addr} {o1 o2 : Obj} {rest : List (Addr × Obj)} (h : CharOrd R D cel cR I dI dS S rest) (h1 : it ≠ D) (h2 : it ≠ dI) (h3 : bm ≠ D) (h4 : bm ≠ dI) : CharOrd R D cel cR I dI dS S ((it, o1) :: (bm, o2) :: rest) := by
  obtain ⟨a, b, c⟩ := h
  refine ⟨a, b, ?_⟩
  intro q hq x hx
  rcases List.mem_cons.mp hq with rfl | hq
  · simp only [List.mem_cons, List.not_mem_nil, or_false] at hx
    rcases hx with rfl | rfl <;> assumption
  · rcases List.mem_cons.mp hq with rfl | hq
    · simp only [List.mem_cons, List.not_mem_nil, or_false] at hx
      rcases hx with rfl | rfl <;> assumption
    · exact c q hq x hx
theorem core_back {h₀ h : Heap} {L : Addr} {a b r1 r2 r3 r4 r5 r6 r7 r8 : Addr × Obj} {rest : List (Addr × Obj)} (N : News h₀ L h (a :: b :: r1 :: r2 :: r3 :: r4 :: r5 :: r6 :: r7 :: r8 :: rest)) : News h₀ L h (r1 :: r2 :: r3 :: r4 :: r5 :: r6 :: r7 :: r8 :: a :: b :: rest) := by
  repeat refine List.forall_mem_cons.mpr ⟨N _ (by repeat (first | exact List.Mem.head _ | refine List.Mem.tail _ ?_)), ?_⟩
  exact fun p hp => N p (by repeat (first | exact hp | refine List.Mem.tail _ ?_))
theorem core_drop {h₀ h : Heap} {L : Addr} {a b r1 r2 r3 r4 r5 r6 r7 r8 : Addr × Obj} {rest : List (Addr × Obj)} (N : News h₀ L h (r1 :: r2 :: r3 :: r4 :: r5 :: r6 :: r7 :: r8 :: a :: b :: rest)) : News h₀ L h (r1 :: r2 :: r3 :: r4 :: r5 :: r6 :: r7 :: r8 :: rest) := by
  repeat refine List.forall_mem_cons.mpr ⟨N _ (by repeat (first | exact List.Mem.head _ | refine List.Mem.tail _ ?_)), ?_⟩
  exact fun p hp => N p (by repeat (first | exact hp | refine List.Mem.tail _ ?_))
theorem Mail.tail {x : Str} {xs : List Str} (h : Mail (x :: xs)) : Mail xs := ⟨fun y hy => h.ok y (.tail _ hy)⟩
theorem Mail.filled {xs : List Str} (h : Mail xs) : Filled xs := ⟨fun x hx => by rcases h.ok x hx with rfl | rfl | rfl <;> decide⟩
theorem dot_len (tok : Str) : (tok ++ Str.ofString ".").length = tok.length + 1 := by rw [PySem.Str.length_append]; rfl
theorem dot_fits {tok : Str} {x : Str} {xs : List Str} (h : tok.length + (x :: xs).length ≤ 1000) : (tok ++ Str.ofString ".").length ≤ sizeLine := by
  rw [dot_len, sizeLine_eq]; simp only [List.length_cons] at h; omega
theorem strsAre_len : ∀ {vs : List Value} {xs : List Str}, StrsAre vs xs → vs.length = xs.length
  | [], _, h => by cases h; rfl
  | _ :: _, _, h => by cases h; rename_i h; simp [strsAre_len h]
/-- what holds ahead of each turn of the outer loop -/
inductive TokInv1 (w : World) (s : Shared) (g : Heap) (L : Addr) (ln : Int) (xs : List Str) (R D I dI dS S l it bm : Addr) (q1 q2 : Str) (cel : Addr) (pm1 pm2 : Value) (cR cS : Addr) (ct1 ct2 : Value) (ocell ocR : Obj) (k6 : Tok) (np : Nat) (news : List (Addr × Obj)) (n : Nat) (s' : Shared) : Prop
  | mk (xs' : List Str) (ln' : Int) (vs' : List Value) (n' : Nat) (k0 k1 k2 k3 k4 k5 : Tok) (h : Heap) (tk : Nat) (m : Str → Option Value) (tok : Str) (tt ti : Tok) (o : Obj) (e : s' = { s with heap := h, toks := tk }) (F : Fr g L h m)
      (m1 : m "self" = some (.ref I)) (m2 : m "fiter" = some (.ref it)) (m3 : m "token" = some (.str tok tt))
      (N : News g L h (coreL w ln' vs' n' R D I dI dS S l q1 q2 cel pm1 pm2 cR cS ct1 ct2 ocell ocR k0 k1 k2 k3 k4 k5 k6 ((it, o) :: (bm, methodObj (.ref 133) (.ref I)) :: (l, W.listOf #[] np) :: news)))
      (hs : StrsAre vs' xs') (hl : vs'.length ≤ 1000) (hm : Mail xs')
      (hd : (o = iterOn bm ti ∧ tok = Str.ofString "" ∧ tokA ln' xs' = tokA ln xs ∧ n = xs'.length + 1) ∨ (o = iterOff ∧ xs' = [] ∧ (tok, ln', ([] : List Str)) = tokA ln xs ∧ n = 0))
/-- and of the inner one -/
inductive TokInv2 (w : World) (s : Shared) (g : Heap) (L : Addr) (ln : Int) (xs : List Str) (R D I dI dS S l it bm : Addr) (q1 q2 : Str) (cel : Addr) (pm1 pm2 : Value) (cR cS : Addr) (ct1 ct2 : Value) (ocell ocR : Obj) (k6 : Tok) (np : Nat) (news : List (Addr × Obj)) (n : Nat) (s' : Shared) : Prop
  | mk (xs2 : List Str) (ln2 : Int) (vs2 : List Value) (n2 : Nat) (k0 k1 k2 k3 k4 k5 : Tok) (h : Heap) (tk : Nat) (m : Str → Option Value) (tok : Str) (tt ti : Tok) (e : s' = { s with heap := h, toks := tk }) (F : Fr g L h m)
      (m1 : m "self" = some (.ref I)) (m2 : m "fiter" = some (.ref it)) (m3 : m "token" = some (.str tok tt))
      (N : News g L h (coreL w ln2 vs2 n2 R D I dI dS S l q1 q2 cel pm1 pm2 cR cS ct1 ct2 ocell ocR k0 k1 k2 k3 k4 k5 k6 ((it, iterOn bm ti) :: (bm, methodObj (.ref 133) (.ref I)) :: (l, W.listOf #[] np) :: news)))
      (hs : StrsAre vs2 xs2) (hl : vs2.length ≤ 1000) (hm : Mail xs2) (ht : tokB ln2 tok xs2 = tokA ln xs) (hc : tok.length + xs2.length ≤ 1000) (hn : n = xs2.length + 1)
section
variable {w : World} {p : Program} {loose : List Str} {mean : ExcName → Option Value} {mg mb : Str → Option Value}
noncomputable abbrev RetTok (w : World) (r : Str × Int × List Str) (pb : Array Value) (np : Nat) (R D I dI dS S l : Addr) (q1 q2 : Str) (cel : Addr) (pm1 pm2 : Value) (cR cS : Addr) (ct1 ct2 : Value) (ocell ocR : Obj) (k6 : Tok) (news : List (Addr × Obj)) (h₀ : Heap) (L : Addr) (m : Str → Option Value) (s : Shared) (Q : Value → Shared → Prop) : Prop :=
  ∀ {vs' : List Value} {n' : Nat} {t : Tok} {h' : Heap} {tk : Nat} {k0 k1 k2 k3 k4 k5 : Tok}, Fr h₀ L h' m →
    News h₀ L h' (coreL w r.2.1 vs' n' R D I dI dS S l q1 q2 cel pm1 pm2 cR cS ct1 ct2 ocell ocR k0 k1 k2 k3 k4 k5 k6 ((l, W.listOf pb np) :: news)) →
    StrsAre vs' r.2.2 → Q (.str r.1 t) { s with heap := h', toks := tk }
local macro_rules | `(tactic| k_room) => `(tactic| ktr_room)
local macro_rules | `(tactic| k_ne) => `(tactic| ((try dsimp only); first | with_reducible assumption | (refine Ne.symm ?_; with_reducible assumption)))
theorem rule_UTok_1 : True := by
  k_with "R UTok 1" => (k_here; k_dflt (refine' iter_callK ?F ?N ?m ?_; (case F => k_asm); (case N => k_asm); (case m => k_mem)))
  exact trivial
local macro_rules | `(tactic| walk_at "call builtin:iter") => `(tactic| (k_extra "R UTok 1"; intro it' h' F' N' l1; (try k_lt l1); (try dsimp only)))
theorem rule_UTok_2 : True := by
  k_with "ite" => ((k_closed; first | refine ite_pos (by decide +kernel) ?_ | refine ite_neg (by decide +kernel) ?_))
  exact trivial
theorem rule_UTok_3 : True := by
  k_with "inplaceOp Add str str" => (((with_reducible show wpAny _ _ (inplaceOp _ (Value.str _ _) (Value.str _ _)) _ _ _); (refine SBL.iadd (hsz := ?hsz) ?_); (case hsz => first | exact dot_fits (by assumption) | size_fits); intro _ _ _))
  exact trivial
theorem rule_UTok_4 : True := by
  k_with "exec For Name Name cons nil" => ((k_here; k_dflt (refine' for_it ?F ?m ?N ?i ?_; (case F => k_asm); (case m => exact rfl); (case N => k_asm); (case i => k_mem); k_whole)))
  exact trivial
theorem tok_claim (ln : Int) (xs : List Str) (vs : List Value) {R D cel cR I dI dS S l cS : Addr} {q1 q2 : Str} {pm1 pm2 ct1 ct2 : Value} {ocell ocR : Obj} {n np : Nat} {k0 k1 k2 k3 k4 k5 k6 : Tok} (news : List (Addr × Obj)) :
    Claim PySem.Challenge.rw_uc0020_01.row.prog w (hd.heap_39 w.params) p loose mean mg mb 80 200 (call (.ref 140) [.ref I])
      (coreL w ln vs n R D I dI dS S l q1 q2 cel pm1 pm2 cR cS ct1 ct2 ocell ocR k0 k1 k2 k3 k4 k5 k6 ((l, W.listOf #[] np) :: news))
      (StrsAre vs xs ∧ vs.length ≤ 1000 ∧ IsCellOf ocell D ∧ LamCode q1 ocR ∧ Mail xs ∧ CharOrd R D cel cR I dI dS S ((l, W.listOf #[] np) :: news))
      (RetTok w (tokA ln xs) #[] np R D I dI dS S l q1 q2 cel pm1 pm2 cR cS ct1 ct2 ocell ocR k6 news) := by
  k_fill
  dsimp only [Claim, RetTok, coreL]
  intro dp un gd cn cs a ccd cl outer A₀ base hb Lb mm s Q E B0 F0 X0 N0 T0 hk hx hd0 hu0 hret
  obtain ⟨hs, hlen, hcell, hcode, hmail, hord⟩ := hx
  obtain ⟨⟨a1, a2, a3, a4, a5, a6, a7⟩, ⟨b1, b2, b3, b4, b5, b6⟩, hoff⟩ := id hord
  have kMark := kstMark
  have hI0 : IntsAre [] [] := .nil
  have hS0 : StrsAre [] [] := .nil
  refine wpAny_call ?_
  k_dflt cell_enter
  k_steps
  rename_i g L h0 FG B X T tk1 tk2 h1 bm h2 l1b it h3 l1 h4 lF lN
  obtain ⟨j1, j2, j3, j4, j5, j6, j7, j8, j9, j10, j11⟩ := l1
  obtain ⟨i1, i2, i3, i4, i5, i6, i7, i8, i9, i10⟩ := l1b
  have hit : it ≠ R ∧ it ≠ D ∧ it ≠ cel ∧ it ≠ cR ∧ it ≠ I ∧ it ≠ dI ∧ it ≠ dS ∧ it ≠ S ∧ it ≠ bm := ⟨Nat.ne_of_gt j2, Nat.ne_of_gt j3, Nat.ne_of_gt j4, Nat.ne_of_gt j5, Nat.ne_of_gt j6, Nat.ne_of_gt j7, Nat.ne_of_gt j8, Nat.ne_of_gt j9, Nat.ne_of_gt j1⟩
  have hitr : OwnOff ((l, W.listOf #[] np) :: news) [it] := by
    intro q hq b hb
    simp only [List.mem_singleton] at hb
    subst hb
    rcases List.mem_cons.mp hq with rfl | hq
    · exact Nat.ne_of_lt j10
    · exact Nat.ne_of_lt (allLt_to j11 q hq)
  have hord2 : ∀ {o1 o2 : Obj}, CharOrd R D cel cR I dI dS S ((it, o1) :: (bm, o2) :: (l, W.listOf #[] np) :: news) := hord.two (Nat.ne_of_gt j3) (Nat.ne_of_gt j7) (Nat.ne_of_gt i2) (Nat.ne_of_gt i6)
  let IV1 : Nat → PySem.Shared → Prop := TokInv1 w s g L ln xs R D I dI dS S l it bm q1 q2 cel pm1 pm2 cR cS ct1 ct2 ocell ocR k6 np news
  refine for_at IV1 (xs.length + 1) (lN (it, iterOn bm _) (by k_mem)).1 rfl ?start ?turn
  case start =>
    exact ⟨xs, ln, vs, _, _, _, _, _, _, _, _, _, _, _, _, _, _, rfl, lF, rfl, rfl, rfl, core_back lN, hs, hlen, hmail, .inl ⟨rfl, rfl, rfl, rfl⟩⟩
  case turn =>
    clear lF lN
    rintro n s' ⟨xs', ln', vs', n', k0, k1, k2, k3, k4, k5, h, tk, m', tok, tt, ti, o, rfl, lF, ms, mf, mt, lN, hs, hlen, hmail, hmode⟩
    rcases hmode with ⟨rfl, rfl, htok, rfl⟩ | ⟨rfl, rfl, htok, rfl⟩
    · have lF := fr_kst [("self", .ref I), ("fiter", .ref it), ("token", .str (Str.ofString "") tt)] (by simp [ms, mf, mt]) lF
      refine' next_claim (w := w) (p := p) (loose := loose) (mean := mean) (mg := mg) (mb := mb) ln' xs' vs' ((l, W.listOf #[] np) :: news) _ _ _ _ _ _ _ _ _ _ _ _ _ _ _ _ _ B lF X lN T rfl hs hlen hcell hcode hmail.filled hord2 hit hitr ?hd ?hu ?_
      case hd => ktr_room
      case hu => ktr_units
      intro v vs2 n2 h2 tk2 k0' k1' k2' k3' k4' k5' F2 N2 hs2 hv
      cases xs' with
      | nil =>
        cases hv
        dsimp only
        k_steps
        have e : tokA ln xs = (Str.ofString "", ln', []) := by rw [← htok]; rfl
        rw [e] at hret
        exact hret (by assumption) (core_drop (by assumption)) hs2
      | cons x xs' =>
        obtain ⟨tx, rfl⟩ := hv
        dsimp only
        rcases hmail.ok x (.head _) with rfl | rfl | rfl
        · k_steps
          (rename Fr _ _ _ _ => lF3)
          (rename News _ _ _ _ => lN3)
          let IV2 : Nat → PySem.Shared → Prop := TokInv2 w s g L ln xs R D I dI dS S l it bm q1 q2 cel pm1 pm2 cR cS ct1 ct2 ocell ocR k6 np news
          refine for_at IV2 (xs'.length + 1) (lN3 (it, _) (by k_mem)).1 rfl ?start ?turn
          case start =>
            refine ⟨xs', _, vs2, n2, _, _, _, _, _, _, _, _, _, _, _, ti, rfl, lF3, rfl, rfl, rfl, lN3, hs2, ?_, hmail.tail, ?_, ?_, rfl⟩
            · rw [strsAre_len hs2]; rw [strsAre_len hs] at hlen; simp at hlen ⊢; omega
            · rw [← htok, tokA, if_neg (by decide)]; rfl
            · rw [strsAre_len hs] at hlen; simp at hlen
              have e1 : (Str.ofString "" ++ Str.ofString ".").length = 1 := by decide
              omega
          case turn =>
            clear lF3 lN3 hs2 hs mt ms mf
            rintro n s' ⟨xs2, ln2, vs3, n3, k0, k1, k2, k3, k4, k5, h, tk, m', tok, tt, ti, rfl, lF, ms, mf, mt, lN, hs, hlen, hmail2, htok, htl, rfl⟩
            have lF := fr_kst [("self", .ref I), ("fiter", .ref it), ("token", .str tok tt)] (by simp [ms, mf, mt]) lF
            refine' next_claim (w := w) (p := p) (loose := loose) (mean := mean) (mg := mg) (mb := mb) ln2 xs2 vs3 ((l, W.listOf #[] np) :: news) _ _ _ _ _ _ _ _ _ _ _ _ _ _ _ _ _ B lF X lN T rfl hs hlen hcell hcode hmail2.filled hord2 hit hitr ?hd ?hu ?_
            case hd => ktr_room
            case hu => ktr_units
            intro v vs4 n4 h4 tk4 k0' k1' k2' k3' k4' k5' F4 N4 hs4 hv
            cases xs2 with
            | nil =>
              cases hv
              dsimp only
              k_steps
              refine ⟨0, by simp, [], _, vs4, n4, _, _, _, _, _, _, _, _, _, _, tt, ti, _, rfl, by assumption, rfl, rfl, rfl, by assumption, hs4, ?_, ⟨fun _ hq => nomatch hq⟩, .inr ⟨rfl, rfl, ?_, rfl⟩⟩
              · rw [strsAre_len hs4]; simp
              · rw [← htok]; rfl
            | cons x xs2 =>
              obtain ⟨tx, rfl⟩ := hv
              dsimp only
              rcases hmail2.ok x (.head _) with rfl | rfl | rfl
              · k_steps
                refine ⟨xs2.length + 1, by simp, xs2, _, vs4, n4, _, _, _, _, _, _, _, _, _, _, _, ti, rfl, by assumption, rfl, rfl, rfl, by assumption, hs4, ?_, hmail2.tail, ?_, ?_, rfl⟩
                · rw [strsAre_len hs4]; rw [strsAre_len hs] at hlen; simp at hlen ⊢; omega
                · rw [← htok, tokB, if_neg (by decide)]; rfl
                · have e1 := dot_len tok
                  simp only [List.length_cons] at htl
                  omega
              · k_steps
                dsimp only [TurnPost]
                k_steps
                have e : tokA ln xs = (tok, lineF ln2 (Str.ofString "\r" :: xs2), xs2) := by rw [← htok, tokB, if_pos (by decide)]
                rw [e] at hret
                exact hret (by assumption) (core_drop (by assumption)) hs4
              · k_steps
                dsimp only [TurnPost]
                k_steps
                have e : tokA ln xs = (tok, lineF ln2 (Str.ofString "\n" :: xs2), xs2) := by rw [← htok, tokB, if_pos (by decide)]
                rw [e] at hret
                exact hret (by assumption) (core_drop (by assumption)) hs4
        · k_steps
          refine ⟨xs'.length + 1, by simp, xs', _, vs2, n2, _, _, _, _, _, _, _, _, _, _, tt, ti, _, rfl, by assumption, rfl, rfl, rfl, by assumption, hs2, ?_, hmail.tail, .inl ⟨rfl, rfl, ?_, rfl⟩⟩
          · rw [strsAre_len hs2]; rw [strsAre_len hs] at hlen; simp at hlen ⊢; omega
          · rw [← htok, tokA, if_pos (by decide)]
        · k_steps
          refine ⟨xs'.length + 1, by simp, xs', _, vs2, n2, _, _, _, _, _, _, _, _, _, _, tt, ti, _, rfl, by assumption, rfl, rfl, rfl, by assumption, hs2, ?_, hmail.tail, .inl ⟨rfl, rfl, ?_, rfl⟩⟩
          · rw [strsAre_len hs2]; rw [strsAre_len hs] at hlen; simp at hlen ⊢; omega
          · rw [← htok, tokA, if_pos (by decide)]
    · refine next_off rfl (lN (it, iterOff) (by simp [coreL])).1 ?_
      intro h5 tk5 hk5
      dsimp only
      have lF := fr_kst [("self", .ref I), ("fiter", .ref it), ("token", .str tok tt)] (by simp [ms, mf, mt]) lF
      have F5 : Fr g L h5 (kstB m' [("self", .ref I), ("fiter", .ref it), ("token", .str tok tt)]) := ⟨lF.ns.keeps hk5, fun b o e => hk5 b o (lF.keep b o e), lF.above⟩
      have N5 : News g L h5 (coreL w ln' vs' n' R D I dI dS S l q1 q2 cel pm1 pm2 cR cS ct1 ct2 ocell ocR k0 k1 k2 k3 k4 k5 k6 ((it, iterOff) :: (bm, methodObj (.ref 133) (.ref I)) :: (l, W.listOf #[] np) :: news)) := fun p hp => ⟨hk5 _ _ (lN p hp).1, (lN p hp).2⟩
      clear lF lN
      k_steps
      rw [← htok] at hret
      exact hret (by assumption) (core_drop (by assumption)) hs
end
end

section
open PySem PySem.W PySem.Spec PyProof.Rows
theorem rest_UTokQ {prog : PySem.Program} {w : PySem.World} {A : PySem.Around} {env : PySem.Env} {Q : PySem.Flow → PySem.Shared → Prop} {E : PySem.Value → PySem.Shared → Prop} {s : PySem.Shared} (h : PySem.wpAny (PySem.model prog w) A (PySem.execs [] env) Q E s) : PySem.wpAny (PySem.model prog w) A (PySem.execs [] env) Q E s := by
  w_top off
  k_with_none
  first | (walk1; fail) | exact h
set_option maxRecDepth 100000
set_option maxHeartbeats 0
set_option pp.deepTerms false
/-- a token in quotes, from behind the first quote -/
noncomputable def tokQ (tok : Str) : List Str → Str × List Str
  | [] => (tok, [])
  | x :: xs => if x = Str.ofString "\"" then (tok, xs) else tokQ (tok ++ x) xs
structure Quoted (xs : List Str) : Prop where
  ok : ∃ body, xs = body ++ [Str.ofString "\""] ∧ ∀ x ∈ body, x = Str.ofString "." ∨ x = Str.ofString "a"
theorem Quoted.cases {xs : List Str} (h : Quoted xs) : ∃ x r, xs = x :: r ∧ ((x = Str.ofString "." ∧ Quoted r) ∨ (x = Str.ofString "a" ∧ Quoted r) ∨ (x = Str.ofString "\"" ∧ r = [])) := by
  obtain ⟨body, rfl, hb⟩ := h.ok
  cases body with
  | nil => exact ⟨_, _, rfl, .inr (.inr ⟨rfl, rfl⟩)⟩
  | cons x b =>
    have hr : Quoted (b ++ [Str.ofString "\""]) := ⟨b, rfl, fun y hy => hb y (.tail _ hy)⟩
    rcases hb x (.head _) with h | h
    · exact ⟨_, _, rfl, .inl ⟨h, hr⟩⟩
    · exact ⟨_, _, rfl, .inr (.inl ⟨h, hr⟩)⟩
theorem Quoted.filled {xs : List Str} (h : Quoted xs) : Filled xs := by
  obtain ⟨body, rfl, hb⟩ := h.ok
  refine ⟨fun x hx => ?_⟩
  rcases List.mem_append.mp hx with hx | hx
  · rcases hb x hx with rfl | rfl <;> decide
  · simp only [List.mem_singleton] at hx
    subst hx
    decide
theorem a_len (tok : Str) : (tok ++ Str.ofString "a").length = tok.length + 1 := by rw [PySem.Str.length_append]; rfl
theorem one_fits {tok y x : Str} {xs : List Str} (e : y.length = 1) (h : tok.length + (x :: xs).length ≤ 1000) : tok.length + y.length ≤ sizeLine := by
  rw [e, sizeLine_eq]; simp only [List.length_cons] at h; omega
inductive TokQInv1 (w : World) (s : Shared) (g : Heap) (L : Addr) (ln : Int) (xs : List Str) (R D I dI dS S l it bm : Addr) (q1 q2 : Str) (cel : Addr) (pm1 pm2 : Value) (cR cS : Addr) (ct1 ct2 : Value) (ocell ocR : Obj) (k6 : Tok) (np : Nat) (news : List (Addr × Obj)) (n : Nat) (s' : Shared) : Prop
  | mk (vs' : List Value) (n' : Nat) (k0 k1 k2 k3 k4 k5 : Tok) (h : Heap) (tk : Nat) (m : Str → Option Value) (tt ti : Tok) (e0 : s' = { s with heap := h, toks := tk })
      (e1 : Fr g L h m)
      (e2 : m "self" = some (.ref I))
      (e3 : m "fiter" = some (.ref it))
      (e4 : m "token" = some (.str (Str.ofString "") tt))
      (e5 : News g L h (coreL w ln vs' n' R D I dI dS S l q1 q2 cel pm1 pm2 cR cS ct1 ct2 ocell ocR k0 k1 k2 k3 k4 k5 k6 ((it, iterOn bm ti) :: (bm, methodObj (.ref 133) (.ref I)) :: (l, W.listOf #[] np) :: news)))
      (e6 : StrsAre vs' (Str.ofString "\"" :: xs))
      (e7 : vs'.length ≤ 1000)
inductive TokQInv2 (w : World) (s : Shared) (g : Heap) (L : Addr) (ln : Int) (xs : List Str) (R D I dI dS S l it bm : Addr) (q1 q2 : Str) (cel : Addr) (pm1 pm2 : Value) (cR cS : Addr) (ct1 ct2 : Value) (ocell ocR : Obj) (k6 : Tok) (np : Nat) (news : List (Addr × Obj)) (n : Nat) (s' : Shared) : Prop
  | mk (xs2 : List Str) (vs2 : List Value) (n2 : Nat) (k0 k1 k2 k3 k4 k5 : Tok) (h : Heap) (tk : Nat) (m : Str → Option Value) (tok : Str) (tt ti : Tok) (e0 : s' = { s with heap := h, toks := tk })
      (e1 : Fr g L h m)
      (e2 : m "self" = some (.ref I))
      (e3 : m "fiter" = some (.ref it))
      (e4 : m "token" = some (.str tok tt))
      (e5 : News g L h (coreL w ln vs2 n2 R D I dI dS S l q1 q2 cel pm1 pm2 cR cS ct1 ct2 ocell ocR k0 k1 k2 k3 k4 k5 k6 ((it, iterOn bm ti) :: (bm, methodObj (.ref 133) (.ref I)) :: (l, W.listOf #[] np) :: news)))
      (e6 : StrsAre vs2 xs2)
      (e7 : vs2.length ≤ 1000)
      (e8 : Quoted xs2)
      (e9 : tokQ tok xs2 = tokQ (Str.ofString "") xs)
      (e10 : tok.length + xs2.length ≤ 1000)
      (e11 : n = xs2.length + 1)
section
variable {w : World} {p : Program} {loose : List Str} {mean : ExcName → Option Value} {mg mb : Str → Option Value}
local macro_rules | `(tactic| k_room) => `(tactic| ktr_room)
local macro_rules | `(tactic| k_ne) => `(tactic| ((try dsimp only); first | with_reducible assumption | (refine Ne.symm ?_; with_reducible assumption)))
theorem rule_UTokQ_1 : True := by
  k_with "R UTokQ 1" => (k_here; k_dflt (refine' iter_callK ?F ?N ?m ?_; (case F => k_asm); (case N => k_asm); (case m => k_mem)))
  exact trivial
local macro_rules | `(tactic| walk_at "call builtin:iter") => `(tactic| (k_extra "R UTokQ 1"; intro it' h' F' N' l1; (try k_lt l1); (try dsimp only)))
theorem rule_UTokQ_2 : True := by
  k_with "ite" => ((k_closed; first | refine ite_pos (by decide +kernel) ?_ | refine ite_neg (by decide +kernel) ?_))
  exact trivial
theorem rule_UTokQ_3 : True := by
  k_with "inplaceOp Add str str" => (((with_reducible show wpAny _ _ (inplaceOp _ (Value.str _ _) (Value.str _ _)) _ _ _); (refine SBL.iadd (hsz := ?hsz) ?_); (case hsz => first | exact one_fits rfl (by assumption) | (rw [sizeLine_eq]; simp only [List.length_cons] at *; omega) | size_fits); intro _ _ _))
  exact trivial
theorem rule_UTokQ_4 : True := by
  k_with "exec For Name Name cons nil" => ((k_here; k_dflt (refine' for_it ?F ?m ?N ?i ?_; (case F => k_asm); (case m => exact rfl); (case N => k_asm); (case i => k_mem); k_whole)))
  exact trivial
theorem tokq_claim (ln : Int) (xs : List Str) (vs : List Value) {R D cel cR I dI dS S l cS : Addr} {q1 q2 : Str} {pm1 pm2 ct1 ct2 : Value} {ocell ocR : Obj} {n np : Nat} {k0 k1 k2 k3 k4 k5 k6 : Tok} (news : List (Addr × Obj)) :
    Claim PySem.Challenge.rw_uc0020_01.row.prog w (hd.heap_39 w.params) p loose mean mg mb 80 200 (call (.ref 140) [.ref I])
      (coreL w ln vs n R D I dI dS S l q1 q2 cel pm1 pm2 cR cS ct1 ct2 ocell ocR k0 k1 k2 k3 k4 k5 k6 ((l, W.listOf #[] np) :: news))
      (StrsAre vs (Str.ofString "\"" :: xs) ∧ vs.length ≤ 1000 ∧ IsCellOf ocell D ∧ LamCode q1 ocR ∧ Quoted xs ∧ CharOrd R D cel cR I dI dS S ((l, W.listOf #[] np) :: news))
      (RetTok w ((tokQ (Str.ofString "") xs).1, ln, (tokQ (Str.ofString "") xs).2) #[] np R D I dI dS S l q1 q2 cel pm1 pm2 cR cS ct1 ct2 ocell ocR k6 news) := by
  k_fill
  dsimp only [Claim, RetTok, coreL]
  intro dp un gd cn cs a ccd cl outer A₀ base hb Lb mm s Q E B0 F0 X0 N0 T0 hk hx hd0 hu0 hret
  obtain ⟨hs, hlen, hcell, hcode, hq, hord⟩ := hx
  obtain ⟨⟨a1, a2, a3, a4, a5, a6, a7⟩, ⟨b1, b2, b3, b4, b5, b6⟩, hoff⟩ := id hord
  have kMark := kstMark
  have hI0 : IntsAre [] [] := .nil
  have hS0 : StrsAre [] [] := .nil
  refine wpAny_call ?_
  k_dflt cell_enter
  k_steps
  rename_i g L h0 FG B X T tk1 tk2 h1 bm h2 l1b it h3 l1 h4 lF lN
  obtain ⟨j1, j2, j3, j4, j5, j6, j7, j8, j9, j10, j11⟩ := l1
  obtain ⟨i1, i2, i3, i4, i5, i6, i7, i8, i9, i10⟩ := l1b
  have hit : it ≠ R ∧ it ≠ D ∧ it ≠ cel ∧ it ≠ cR ∧ it ≠ I ∧ it ≠ dI ∧ it ≠ dS ∧ it ≠ S ∧ it ≠ bm := ⟨Nat.ne_of_gt j2, Nat.ne_of_gt j3, Nat.ne_of_gt j4, Nat.ne_of_gt j5, Nat.ne_of_gt j6, Nat.ne_of_gt j7, Nat.ne_of_gt j8, Nat.ne_of_gt j9, Nat.ne_of_gt j1⟩
  have hitr : OwnOff ((l, W.listOf #[] np) :: news) [it] := by
    intro q hq b hb
    simp only [List.mem_singleton] at hb
    subst hb
    rcases List.mem_cons.mp hq with rfl | hq
    · exact Nat.ne_of_lt j10
    · exact Nat.ne_of_lt (allLt_to j11 q hq)
  have hord2 : ∀ {o1 o2 : Obj}, CharOrd R D cel cR I dI dS S ((it, o1) :: (bm, o2) :: (l, W.listOf #[] np) :: news) := hord.two (Nat.ne_of_gt j3) (Nat.ne_of_gt j7) (Nat.ne_of_gt i2) (Nat.ne_of_gt i6)
  let IV1 : Nat → PySem.Shared → Prop := TokQInv1 w s g L ln xs R D I dI dS S l it bm q1 q2 cel pm1 pm2 cR cS ct1 ct2 ocell ocR k6 np news
  refine for_at IV1 1 (lN (it, iterOn bm _) (by k_mem)).1 rfl ?start ?turn
  case start =>
    exact ⟨vs, _, _, _, _, _, _, _, _, _, _, _, _, rfl, lF, rfl, rfl, rfl, core_back lN, hs, hlen⟩
  case turn =>
    clear lF lN
    rintro n s' ⟨vs', n', k0, k1, k2, k3, k4, k5, h, tk, m', tt, ti, rfl, lF, ms, mf, mt, lN, hs, hlen⟩
    have lF := fr_kst [("self", .ref I), ("fiter", .ref it), ("token", .str (Str.ofString "") tt)] (by simp [ms, mf, mt]) lF
    have hfill : Filled (Str.ofString "\"" :: xs) := ⟨fun x hx => by
      rcases List.mem_cons.mp hx with rfl | hx
      · decide
      · exact hq.filled.ne x hx⟩
    refine' next_claim (w := w) (p := p) (loose := loose) (mean := mean) (mg := mg) (mb := mb) ln (Str.ofString "\"" :: xs) vs' ((l, W.listOf #[] np) :: news) _ _ _ _ _ _ _ _ _ _ _ _ _ _ _ _ _ B lF X lN T rfl hs hlen hcell hcode hfill hord2 hit hitr ?hd ?hu ?_
    case hd => ktr_room
    case hu => ktr_units
    intro v vs2 n2 h2 tk2 k0' k1' k2' k3' k4' k5' F2 N2 hs2 hv
    obtain ⟨tx, rfl⟩ := hv
    dsimp only
    k_steps
    (rename Fr _ _ _ _ => lF3)
    (rename News _ _ _ _ => lN3)
    have hl0 : lineF ln (Str.ofString "\"" :: xs) = ln := by unfold lineF; rw [if_neg (by simp; decide)]
    rw [hl0] at lN3
    let IV2 : Nat → PySem.Shared → Prop := TokQInv2 w s g L ln xs R D I dI dS S l it bm q1 q2 cel pm1 pm2 cR cS ct1 ct2 ocell ocR k6 np news
    refine for_at IV2 (xs.length + 1) (lN3 (it, _) (by k_mem)).1 rfl ?start ?turn
    case start =>
      refine ⟨xs, vs2, n2, _, _, _, _, _, _, _, _, _, _, _, ti, rfl, lF3, rfl, rfl, rfl, lN3, hs2, ?_, hq, rfl, ?_, rfl⟩
      · rw [strsAre_len hs2]; rw [strsAre_len hs] at hlen; simp at hlen ⊢; omega
      · rw [strsAre_len hs] at hlen; simp at hlen
        have e1 : (Str.ofString "").length = 0 := by decide
        omega
    case turn =>
      clear lF3 lN3 hs2 hs mt ms mf hq
      rintro n s' ⟨xs2, vs3, n3, k0, k1, k2, k3, k4, k5, h, tk, m', tok, tt, ti, rfl, lF, ms, mf, mt, lN, hs, hlen, hq, htok, htl, rfl⟩
      have lF := fr_kst [("self", .ref I), ("fiter", .ref it), ("token", .str tok tt)] (by simp [ms, mf, mt]) lF
      refine' next_claim (w := w) (p := p) (loose := loose) (mean := mean) (mg := mg) (mb := mb) ln xs2 vs3 ((l, W.listOf #[] np) :: news) _ _ _ _ _ _ _ _ _ _ _ _ _ _ _ _ _ B lF X lN T rfl hs hlen hcell hcode hq.filled hord2 hit hitr ?hd ?hu ?_
      case hd => ktr_room
      case hu => ktr_units
      intro v vs4 n4 h4 tk4 k0' k1' k2' k3' k4' k5' F4 N4 hs4 hv
      obtain ⟨x, r, rfl, hxr⟩ := hq.cases
      have hnl : lineF ln (x :: r) = ln := by
        unfold lineF
        rw [if_neg]
        rcases hxr with ⟨rfl, _⟩ | ⟨rfl, _⟩ | ⟨rfl, _⟩ <;> (simp; decide)
      rw [hnl] at N4
      obtain ⟨tx, rfl⟩ := hv
      dsimp only
      rcases hxr with ⟨rfl, hq2⟩ | ⟨rfl, hq2⟩ | ⟨rfl, rfl⟩
      · k_steps
        refine ⟨r.length + 1, by simp, r, vs4, n4, _, _, _, _, _, _, _, _, _, _, _, ti, rfl, by assumption, rfl, rfl, rfl, by assumption, hs4, ?_, hq2, ?_, ?_, rfl⟩
        · rw [strsAre_len hs4]; rw [strsAre_len hs] at hlen; simp at hlen ⊢; omega
        · rw [← htok, tokQ, if_neg (by decide)]
        · have e1 := dot_len tok
          simp only [List.length_cons] at htl
          omega
      · k_steps
        refine ⟨r.length + 1, by simp, r, vs4, n4, _, _, _, _, _, _, _, _, _, _, _, ti, rfl, by assumption, rfl, rfl, rfl, by assumption, hs4, ?_, hq2, ?_, ?_, rfl⟩
        · rw [strsAre_len hs4]; rw [strsAre_len hs] at hlen; simp at hlen ⊢; omega
        · rw [← htok, tokQ, if_neg (by decide)]
        · have e1 := a_len tok
          simp only [List.length_cons] at htl
          omega
      · k_steps
        dsimp only [TurnPost]
        k_steps
        have e : tokQ (Str.ofString "") xs = (tok, []) := by rw [← htok, tokQ, if_pos rfl]
        rw [e] at hret
        exact hret (by assumption) (core_drop (by assumption)) hs4
end
end

section
open PySem PySem.W PySem.Spec PyProof.Rows
theorem rest_UPush {prog : PySem.Program} {w : PySem.World} {A : PySem.Around} {env : PySem.Env} {Q : PySem.Flow → PySem.Shared → Prop} {E : PySem.Value → PySem.Shared → Prop} {s : PySem.Shared} (h : PySem.wpAny (PySem.model prog w) A (PySem.execs [] env) Q E s) : PySem.wpAny (PySem.model prog w) A (PySem.execs [] env) Q E s := by
  w_top off
  k_with_none
  first | (walk1; fail) | exact h
set_option maxRecDepth 100000
set_option maxHeartbeats 0
set_option pp.deepTerms false
section
variable {prog : Program} {w : World} {A : Around} {E : Value → Shared → Prop} {s : Shared} {h₀ : Heap} {L D : Addr} {m : Str → Option Value} {news news' : List (Addr × Obj)}
theorem truthy_cons {v : Value} {vs : List Value} {n : Nat} {Q : Bool → Shared → Prop} (N : News h₀ L s.heap news) (hm : (D, W.listOf (v :: vs).toArray n) ∈ news) (hz : vs.length ≤ 1000)
    (h : Q true { s with toks := s.toks + 1 + 1 }) : wpAny (model prog w) A (truthy (.ref D)) Q E s := by
  refine wpAny_truthy_list ⟨_, (N _ hm).1, rfl, n, rfl⟩ (by rw [List.size_toArray, List.length_cons]; omega) ?_
  exact h
end
structure PushOrd (I dI l : Addr) (news : List (Addr × Obj)) : Prop where
  a : l ≠ I ∧ l ≠ dI
  b : OwnOff news [l]
section
variable {w : World} {p : Program} {loose : List Str} {mean : ExcName → Option Value} {mg mb : Str → Option Value}
local macro_rules | `(tactic| k_room) => `(tactic| ktr_room)
local macro_rules | `(tactic| k_ne) => `(tactic| ((try dsimp only); first | with_reducible assumption | (refine Ne.symm ?_; with_reducible assumption)))
theorem rule_UPush_1 : True := by
  k_with "truthy ref" => ((k_here; (with_reducible show wpAny _ _ (truthy (Value.ref _)) _ _ _); k_dflt (refine' truthy_cons ?N ?m ?z ?_; (case N => k_asm); (case m => k_mem); (case z => assumption))))
  exact trivial
theorem rule_UPush_2 : True := by
  k_with "R UPush 2" => (k_here; (with_reducible show wpAny _ _ (call (Value.builtin _) [Value.ref _, Value.int 0 _]) _ _ _); k_dflt (refine' pop0 ?F ?N ?U ?hz ?_; (case F => k_asm); (case N => k_asm); (case U => k_upd); (case hz => assumption)))
  exact trivial
local macro_rules | `(tactic| walk_at "call builtin:list.pop") => `(tactic| (k_extra "R UPush 2"; intro h' F' N'; (try dsimp only [List.nil_append, List.cons_append] at N')))
theorem pop_claim (v : Value) (vs : List Value) {S dI I l : Addr} {ln : Int} {np : Nat} {k0 k1 k2 k3 k4 k5 : Tok} (news : List (Addr × Obj)) :
    Claim PySem.Challenge.rw_uc0020_01.row.prog w (hd.heap_39 w.params) p loose mean mg mb 20 60 (call (.ref 140) [.ref I])
      ((l, W.listOf (v :: vs).toArray np) :: (I, instObj 150 dI) :: (dI, lexDict w ln S l k0 k1 k2 k3 k4 k5) :: news)
      (vs.length ≤ 1000 ∧ PushOrd I dI l news)
      (fun h₀ L m s Q => ∀ {h' : Heap} {tk : Nat}, Fr h₀ L h' m → News h₀ L h' ((l, W.listOf vs.toArray (np + 1)) :: (I, instObj 150 dI) :: (dI, lexDict w ln S l k0 k1 k2 k3 k4 k5) :: news) → Q v { s with heap := h', toks := tk }) := by
  k_fill
  dsimp only [Claim]
  intro dp un gd cn cs a ccd cl outer A₀ base hb Lb mm s Q E B0 F0 X0 N0 T0 hk hx hd0 hu0 hret
  obtain ⟨hlen, ⟨a1, a2⟩, hoff⟩ := hx
  have kMark := kstMark
  have hI0 : IntsAre [] [] := .nil
  have hS0 : StrsAre [] [] := .nil
  refine wpAny_call ?_
  k_dflt cell_enter
  k_steps
  exact hret (by assumption) (by assumption)
theorem push_claim (vs : List Value) (x : Str) (tx : Tok) {S dI I l : Addr} {ln : Int} {np : Nat} {k0 k1 k2 k3 k4 k5 : Tok} (news : List (Addr × Obj)) :
    Claim PySem.Challenge.rw_uc0020_01.row.prog w (hd.heap_39 w.params) p loose mean mg mb 20 60 (call (.ref 147) [.ref I, .str x tx])
      ((l, W.listOf vs.toArray np) :: (I, instObj 150 dI) :: (dI, lexDict w ln S l k0 k1 k2 k3 k4 k5) :: news)
      (vs.length ≤ 1000 ∧ PushOrd I dI l news)
      (fun h₀ L m s Q => ∀ {h' : Heap} {tk : Nat}, Fr h₀ L h' m → News h₀ L h' ((l, W.listOf (vs ++ [Value.str x tx]).toArray (np + 1)) :: (I, instObj 150 dI) :: (dI, lexDict w ln S l k0 k1 k2 k3 k4 k5) :: news) → Q .none { s with heap := h', toks := tk }) := by
  k_fill
  dsimp only [Claim]
  intro dp un gd cn cs a ccd cl outer A₀ base hb Lb mm s Q E B0 F0 X0 N0 T0 hk hx hd0 hu0 hret
  obtain ⟨hlen, ⟨a1, a2⟩, hoff⟩ := hx
  have kMark := kstMark
  have hI0 : IntsAre [] [] := .nil
  have hS0 : StrsAre [] [] := .nil
  refine wpAny_call ?_
  k_dflt cell_enter
  k_steps
  (rename News _ _ _ _ => nE)
  rw [List.push_toArray] at nE
  exact hret (by assumption) nE
end
end

section
open PySem PySem.W PySem.Spec PyProof.Rows
theorem rest_UHeaps {prog : PySem.Program} {w : PySem.World} {A : PySem.Around} {env : PySem.Env} {Q : PySem.Flow → PySem.Shared → Prop} {E : PySem.Value → PySem.Shared → Prop} {s : PySem.Shared} (h : PySem.wpAny (PySem.model prog w) A (PySem.execs [] env) Q E s) : PySem.wpAny (PySem.model prog w) A (PySem.execs [] env) Q E s := by
  w_top off
  k_with_none
  first | (walk1; fail) | exact h
set_option maxRecDepth 100000
set_option maxHeartbeats 0
set_option pp.deepTerms false
/-- a small int -/
noncomputable def IntTo (N : Int) (v : Value) : Prop := ∃ n t, v = .int n t ∧ 0 ≤ n ∧ n ≤ N
theorem sum_to {N : Int} (hN : 0 ≤ N) : ∀ (l : List Int), (∀ x ∈ l, 0 ≤ x ∧ x ≤ N) → 0 ≤ l.sum ∧ l.sum ≤ N * l.length
  | [], _ => by simp
  | x :: l, h => by
    obtain ⟨h1, h2⟩ := sum_to hN l fun y hy => h y (.tail _ hy)
    obtain ⟨h3, h4⟩ := h x (.head _)
    simp only [List.sum_cons, List.length_cons]
    rw [Int.natCast_add, Int.mul_add]
    simp only [Int.natCast_one, Int.mul_one]
    omega
theorem paired_ints {N : Int} : ∀ {vs ys : List Value}, Paired (fun _ y => IntTo N y) vs ys → ∃ ns, IntsAre ys ns ∧ (∀ x ∈ ns, 0 ≤ x ∧ x ≤ N) ∧ ns.length = vs.length
  | _, _, .nil => ⟨[], .nil, by simp, rfl⟩
  | _, _, .cons h r => by
    obtain ⟨ns, h1, h2, h3⟩ := paired_ints r
    obtain ⟨n, t, rfl, h4, h5⟩ := h
    refine ⟨n :: ns, .cons n t h1, ?_, by simp [h3]⟩
    intro x hx
    rcases List.mem_cons.mp hx with rfl | hx
    · exact ⟨h4, h5⟩
    · exact h2 x hx
theorem pick_mem {items : Array Value} {lo hi st : Option Int} : ∀ v ∈ slicePick items lo hi st, v ∈ items := by
  intro v hv
  unfold slicePick at hv
  simp only [List.mem_toArray, List.mem_filterMap] at hv
  obtain ⟨i, _, hi⟩ := hv
  exact Array.mem_of_getElem? hi
theorem mem_ints : ∀ {vs : List Value} {ns : List Int}, IntsAre vs ns → ∀ v ∈ vs, ∃ k t, v = .int k t
  | _, _, .nil, _, h => nomatch h
  | _, _, .cons n t r, v, h => by
    rcases List.mem_cons.mp h with rfl | h
    · exact ⟨n, t, rfl⟩
    · exact mem_ints r v h
theorem keeps_refl (s : Shared) : Keeps s s := ⟨s.heap, s.toks, rfl, fun _ _ e => e⟩
section
variable {prog : Program} {w : World} {A : Around} {E : Value → Shared → Prop} {s : Shared}
theorem inner_comp {ce : Env} {x y z : Str} {px p3 p4 p5 p7 p8 p9 p10 p12 p13 pos : Pos} {kk k2 k3 : Nat} {scope : Scope} {cl : List (Str × Addr)} {c l : Addr} {vs : List Value} {ns : List Int} {m₂ : Str → Option Value} {k : Int} {t : Tok} {Q : Value → Shared → Prop}
    (hh : A.handled = none) (hclos : closureFor scope ce = pure cl) (hcell : ∀ y ∈ scope.names, y.2 ≠ .cell) (hkind : scope.kind = .function)
    (hnames : ∀ y ∈ scope.names, y.2 = .local → scope.names.lookup y.1 = some .local) (hx : scope.names.lookup x = some .local)
    (hck : ce.scope.kind = .function) (hy : ce.kindOf y = some .cell) (hyc : ce.cells.lookup y = some c) (hc : s.heap.IsCell c (some (.ref l))) (hl : s.heap.IsList l vs.toArray) (hI : IntsAre vs ns) (hlen : vs.length ≤ 100)
    (hz : ce.kindOf z = some .local) (hn : s.heap.Ns ce.locals m₂) (hm : m₂ z = some (.int k t))
    (hxd : (x == ("__debug__" : Str)) = false) (hyd : (y == ("__debug__" : Str)) = false) (hzd : (z == ("__debug__" : Str)) = false)
    (hQ : ∀ D h' tk ys ns', h'.IsList D ys → IntsAre ys.toList ns' → (∀ x ∈ ns', 0 ≤ x ∧ x ≤ 999999) → ns'.length ≤ 100 → (∀ b o, s.heap.get? b = some o → h'.get? b = some o) → Q (.ref D) { s with heap := h', toks := tk })
    (hs : ∀ v, foldedSetIterable (.Subscript (.Name y p7) (.Slice (some (.Name z p8)) (some (.Constant (.int 25) k2 p9)) (some (.Constant (.int 5) k3 p10)) p12) p13) ce v = pure v := by intro _; rfl) :
    wpAny (model prog w) A (eval (.ListComp (.BinOp (.Name x p3) .Mod (.Constant (.int 1000000) kk p4) p5) [⟨.Name x px, .Subscript (.Name y p7) (.Slice (some (.Name z p8)) (some (.Constant (.int 25) k2 p9)) (some (.Constant (.int 5) k3 p10)) p12) p13, [], 0⟩] scope pos) ce) Q E s := by
  refine wpAny_ListComp_free (fun _ => true) (fun _ y => IntTo 999999 y) hclos hcell hkind hnames hx ?_ hs
  refine wpAny_Subscript_Slice_step PySem.F.slot_list_getitem.lookup ?_
  refine wpAny_Name (wpAny_loadName_cell hck hy hyc hc ?_) hyd
  refine wpAny_Slice (wpAny_evalPart_some (wpAny_Name (wpAny_loadName_local hck hz hn hm ?_) hzd))
  refine wpAny_evalPart_some (wpAny_Constant_int ?_)
  refine wpAny_evalPart_some (wpAny_Constant_int ?_)
  have up1 : ∀ b o, s.heap.get? b = some o → (s.heap.push { cls := .type "slice", data := .fields #[.int k t, .int 25 s.toks, .int 5 (s.toks + 1)] }).get? b = some o := fun b o e => Heap.get?_push_of_some _ e
  have hl1 := hl.at fun o e => up1 _ o e
  refine ⟨hl1.typeIs, ?_⟩
  have hz2 : vs.toArray.size ≤ sizeLine := by rw [List.size_toArray, sizeLine_eq]; omega
  refine wpAny_getItem_list_slice hl1 (Heap.IsSliceOf.new ..) (.int _ _) (.int _ _) (.int _ _) (by decide) ?_ hz2
  generalize hH1 : s.heap.push { cls := .type "slice", data := .fields #[.int k t, .int 25 s.toks, .int 5 (s.toks + 1)] } = H1 at up1 hl1 ⊢
  generalize hP : slicePick vs.toArray (some k) (some 25) (some 5) = ps
  have hps : ∀ v ∈ ps, ∃ k t, v = .int k t := fun v hv => mem_ints hI v (by
    have := pick_mem v (hP ▸ hv)
    simpa using this)
  have hpz : ps.size ≤ 100 := by
    have h1 : (slicePick vs.toArray (some k) (some 25) (some 5)).size ≤ vs.toArray.size := slicePick_size_le _ _ _ _
    rw [hP] at h1
    have h2 : vs.toArray.size = vs.length := List.size_toArray
    omega
  have hl2 : (H1.push { cls := .type "list", data := .seq ps }).IsList H1.objs.size ps := ⟨_, Heap.get?_push_size _ rfl, rfl, 0, rfl⟩
  have up2 : ∀ b o, s.heap.get? b = some o → (H1.push { cls := .type "list", data := .seq ps }).get? b = some o := fun b o e => Heap.get?_push_of_some _ (up1 b o e)
  generalize hH2 : H1.push { cls := .type "list", data := .seq ps } = H2 at hl2 up2 ⊢
  have hlt2 : H1.objs.size < H2.objs.size := by rw [← hH2, Heap.size_push]; exact Nat.lt_succ_self _
  refine wpAny_pyIter_list hl2 ?_
  refine ⟨H2.objs.size, _, _, _, _, _, rfl, Walks.list hh H2.objs.size H1.objs.size (Nat.ne_of_lt hlt2) ps, by rw [sizeLine_eq]; omega, ⟨⟨_, Heap.get?_push_size _ rfl, rfl, rfl⟩, hl2.push _⟩, ?_, ?_, ?_⟩
  · intro b hb
    show b < (H2.push _).objs.size
    rw [Heap.size_push]
    rcases List.mem_cons.mp hb with rfl | hb
    · exact Nat.lt_succ_self _
    · rw [List.mem_singleton.mp hb]; exact Nat.lt_succ_of_lt hlt2
  · refine ⟨?_, ?_⟩
    · intro C i v s₃ m₃ E' _ _ _ _ _ _
      exact wpAny_pure ⟨rfl, keeps_refl _⟩
    · intro C i v s₃ m₃ E' _ hv _ hn3 hm3 _ _
      obtain ⟨kv, tv, rfl⟩ := hps v (Array.mem_of_getElem? hv)
      refine wpAny_BinOp (wpAny_Name (wpAny_loadName_local ?_ (lookup_relabel_local hx) hn3 hm3 ?_) hxd)
      · exact hkind
      refine wpAny_Constant_int (mod_int (by decide) ?_)
      refine ⟨⟨_, _, rfl, ?_, ?_⟩, ⟨s₃.heap, _, rfl, fun _ _ e => e⟩⟩
      · exact Int.fmod_nonneg_of_pos _ (by decide)
      · have := Int.fmod_lt_of_pos kv (show (0 : Int) < 1000000 by decide)
        omega
  · intro D h' tk ys vs' _ hD _ hv' hP' hF hk
    have hF' : Paired (fun _ y => IntTo 999999 y) vs' ys.toList := by
      have e : vs'.filter (fun _ => true) = vs' := by simp
      rw [← e]
      exact hF
    obtain ⟨ns', h1, h2, h3⟩ := paired_ints hF'
    refine hQ D h' tk ys ns' hD h1 h2 (by omega) fun b o e => hk b o ?_ (Heap.get?_push_of_some _ (up2 b o e))
    intro hb
    have hlt := Heap.lt_size (up2 b o e)
    rw [List.mem_singleton.mp hb] at hlt
    exact absurd hlt (Nat.lt_irrefl _)
theorem sum_ok {D : Addr} {ys : Array Value} {ns : List Int} {Q : Value → Shared → Prop} (hh : A.handled = none) (hl : s.heap.IsList D ys) (hi : IntsAre ys.toList ns)
    (h : ∀ h' tk t', (∀ b o, s.heap.get? b = some o → h'.get? b = some o) → Q (.int ns.sum t') { s with heap := h', toks := tk }) : wpAny (model prog w) A (call (.builtin "sum") [.ref D]) Q E s := by
  have ha : AllInts ys := by have := hi.allInts; simpa using this
  obtain ⟨xs, rfl⟩ := ha.items
  refine sum_intListG hh hl fun h' tk t' hk => ?_
  have e : preSum (numAt xs) xs.size = ns.sum := by
    rw [preSum_eq, List.take_of_length_le (by simp), ← nums_intItems, hi.numsOf]
  rw [e]
  exact h h' tk t' hk
variable {K : Frag} {h₀ : Heap} {L : Addr} {m mg mb : Str → Option Value} {p : Program} {loose : List Str} {mean : ExcName → Option Value} {env : Env}
theorem elt_ok {sc1 : Scope} {cl1 : List (Str × Addr)} {C : Addr} {b x y z : Str} {q1 q2 q3 q4 px p3 p4 p5 p7 p8 p9 p10 p12 p13 pos : Pos} {kk k2 k3 : Nat} {scope : Scope} {cl : List (Str × Addr)} {c l : Addr} {vs : List Value} {ns : List Int} {m₂ : Str → Option Value} {k st : Int} {t ts : Tok}
    (hh : A.handled = none) (hclos : closureFor scope (compEnvC sc1 cl1 C env) = pure cl) (hcell : ∀ y ∈ scope.names, y.2 ≠ .cell) (hkind : scope.kind = .function)
    (hnames : ∀ y ∈ scope.names, y.2 = .local → scope.names.lookup y.1 = some .local) (hx : scope.names.lookup x = some .local)
    (hck : (compEnvC sc1 cl1 C env).scope.kind = .function) (hy : (compEnvC sc1 cl1 C env).kindOf y = some .cell) (hyc : (compEnvC sc1 cl1 C env).cells.lookup y = some c) (hc : s.heap.IsCell c (some (.ref l))) (hl : s.heap.IsList l vs.toArray) (hI : IntsAre vs ns) (hlen : vs.length ≤ 100)
    (hz : (compEnvC sc1 cl1 C env).kindOf z = some .local) (hb : (compEnvC sc1 cl1 C env).kindOf b = some .local) (hn : s.heap.Ns (compEnvC sc1 cl1 C env).locals m₂) (hm : m₂ z = some (.int k t)) (hmb : m₂ b = some (.int st ts)) (h0 : 0 ≤ st) (h9 : st ≤ 9)
    (hxd : (x == ("__debug__" : Str)) = false) (hyd : (y == ("__debug__" : Str)) = false) (hzd : (z == ("__debug__" : Str)) = false) (hbd : (b == ("__debug__" : Str)) = false)
    (F : Fr h₀ L s.heap m) (X : K.In h₀) (T : Top p loose mean mg mb h₀) (es : nsIn K mainGlobals (Str.ofString "sum") = some none) (hg : env.globals = mainGlobals) (hbu : env.builtins = builtinsNs)
    (hsk : (compEnvC sc1 cl1 C env).kindOf (Str.ofString "sum") = some .globalImplicit)
    (hs : ∀ v, foldedSetIterable (.Subscript (.Name y p7) (.Slice (some (.Name z p8)) (some (.Constant (.int 25) k2 p9)) (some (.Constant (.int 5) k3 p10)) p12) p13) (compEnvC sc1 cl1 C env) v = pure v := by intro _; rfl) :
    wpAny (model prog w) A (eval (.BinOp (.Name b q1) .Add (.Call (.Name (Str.ofString "sum") q2) [.ListComp (.BinOp (.Name x p3) .Mod (.Constant (.int 1000000) kk p4) p5) [⟨.Name x px, .Subscript (.Name y p7) (.Slice (some (.Name z p8)) (some (.Constant (.int 25) k2 p9)) (some (.Constant (.int 5) k3 p10)) p12) p13, [], 0⟩] scope pos] [] q3) q4) (compEnvC sc1 cl1 C env))
      (fun v s₅ => IntTo 100000000 v ∧ Keeps s s₅) E s := by
  refine wpAny_BinOp (wpAny_Name (wpAny_loadName_local hck hb hn hmb ?_) hbd)
  refine wpAny_Call_NameR ?_
  refine LCgL.ld_built F X T es (v := .builtin "sum") (by decide +kernel) (by decide) ?_ hg hbu hck hsk
  refine callWith_builtin1 ?_ rfl rfl
  refine Calls.spliced_cons ?_
  refine inner_comp hh hclos hcell hkind hnames hx hck hy hyc hc hl hI hlen hz hn hm hxd hyd hzd ?_ hs
  intro D h' tk ys ns' hD hi hb1 hlen' hk
  refine Calls.spliced_nil ?_
  refine sum_ok hh hD hi fun h2 tk2 t' hk2 => ?_
  have hsum := sum_to (N := 999999) (by decide) ns' hb1
  refine add_int ?_
  refine ⟨⟨_, _, rfl, ?_, ?_⟩, ⟨h2, _, rfl, fun b o e => hk2 b o (hk b o e)⟩⟩
  · omega
  · omega
end
end

section
open PySem PySem.W PySem.Spec PyProof.Rows PyProof.Rows.LCg
theorem rest_UEnum {prog : PySem.Program} {w : PySem.World} {A : PySem.Around} {env : PySem.Env} {Q : PySem.Flow → PySem.Shared → Prop} {E : PySem.Value → PySem.Shared → Prop} {s : PySem.Shared} (h : PySem.wpAny (PySem.model prog w) A (PySem.execs [] env) Q E s) : PySem.wpAny (PySem.model prog w) A (PySem.execs [] env) Q E s := by
  w_top off
  k_with_none
  first | (walk1; fail) | exact h
set_option maxRecDepth 100000
set_option maxHeartbeats 0
set_option pp.deepTerms false
section
variable {prog : Program} {w : World} {A : Around} {E : Value → Shared → Prop} {s : Shared} {env : Env}
/-- a comprehension over pairs drawn by a walk, each element of which leaves the heap as it was -/
theorem pair_block {elt iter : PySem.Expr} {a b : Str} {pa pb tp : Pos} {kk : Nat} {scope : Scope} {cl : List (Str × Addr)} {pos : Pos} {s₂ : Shared} {I : Addr} {fp wr : List Addr} {n : Nat} {Pt : Nat → Array Value → Prop} {St : Nat → Heap → Prop} {Mid : Nat → Addr → Heap → Prop}
    (W : WalksT prog w A I fp wr n Pt St Mid) (hsz : n ≤ sizeLine) (G : Value → Prop) {RR : Value → Addr → Result → Shared → Prop} (hh : A.handled = none)
    (hcell : ∀ y ∈ scope.names, y.2 ≠ .cell) (hkind : scope.kind = .function) (hxa : scope.names.lookup a = some .local) (hxb : scope.names.lookup b = some .local) (hab : ¬ a = b)
    (hst : St 0 s₂.heap) (hfp : ∀ c ∈ fp, c < s₂.heap.objs.size)
    (hp : ∀ i vals, Pt i vals → ∃ x y, vals = #[x, y])
    (helt : ∀ C i x y s₃ m₃ E', s₂.heap.objs.size ≤ C → i < n → Pt i #[x, y] → s₃.heap.Ns C m₃ → m₃ a = some x → m₃ b = some y → (∀ c o, c ∉ wr → s₂.heap.get? c = some o → s₃.heap.get? c = some o) →
      wpAny (model prog w) A (eval elt (compEnvC scope cl C env)) (fun v s₄ => G v ∧ Keeps s₃ s₄) E' s₃)
    (hRR : ∀ D C h' tk m' ys, s₂.heap.objs.size ≤ D → s₂.heap.get? D = none → s₂.heap.get? C = none → D ≠ C → h'.Ns C m' → h'.get? D = some (lst ys) → ys.length = n → (∀ v ∈ ys, G v) →
      (∀ c o, c ∉ wr → s₂.heap.get? c = some o → h'.get? c = some o) → RR (.ref D) C (.ok .next) { s₂ with heap := h', toks := tk }) :
    wpAny (model prog w) A (newList []) (fun acc s₃ => wpAny (model prog w) A (newFunctionEnv scope env.globals cl [] env.qual none .none (some env)) (fun cenv s₄ =>
      codeAny (model prog w) A (.compStart (.ListComp elt [⟨.Tuple [.Name a pa, .Name b pb] kk tp, iter, [], 0⟩] scope pos) 0 (.ref I) acc { cenv with scope := relabel scope env }) (RR acc cenv.locals) s₄) E s₃) E s₂ := by
  refine wpAny_newObj_type (wpAny_newFunctionEnv hcell (by intro y hy; simp at hy) (fun h₁ hns₁ hsb₁ => ?_) hkind)
  dsimp only at hns₁ hsb₁ ⊢
  generalize hH2 : s₂.heap.push { cls := .type "list", dict := none, data := .seq ([] : List Value).toArray } = H2 at hns₁ hsb₁ ⊢
  have hC : H2.objs.size = s₂.heap.objs.size + 1 := by rw [← hH2, Heap.size_push]
  have hDC : s₂.heap.objs.size ≠ H2.objs.size := by rw [hC]; exact Nat.ne_of_lt (Nat.lt_succ_self _)
  have hCle : s₂.heap.objs.size ≤ H2.objs.size := by rw [hC]; exact Nat.le_succ _
  have below : ∀ b, b < s₂.heap.objs.size → b ≠ H2.objs.size ∧ b ≠ s₂.heap.objs.size := fun b hb => ⟨by rw [hC]; exact Nat.ne_of_lt (Nat.lt_succ_of_lt hb), Nat.ne_of_lt hb⟩
  have hDf : s₂.heap.objs.size ∉ fp := fun hm => Nat.lt_irrefl _ (hfp _ hm)
  have hCf : H2.objs.size ∉ fp := fun hm => by have := hfp _ hm; rw [hC] at this; exact Nat.lt_irrefl _ (Nat.lt_of_succ_lt this)
  have hDw : s₂.heap.objs.size ∉ wr := fun hm => hDf (W.sub _ hm)
  have hCw : H2.objs.size ∉ wr := fun hm => hCf (W.sub _ hm)
  have old : ∀ b o, s₂.heap.get? b = some o → h₁.get? b = some o := fun b o e => hsb₁.extBut b o (below b (Heap.lt_size e)).1 (Heap.get?_push_of_some _ (hH2 ▸ Heap.get?_push_of_some _ e))
  have hacc : h₁.get? s₂.heap.objs.size = some (lst []) := hsb₁.extBut _ _ hDC (Heap.get?_push_of_some _ (hH2 ▸ Heap.get?_push_size _ rfl))
  have hst₁ : St 0 h₁ := W.frame _ _ _ hst fun b _ o e => old b o e
  have fresh : ∀ a, s₂.heap.objs.size ≤ a → s₂.heap.get? a = none := fun a ha => by
    cases e : s₂.heap.get? a with
    | none => rfl
    | some o' => exact absurd (Heap.lt_size e) (Nat.not_lt.mpr ha)
  have loop : ∀ s₃ : Shared, s₃ = { s₂ with heap := h₁, toks := s₂.toks + ([] : List (Str × Value)).length } →
      codeAny (model prog w) A (.compLoop (.ListComp elt [⟨.Tuple [.Name a pa, .Name b pb] kk tp, iter, [], 0⟩] scope pos) 0 (.ref I) (.ref s₂.heap.objs.size) (compEnvC scope cl H2.objs.size env))
        (RR (.ref s₂.heap.objs.size) H2.objs.size) s₃ := by
    rintro s₃ rfl
    refine kcp_loop
      (fun k s' => ∃ h' tk i ys m', s' = { s₂ with heap := h', toks := tk } ∧ i ≤ n ∧ k = n + 1 - i ∧ ys.length = i ∧ St i h' ∧ h'.Ns H2.objs.size m' ∧ h'.get? s₂.heap.objs.size = some (lst ys) ∧ (∀ v ∈ ys, G v) ∧
        (∀ c o, c ∉ wr → s₂.heap.get? c = some o → h'.get? c = some o)) ?_ (n + 1)
      ⟨h₁, _, 0, [], _, rfl, Nat.zero_le _, rfl, rfl, hst₁, hns₁, hacc, (fun _ hv => nomatch hv), fun c o _ e => old c o e⟩
    rintro k s' ⟨h', tk, i, ys, m', rfl, hi, rfl, hyl, hst', hn', hD', hG, hk⟩
    by_cases hlt : i < n
    · refine W.item i _ _ _ hlt hst' fun T vals h₂ tk₂ hPt hTs hT hMid hk₂ => ?_
      obtain ⟨x, y, rfl⟩ := hp i vals hPt
      have hTw := W.apart i T h₂ hMid
      refine W.go _ _ _ i T _ _ _ hMid fun h₃ hst₃ hk₃ => ?_
      have up₃ : ∀ c o, c ∉ wr → h'.get? c = some o → h₃.get? c = some o := fun c o hc e => hk₃ c o hc (hk₂ c o hc e)
      have hT3 : h₃.IsTuple T #[x, y] := hT.at fun o e => hk₃ T o hTw e
      refine kcp_assign (env := compEnvC scope cl H2.objs.size env) hh hT3 (lookup_relabel_local hxa) (lookup_relabel_local hxb) (by simp [compEnvC, relabel, hkind]) (hn'.at' fun o e => up₃ _ o hCw e) fun h₄ tk₄ hn₄ hs₄ => ?_
      have hs₄' : ∀ c o, c ≠ H2.objs.size → h₃.get? c = some o → h₄.get? c = some o := hs₄
      have up : ∀ c o, c ∉ wr → c ≠ H2.objs.size → h'.get? c = some o → h₄.get? c = some o := fun c o h1 h2 e => hs₄' c o h2 (up₃ c o h1 e)
      refine wpAny_mono (helt _ i x y _ _ _ hCle hlt hPt hn₄ (by simp [hab]) (by simp) fun c o hc e => up c o hc (below c (Heap.lt_size e)).1 (hk c o hc e)) (fun v s₅ h₅ => ?_) fun _ _ e => e
      obtain ⟨hv, h5, tk₅, rfl, hk5⟩ := h₅
      have zD := hk5 _ _ (up _ _ hDw hDC hD')
      refine append_at (hsz := by show ys.toArray.size ≤ sizeLine; rw [List.size_toArray, hyl]; exact Nat.le_trans hi hsz) zD fun h₆ hs₆ hD₆ => ?_
      have st6 : St (i + 1) h₆ := W.frame _ _ _ hst₃ fun c hc o e => hs₆.extBut c o (fun q => hDf (q ▸ hc)) (hk5 c o (hs₄' c o (fun q => hCf (q ▸ hc)) e))
      refine ⟨n + 1 - (i + 1), by omega, h₆, tk₅, i + 1, ys ++ [v], _, rfl, hlt, rfl, by rw [List.length_append, List.length_singleton, hyl], st6, (hn₄.keeps hk5).sameBut hs₆ (Ne.symm hDC), hD₆.trans (congrArg some (lst_snoc ys v)), ?_, ?_⟩
      · intro u hu
        rcases List.mem_append.mp hu with hu | hu
        · exact hG u hu
        · rw [List.mem_singleton.mp hu]; exact hv
      · exact fun c o hc e => hs₆.extBut c o (below c (Heap.lt_size e)).2 (hk5 c o (up c o hc (below c (Heap.lt_size e)).1 (hk c o hc e)))
    · have hin : i = n := Nat.le_antisymm hi (Nat.not_lt.mp hlt)
      subst hin
      refine W.done _ _ _ hst' fun h₂ tk₂ hk₂ => ?_
      exact hRR _ _ h₂ tk₂ _ ys (Nat.le_refl _) (fresh _ (Nat.le_refl _)) (fresh _ hCle) hDC (hn'.at' fun o e => hk₂ _ o hCw e) (hk₂ _ _ hDw hD') hyl hG fun c o hc e => hk₂ c o hc (hk c o hc e)
  exact codeAny_compStart_list (loop _ rfl) (W.self 0 _ _ _ hst₁ (loop _ rfl))
end
end

section
open PySem PySem.W PySem.Spec PyProof.Rows PyProof.Rows.LCg
theorem rest_UHeapsK {prog : PySem.Program} {w : PySem.World} {A : PySem.Around} {env : PySem.Env} {Q : PySem.Flow → PySem.Shared → Prop} {E : PySem.Value → PySem.Shared → Prop} {s : PySem.Shared} (h : PySem.wpAny (PySem.model prog w) A (PySem.execs [] env) Q E s) : PySem.wpAny (PySem.model prog w) A (PySem.execs [] env) Q E s := by
  w_top off
  k_with_none
  first | (walk1; fail) | exact h
set_option maxRecDepth 100000
set_option maxHeartbeats 0
set_option pp.deepTerms false
section
variable {prog : Program} {w : World} {A : Around} {E : Value → Shared → Prop} {s : Shared} {env : Env} {h₀ : Heap} {L : Addr} {m mg mb : Str → Option Value} {K : Frag} {p : Program} {loose : List Str} {mean : ExcName → Option Value}
noncomputable abbrev enumObj (it : Addr) : Obj := { cls := .type "enumerate", dict := none, data := .fields #[.none, .bool false, .ref it, rawInt 0, .none, .none], slots := #[] }
/-- the object is a list iterator at the start of l -/
structure IterOf (o : Obj) (l : Addr) : Prop where
  at' : ∀ h : Heap, ∀ it, h.get? it = some o → h.IsListIter it l 0
theorem enum_callK {l : Addr} {items : Array Value} {n : Nat} {news : List (Addr × Obj)} {Q : Value → Shared → Prop} (F : Fr h₀ L s.heap m) (N : News h₀ L s.heap news) (hm : (l, W.listOf items n) ∈ news)
    (h : ∀ e it o h', IterOf o l → Fr h₀ L h' m → News h₀ L h' ((e, enumObj it) :: (it, o) :: news) → (∀ p ∈ news, p.1 < it) → it < e → Q (.ref e) { s with heap := h' }) : wpAny (model prog w) A (call (.type "enumerate") [.ref l]) Q E s := by
  refine call_enumerate_list (items := items) ⟨_, (N _ hm).1, rfl, n, rfl⟩ fun h' he hi hz hk => ?_
  obtain ⟨o, ho, hr⟩ := id hi
  have hLs : L < s.heap.objs.size := F.ns.lt
  have F' := F.keeps hk
  have fresh : ∀ b, s.heap.objs.size ≤ b → h₀.get? b = none := fun b hb => Heap.get?_none_of_le (Nat.le_trans F.above (Nat.le_trans (Nat.le_of_lt hLs) hb))
  refine h _ _ o h' ⟨fun hp i e => ⟨o, e, hr⟩⟩ F' ?_ (fun p hp => Heap.lt_size (N p hp).1) (Nat.lt_succ_self _)
  refine List.forall_mem_cons.mpr ⟨⟨he, Nat.ne_of_gt (Nat.lt_succ_of_lt hLs), fresh _ (Nat.le_succ _)⟩, ?_⟩
  refine List.forall_mem_cons.mpr ⟨⟨ho, Nat.ne_of_gt hLs, fresh _ (Nat.le_refl _)⟩, ?_⟩
  exact fun p hp => ⟨hk _ _ (N p hp).1, (N p hp).2⟩
/-- what the heaps' comprehension draws from, where the list is bound to a name at once -/
inductive HeapsSrcA (h₀ : Heap) (L : Addr) (m : Str → Option Value) (c : Addr) (script : Addr) (y0 : Str) (Q : Flow → Shared → Prop) (xv : Value) (s₁ : Shared) : Prop
  | mk (e : Addr) (it : Addr) (o : Obj) (l : Addr) (items : Array Value) (n : Nat) (news : List (Addr × Obj)) (e0 : xv = .ref e)
      (e1 : IterOf o l)
      (e2 : Fr h₀ L s₁.heap m)
      (e3 : News h₀ L s₁.heap ((e, enumObj it) :: (it, o) :: news))
      (e4 : (∀ p ∈ news, p.1 < it))
      (e5 : it < e)
      (e6 : (l, W.listOf items n) ∈ news)
      (e7 : (∃ oc, (c, oc) ∈ news ∧ oc.data = .cell (some (.ref script))))
      (e8 : (∀ v ∈ items, IntTo 9 v))
      (e9 : items.size ≤ 100)
      (e10 : ∀ D h' tk ys, Fr h₀ L h' (fun z => if z = y0 then some (.ref D) else m z) → News h₀ L h' ((D, lst ys) :: news) → (∀ p ∈ news, p.1 < D) → ys.length = items.size → (∀ v ∈ ys, IntTo 100000000 v) → Q .next { s₁ with heap := h', toks := tk })
theorem HeapsSrcA.intro {c script : Addr} {y0 : Str} {Q : Flow → Shared → Prop} {s₁ : Shared} {e it : Addr} {o : Obj} {l : Addr} {items : Array Value} {n : Nat} {news : List (Addr × Obj)} {oc : Obj} (h1 : IterOf o l) (F : Fr h₀ L s₁.heap m) (N : News h₀ L s₁.heap ((e, enumObj it) :: (it, o) :: news)) (h2 : ∀ p ∈ news, p.1 < it) (h3 : it < e) (h4 : (l, W.listOf items n) ∈ news) (h5 : (c, oc) ∈ news) (h6 : oc.data = .cell (some (.ref script)))
    (h7 : ∀ v ∈ items, IntTo 9 v) (h8 : items.size ≤ 100) (h9 : ∀ D h' tk ys, Fr h₀ L h' (fun z => if z = y0 then some (.ref D) else m z) → News h₀ L h' ((D, lst ys) :: news) → (∀ p ∈ news, p.1 < D) → ys.length = items.size → (∀ v ∈ ys, IntTo 100000000 v) → Q .next { s₁ with heap := h', toks := tk }) :
    HeapsSrcA h₀ L m c script y0 Q (.ref e) s₁ := ⟨e, it, o, l, items, n, news, rfl, h1, F, N, h2, h3, h4, ⟨oc, h5, h6⟩, h7, h8, h9⟩
theorem heaps_assign {sc1 : Scope} {cl1 : List (Str × Addr)} {a b x y : Str} {pa pb tp pos1 q1 q2 q3 q4 px p3 p4 p5 p7 p8 p9 p10 p12 p13 pos : Pos} {kt kk k2 k3 : Nat} {scope : Scope} {cl : List (Str × Addr)} {c script : Addr} {vs : List Value} {ns : List Int} {iter : PySem.Expr} {y0 : Str} {py0 spos : Pos} {Q : Flow → Shared → Prop}
    (_F : Fr h₀ L s.heap m) (hLe : env.locals = L) (hsw : swapsWith (.ListComp (.BinOp (.Name b q1) .Add (.Call (.Name (Str.ofString "sum") q2) [.ListComp (.BinOp (.Name x p3) .Mod (.Constant (.int 1000000) kk p4) p5) [⟨.Name x px, .Subscript (.Name y p7) (.Slice (some (.Name a p8)) (some (.Constant (.int 25) k2 p9)) (some (.Constant (.int 5) k3 p10)) p12) p13, [], 0⟩] scope pos] [] q3) q4)
      [⟨.Tuple [.Name a pa, .Name b pb] kt tp, iter, [], 0⟩] sc1 pos1) (some (.Name y0 py0)) spos.line env = pure true) (hy0 : env.kindOf y0 = some .local) (hp0 : (env.scope.kind == .class || (env.scope.kind == .module && env.locals != env.globals)) = false) (hh : A.handled = none) (hclos1 : closureFor sc1 env = pure cl1) (hcell1 : ∀ y ∈ sc1.names, y.2 ≠ .cell) (hkind1 : sc1.kind = .function)
    (hnames1 : ∀ y ∈ sc1.names, y.2 = .local → sc1.names.lookup y.1 = some .local) (hxa : sc1.names.lookup a = some .local) (hxb : sc1.names.lookup b = some .local) (hab : ¬ a = b)
    (hclos : ∀ C, closureFor scope (compEnvC sc1 cl1 C env) = pure cl) (hcell : ∀ y ∈ scope.names, y.2 ≠ .cell) (hkind : scope.kind = .function)
    (hnames : ∀ y ∈ scope.names, y.2 = .local → scope.names.lookup y.1 = some .local) (hx : scope.names.lookup x = some .local)
    (hy : ∀ C, (compEnvC sc1 cl1 C env).kindOf y = some .cell) (hyc : cl1.lookup y = some c) (hl : h₀.IsList script vs.toArray) (hI : IntsAre vs ns) (hlen : vs.length ≤ 100)
    (hxd : (x == ("__debug__" : Str)) = false) (hyd : (y == ("__debug__" : Str)) = false) (hzd : (a == ("__debug__" : Str)) = false) (hbd : (b == ("__debug__" : Str)) = false)
    (X : K.In h₀) (T : Top p loose mean mg mb h₀) (es : nsIn K mainGlobals (Str.ofString "sum") = some none) (hg : env.globals = mainGlobals) (hbu : env.builtins = builtinsNs)
    (hsk : ∀ C, (compEnvC sc1 cl1 C env).kindOf (Str.ofString "sum") = some .globalImplicit)
    (h : wpAny (model prog w) A (eval iter env) (HeapsSrcA h₀ L m c script y0 Q) E s)
    (hs1 : ∀ x, foldedSetIterable iter env x = pure x := by intro _; rfl)
    (hs : ∀ C v, foldedSetIterable (.Subscript (.Name y p7) (.Slice (some (.Name a p8)) (some (.Constant (.int 25) k2 p9)) (some (.Constant (.int 5) k3 p10)) p12) p13) (compEnvC sc1 cl1 C env) v = pure v := by intro _ _; rfl) :
    wpAny (model prog w) A (exec (.Assign [.Name y0 py0] (.ListComp (.BinOp (.Name b q1) .Add (.Call (.Name (Str.ofString "sum") q2) [.ListComp (.BinOp (.Name x p3) .Mod (.Constant (.int 1000000) kk p4) p5) [⟨.Name x px, .Subscript (.Name y p7) (.Slice (some (.Name a p8)) (some (.Constant (.int 25) k2 p9)) (some (.Constant (.int 5) k3 p10)) p12) p13, [], 0⟩] scope pos] [] q3) q4)
      [⟨.Tuple [.Name a pa, .Name b pb] kt tp, iter, [], 0⟩] sc1 pos1) spos) env) Q E s := by
  subst hLe
  rw [exec_Assign_Name_used _ _ _ _ hsw]
  refine wpAny_bind (wpAny_standAt (wpAny_bind ?_))
  show wpAny _ A (do let _ ← comprehension (.ListComp (.BinOp (.Name b q1) .Add (.Call (.Name (Str.ofString "sum") q2) [.ListComp (.BinOp (.Name x p3) .Mod (.Constant (.int 1000000) kk p4) p5) [⟨.Name x px, .Subscript (.Name y p7) (.Slice (some (.Name a p8)) (some (.Constant (.int 25) k2 p9)) (some (.Constant (.int 5) k3 p10)) p12) p13, [], 0⟩] scope pos] [] q3) q4)
      [⟨.Tuple [.Name a pa, .Name b pb] kt tp, iter, [], 0⟩] sc1 pos1) sc1 env _ (newList []) false (eval iter env) (some (assign (.Name y0 py0) env))) _ _ s
  refine wpAny_bind (wpAny_mono (wpAny_comprehension_free (use := some (assign (.Name y0 py0) env)) (Q := fun _ s' => Q .next s') rfl hs1 hclos1 hkind1 hnames1 (wpAny_mono h (fun xv s₁ h₁ => ?_) fun _ _ e => e)) (fun _ s' hq => wpAny_pure (wpAny_pure hq)) fun _ _ e => e)
  obtain ⟨e, it, o, l, items, n, news, rfl, hio, F, N, hlt, hlt2, hml, ⟨oc, hmc, hdc⟩, hitems, hsz, hQ⟩ := h₁
  have he := (N (e, enumObj it) (.head _)).1
  have hi := hio.at' _ _ (N (it, o) (.tail _ (.head _))).1
  have Nr : News h₀ env.locals s₁.heap news := fun p hp => N p (.tail _ (.tail _ hp))
  have hlI : s₁.heap.IsList l items := ⟨_, (Nr _ hml).1, rfl, n, rfl⟩
  have hle : l ≠ it := Nat.ne_of_lt (hlt _ hml)
  have hlee : e ≠ l := Nat.ne_of_gt (Nat.lt_trans (hlt _ hml) hlt2)
  have D0 := Draws.list (prog := prog) (w := w) (A := A.in1) hh it l hle items
  have hei : e ≠ it := Nat.ne_of_gt hlt2
  have W := WalksT.enumerateD D0 e hei (by simp [hei, hlee]) (by simp)
  have hoffN : ∀ p ∈ news, p.1 ∉ [e, it] := fun p hp hq => by
    have h1 := hlt p hp
    rcases List.mem_cons.mp hq with q | hq
    · rw [q] at h1; exact Nat.lt_irrefl _ (Nat.lt_trans h1 hlt2)
    · rw [List.mem_singleton.mp hq] at h1; exact Nat.lt_irrefl _ h1
  have hoffL : env.locals ∉ [e, it] := fun hq => by
    rcases List.mem_cons.mp hq with q | hq
    · exact (N (e, enumObj it) (.head _)).2.1 q.symm
    · exact (N (it, o) (.tail _ (.head _))).2.1 (List.mem_singleton.mp hq).symm
  have hoff0 : ∀ b, b ∈ [e, it] → h₀.get? b = none := fun b hq => by
    rcases List.mem_cons.mp hq with rfl | hq
    · exact (N (b, enumObj it) (.head _)).2.2
    · rw [List.mem_singleton.mp hq]; exact (N (it, o) (.tail _ (.head _))).2.2
  have Fup : ∀ h' : Heap, (∀ c o, c ∉ [e, it] → s₁.heap.get? c = some o → h'.get? c = some o) → Fr h₀ env.locals h' m := fun h' hk =>
    ⟨F.ns.at' fun o e => hk _ o hoffL e, fun b o e => hk b o (fun q => by rw [hoff0 b q] at e; cases e) (F.keep b o e), F.above⟩
  refine wpAny_pyIter_enum he ?_
  refine pair_block W (by rw [sizeLine_eq]; omega) (IntTo 100000000) hh hcell1 hkind1 hxa hxb hab ⟨⟨_, he⟩, hi, hlI⟩ ?_ ?_ ?_ ?_
  · intro b hb
    rcases List.mem_cons.mp hb with rfl | hb
    · exact Heap.lt_size he
    · rcases List.mem_cons.mp hb with rfl | hb
      · exact Heap.lt_size (N (b, o) (.tail _ (.head _))).1
      · rw [List.mem_singleton.mp hb]; exact Heap.lt_size (Nr _ hml).1
  · rintro i vals ⟨t, x, _, rfl⟩
    exact ⟨_, _, rfl⟩
  · intro C i x' y' s₃ m₃ E' hC hin hPt hn hma hmb hk
    obtain ⟨t, x2, hx2, he2⟩ := hPt
    have e1 : x' = .int i t := by have := congrArg (·[0]?) he2; simpa using this
    have e2 : y' = x2 := by have := congrArg (·[1]?) he2; simpa using this
    subst e1 e2
    obtain ⟨st, ts, rfl, h0, h9⟩ := hitems y' (Array.mem_of_getElem? hx2)
    have F3 := Fup _ hk
    exact elt_ok hh (hclos C) hcell hkind hnames hx hkind1 (hy C) hyc ⟨oc, hk _ _ (hoffN _ hmc) (Nr _ hmc).1, hdc⟩ (hl.at fun o e => F3.keep _ _ e) hI hlen (lookup_relabel_local hxa) (lookup_relabel_local hxb) hn hma hmb h0 h9 hxd hyd hzd hbd F3 X T es hg hbu (hsk C) (hs C)
  · intro D C h' tk m' ys hDs hDn hCn hDC hn hD hyl hG hk
    have F3 := Fup _ hk
    show wpAny _ A (assign (.Name y0 py0) env (.ref D)) _ _ _
    have newC : ∀ b o, s₁.heap.get? b = some o → b ≠ C := fun b o e q => by rw [q, hCn] at e; cases e
    obtain ⟨oL, _, _, hoL, _⟩ := F.ns
    have fresh0 : ∀ b, s₁.heap.get? b = none → h₀.get? b = none := fun b hb => by
      cases e : h₀.get? b with
      | none => rfl
      | some o' => have := F.keep b o' e; rw [hb] at this; cases this
    have hDL : D ≠ env.locals := fun q => by rw [q, hoL] at hDn; cases hDn
    have hCL : C ≠ env.locals := fun q => newC _ oL hoL q.symm
    refine wpAny_assign_Name (wpAny_storeName_local hy0 F3.ns (fun h₂ hn₂ hs₂ => ?_) hp0)
    have hL₀ : h₀.get? env.locals = none := Heap.get?_none_of_le F3.above
    have F₂ : Fr h₀ env.locals h₂ (fun z => if z = y0 then some (.ref D) else m z) := ⟨hn₂, fun b o e => hs₂.extBut b o (fun q => by rw [q, hL₀] at e; cases e) (F3.keep b o e), F3.above⟩
    have hDsize : ∀ p ∈ news, p.1 < D := fun p hp => Nat.lt_of_lt_of_le (Heap.lt_size (Nr p hp).1) hDs
    refine ⟨m', hn.sameBut hs₂ hCL, fun h'' hs'' => ?_⟩
    refine hQ D h'' _ ys (F₂.change hs'' hCL (fresh0 C hCn)) ?_ hDsize (by rw [hyl]) hG
    refine List.forall_mem_cons.mpr ⟨⟨(hs''.2 D hDC).trans (hs₂.extBut D _ hDL hD), hDL, fresh0 D hDn⟩, ?_⟩
    exact fun p hp => ⟨(hs''.2 p.1 (newC _ _ (Nr p hp).1)).trans (hs₂.extBut p.1 _ (Nr p hp).2.1 (hk _ _ (hoffN p hp) (Nr p hp).1)), (Nr p hp).2⟩
end
end

section
open PySem PySem.W PySem.Spec PyProof.Rows
theorem rest_ULawA {prog : PySem.Program} {w : PySem.World} {A : PySem.Around} {env : PySem.Env} {Q : PySem.Flow → PySem.Shared → Prop} {E : PySem.Value → PySem.Shared → Prop} {s : PySem.Shared} (h : PySem.wpAny (PySem.model prog w) A (PySem.execs [] env) Q E s) : PySem.wpAny (PySem.model prog w) A (PySem.execs [] env) Q E s := by
  w_top off
  k_with_none
  first | (walk1; fail) | exact h
set_option maxRecDepth 100000
set_option maxHeartbeats 0
set_option pp.deepTerms false
noncomputable def lawDef : Stmt := PySem.Challenge.rw_uc0020_01.row.prog.main.body.getLastD (.Pass ⟨0, 0, 0, 0⟩)
noncomputable def lawBody : List Stmt := match lawDef with | .FunctionDef _ _ b _ _ _ _ _ _ _ => b | _ => []
noncomputable def lawScope : Scope := match lawDef with | .FunctionDef _ _ _ _ _ _ s _ _ _ => s | _ => { kind := .function, names := [], isGenerator := false, isCoroutine := false }
section
variable {prog : Program} {w : World} {A : Around} {E : Value → Shared → Prop} {s : Shared} {env : Env} {Q : Flow → Shared → Prop}
/-- the statements still to come -/
noncomputable def RestAt (prog : Program) (w : World) (A : Around) (env : Env) (ys : List Stmt) (Q : Flow → Shared → Prop) (E : Value → Shared → Prop) (f : Flow) (s' : Shared) : Prop := match f with
  | .next => wpAny (model prog w) A (execs ys env) Q E s'
  | f => Q f s'
theorem execs_append (xs ys : List Stmt) : execs (xs ++ ys) env = (execs xs env >>= fun f => match f with | .next => execs ys env | f => pure f) := by
  induction xs with
  | nil => rw [List.nil_append, execs_nil, pure_bind]
  | cons a xs ih =>
    rw [List.cons_append, execs_cons, execs_cons, bind_assoc]
    congr 1
    funext f
    cases f with
    | next => exact ih
    | cont => rw [pure_bind]
    | brk => rw [pure_bind]
    | ret v => rw [pure_bind]
theorem exec_split {xs ys : List Stmt} (h : wpAny (model prog w) A (execs xs env) (RestAt prog w A env ys Q E) E s) : wpAny (model prog w) A (execs (xs ++ ys) env) Q E s := by
  rw [execs_append]
  refine wpAny_bind (wpAny_mono h (fun f s' hf => ?_) fun _ _ e => e)
  cases f with
  | next => exact hf
  | cont => exact wpAny_pure hf
  | brk => exact wpAny_pure hf
  | ret v => exact wpAny_pure hf
theorem exec_split5 {a b c d e : Stmt} {ys : List Stmt} (h : wpAny (model prog w) A (execs [a, b, c, d, e] env) (RestAt prog w A env ys Q E) E s) : wpAny (model prog w) A (execs (a :: b :: c :: d :: e :: ys) env) Q E s := exec_split (xs := [a, b, c, d, e]) h
theorem exec_split2 {a b : Stmt} {ys : List Stmt} (h : wpAny (model prog w) A (execs [a, b] env) (RestAt prog w A env ys Q E) E s) : wpAny (model prog w) A (execs (a :: b :: ys) env) Q E s := exec_split (xs := [a, b]) h
theorem exec_split6 {a b c d e f : Stmt} {ys : List Stmt} (h : wpAny (model prog w) A (execs [a, b, c, d, e, f] env) (RestAt prog w A env ys Q E) E s) : wpAny (model prog w) A (execs (a :: b :: c :: d :: e :: f :: ys) env) Q E s := exec_split (xs := [a, b, c, d, e, f]) h
theorem exec_split1 {a : Stmt} {ys : List Stmt} (h : wpAny (model prog w) A (execs [a] env) (RestAt prog w A env ys Q E) E s) : wpAny (model prog w) A (execs (a :: ys) env) Q E s := exec_split (xs := [a]) h
theorem exec_split3 {a b c : Stmt} {ys : List Stmt} (h : wpAny (model prog w) A (execs [a, b, c] env) (RestAt prog w A env ys Q E) E s) : wpAny (model prog w) A (execs (a :: b :: c :: ys) env) Q E s := exec_split (xs := [a, b, c]) h
theorem exec_split4 {a b c d : Stmt} {ys : List Stmt} (h : wpAny (model prog w) A (execs [a, b, c, d] env) (RestAt prog w A env ys Q E) E s) : wpAny (model prog w) A (execs (a :: b :: c :: d :: ys) env) Q E s := exec_split (xs := [a, b, c, d]) h
end
/-- what the law starts with, once it has reckoned its five numbers -/
structure Start (dep index give base h4 : Int) (e : Str) : Prop where
  a : (dep = 3 ∧ 8 ≤ index ∧ index ≤ 15 ∧ (give = 1 ∨ give = 2)) ∨ (dep = 4 ∧ 16 ≤ index ∧ index ≤ 31 ∧ give = 1)
  b : 0 ≤ base ∧ base ≤ 11
  c : 0 ≤ h4 ∧ h4 ≤ 100000000
  d : e = Str.ofString "\n" ∨ e = Str.ofString "\r" ∨ e = Str.ofString "\r\n"
theorem start_a {x y g : Int} (h0 : 0 ≤ x) (h1 : x < 2) (hg : g = 1 ∨ (g = 2 ∧ 3 + x = 3)) :
    (3 + x = 3 ∧ 8 ≤ 2 ^ (3 + x).toNat + y.fmod (2 ^ (3 + x).toNat) ∧ 2 ^ (3 + x).toNat + y.fmod (2 ^ (3 + x).toNat) ≤ 15 ∧ (g = 1 ∨ g = 2)) ∨
    (3 + x = 4 ∧ 16 ≤ 2 ^ (3 + x).toNat + y.fmod (2 ^ (3 + x).toNat) ∧ 2 ^ (3 + x).toNat + y.fmod (2 ^ (3 + x).toNat) ≤ 31 ∧ g = 1) := by
  have hx : x = 0 ∨ x = 1 := by omega
  rcases hx with rfl | rfl
  · have e : ((2 : Int) ^ ((3 : Int) + 0).toNat) = 8 := by decide
    rw [e]
    have h2 := Int.fmod_nonneg_of_pos y (show (0 : Int) < 8 by decide)
    have h3 := Int.fmod_lt_of_pos y (show (0 : Int) < 8 by decide)
    left
    refine ⟨by omega, by omega, by omega, ?_⟩
    rcases hg with h | h
    · exact .inl h
    · exact .inr h.1
  · have e : ((2 : Int) ^ ((3 : Int) + 1).toNat) = 16 := by decide
    rw [e]
    have h2 := Int.fmod_nonneg_of_pos y (show (0 : Int) < 16 by decide)
    have h3 := Int.fmod_lt_of_pos y (show (0 : Int) < 16 by decide)
    right
    refine ⟨by omega, by omega, by omega, ?_⟩
    rcases hg with h | h
    · exact h
    · omega
theorem base_b (y : Int) : 0 ≤ y.fmod 12 ∧ y.fmod 12 ≤ 11 := by
  have h2 := Int.fmod_nonneg_of_pos y (show (0 : Int) < 12 by decide)
  have h3 := Int.fmod_lt_of_pos y (show (0 : Int) < 12 by decide)
  omega
/-- where the law stands in its own frame -/
noncomputable abbrev lawCells (L : Addr) : List (Str × Addr) := [("end", L + 1 + 1 + 1 + 1), ("base", L + 1 + 1 + 1), ("index", L + 1 + 1), ("script", L + 1)]
/-- a call at which the walk stops -/
noncomputable def CallAt (prog : Program) (w : World) (A : Around) (f : Value) (args : List Value) (Q : Value → Shared → Prop) (E : Value → Shared → Prop) (s : Shared) : Prop := wpAny (model prog w) A (call f args) Q E s
theorem CallAt.intro {prog : Program} {w : World} {A : Around} {f : Value} {args : List Value} {Q : Value → Shared → Prop} {E : Value → Shared → Prop} {s : Shared} (h : CallAt prog w A f args Q E s) : wpAny (model prog w) A (call f args) Q E s := h
noncomputable def sendsBody : List Stmt := match lawBody.getD 13 (.Pass ⟨0, 0, 0, 0⟩) with | .For _ _ b _ _ => b | _ => []
theorem ldnX {M : Model} {A : Around} {E : Value → Shared → Prop} {s : Shared} {env : Env} {h₀ : Heap} {m : Str → Option Value} {x : Str} {v : Value} {Q : Value → Shared → Prop} (F : Fr h₀ env.locals s.heap m) (hv : m x = some v) (h : Q v s)
    (hk : env.scope.kind = .function) (hl : env.kindOf x = some .local) : wpAny M A (loadName env x) Q E s := wpAny_loadName_local hk hl F.ns hv h
end

section
open PySem PySem.W PySem.Spec PyProof.Rows
theorem rest_ULawP {prog : PySem.Program} {w : PySem.World} {A : PySem.Around} {env : PySem.Env} {Q : PySem.Flow → PySem.Shared → Prop} {E : PySem.Value → PySem.Shared → Prop} {s : PySem.Shared} (h : PySem.wpAny (PySem.model prog w) A (PySem.execs [] env) Q E s) : PySem.wpAny (PySem.model prog w) A (PySem.execs [] env) Q E s := by
  w_top off
  k_with_none
  first | (walk1; fail) | exact h
set_option maxRecDepth 100000
set_option maxHeartbeats 0
set_option pp.deepTerms false
/-- dots, then letters -/
noncomputable def dotsA (o u : Int) : Str := Txt.mul (Str.ofString ".") o ++ Txt.mul (Str.ofString "a") u
noncomputable def quoteOf (g : Int) : Str := Str.ofString "\"" ++ Txt.mul (Str.ofString ".") g ++ Txt.mul (Str.ofString "a") g ++ Str.ofString "\""
structure PlSt where
  o : Int
  u : Int
  pb : List Str
  f : Str
/-- what the place loop holds after so many turns -/
noncomputable def placeSt (g : Int) : Nat → PlSt
  | 0 => ⟨0, g, [], Str.ofString ""⟩
  | i + 1 =>
    let p := placeSt g i
    let tok := if i = 0 then (tokQ (Str.ofString "") (signs (quoteOf g)).tail).1 else p.pb.headD (Str.ofString "")
    if i < 15 then
      let o' := p.u
      let u' := stopF p.u [p.o, p.o + p.u] - p.o - 2 * p.u
      ⟨o', u', p.pb.tail ++ [dotsA o' (o' + u'), dotsA (o' + u') u'], tok⟩
    else ⟨p.o, p.u, p.pb.tail, tok⟩
/-- what must hold before turn i (and is decided) -/
noncomputable def placeOk (g : Int) (i : Nat) : Bool :=
  let p := placeSt g i
  let q := placeSt g (i + 1)
  (i == 0 || !p.pb.isEmpty) && decide (p.pb.length ≤ 100) && (15 ≤ i || (decide (0 < p.u ∧ p.u < 500 ∧ 0 ≤ p.o ∧ p.o < 500) && decide (q.f = dotsA q.o q.u) && decide (0 ≤ q.u ∧ q.u < 500)))
structure PlAt (g : Int) (i : Nat) (o u : Int) (pb : List Str) (f : Str) : Prop where
  eq : placeSt g i = ⟨o, u, pb, f⟩
theorem places_ok1 : ∀ i < 31, placeOk 1 i = true := by decide +kernel
theorem places_ok2 : ∀ i < 15, placeOk 2 i = true := by decide +kernel
end

section
open PySem PySem.W PySem.Spec PyProof.Rows
theorem rest_ULine {prog : PySem.Program} {w : PySem.World} {A : PySem.Around} {env : PySem.Env} {Q : PySem.Flow → PySem.Shared → Prop} {E : PySem.Value → PySem.Shared → Prop} {s : PySem.Shared} (h : PySem.wpAny (PySem.model prog w) A (PySem.execs [] env) Q E s) : PySem.wpAny (PySem.model prog w) A (PySem.execs [] env) Q E s := by
  w_top off
  k_with_none
  first | (walk1; fail) | exact h
set_option maxRecDepth 100000
set_option maxHeartbeats 0
set_option pp.deepTerms false
noncomputable def tokOf (g : Int) (i : Nat) (pb : List Str) : Str := if i = 0 then (tokQ (Str.ofString "") (signs (quoteOf g)).tail).1 else pb.headD (Str.ofString "")
theorem quote_signs {g : Int} (h : g = 1 ∨ g = 2) : signs (quoteOf g) = Str.ofString "\"" :: (signs (quoteOf g)).tail := by
  rcases h with rfl | rfl <;> decide +kernel
theorem quote_quoted {g : Int} (h : g = 1 ∨ g = 2) : Quoted (signs (quoteOf g)).tail := by
  rcases h with rfl | rfl
  · exact ⟨[Str.ofString ".", Str.ofString "a"], by decide +kernel, by decide +kernel⟩
  · exact ⟨[Str.ofString ".", Str.ofString ".", Str.ofString "a", Str.ofString "a"], by decide +kernel, by decide +kernel⟩
theorem quote_len {g : Int} (h : g = 1 ∨ g = 2) : (signs (quoteOf g)).length ≤ 1000 := by
  rcases h with rfl | rfl <;> decide +kernel
/-- how l lies apart from the rest of a lexer's ledger -/
structure LineOrd (R D cel cR I dI dS S l : Addr) (news : List (Addr × Obj)) : Prop where
  a : ∀ {o : Obj}, CharOrd R D cel cR I dI dS S ((l, o) :: news)
  b : l ≠ R ∧ l ≠ D ∧ l ≠ cel ∧ l ≠ cR ∧ l ≠ I ∧ l ≠ dI ∧ l ≠ dS ∧ l ≠ S
  c : OwnOff news [l]
theorem core_pop {h₀ h : Heap} {L : Addr} {l r1 r2 r3 r4 r5 r6 r7 r8 : Addr × Obj} {rest : List (Addr × Obj)} (N : News h₀ L h (r1 :: r2 :: r3 :: r4 :: r5 :: r6 :: r7 :: r8 :: l :: rest)) : News h₀ L h (l :: r5 :: r6 :: r1 :: r2 :: r3 :: r4 :: r7 :: r8 :: rest) := by
  repeat refine List.forall_mem_cons.mpr ⟨N _ (by repeat (first | exact List.Mem.head _ | refine List.Mem.tail _ ?_)), ?_⟩
  exact fun p hp => N p (by repeat (first | exact hp | refine List.Mem.tail _ ?_))
theorem core_unpop {h₀ h : Heap} {L : Addr} {l r1 r2 r3 r4 r5 r6 r7 r8 : Addr × Obj} {rest : List (Addr × Obj)} (N : News h₀ L h (l :: r5 :: r6 :: r1 :: r2 :: r3 :: r4 :: r7 :: r8 :: rest)) : News h₀ L h (r1 :: r2 :: r3 :: r4 :: r5 :: r6 :: r7 :: r8 :: l :: rest) := by
  repeat refine List.forall_mem_cons.mpr ⟨N _ (by repeat (first | exact List.Mem.head _ | refine List.Mem.tail _ ?_)), ?_⟩
  exact fun p hp => N p (by repeat (first | exact hp | refine List.Mem.tail _ ?_))
theorem LineOrd.push {R D cel cR I dI dS S l : Addr} {news : List (Addr × Obj)} {o1 o2 o3 o4 o5 o6 : Obj} (h : LineOrd R D cel cR I dI dS S l news) : PushOrd I dI l ((R, o1) :: (D, o2) :: (cel, o3) :: (cR, o4) :: (dS, o5) :: (S, o6) :: news) := by
  obtain ⟨_, ⟨b1, b2, b3, b4, b5, b6, b7, b8⟩, c⟩ := h
  refine ⟨⟨b5, b6⟩, ?_⟩
  intro p hp b hb
  simp only [List.mem_singleton] at hb
  subst hb
  simp only [List.mem_cons] at hp
  rcases hp with rfl | rfl | rfl | rfl | rfl | rfl | hp
  · exact b1.symm
  · exact b2.symm
  · exact b3.symm
  · exact b4.symm
  · exact b7.symm
  · exact b8.symm
  · exact c p hp _ (by simp)
section
variable {w : World} {p : Program} {loose : List Str} {mean : ExcName → Option Value} {mg mb : Str → Option Value}
theorem line_claim (g : Int) (i : Nat) (pb : List Str) (pbv vs : List Value) {ln : Int} {R D cel cR I dI dS S l cS : Addr} {q1 q2 : Str} {pm1 pm2 ct1 ct2 : Value} {ocell ocR : Obj} {n np : Nat} {k0 k1 k2 k3 k4 k5 k6 : Tok} (news : List (Addr × Obj)) :
    Claim PySem.Challenge.rw_uc0020_01.row.prog w (hd.heap_39 w.params) p loose mean mg mb 80 200 (call (.ref 140) [.ref I])
      (coreL w ln vs n R D I dI dS S l q1 q2 cel pm1 pm2 cR cS ct1 ct2 ocell ocR k0 k1 k2 k3 k4 k5 k6 ((l, W.listOf pbv.toArray np) :: news))
      (StrsAre pbv pb ∧ (i = 0 → pb = [] ∧ StrsAre vs (signs (quoteOf g))) ∧ (i ≠ 0 → pb ≠ [] ∧ pb.length ≤ 1000) ∧ (g = 1 ∨ g = 2) ∧ IsCellOf ocell D ∧ LamCode q1 ocR ∧ LineOrd R D cel cR I dI dS S l news)
      (fun h₀ L m s Q => ∀ {vs' pbv' : List Value} {n' np' : Nat} {ln' : Int} {t : Tok} {h' : Heap} {tk : Nat} {k0 k1 k2 k3 k4 k5 : Tok}, Fr h₀ L h' m →
        News h₀ L h' (coreL w ln' vs' n' R D I dI dS S l q1 q2 cel pm1 pm2 cR cS ct1 ct2 ocell ocR k0 k1 k2 k3 k4 k5 k6 ((l, W.listOf pbv'.toArray np') :: news)) → StrsAre pbv' pb.tail → Q (.str (tokOf g i pb) t) { s with heap := h', toks := tk }) := by
  dsimp only [Claim]
  intro dp un gd cn cs a ccd cl outer A₀ base h₀ L m s Q E B F X N T hk hpre hd hu hret
  obtain ⟨hpb, h0, h1, hg, hcell, hcode, hord⟩ := hpre
  by_cases hi : i = 0
  · obtain ⟨rfl, hsv⟩ := h0 hi
    cases hpb
    rw [quote_signs hg] at hsv
    have hl : vs.length ≤ 1000 := by
      rw [strsAre_len hsv, ← quote_signs hg]
      exact quote_len hg
    refine tokq_claim (w := w) (p := p) (loose := loose) (mean := mean) (mg := mg) (mb := mb) ln _ vs news dp un gd cn cs a ccd cl outer A₀ base h₀ L m s Q E B F X N T hk ⟨hsv, hl, hcell, hcode, quote_quoted hg, hord.a⟩ hd hu ?_
    intro vs' n' t h' tk k0 k1 k2 k3 k4 k5 F' N' _
    have := hret (pbv' := []) (t := t) (tk := tk) F' N' .nil
    unfold tokOf at this
    rw [if_pos hi] at this
    exact this
  · obtain ⟨hne, hlen⟩ := h1 hi
    cases hpb with
    | nil => exact absurd rfl hne
    | cons x tx hr =>
      rename_i pbv pb
      have hl := strsAre_len hr
      simp only [List.length_cons] at hlen
      refine pop_claim (w := w) (p := p) (loose := loose) (mean := mean) (mg := mg) (mb := mb) (.str x tx) pbv _ dp un gd cn cs a ccd cl outer A₀ base h₀ L m s Q E B F X (core_pop N) T hk ⟨by omega, hord.push⟩ (by omega) (by omega) ?_
      intro h' tk F' N'
      have := hret (t := tx) (tk := tk) F' (core_unpop N') hr
      unfold tokOf at this
      rw [if_neg hi] at this
      exact this
end
theorem lex_line {l I dI dS R cR S cS D cel : Addr} {rest own : List (Addr × Obj)} {o1 o2 : Obj} (h : LexOrd l I dI dS R cR S cS D cel rest) (hown : ∀ p ∈ own, p.1 ≠ D ∧ p.1 ≠ dI ∧ p.1 ≠ l) : LineOrd R D cel cR I dI dS S l ((cS, o1) :: (187, o2) :: (rest ++ own)) := by
  obtain ⟨⟨a1, a2, a3, a4, a5, a6, a7, a8, a9, a10, a11⟩, b, ⟨c1, c2, c3, c4, c5, c6, c7, c8, c9, c10⟩⟩ := h
  have r1 : ∀ p ∈ rest, @LT.lt Nat _ p.1 cel := allLt_to b
  have key : ∀ p ∈ (cS, o1) :: ((187 : Addr), o2) :: (rest ++ own), p.1 ≠ D ∧ p.1 ≠ dI ∧ p.1 ≠ l := by
    intro p hp
    rcases List.mem_cons.mp hp with rfl | hp
    · exact ⟨Nat.ne_of_gt (by omega), Nat.ne_of_lt (by dsimp only; omega), Nat.ne_of_lt (by dsimp only; omega)⟩
    · rcases List.mem_cons.mp hp with rfl | hp
      · exact ⟨Nat.ne_of_lt (by dsimp only; omega), Nat.ne_of_lt (by dsimp only; omega), Nat.ne_of_lt (by dsimp only; omega)⟩
      · rcases List.mem_append.mp hp with hp | hp
        · have h1 := r1 p hp
          exact ⟨Nat.ne_of_lt (by omega), Nat.ne_of_lt (by omega), Nat.ne_of_lt (by omega)⟩
        · exact hown p hp
  refine ⟨?_, ⟨Nat.ne_of_gt a4, Nat.ne_of_gt a8, Nat.ne_of_gt a9, Nat.ne_of_gt a5, Nat.ne_of_gt a1, Nat.ne_of_gt a2, Nat.ne_of_gt a3, Nat.ne_of_gt a6⟩, ?_⟩
  · intro o
    refine ⟨⟨Nat.ne_of_lt (by omega), Nat.ne_of_gt c2, Nat.ne_of_lt (by omega), Nat.ne_of_lt (by omega), Nat.ne_of_lt (by omega), Nat.ne_of_lt (by omega), Nat.ne_of_lt (by omega)⟩, ⟨Nat.ne_of_gt (by omega), Nat.ne_of_gt (by omega), Nat.ne_of_gt (by omega), Ne.symm c10, Nat.ne_of_gt (by omega), Nat.ne_of_gt (by omega)⟩, ?_⟩
    intro p hp x hx
    simp only [List.mem_cons, List.not_mem_nil, or_false] at hx
    rcases List.mem_cons.mp hp with rfl | hp
    · rcases hx with rfl | rfl
      · exact Nat.ne_of_gt a8
      · exact Nat.ne_of_gt a2
    · rcases hx with rfl | rfl
      · exact (key p hp).1
      · exact (key p hp).2.1
  · intro p hp x hx
    simp only [List.mem_singleton] at hx
    subst hx
    exact (key p hp).2.2
end

section
open PySem PySem.W PySem.Spec PyProof.Rows
theorem rest_URange {prog : PySem.Program} {w : PySem.World} {A : PySem.Around} {env : PySem.Env} {Q : PySem.Flow → PySem.Shared → Prop} {E : PySem.Value → PySem.Shared → Prop} {s : PySem.Shared} (h : PySem.wpAny (PySem.model prog w) A (PySem.execs [] env) Q E s) : PySem.wpAny (PySem.model prog w) A (PySem.execs [] env) Q E s := by
  w_top off
  k_with_none
  first | (walk1; fail) | exact h
set_option maxRecDepth 100000
set_option maxHeartbeats 0
section
variable {prog : Program} {w : World} {A : Around} {E : Value → Shared → Prop} {s : Shared} {env : Env} {h₀ : Heap} {Q : Flow → Shared → Prop}
theorem range_gen {x : Str} {px : Pos} {body els : List Stmt} {r : Addr} {a₀ b₀ : Int} {t₀ u₀ v₀ : Tok} {n : Nat} {m₀ : Str → Option Value} {news : List (Addr × Obj)} (J : Nat → (Str → Option Value) → List (Addr × Obj) → Prop)
    (hx : env.kindOf x = some .local) (hp : (env.scope.kind == .class || (env.scope.kind == .module && env.locals != env.globals)) = false) (hE : PassesOwn (model prog w) A env E)
    (hh : A.handled = none) (hr : IsRange s.heap r a₀ b₀ 1 t₀ u₀ v₀) (hsmall : Builtin.Range.small a₀ b₀ 1 = true) (hn : Builtin.Range.rangeSize a₀ b₀ 1 = (n : Int))
    (F : Fr h₀ env.locals s.heap m₀) (N : News h₀ env.locals s.heap news) (h0 : J 0 m₀ news)
    (turn : ∀ (i : Nat) t m₁ nx h tk own, i < n → OwnOff own (nx.map (·.1)) → J i m₁ nx → Fr h₀ env.locals h (fun y => if y = x then some (.int (a₀ + (i : Int)) t) else m₁ y) → News h₀ env.locals h (nx ++ own) →
      wpAny (model prog w) A (execs body env) (InvPG h₀ env.locals (J (i + 1)) own { s with heap := h, toks := tk } Q) E { s with heap := h, toks := tk })
    (done : ∀ m₁ nx h tk, J n m₁ nx → Fr h₀ env.locals h m₁ → News h₀ env.locals h nx → wpAny (model prog w) A (execs els env) Q E { s with heap := h, toks := tk }) :
    wpAny (model prog w) A (pyIter (.ref r)) (fun it s₂ => codeAny (model prog w) A (.forLoop (.Name x px) it body els env) (fun r s' => match r with | .ok f => Q f s' | .error e => cameBackBy (model prog w) A env E e s') s₂) E s := by
  refine wpAny_pyIter_range hr hsmall ?_
  have W : Walks prog w A s.heap.objs.size [s.heap.objs.size] [s.heap.objs.size] n (fun i v => i < n ∧ ∃ t, v = .int (a₀ + i * 1) t)
      (fun i h => IsRangeIter h s.heap.objs.size (a₀ + (i : Nat) * 1) ((n : Int) - (i : Nat)) 1) := (Walks.range hh _ a₀ 1 n).bound
  refine loop_gen J W hx hp ?_ ?_ ?_ ?_ (by show IsRangeIter _ _ _ _ _; rw [hn]; simpa using Heap.get?_push_size _ rfl) (F.push _)
    (fun p hp => ⟨Heap.get?_push_of_some _ (N p hp).1, (N p hp).2⟩) h0 ?_ (fun m₁ nx h tk hJ F N => done m₁ nx h tk hJ F N) hE
  · intro hm
    exact absurd F.ns.lt ((List.mem_singleton.mp hm) ▸ Nat.lt_irrefl _)
  · intro b hb
    rw [List.mem_singleton.mp hb]
    exact next_is_new F
  · intro p hp hI
    exact absurd (Heap.lt_size (N p hp).1) ((List.mem_singleton.mp hI) ▸ Nat.lt_irrefl _)
  · intro b hb i h hst hno
    rw [List.mem_singleton.mp hb] at hno
    have e : h.get? s.heap.objs.size = some _ := hst
    rw [hno] at e
    cases e
  · rintro i v m₁ nx h tk own hi ⟨_, t, rfl⟩ hoff hJ F₁ N₁
    have e1 : a₀ + (i : Int) * 1 = a₀ + (i : Int) := by omega
    rw [e1] at F₁
    exact turn i t m₁ nx h tk own hi hoff hJ F₁ N₁
/-- a for loop whose source has been reckoned -/
noncomputable def LoopAt (prog : Program) (w : World) (A : Around) (E : Value → Shared → Prop) (env : Env) (v : Str) (px : Pos) (body : List Stmt) (Q : Flow → Shared → Prop) (xv : Value) (s : Shared) : Prop :=
  wpAny (model prog w) A (pyIter xv) (fun it s₂ => codeAny (model prog w) A (.forLoop (.Name v px) it body [] env) (fun r s' => match r with | .ok f => Q f s' | .error e => cameBackBy (model prog w) A env E e s') s₂) E s
theorem for_any {v : Str} {px pos : Pos} {iter : PySem.Expr} {body : List Stmt}
    (h : wpAny (model prog w) A (eval iter env) (LoopAt prog w A E env v px body Q) E s) (hs : ∀ x, foldedSetIterable iter env x = pure x := by intro _; rfl) :
    wpAny (model prog w) A (exec (.For (.Name v px) iter body [] pos) env) Q E s :=
  wpAny_For (wpAny_mono h (fun _ _ h₁ => h₁) fun _ _ z => z) hs
theorem range_at {x : Str} {px : Pos} {body : List Stmt} {r : Addr} {a₀ b₀ : Int} {t₀ u₀ v₀ : Tok} {m₀ : Str → Option Value} {news : List (Addr × Obj)} (n : Nat) (J : Nat → (Str → Option Value) → List (Addr × Obj) → Prop)
    (hr : IsRange s.heap r a₀ b₀ 1 t₀ u₀ v₀) (hsmall : Builtin.Range.small a₀ b₀ 1 = true) (hn : Builtin.Range.rangeSize a₀ b₀ 1 = (n : Int))
    (F : Fr h₀ env.locals s.heap m₀) (N : News h₀ env.locals s.heap news) (h0 : J 0 m₀ news)
    (hx : env.kindOf x = some .local) (hp : (env.scope.kind == .class || (env.scope.kind == .module && env.locals != env.globals)) = false) (hE : PassesOwn (model prog w) A env E)
    (hh : A.handled = none)
    (turn : ∀ (i : Nat) t m₁ nx h tk own, i < n → OwnOff own (nx.map (·.1)) → J i m₁ nx → Fr h₀ env.locals h (fun y => if y = x then some (.int (a₀ + (i : Int)) t) else m₁ y) → News h₀ env.locals h (nx ++ own) →
      wpAny (model prog w) A (execs body env) (InvPG h₀ env.locals (J (i + 1)) own { s with heap := h, toks := tk } Q) E { s with heap := h, toks := tk })
    (done : ∀ m₁ nx h tk, J n m₁ nx → Fr h₀ env.locals h m₁ → News h₀ env.locals h nx → Q .next { s with heap := h, toks := tk }) :
    LoopAt prog w A E env x px body Q (.ref r) s :=
  range_gen J hx hp hE hh hr hsmall hn F N h0 turn fun m₁ nx h tk hJ F N => wpAny_execs_nil (done m₁ nx h tk hJ F N)
/-- a while loop at which the walk stops -/
noncomputable def WhileAt (prog : Program) (w : World) (A : Around) (E : Value → Shared → Prop) (env : Env) (test : PySem.Expr) (body : List Stmt) (Q : Flow → Shared → Prop) (s : Shared) : Prop :=
  codeAny (model prog w) A (.whileLoop test body [] env) (fun r s' => match r with | .ok f => Q f s' | .error e => cameBackBy (model prog w) A env E e s') s
theorem while_any {test : PySem.Expr} {body : List Stmt} {pos : Pos} (h : WhileAt prog w A E env test body Q s) : wpAny (model prog w) A (exec (.While test body [] pos) env) Q E s := wpAny_While h
/-- what a turn of a while loop leaves -/
noncomputable def WTurn (I : Nat → Shared → Prop) (n : Nat) (Q : Flow → Shared → Prop) (f : Flow) (s₃ : Shared) : Prop := match f with
  | .next => ∃ k, k < n ∧ I k s₃
  | .cont => ∃ k, k < n ∧ I k s₃
  | .brk => Q .next s₃
  | .ret z => Q (.ret z) s₃
noncomputable def TestPost (prog : Program) (w : World) (A : Around) (E : Value → Shared → Prop) (env : Env) (body : List Stmt) (I : Nat → Shared → Prop) (n : Nat) (Q : Flow → Shared → Prop) (b : Bool) (s₂ : Shared) : Prop :=
  if b = true then wpAny (model prog w) A (execs body env) (WTurn I n Q) E s₂ else Q .next s₂
theorem while_at {test : PySem.Expr} {body : List Stmt} (I : Nat → Shared → Prop) (n : Nat) (h : I n s) (hE : PassesOwn (model prog w) A env E)
    (turn : ∀ n s', I n s' → wpAny (model prog w) A (isTrue test env (eval test env)) (TestPost prog w A E env body I n Q) E s') :
    WhileAt prog w A E env test body Q s := by
  refine codeAny_whileLoop I ?_ n h
  intro n s' hI
  refine wpAny_passesOwn hE (wpAny_mono (turn n s' hI) (fun b s₂ h₂ => ?_) fun _ _ z => z)
  unfold TestPost at h₂
  cases b with
  | false =>
    rw [if_neg Bool.false_ne_true] at h₂ ⊢
    exact wpAny_execs_nil h₂
  | true =>
    rw [if_pos rfl] at h₂ ⊢
    refine wpAny_passesOwn hE (wpAny_mono h₂ (fun f s₃ h₃ => ?_) fun _ _ z => z)
    cases f <;> exact h₃
end
end

section
open PySem PySem.W PySem.Spec PyProof.Rows
theorem rest_UList {prog : PySem.Program} {w : PySem.World} {A : PySem.Around} {env : PySem.Env} {Q : PySem.Flow → PySem.Shared → Prop} {E : PySem.Value → PySem.Shared → Prop} {s : PySem.Shared} (h : PySem.wpAny (PySem.model prog w) A (PySem.execs [] env) Q E s) : PySem.wpAny (PySem.model prog w) A (PySem.execs [] env) Q E s := by
  w_top off
  k_with_none
  first | (walk1; fail) | exact h
set_option maxRecDepth 100000
set_option maxHeartbeats 0
section
variable {prog : Program} {w : World} {A : Around} {E : Value → Shared → Prop} {s : Shared} {env : Env} {h₀ : Heap} {Q : Flow → Shared → Prop}
theorem list_at {x : Str} {px : Pos} {body : List Stmt} {l : Addr} {items : Array Value} {m₀ : Str → Option Value} {news : List (Addr × Obj)} (J : Nat → (Str → Option Value) → List (Addr × Obj) → Prop)
    (hl : s.heap.IsList l items) (hl0 : h₀.get? l = none) (hlL : env.locals ≠ l) (hln : ∀ p ∈ news, p.1 ≠ l)
    (F : Fr h₀ env.locals s.heap m₀) (N : News h₀ env.locals s.heap news) (h0 : J 0 m₀ news)
    (hx : env.kindOf x = some .local) (hp : (env.scope.kind == .class || (env.scope.kind == .module && env.locals != env.globals)) = false) (hE : PassesOwn (model prog w) A env E)
    (hh : A.handled = none)
    (turn : ∀ (i : Nat) v m₁ nx h tk own, items[i]? = some v → OwnOff own (nx.map (·.1)) → J i m₁ nx → Fr h₀ env.locals h (fun y => if y = x then some v else m₁ y) → News h₀ env.locals h (nx ++ own) →
      wpAny (model prog w) A (execs body env) (InvPG h₀ env.locals (J (i + 1)) own { s with heap := h, toks := tk } Q) E { s with heap := h, toks := tk })
    (done : ∀ m₁ nx h tk, J items.size m₁ nx → Fr h₀ env.locals h m₁ → News h₀ env.locals h nx → Q .next { s with heap := h, toks := tk }) :
    LoopAt prog w A E env x px body Q (.ref l) s := by
  obtain ⟨ol, hol, hol'⟩ := id hl
  have hlt : l < s.heap.objs.size := Heap.lt_size hol
  refine wpAny_pyIter_list hl ?_
  have W := Walks.list (prog := prog) (w := w) (A := A) hh s.heap.objs.size l (Nat.ne_of_lt hlt) items
  refine loop_gen J W hx hp ?_ ?_ ?_ ?_ ⟨⟨_, Heap.get?_push_size _ rfl, rfl, rfl⟩, hl.push _⟩ (F.push _) (fun p hp => ⟨Heap.get?_push_of_some _ (N p hp).1, (N p hp).2⟩) h0
    (fun i v m₁ nx h tk own _ hv hoff hJ F N => turn i v m₁ nx h tk own hv hoff hJ F N) (fun m₁ nx h tk hJ F N => wpAny_execs_nil (done m₁ nx h tk hJ F N)) hE
  · intro hm
    rcases List.mem_cons.mp hm with e | hm
    · exact absurd F.ns.lt (e ▸ Nat.lt_irrefl _)
    · exact hlL (List.mem_singleton.mp hm)
  · intro b hb
    rw [List.mem_singleton.mp hb]
    exact next_is_new F
  · intro p hp hI
    rcases List.mem_cons.mp hI with e | hI
    · have := Heap.lt_size (N p hp).1
      rw [e] at this
      exact Nat.lt_irrefl _ this
    · exact hln p hp (List.mem_singleton.mp hI)
  · intro b hb i h hst hno
    rcases List.mem_cons.mp hb with rfl | hb
    · obtain ⟨o, ho, _⟩ := hst.1
      rw [hno] at ho; cases ho
    · rw [List.mem_singleton.mp hb] at hno
      obtain ⟨o, ho, _⟩ := hst.2
      rw [hno] at ho; cases ho
/-- a for loop over a list that stands in the ledger and stays there -/
theorem led_at {x : Str} {px : Pos} {body : List Stmt} {l : Addr} {items : Array Value} {nl : Nat} {m₀ : Str → Option Value} {news : List (Addr × Obj)} (J : Nat → (Str → Option Value) → List (Addr × Obj) → Prop)
    (hJl : ∀ i m nx, J i m nx → (l, W.listOf items nl) ∈ nx)
    (F : Fr h₀ env.locals s.heap m₀) (N : News h₀ env.locals s.heap news) (h0 : J 0 m₀ news)
    (hx : env.kindOf x = some .local) (hp : (env.scope.kind == .class || (env.scope.kind == .module && env.locals != env.globals)) = false) (hE : PassesOwn (model prog w) A env E)
    (hh : A.handled = none)
    (turn : ∀ (i : Nat) v m₁ nx h tk own, items[i]? = some v → OwnOff own (nx.map (·.1)) → J i m₁ nx → Fr h₀ env.locals h (fun y => if y = x then some v else m₁ y) → News h₀ env.locals h (nx ++ own) →
      wpAny (model prog w) A (execs body env) (InvPG h₀ env.locals (J (i + 1)) own { s with heap := h, toks := tk } Q) E { s with heap := h, toks := tk })
    (done : ∀ m₁ nx h tk, J items.size m₁ nx → Fr h₀ env.locals h m₁ → News h₀ env.locals h nx → Q .next { s with heap := h, toks := tk }) :
    LoopAt prog w A E env x px body Q (.ref l) s := by
  have hml := hJl _ _ _ h0
  have hl : s.heap.IsList l items := ⟨_, (N _ hml).1, rfl, nl, rfl⟩
  refine wpAny_pyIter_list hl ?_
  generalize hI : s.heap.objs.size = I
  have hIL : env.locals ≠ I := hI ▸ Nat.ne_of_lt F.ns.lt
  have hI0 : h₀.get? I = none := hI ▸ next_is_new F
  have key : ∀ s' : Shared, s' = { s with heap := s.heap.push { cls := .type "list_iterator", data := .fields #[.ref l, .int 0 0] } } →
      codeAny (model prog w) A (.forLoop (.Name x px) (.ref I) body [] env) (fun r s' => match r with | .ok f => Q f s' | .error e => cameBackBy (model prog w) A env E e s') s' := by
    rintro s' rfl
    refine codeAny_forLoop
      (fun k s' => ∃ h' tk m' nx i oI, s' = { s with heap := h', toks := tk } ∧ h'.get? I = some oI ∧ (∀ h : Heap, h.get? I = some oI → h.IsListIter I l i) ∧ Fr h₀ env.locals h' m' ∧ News h₀ env.locals h' nx ∧ (∀ p ∈ nx, p.1 ≠ I) ∧ J i m' nx ∧ i ≤ items.size ∧ k = items.size + 1 - i) ?_ (items.size + 1)
      ⟨_, s.toks, m₀, news, 0, _, rfl, hI ▸ Heap.get?_push_size _ rfl, fun h e => ⟨_, e, rfl, rfl⟩, F.push _, fun p hp => ⟨Heap.get?_push_of_some _ (N p hp).1, (N p hp).2⟩, fun p hp => hI ▸ Nat.ne_of_lt (Heap.lt_size (N p hp).1), h0, Nat.zero_le _, rfl⟩
    rintro k s' ⟨h', tk, m', nx, i, oI, rfl, heI, hoI, F', N', off, hJ, hi, rfl⟩
    have hl' : h'.IsList l items := ⟨_, (N' _ (hJl _ _ _ hJ)).1, rfl, nl, rfl⟩
    cases hv : items[i]? with
    | none =>
      have hin : i = items.size := Nat.le_antisymm hi (by simpa using hv)
      subst hin
      refine wpAny_pyNext_list_end hh (hoI _ heI) hl' hv fun h₁ he₁ => ?_
      have F₁ : Fr h₀ env.locals h₁ m' := ⟨F'.ns.extBut he₁ hIL, fun b o e => he₁ b o (fun q => by rw [q, hI0] at e; cases e) (F'.keep b o e), F'.above⟩
      have N₁ : News h₀ env.locals h₁ nx := fun p hp => ⟨he₁ _ _ (off p hp) (N' p hp).1, (N' p hp).2⟩
      exact wpAny_passesOwn hE (wpAny_execs_nil (done m' nx h₁ tk hJ F₁ N₁))
    | some v =>
      have hlt : i < items.size := (Array.getElem?_eq_some_iff.mp hv).1
      refine wpAny_pyNext_list_item (hoI _ heI) hl' hv fun h₁ hit₁ hs₁ => ?_
      have F₁ : Fr h₀ env.locals h₁ m' := F'.change hs₁ hIL.symm hI0
      have N₁ : News h₀ env.locals h₁ nx := fun p hp => ⟨hs₁.extBut _ _ (off p hp) (N' p hp).1, (N' p hp).2⟩
      refine wpAny_assign_Name (wpAny_storeName_local hx F₁.ns (fun h₂ hn₂ hs₂ => ?_) hp)
      have F₂ := F₁.set hn₂ hs₂
      obtain ⟨oJ, hoJ, hrJ⟩ := hit₁
      have hoJ2 : h₂.get? I = some oJ := hs₂.extBut I oJ hIL.symm hoJ
      have N₂ : News h₀ env.locals h₂ (nx ++ [(I, oJ)]) := fun p hp => by
        rcases List.mem_append.mp hp with hp | hp
        · exact N₁.set hs₂ p hp
        · rw [List.mem_singleton.mp hp]; exact ⟨hoJ2, hIL.symm, hI0⟩
      have oo : OwnOff [(I, oJ)] (nx.map (·.1)) := fun p hp b hb e => by
        obtain ⟨q, hq, e'⟩ := List.mem_map.mp hb
        rw [List.mem_singleton.mp hp] at e
        exact off q hq (by rw [e', ← e])
      refine wpAny_mono (wpAny_passesOwn hE (turn i v m' nx h₂ _ [(I, oJ)] hv oo hJ F₂ N₂)) (fun f s₃ h₃ => ?_) fun _ _ e => e
      have go : InvG h₀ env.locals (J (i + 1)) [(I, oJ)] { s with heap := h₂, toks := tk + 1 } s₃ →
          ∃ k, k < items.size + 1 - i ∧ ∃ h' tk m' nx i oI, s₃ = { s with heap := h', toks := tk } ∧ h'.get? I = some oI ∧ (∀ h : Heap, h.get? I = some oI → h.IsListIter I l i) ∧ Fr h₀ env.locals h' m' ∧ News h₀ env.locals h' nx ∧ (∀ p ∈ nx, p.1 ≠ I) ∧ J i m' nx ∧ i ≤ items.size ∧ k = items.size + 1 - i := by
        rintro ⟨h₄, tk₄, m₄, nx₄, rfl, F₄, N₄, ho₄, hJ₄⟩
        exact ⟨items.size + 1 - (i + 1), by omega, h₄, tk₄, m₄, nx₄, i + 1, oJ, rfl, (N₄ (I, oJ) (List.mem_append_right _ (.head _))).1, fun h e => ⟨oJ, e, hrJ⟩, F₄, fun p hp => N₄ p (List.mem_append_left _ hp), fun p hp e => ho₄ (I, oJ) (.head _) p.1 (List.mem_map_of_mem hp) e.symm, hJ₄, hlt, rfl⟩
      cases f with
      | ret v => exact h₃
      | brk => exact h₃
      | cont => exact go h₃
      | next => exact go h₃
  exact key _ rfl
/-- a for loop over the signs of a text -/
theorem text_at {x : Str} {px : Pos} {body : List Stmt} {xt : Str} {tx : Tok} {m₀ : Str → Option Value} {news : List (Addr × Obj)} (J : Nat → (Str → Option Value) → List (Addr × Obj) → Prop)
    (ha : xt.cps.all (· < 128) = true) (F : Fr h₀ env.locals s.heap m₀) (N : News h₀ env.locals s.heap news) (h0 : J 0 m₀ news)
    (hx : env.kindOf x = some .local) (hp : (env.scope.kind == .class || (env.scope.kind == .module && env.locals != env.globals)) = false) (hE : PassesOwn (model prog w) A env E)
    (hh : A.handled = none)
    (turn : ∀ (i k : Nat) t m₁ nx h tk own, xt.cps[i]? = some k → OwnOff own (nx.map (·.1)) → J i m₁ nx → Fr h₀ env.locals h (fun y => if y = x then some (.str ⟨#[k]⟩ t) else m₁ y) → News h₀ env.locals h (nx ++ own) →
      wpAny (model prog w) A (execs body env) (InvPG h₀ env.locals (J (i + 1)) own { s with heap := h, toks := tk } Q) E { s with heap := h, toks := tk })
    (done : ∀ m₁ nx h tk, J xt.cps.size m₁ nx → Fr h₀ env.locals h m₁ → News h₀ env.locals h nx → Q .next { s with heap := h, toks := tk }) :
    LoopAt prog w A E env x px body Q (.str xt tx) s := by
  refine wpAny_pyIter_ascii ha ?_
  have W := Walks.strAscii (prog := prog) (w := w) (A := A) hh s.heap.objs.size xt tx
  refine loop_gen J W hx hp ?_ ?_ ?_ ?_ ⟨_, Heap.get?_push_size _ rfl, rfl, rfl⟩ (F.push _) (fun p hp => ⟨Heap.get?_push_of_some _ (N p hp).1, (N p hp).2⟩) h0 ?_ (fun m₁ nx h tk hJ F N => wpAny_execs_nil (done m₁ nx h tk hJ F N)) hE
  · intro hm
    exact absurd F.ns.lt ((List.mem_singleton.mp hm) ▸ Nat.lt_irrefl _)
  · intro b hb
    rw [List.mem_singleton.mp hb]
    exact next_is_new F
  · intro p hp hI
    exact absurd (Heap.lt_size (N p hp).1) ((List.mem_singleton.mp hI) ▸ Nat.lt_irrefl _)
  · rintro b hb i h ⟨o, ho, _⟩ hn
    rw [List.mem_singleton.mp hb, ho] at hn
    cases hn
  · rintro i v m₁ nx h tk own hi ⟨k, t, hk, rfl⟩ hoff hJ F₁ N₁
    exact turn i k t m₁ nx h tk own hk hoff hJ F₁ N₁
end
end

section
open PySem PySem.W PySem.Spec PyProof.Rows
theorem rest_USteps {prog : PySem.Program} {w : PySem.World} {A : PySem.Around} {env : PySem.Env} {Q : PySem.Flow → PySem.Shared → Prop} {E : PySem.Value → PySem.Shared → Prop} {s : PySem.Shared} (h : PySem.wpAny (PySem.model prog w) A (PySem.execs [] env) Q E s) : PySem.wpAny (PySem.model prog w) A (PySem.execs [] env) Q E s := by
  w_top off
  k_with_none
  first | (walk1; fail) | exact h
set_option maxRecDepth 100000
set_option maxHeartbeats 0
set_option pp.deepTerms false
/-- the bits of a number, the highest first -/
noncomputable def bitsOf (idx : Int) (n : Nat) : List Int := (List.range n).map fun (j : Nat) => (Int.fdiv idx (2 ^ (((n : Int) - 1) - (j : Int)).toNat)).fmod 2
theorem paired_steps : ∀ {vs ys : List Value} (f : Int → Int) (g : Nat → Int), Paired (fun v y => ∃ k t u, v = Value.int k t ∧ y = Value.int (f k) u) vs ys → (∀ (j : Nat) v, vs[j]? = some v → ∃ t, v = Value.int (g j) t) →
    IntsAre ys ((List.range vs.length).map fun (j : Nat) => f (g j))
  | _, _, _, _, .nil, _ => .nil
  | _, _, f, g, .cons (a := a) (b := b) (l₁ := l₁) (l₂ := l₂) h r, hg => by
    obtain ⟨k, t, u, rfl, rfl⟩ := h
    obtain ⟨t', e⟩ := hg 0 _ rfl
    injection e with e1 e2
    subst e1
    have hr := paired_steps f (fun j => g (j + 1)) r fun j v hv => hg (j + 1) v (by simpa using hv)
    rw [List.length_cons, List.range_succ_eq_map, List.map_cons, List.map_map]
    exact .cons _ u hr
theorem pow_small {k : Nat} (h : k < 30) : ((2 : Int) ^ k).natAbs < 1073741824 := by
  rw [Int.natAbs_pow]
  exact Nat.pow_lt_pow_right (a := 2) (m := k) (n := 30) (by decide) h
section
variable {prog : Program} {w : World} {A : Around} {E : Value → Shared → Prop} {s : Shared} {env : Env} {h₀ : Heap} {L : Addr} {m : Str → Option Value}
inductive StepsSrc (h₀ : Heap) (L : Addr) (m : Str → Option Value) (c : Addr) (y0 : Str) (Q : Flow → Shared → Prop) (xv : Value) (s₁ : Shared) : Prop
  | mk (r : Addr) (n : Nat) (news : List (Addr × Obj)) (t u v : Tok) (oc : Obj) (idx : Int) (ti : Tok) (e0 : xv = .ref r)
      (e1 : Builtin.Range.rangeSize ((n : Nat) - 1 : Int) (-1) (-1) = (n : Int))
      (e2 : Builtin.Range.small ((n : Nat) - 1 : Int) (-1) (-1) = true)
      (e3 : IsRange s₁.heap r ((n : Nat) - 1 : Int) (-1) (-1) t u v)
      (e4 : n ≤ 30)
      (e5 : Fr h₀ L s₁.heap m)
      (e6 : News h₀ L s₁.heap news)
      (e7 : (c, oc) ∈ news)
      (e8 : oc.data = .cell (some (.int idx ti)))
      (e9 : 0 ≤ idx)
      (e10 : idx ≤ 1000)
      (e11 : ∀ D h' tk ys k, Fr h₀ L h' (fun z => if z = y0 then some (.ref D) else m z) → News h₀ L h' ((D, W.listOf ys k) :: news) → (∀ p ∈ news, p.1 ≠ D) → IntsAre ys.toList (bitsOf idx n) → Q .next { s₁ with heap := h', toks := tk })
theorem steps_assign {y0 x yi : Str} {py0 spos px pos q1 q2 q3 q4 q5 q6 q7 : Pos} {kk k2 : Nat} {scope : Scope} {cl : List (Str × Addr)} {c : Addr} {iter : PySem.Expr} {Q : Flow → Shared → Prop}
    (_F : Fr h₀ L s.heap m) (hLe : env.locals = L)
    (hsw : swapsWith (.ListComp (.BinOp (.BinOp (.Name yi q1) .FloorDiv (.BinOp (.Constant (.int 2) kk q2) .Pow (.Name x q3) q4) q5) .Mod (.Constant (.int 2) k2 q6) q7) [⟨.Name x px, iter, [], 0⟩] scope pos) (some (.Name y0 py0)) spos.line env = pure true)
    (hy0 : env.kindOf y0 = some .local) (hp0 : (env.scope.kind == .class || (env.scope.kind == .module && env.locals != env.globals)) = false)
    (hh : A.handled = none) (hclos : closureFor scope env = pure cl) (hcell : ∀ y ∈ scope.names, y.2 ≠ .cell) (hkind : scope.kind = .function)
    (hnames : ∀ y ∈ scope.names, y.2 = .local → scope.names.lookup y.1 = some .local) (hx : scope.names.lookup x = some .local)
    (hy : ∀ C, (compEnvC scope cl C env).kindOf yi = some .cell) (hyc : cl.lookup yi = some c) (hxd : (x == ("__debug__" : Str)) = false) (hyd : (yi == ("__debug__" : Str)) = false)
    (h : wpAny (model prog w) A (eval iter env) (StepsSrc h₀ L m c y0 Q) E s)
    (hs1 : ∀ x, foldedSetIterable iter env x = pure x := by intro _; rfl) :
    wpAny (model prog w) A (exec (.Assign [.Name y0 py0] (.ListComp (.BinOp (.BinOp (.Name yi q1) .FloorDiv (.BinOp (.Constant (.int 2) kk q2) .Pow (.Name x q3) q4) q5) .Mod (.Constant (.int 2) k2 q6) q7) [⟨.Name x px, iter, [], 0⟩] scope pos) spos) env) Q E s := by
  subst hLe
  rw [exec_Assign_Name_used _ _ _ _ hsw]
  refine wpAny_bind (wpAny_standAt (wpAny_bind ?_))
  show wpAny _ A (do let _ ← comprehension (.ListComp (.BinOp (.BinOp (.Name yi q1) .FloorDiv (.BinOp (.Constant (.int 2) kk q2) .Pow (.Name x q3) q4) q5) .Mod (.Constant (.int 2) k2 q6) q7) [⟨.Name x px, iter, [], 0⟩] scope pos) scope env _ (newList []) false (eval iter env) (some (assign (.Name y0 py0) env))) _ _ s
  refine wpAny_bind (wpAny_mono (wpAny_comprehension_free (use := some (assign (.Name y0 py0) env)) (Q := fun _ s' => Q .next s') rfl hs1 hclos hkind hnames (wpAny_mono h (fun xv s₁ h₁ => ?_) fun _ _ e => e)) (fun _ s' hq => wpAny_pure (wpAny_pure hq)) fun _ _ e => e)
  obtain ⟨r, n, news, t, u, v, oc, idx, ti, rfl, hsz, hsm, hr, hn, F, N, hmc, hdc, hi0, hi1, hQ⟩ := h₁
  refine wpAny_pyIter_range hr hsm ?_
  rw [hsz]
  have hIt : (s₁.heap.push { cls := .type "range_iterator", data := .fields #[rawInt ((n : Nat) - 1 : Int), rawInt (n : Int), rawInt (-1)] }).get? s₁.heap.objs.size = some { cls := .type "range_iterator", data := .fields #[rawInt ((n : Nat) - 1 : Int), rawInt (n : Int), rawInt (-1)] } := Heap.get?_push_size _ rfl
  generalize hH1 : s₁.heap.push { cls := .type "range_iterator", data := .fields #[rawInt ((n : Nat) - 1 : Int), rawInt (n : Int), rawInt (-1)] } = H1 at hIt ⊢
  have up1 : ∀ b o, s₁.heap.get? b = some o → H1.get? b = some o := fun b o e => hH1 ▸ Heap.get?_push_of_some _ e
  have hH1s : H1.objs.size = s₁.heap.objs.size + 1 := by rw [← hH1, Heap.size_push]
  have W := (Walks.range (prog := prog) (w := w) (A := A) hh s₁.heap.objs.size ((n : Nat) - 1 : Int) (-1) n).bound
  have F1 := F.keeps up1
  refine comp_block_walkC W (by rw [sizeLine_eq]; omega) (fun _ => true) (fun v y => ∃ k t u, v = Value.int k t ∧ y = Value.int ((Int.fdiv idx (2 ^ k.toNat)).fmod 2) u) hcell hkind hx (by simpa using hIt) ?_ ?_ ?_
  · intro b hb
    rw [List.mem_singleton.mp hb]
    show s₁.heap.objs.size < H1.objs.size
    rw [hH1s]
    exact Nat.lt_succ_self _
  · refine ⟨?_, ?_⟩
    · intro C i v s₃ m₃ E' _ _ _ _ _ _
      exact wpAny_pure ⟨rfl, keeps_refl _⟩
    · intro C i v s₃ m₃ E' _ hv _ hn3 hm3 hk3 _
      obtain ⟨hin, tv, rfl⟩ := hv
      have hcl : s₃.heap.IsCell c (some (.int idx ti)) := ⟨oc, hk3 _ _ (fun q => by
        have h1 := Heap.lt_size (N _ hmc).1
        rw [List.mem_singleton.mp q] at h1
        exact Nat.lt_irrefl _ h1) (up1 _ _ (N _ hmc).1), hdc⟩
      refine wpAny_BinOp (wpAny_BinOp (wpAny_Name (wpAny_loadName_cell hkind (hy C) hyc hcl ?_) hyd))
      refine wpAny_BinOp (wpAny_Constant_int (wpAny_Name (wpAny_loadName_local hkind (lookup_relabel_local hx) hn3 hm3 ?_) hxd))
      refine pow_int_small (by omega) (by omega) (by decide) ?_
      refine floordiv_int ?_ ?_ ?_
      · exact Int.ne_of_gt (Int.pow_pos (by decide))
      · refine wpAny_Constant_int (mod_int (by decide) ?_)
        exact ⟨⟨_, _, _, rfl, rfl⟩, ⟨s₃.heap, _, rfl, fun _ _ e => e⟩⟩
      · exact Or.inl (PyProof.noPylong_small (pow_small (by omega)))
  · intro D C h' tk m' ys vs hDn hCn hDC hn' hD hpl hlen hP hF hk
    have hF' : Paired (fun v y => ∃ k t u, v = Value.int k t ∧ y = Value.int ((Int.fdiv idx (2 ^ k.toNat)).fmod 2) u) vs ys.toList := by
      have e : vs.filter (fun _ => true) = vs := by simp
      rw [← e]
      exact hF
    have hys := paired_steps (fun k => (Int.fdiv idx (2 ^ k.toNat)).fmod 2) (fun j => ((n : Int) - 1) - (j : Int)) hF' (fun j v hv => by
      obtain ⟨_, t, e⟩ := hP j v hv
      exact ⟨t, by rw [e]; congr 1; omega⟩)
    rw [hlen] at hys
    have newC : ∀ b o, s₁.heap.get? b = some o → b ≠ C := fun b o e q => by rw [q] at e; have := up1 _ _ e; rw [hCn] at this; cases this
    have newD : ∀ b o, s₁.heap.get? b = some o → b ≠ D := fun b o e q => by rw [q] at e; have := up1 _ _ e; rw [hDn] at this; cases this
    have offI : ∀ b o, s₁.heap.get? b = some o → b ∉ [s₁.heap.objs.size] := fun b o e q => by
      have h1 := Heap.lt_size e
      rw [List.mem_singleton.mp q] at h1
      exact Nat.lt_irrefl _ h1
    have keep : ∀ b o, s₁.heap.get? b = some o → h'.get? b = some o := fun b o e => hk b o (offI b o e) (up1 b o e)
    obtain ⟨nD, hDo⟩ := hpl
    obtain ⟨oL, _, _, hoL, _⟩ := F.ns
    have F3 := F.keeps keep
    have fresh0 : ∀ b, H1.get? b = none → h₀.get? b = none := fun b hb => by
      cases e : h₀.get? b with
      | none => rfl
      | some o' => have := up1 _ _ (F.keep b o' e); rw [hb] at this; cases this
    have hDL : D ≠ env.locals := fun q => newD _ oL hoL q.symm
    have hCL : C ≠ env.locals := fun q => newC _ oL hoL q.symm
    show wpAny _ A (assign (.Name y0 py0) env (.ref D)) _ _ _
    refine wpAny_assign_Name (wpAny_storeName_local hy0 F3.ns (fun h₂ hn₂ hs₂ => ?_) hp0)
    have hL₀ : h₀.get? env.locals = none := Heap.get?_none_of_le F3.above
    have F₂ : Fr h₀ env.locals h₂ (fun z => if z = y0 then some (.ref D) else m z) := ⟨hn₂, fun b o e => hs₂.extBut b o (fun q => by rw [q, hL₀] at e; cases e) (F3.keep b o e), F3.above⟩
    refine ⟨m', hn'.sameBut hs₂ hCL, fun h'' hs'' => ?_⟩
    refine hQ D h'' _ ys nD (F₂.change hs'' hCL (fresh0 C hCn)) ?_ (fun p hp => newD _ _ (N p hp).1) hys
    refine List.forall_mem_cons.mpr ⟨⟨(hs''.2 D hDC).trans (hs₂.extBut D _ hDL hDo), hDL, fresh0 D hDn⟩, ?_⟩
    exact fun p hp => ⟨(hs''.2 p.1 (newC _ _ (N p hp).1)).trans (hs₂.extBut p.1 _ (N p hp).2.1 (keep _ _ (N p hp).1)), (N p hp).2⟩
end
end

section
open PySem PySem.W PySem.Spec PyProof.Rows
theorem rest_UText {prog : PySem.Program} {w : PySem.World} {A : PySem.Around} {env : PySem.Env} {Q : PySem.Flow → PySem.Shared → Prop} {E : PySem.Value → PySem.Shared → Prop} {s : PySem.Shared} (h : PySem.wpAny (PySem.model prog w) A (PySem.execs [] env) Q E s) : PySem.wpAny (PySem.model prog w) A (PySem.execs [] env) Q E s := by
  w_top off
  k_with_none
  first | (walk1; fail) | exact h
set_option maxRecDepth 100000
set_option maxHeartbeats 0
set_option pp.deepTerms false
theorem paired_text {e : Str} : ∀ {vs ys : List Value} {ns : List Int}, IntsAre vs ns → Paired (fun v y => ∃ k t u, v = Value.int k t ∧ y = Value.str (if k = 1 then Str.ofString "." else e) u) vs ys → StrsAre ys (ns.map fun k => if k = 1 then Str.ofString "." else e)
  | _, _, _, .nil, .nil => .nil
  | _, _, _, .cons n t hr, .cons h r => by
    obtain ⟨k, t', u, e1, rfl⟩ := h
    injection e1 with e2 e3
    subst e2
    exact .cons _ u (paired_text hr r)
section
variable {prog : Program} {w : World} {A : Around} {E : Value → Shared → Prop} {s : Shared} {env : Env} {h₀ : Heap} {L : Addr} {m : Str → Option Value} {news : List (Addr × Obj)}
theorem text_comp {x yi z : Str} {px pz pos q1 q2 q3 q4 q5 q6 : Pos} {kk k2 : Nat} {scope : Scope} {cl : List (Str × Addr)} {c D : Addr} {oc : Obj} {vs : List Value} {nD : Nat} {ns : List Int} {e : Str} {te : Tok} {Q : Value → Shared → Prop}
    (F : Fr h₀ L s.heap m) (N : News h₀ L s.heap news) (hLe : env.locals = L) (hek : env.scope.kind = .function) (hez : env.kindOf z = some .local) (hmz : m z = some (.ref D)) (hmD : (D, W.listOf vs.toArray nD) ∈ news) (hI : IntsAre vs ns) (hlen : vs.length ≤ 100)
    (hmc : (c, oc) ∈ news) (hdc : oc.data = .cell (some (.str e te)))
    (hh : A.handled = none) (hclos : closureFor scope env = pure cl) (hcell : ∀ y ∈ scope.names, y.2 ≠ .cell) (hkind : scope.kind = .function)
    (hnames : ∀ y ∈ scope.names, y.2 = .local → scope.names.lookup y.1 = some .local) (hx : scope.names.lookup x = some .local)
    (hy : ∀ C, (compEnvC scope cl C env).kindOf yi = some .cell) (hyc : cl.lookup yi = some c) (hxd : (x == ("__debug__" : Str)) = false) (hyd : (yi == ("__debug__" : Str)) = false) (hzd : (z == ("__debug__" : Str)) = false)
    (hQ : ∀ D' h' tk (ys : List Value) k, Fr h₀ L h' m → News h₀ L h' ((D', W.listOf ys.toArray k) :: news) → (∀ p ∈ news, p.1 ≠ D') → StrsAre ys (ns.map fun k => if k = 1 then Str.ofString "." else e) → Q (.ref D') { s with heap := h', toks := tk })
    (hs1 : ∀ x, foldedSetIterable (.Name z pz) env x = pure x := by intro _; rfl) :
    wpAny (model prog w) A (eval (.ListComp (.IfExp (.Compare (.Name x q1) [.Eq] [.Constant (.int 1) kk q2] q3) (.Constant (.str (Str.ofString ".")) k2 q4) (.Name yi q5) q6) [⟨.Name x px, .Name z pz, [], 0⟩] scope pos) env) Q E s := by
  subst hLe
  refine wpAny_ListComp_free (fun _ => true) (fun v y => ∃ k t u, v = Value.int k t ∧ y = Value.str (if k = 1 then Str.ofString "." else e) u) hclos hcell hkind hnames hx ?_ hs1
  refine wpAny_Name (wpAny_loadName_local hek hez F.ns hmz ?_) hzd
  have hl : s.heap.IsList D vs.toArray := ⟨_, (N _ hmD).1, rfl, nD, rfl⟩
  have hlt : D < s.heap.objs.size := Heap.lt_size (N _ hmD).1
  refine wpAny_pyIter_list hl ?_
  have up : ∀ b o, s.heap.get? b = some o → (s.heap.push { cls := .type "list_iterator", data := .fields #[.ref D, .int 0 0] }).get? b = some o := fun b o e => Heap.get?_push_of_some _ e
  have offI : ∀ b o, s.heap.get? b = some o → b ∉ [s.heap.objs.size] := fun b o e q => by
    have h1 := Heap.lt_size e
    rw [List.mem_singleton.mp q] at h1
    exact Nat.lt_irrefl _ h1
  refine ⟨s.heap.objs.size, _, _, _, _, _, rfl, Walks.list hh s.heap.objs.size D (Nat.ne_of_lt hlt) vs.toArray, by rw [List.size_toArray, sizeLine_eq]; omega, ⟨⟨_, Heap.get?_push_size _ rfl, rfl, rfl⟩, hl.push _⟩, ?_, ?_, ?_⟩
  · intro b hb
    show b < (s.heap.push _).objs.size
    rw [Heap.size_push]
    rcases List.mem_cons.mp hb with rfl | hb
    · exact Nat.lt_succ_self _
    · rw [List.mem_singleton.mp hb]; exact Nat.lt_succ_of_lt hlt
  · refine ⟨?_, ?_⟩
    · intro C i v s₃ m₃ E' _ _ _ _ _ _
      exact wpAny_pure ⟨rfl, keeps_refl _⟩
    · intro C i v s₃ m₃ E' _ hv _ hn3 hm3 hk3 _
      obtain ⟨k, tv, rfl⟩ := mem_ints hI v (by have := Array.mem_of_getElem? hv; simpa using this)
      have hcl : s₃.heap.IsCell c (some (.str e te)) := ⟨oc, hk3 _ _ (offI _ _ (N _ hmc).1) (up _ _ (N _ hmc).1), hdc⟩
      refine wpAny_IfExp (wpAny_isTrue_Compare1 (wpAny_Name (wpAny_loadName_local hkind (lookup_relabel_local hx) hn3 hm3 ?_) hxd))
      refine wpAny_Constant_int (eq_int (wpAny_pure ?_))
      by_cases hk : k = 1
      · subst hk
        rw [if_pos (by decide)]
        exact wpAny_Constant_str ⟨⟨1, tv, _, rfl, by rw [if_pos rfl]⟩, ⟨s₃.heap, _, rfl, fun _ _ e => e⟩⟩
      · rw [if_neg (by simpa using hk)]
        exact wpAny_Name (wpAny_loadName_cell hkind (hy C) hyc hcl ⟨⟨k, tv, te, rfl, by rw [if_neg hk]⟩, ⟨s₃.heap, _, rfl, fun _ _ e => e⟩⟩) hyd
  · intro D' h' tk ys vs' hDn hD hpl hlen' hP hF hk
    have hF' : Paired (fun v y => ∃ k t u, v = Value.int k t ∧ y = Value.str (if k = 1 then Str.ofString "." else e) u) vs' ys.toList := by
      have e : vs'.filter (fun _ => true) = vs' := by simp
      rw [← e]
      exact hF
    have hvs : vs' = vs := by
      apply List.ext_getElem?
      intro j
      cases hj : vs'[j]? with
      | some v =>
        have := hP j v hj
        simpa using this.symm
      | none =>
        have h1 := List.getElem?_eq_none_iff.mp hj
        rw [hlen', List.size_toArray] at h1
        exact (List.getElem?_eq_none_iff.mpr h1).symm
    rw [hvs] at hF'
    have hys := paired_text hI hF'
    have keep : ∀ b o, s.heap.get? b = some o → h'.get? b = some o := fun b o e => hk b o (offI b o e) (up b o e)
    have newD : ∀ b o, s.heap.get? b = some o → b ≠ D' := fun b o e q => by rw [q] at e; have := up _ _ e; rw [hDn] at this; cases this
    obtain ⟨nD', hDo⟩ := hpl
    obtain ⟨oL, _, _, hoL, _⟩ := F.ns
    have fresh0 : h₀.get? D' = none := by
      cases e : h₀.get? D' with
      | none => rfl
      | some o' => exact absurd rfl (newD _ _ (F.keep D' o' e))
    refine hQ D' h' tk ys.toList nD' (F.keeps keep) ?_ (fun p hp => newD _ _ (N p hp).1) hys
    refine List.forall_mem_cons.mpr ⟨⟨hDo, fun q => newD _ oL hoL q.symm, fresh0⟩, ?_⟩
    exact fun p hp => ⟨keep _ _ (N p hp).1, (N p hp).2⟩
end
end

section
open PySem PySem.W PySem.Spec PyProof.Rows
theorem rest_USendF {prog : PySem.Program} {w : PySem.World} {A : PySem.Around} {env : PySem.Env} {Q : PySem.Flow → PySem.Shared → Prop} {E : PySem.Value → PySem.Shared → Prop} {s : PySem.Shared} (h : PySem.wpAny (PySem.model prog w) A (PySem.execs [] env) Q E s) : PySem.wpAny (PySem.model prog w) A (PySem.execs [] env) Q E s := by
  w_top off
  k_with_none
  first | (walk1; fail) | exact h
set_option maxRecDepth 100000
set_option maxHeartbeats 0
set_option pp.deepTerms false
/-- what the law says the mail should be, sign by sign -/
noncomputable def toldStep (sd : Int) (told : Str) (step : Int) : Str := if step = 0 then told ++ Str.ofString "\r\n" else if Txt.slice told (some (-1)) none = Str.ofString "." then told ++ Str.ofString "." else told ++ Txt.mul (Str.ofString ".") (sd + 1)
noncomputable def toldF (sd : Int) (bits : List Int) : Str := bits.foldl (toldStep sd) (Str.ofString "")
/-- what the lexer loop reckons from a mail -/
noncomputable def lexLoop : Nat → Int → Int → Int → List Str → Option (Int × Int)
  | 0, _, _, _, _ => none
  | f + 1, ov, un_, ln, xs =>
    let r := tokA ln xs
    let un' := un_ + (r.2.1 - ln) * ov
    let ov' := ov + (r.1.length : Int) * un'
    if r.1 = Str.ofString "" then some (ov', un') else lexLoop f ov' un' r.2.1 r.2.2
/-- the mail's signs as a number -/
noncomputable def numStep (n : Int) (x : Str) : Int := 2 * n + (if x = Str.ofString "." then 1 else 0)
noncomputable def numF (ml : Str) : Int := (signs (Txt.replace ml (Str.ofString "\r") (Str.ofString ""))).foldl numStep 1
/-- what the plain law says of one round of sending -/
structure SendFacts (give sd bas : Int) (bits : List Int) (f tx : Str) (q : Nat → Str) (ml : Str) (ov un_ : Int) (pl : List Int) : Prop where
  hsd : 0 ≤ sd ∧ sd ≤ 3
  q0 : q 0 = tx
  qs : ∀ i < sd.toNat, ∃ y, (q i).length ≤ 1000 ∧ y.length ≤ 1000 ∧ IsSub code2 (q i) (Str.ofString "\r\n") y ∧ IsSub code1 y (Str.ofString "..") (q (i + 1))
  pos : 0 < sd → ml = q sd.toNat
  zero : sd = 0 → tx.length ≤ 1000 ∧ IsSub code2 tx (Str.ofString "\r\n") ml
  told : toldF sd bits = ml
  mlen : ml.length ≤ 900
  asc : ml.cps.all (· < 128) = true
  asc2 : (Txt.replace ml (Str.ofString "\r") (Str.ofString "")).cps.all (· < 128) = true
  mail : Mail (signs ml)
  run : lexLoop 50 give give 1 (signs ml) = some (ov, un_)
  found : sd = 0 → f = dotsA ov un_
  hgive : give = 1 ∨ give = 2
  num : 0 < numF ml ∧ numF ml < 2 ^ 18
  hbas : 0 ≤ bas ∧ bas ≤ 11
  flags : Txt.join (Str.ofString ", ") (flagsOf (numF ml * 2 ^ bas.toNat).toNat 32) = Txt.join (Str.ofString ", ") (pl.map fun k => lawName (bas + k))
  places : PlInv pl ov un_ 0 []
  plb : ∀ k ∈ pl, 0 ≤ k ∧ k < 40
  pll : pl.length ≤ 100
  ub : 0 < un_ ∧ un_ < 2 ^ 19 ∧ 0 ≤ ov ∧ ov < 1000
  walk : walkF (numF ml + 1) give = (un_, stopF un_ [ov, ov] - ov - un_)
end

section
open PySem PySem.W PySem.Spec PyProof.Rows PyProof.Rows.LCg
theorem rest_UNames {prog : PySem.Program} {w : PySem.World} {A : PySem.Around} {env : PySem.Env} {Q : PySem.Flow → PySem.Shared → Prop} {E : PySem.Value → PySem.Shared → Prop} {s : PySem.Shared} (h : PySem.wpAny (PySem.model prog w) A (PySem.execs [] env) Q E s) : PySem.wpAny (PySem.model prog w) A (PySem.execs [] env) Q E s := by
  w_top off
  k_with_none
  first | (walk1; fail) | exact h
set_option maxRecDepth 100000
set_option maxHeartbeats 0
set_option pp.deepTerms false
section
variable {prog : Program} {w : World} {A : Around} {E : Value → Shared → Prop} {s : Shared} {env : Env} {h₀ : Heap} {L : Addr} {m : Str → Option Value}
/-- what a comprehension over a list of the ledger draws from, each element reckoned with the ledger at hand -/
inductive ElemSrc (prog : Program) (w : World) (A : Around) (h₀ : Heap) (L : Addr) (m : Str → Option Value) (env : Env) (elt : PySem.Expr) (x : Str) (scope : Scope) (cl : List (Str × Addr)) (Q : Value → Shared → Prop) (xv : Value) (s₁ : Shared) : Prop
  | mk (r : Addr) (us : List Value) (n : Nat) (news : List (Addr × Obj)) (pl : List Int) (g : Int → Str) (e0 : xv = .ref r)
      (e1 : Fr h₀ L s₁.heap m)
      (e2 : News h₀ L s₁.heap news)
      (e3 : (r, W.listOf us.toArray n) ∈ news)
      (e4 : IntsAre us pl)
      (e5 : pl.length ≤ 100)
      (e6 : (∀ C oC nx k t m₂ h tk (E' : Value → Shared → Prop), k ∈ pl → NsObj oC m₂ → m₂ x = some (.int k t) → C ≠ L → Fr h₀ L h m → News h₀ L h ((C, oC) :: (news ++ nx)) → wpAny (model prog w) A (eval elt (compEnvC scope cl C env)) (fun y s' => ∃ u h' tk', y = .str (g k) u ∧ s' = { s₁ with heap := h', toks := tk' } ∧ Fr h₀ L h' m ∧ News h₀ L h' ((C, oC) :: (news ++ nx))) E' { s₁ with heap := h, toks := tk }))
      (e7 : (∀ D h' tk (ys : List Value) k, Fr h₀ L h' m → News h₀ L h' ((D, W.listOf ys.toArray k) :: news) → StrsAre ys (pl.map g) → Q (.ref D) { s₁ with heap := h', toks := tk }))
theorem ints_get : ∀ {vs : List Value} {ns : List Int} {i : Nat} {v : Value}, IntsAre vs ns → vs[i]? = some v → ∃ k t, v = .int k t ∧ ns[i]? = some k
  | _, _, _, _, .nil, h => by simp at h
  | _, _, 0, v, .cons n t r, h => by simp at h; exact ⟨n, t, h.symm, rfl⟩
  | _, _, i + 1, v, .cons n t r, h => by
    obtain ⟨k, u, h1, h2⟩ := ints_get r (by simpa using h)
    exact ⟨k, u, h1, by simpa using h2⟩
theorem strs_snoc : ∀ {vs : List Value} {xs : List Str} {x : Str} {t : Tok}, StrsAre vs xs → StrsAre (vs ++ [.str x t]) (xs ++ [x])
  | _, _, x, t, .nil => .cons x t .nil
  | _, _, _, _, .cons y u r => .cons y u (strs_snoc r)
theorem strs_len : ∀ {vs : List Value} {xs : List Str}, StrsAre vs xs → vs.length = xs.length
  | _, _, .nil => rfl
  | _, _, .cons _ _ r => by simp [strs_len r]
theorem elem_comp {elt iter : PySem.Expr} {x : Str} {px pos : Pos} {scope : Scope} {cl : List (Str × Addr)} {Q : Value → Shared → Prop}
    (_F : Fr h₀ L s.heap m) (hh : A.handled = none) (hclos : closureFor scope env = pure cl) (hcell : ∀ y ∈ scope.names, y.2 ≠ .cell) (hkind : scope.kind = .function)
    (hnames : ∀ y ∈ scope.names, y.2 = .local → scope.names.lookup y.1 = some .local) (hx : scope.names.lookup x = some .local)
    (h : wpAny (model prog w) A (eval iter env) (ElemSrc prog w A h₀ L m env elt x scope cl Q) E s)
    (hs1 : ∀ x, foldedSetIterable iter env x = pure x := by intro _; rfl) :
    wpAny (model prog w) A (eval (.ListComp elt [⟨.Name x px, iter, [], 0⟩] scope pos) env) Q E s := by
  rw [eval_ListComp]
  refine wpAny_comprehension_free (use := none) rfl hs1 hclos hkind hnames (wpAny_mono h (fun xv s₁ h₁ => ?_) fun _ _ e => e)
  obtain ⟨r, us, n, news, pl, g, rfl, F, N, hmr, hI, hlen, hturn, hQ⟩ := h₁
  have hlr : s₁.heap.IsList r us.toArray := ⟨_, (N _ hmr).1, rfl, n, rfl⟩
  refine wpAny_pyIter_list hlr ?_
  have FI := F.push { cls := .type "list_iterator", data := .fields #[.ref r, .int 0 0] }
  have NI := N.push F { cls := .type "list_iterator", data := .fields #[.ref r, .int 0 0] }
  generalize hI0 : s₁.heap.objs.size = I at NI ⊢
  generalize hH1 : s₁.heap.push { cls := .type "list_iterator", data := .fields #[.ref r, .int 0 0] } = H1 at FI NI ⊢
  have hIoff : ∀ p ∈ news, p.1 ≠ I := fun p hp => hI0 ▸ Nat.ne_of_lt (Heap.lt_size (N p hp).1)
  refine wpAny_newObj_type (wpAny_newFunctionEnv hcell (by intro y hy; simp at hy) (fun h₁ hns₁ hsb₁ => ?_) hkind)
  dsimp only at hns₁ hsb₁ ⊢
  have ND := NI.push FI { cls := .type "list", dict := none, data := .seq ([] : List Value).toArray }
  have FD := FI.push { cls := .type "list", dict := none, data := .seq ([] : List Value).toArray }
  generalize hD0 : H1.objs.size = D at ND hns₁ hsb₁ ⊢
  generalize hH2 : H1.push { cls := .type "list", dict := none, data := .seq ([] : List Value).toArray } = H2 at hns₁ hsb₁ ND FD ⊢
  have hDoff : ∀ p ∈ (I, _) :: news, p.1 ≠ D := fun p hp => hD0 ▸ Nat.ne_of_lt (Heap.lt_size (NI p hp).1)
  generalize hC0 : H2.objs.size = C at hns₁ hsb₁ ⊢
  have hCoff : ∀ p ∈ (D, _) :: (I, _) :: news, p.1 ≠ C := fun p hp => hC0 ▸ Nat.ne_of_lt (Heap.lt_size (ND p hp).1)
  have hCL : C ≠ L := hC0 ▸ Nat.ne_of_gt FD.ns.lt
  have hCf : h₀.get? C = none := hC0 ▸ next_is_new FD
  have up2 : ∀ b o, H2.get? b = some o → h₁.get? b = some o := fun b o e => by
    have hb : b ≠ C := hC0 ▸ Nat.ne_of_lt (Heap.lt_size e)
    exact hsb₁.extBut b o hb (Heap.get?_push_of_some _ e)
  have F1 := FD.keeps up2
  have N1 : News h₀ L h₁ ((D, lst []) :: (I, { cls := .type "list_iterator", data := .fields #[.ref r, .int 0 0] }) :: news) := fun p hp => ⟨up2 _ _ (ND p hp).1, (ND p hp).2⟩
  have hDI : D ≠ I := fun e => hDoff (I, _) (.head _) e.symm
  have hDC : D ≠ C := hCoff (D, _) (.head _)
  have hIC : I ≠ C := hCoff (I, _) (.tail _ (.head _))
  have hCnews : ∀ p ∈ news, p.1 ≠ C := fun p hp => hCoff p (.tail _ (.tail _ hp))
  have hDnews : ∀ p ∈ news, p.1 ≠ D := fun p hp => hDoff p (.tail _ hp)
  have loop : ∀ s₃ : Shared, (∃ tk, s₃ = { s₁ with heap := h₁, toks := tk }) →
      codeAny (model prog w) A (.compLoop (.ListComp elt [⟨.Name x px, iter, [], 0⟩] scope pos) 0 (.ref I) (.ref D) (compEnvC scope cl C env)) (compPost (model prog w) A E none Q (.ref D) C) s₃ := by
    rintro s₃ ⟨tk0, rfl⟩
    refine kcp_loop
      (fun k s' => ∃ h' tk i ys m' oI, s' = { s₁ with heap := h', toks := tk } ∧ i ≤ us.length ∧ k = us.length + 1 - i ∧ StrsAre ys ((pl.take i).map g) ∧ h'.Ns C m' ∧ Fr h₀ L h' m ∧ News h₀ L h' ((D, lst ys) :: (I, oI) :: news) ∧ (∀ h : Heap, h.get? I = some oI → h.IsListIter I r i)) ?_ (us.length + 1)
      ⟨h₁, tk0, 0, [], _, _, rfl, Nat.zero_le _, rfl, .nil, hns₁, F1, N1, fun h e => ⟨_, e, rfl, rfl⟩⟩
    rintro k s' ⟨h', tk, i, ys, m', oI, rfl, hi, rfl, hys, hn', F', N', hoI⟩
    have hl' : h'.IsList r us.toArray := ⟨_, (N' _ (.tail _ (.tail _ hmr))).1, rfl, n, rfl⟩
    have hit' := hoI _ (N' (I, oI) (.tail _ (.head _))).1
    have hIL : I ≠ L := (N' (I, oI) (.tail _ (.head _))).2.1
    have hIf : h₀.get? I = none := (N' (I, oI) (.tail _ (.head _))).2.2
    cases hv : us.toArray[i]? with
    | none =>
      refine wpAny_pyNext_list_end hh hit' hl' hv fun h2 he2 => ?_
      have hin : us.length ≤ i := by simpa using hv
      have hpl : pl.take i = pl := List.take_of_length_le (by rw [← IntsAre.length hI]; exact hin)
      rw [hpl] at hys
      have F2 : Fr h₀ L h2 m := ⟨F'.ns.extBut he2 hIL.symm, fun b o e => he2 b o (fun q => by rw [q, hIf] at e; cases e) (F'.keep b o e), F'.above⟩
      refine ⟨m', hn'.extBut he2 hIC.symm, fun h'' hs'' => ?_⟩
      refine hQ D h'' tk ys ys.length (F2.change hs'' hCL hCf) ?_ hys
      refine List.forall_mem_cons.mpr ⟨⟨(hs''.2 D hDC).trans (he2 D _ hDI (N' (D, lst ys) (.head _)).1), (N' (D, lst ys) (.head _)).2⟩, ?_⟩
      exact fun p hp => ⟨(hs''.2 p.1 (hCnews p hp)).trans (he2 _ _ (hIoff p hp) (N' p (.tail _ (.tail _ hp))).1), (N' p (.tail _ (.tail _ hp))).2⟩
    | some v =>
      obtain ⟨k, t, rfl, hk⟩ := ints_get hI (by simpa using hv)
      have hlt : i < us.length := by
        have := (Array.getElem?_eq_some_iff.mp hv).1
        simpa using this
      refine wpAny_pyNext_list_item hit' hl' hv fun h2 hit2 hs2 => ?_
      obtain ⟨oJ, hoJ, hrJ⟩ := hit2
      have F2 : Fr h₀ L h2 m := F'.change hs2 hIL hIf
      show wpAny _ _ (letOwnedTupleGo (.Name x px) (.ref I) (.int k t)) _ _ _
      refine wpAny_of_eq (a := ()) rfl ?_
      refine wpAny_assign_Name (wpAny_storeName_local (env := compEnvC scope cl C env) (lookup_relabel_local hx) (hn'.sameBut hs2 hIC.symm) (fun h3 hn3 hs3 => ?_) (by simp [compEnvC, relabel, hkind]))
      have hs3' : Heap.SameBut C h2 h3 := hs3
      have F3 : Fr h₀ L h3 m := F2.change hs3' hCL hCf
      obtain ⟨oC, hoC, hNs⟩ := ns_obj hn3
      have N3 : News h₀ L h3 ((C, oC) :: (news ++ [(D, lst ys), (I, oJ)])) := by
        refine List.forall_mem_cons.mpr ⟨⟨hoC, hCL, hCf⟩, ?_⟩
        intro p hp
        rcases List.mem_append.mp hp with hp | hp
        · exact ⟨(hs3'.2 p.1 (hCnews p hp)).trans ((hs2.2 p.1 (hIoff p hp)).trans (N' p (.tail _ (.tail _ hp))).1), (N' p (.tail _ (.tail _ hp))).2⟩
        · rcases List.mem_cons.mp hp with rfl | hp
          · exact ⟨(hs3'.2 D hDC).trans ((hs2.2 D hDI).trans (N' (D, lst ys) (.head _)).1), (N' (D, lst ys) (.head _)).2⟩
          · rw [List.mem_singleton.mp hp]
            exact ⟨(hs3'.2 I hIC).trans hoJ, hIL, hIf⟩
      refine wpAny_mono (hturn C oC [(D, lst ys), (I, oJ)] k t _ h3 _ _ (List.mem_of_getElem? hk) hNs (by simp) hCL F3 N3) (fun y s4 h4 => ?_) fun _ _ e => e
      obtain ⟨u, h5, tk5, rfl, rfl, F5, N5⟩ := h4
      have mD : (D, lst ys) ∈ (C, oC) :: (news ++ [(D, lst ys), (I, oJ)]) := by simp
      have mI : (I, oJ) ∈ (C, oC) :: (news ++ [(D, lst ys), (I, oJ)]) := by simp
      have zD := (N5 _ mD).1
      have hys2 : ys.length ≤ 100 := by rw [strs_len hys, List.length_map]; exact Nat.le_trans (List.length_take_le' _ _) hlen
      refine append_at (hsz := by show ys.toArray.size ≤ sizeLine; rw [List.size_toArray, sizeLine_eq]; omega) zD fun h6 hs6 hD6 => ?_
      have hDL : D ≠ L := (N5 _ mD).2.1
      have hDf : h₀.get? D = none := (N5 _ mD).2.2
      have hC5 := (N5 (C, oC) (.head _)).1
      refine ⟨us.length + 1 - (i + 1), by omega, h6, tk5, i + 1, ys ++ [.str (g k) u], _, oJ, rfl, hlt, rfl, ?_, (hNs.ns hC5).sameBut hs6 hDC.symm, F5.change hs6 hDL hDf, ?_, fun h e => ⟨oJ, e, hrJ⟩⟩
      · rw [List.take_add_one, hk, Option.toList_some, List.map_append]
        exact strs_snoc hys
      · refine List.forall_mem_cons.mpr ⟨⟨hD6.trans (congrArg some (lst_snoc ys _)), hDL, hDf⟩, ?_⟩
        refine List.forall_mem_cons.mpr ⟨⟨(hs6.2 I hDI.symm).trans (N5 _ mI).1, hIL, hIf⟩, ?_⟩
        exact fun p hp => ⟨(hs6.2 p.1 (hDnews p hp)).trans (N5 p (.tail _ (List.mem_append_left _ hp))).1, (N5 p (.tail _ (List.mem_append_left _ hp))).2⟩
  refine codeAny_compStart_list (loop _ ⟨_, rfl⟩) ?_
  exact wpAny_pyIter_listiter ⟨_, (N1 (I, _) (.tail _ (.head _))).1, rfl, rfl⟩ (loop _ ⟨_, rfl⟩)
end
end

section
open PySem PySem.W PySem.Spec PyProof.Rows
theorem rest_ULawF {prog : PySem.Program} {w : PySem.World} {A : PySem.Around} {env : PySem.Env} {Q : PySem.Flow → PySem.Shared → Prop} {E : PySem.Value → PySem.Shared → Prop} {s : PySem.Shared} (h : PySem.wpAny (PySem.model prog w) A (PySem.execs [] env) Q E s) : PySem.wpAny (PySem.model prog w) A (PySem.execs [] env) Q E s := by
  w_top off
  k_with_none
  first | (walk1; fail) | exact h
set_option maxRecDepth 100000
set_option maxHeartbeats 0
set_option pp.deepTerms false
/-- the text before it is sent -/
noncomputable def textOf (e : Str) (ns : List Int) : Str := Txt.join (Str.ofString "") (ns.map fun k => if k = 1 then Str.ofString "." else e)
theorem text_weight {e : Str} (he : e.length ≤ 2) : ∀ ns : List Int, ((ns.map fun k => if k = 1 then Str.ofString "." else e).map (·.length)).sum ≤ 2 * ns.length
  | [] => by simp
  | k :: ns => by
    have h := text_weight he ns
    simp only [List.map_cons, List.sum_cons, List.length_cons]
    have h1 : (if k = 1 then Str.ofString "." else e).length ≤ 2 := by
      split
      · decide
      · exact he
    omega
noncomputable abbrev rest5 (L D : Addr) (HA HB HC HD : Value) (h4 : Int) (t4 : Tok) (o1 o2 o3 o4 : Obj) : List (Addr × Obj) := [(D, W.listOf #[HA, HB, HC, HD, .int h4 t4] 5), (L + 1 + 1 + 1 + 1, o4), (L + 1 + 1 + 1, o3), (L + 1 + 1, o2), (L + 1, o1)]
noncomputable abbrev tab2 (ta tb tc td : Tok) (cS cR : Addr) : Obj := tabObj #[.int 127 ta, .int 13 tb, .ref cS, .int 128 tc, .int 18 td, .ref cR]
/-- the order that later lexers ask for -/
structure TabOrd (cS cR : Addr) (rest : List (Addr × Obj)) : Prop where
  a : OwnOff rest [187]
  b : OwnOff rest [cS]
  c : OwnOff rest [cR]
  d : @LT.lt Nat _ 187 cS ∧ @LT.lt Nat _ cS cR
end

section
open PySem PySem.W PySem.Spec PyProof.Rows
theorem rest_ULawS {prog : PySem.Program} {w : PySem.World} {A : PySem.Around} {env : PySem.Env} {Q : PySem.Flow → PySem.Shared → Prop} {E : PySem.Value → PySem.Shared → Prop} {s : PySem.Shared} (h : PySem.wpAny (PySem.model prog w) A (PySem.execs [] env) Q E s) : PySem.wpAny (PySem.model prog w) A (PySem.execs [] env) Q E s := by
  w_top off
  k_with_none
  first | (walk1; fail) | exact h
set_option maxRecDepth 100000
set_option maxHeartbeats 0
set_option pp.deepTerms false
local macro_rules | `(tactic| k_room) => `(tactic| ktr_room)
theorem rule_ULawS_1 : True := by
  k_with "call ref" => ((k_here; (with_reducible show wpAny _ _ (call (Value.ref _) _) _ _ _); refine CallAt.intro ?_))
  exact trivial
theorem rule_ULawS_2 : True := by
  k_with "exec For Name Call cons nil" => ((k_here; k_dflt (refine for_any ?_)))
  exact trivial
theorem rule_ULawS_3 : True := by
  k_with "exec For Name Name cons nil" => ((k_here; k_dflt (refine for_any ?_)))
  exact trivial
theorem rule_ULawS_4 : True := by
  k_with "loadName" => ((k_here; k_dflt (refine' ldnX ?F ?m ?_ ?a ?b; (case F => k_asm); (case m => exact rfl); (case a => rfl); (case b => rfl))))
  exact trivial
theorem ints_at : ∀ {vs : List Value} {ns : List Int} {i : Nat} {k : Int} {t : Tok}, IntsAre vs ns → vs[i]? = some (.int k t) → ns[i]? = some k
  | _, _, i, k, t, .nil, h => by simp at h
  | _, _, 0, k, t, .cons n u r, h => by simp at h; simp [h.1]
  | _, _, i + 1, k, t, .cons n u r, h => by simpa using ints_at r (by simpa using h)
theorem told_next {sd k : Int} {bits : List Int} {i : Nat} {told : Str} (h : told = toldF sd (bits.take i)) (hk : bits[i]? = some k) : toldStep sd told k = toldF sd (bits.take (i + 1)) := by
  rw [List.take_add_one, hk, toldF, Option.toList_some, List.foldl_append, h]
  rfl
theorem slim_fits {x y : Str} (hx : x.length ≤ 100) (hy : y.length ≤ 100) : x.length + y.length ≤ sizeLine := by rw [sizeLine_eq]; omega
theorem rule_ULawS_5 : True := by
  k_with "inplaceOp Add str str" => (((with_reducible show wpAny _ _ (inplaceOp _ (Value.str _ _) (Value.str _ _)) _ _ _); (refine SBL.iadd (hsz := ?hsz) ?_); (case hsz => first | exact slim_fits (by omega) (by first | decide | omega) | size_fits); intro _ _ _))
  exact trivial
inductive MailInv (sd give : Int) (f tx : Str) (ts tt tf tg : Tok) (D D3 : Addr) (bits : List Int) (news : List (Addr × Obj)) (i : Nat) (m : Str → Option Value) (nx : List (Addr × Obj)) : Prop
  | mk (told : Str) (t : Tok) (e0 : nx = news)
      (e1 : m "steps" = some (.ref D3))
      (e2 : m "sends" = some (.int sd ts))
      (e3 : m "text" = some (.str tx tt))
      (e4 : m "found" = some (.str f tf))
      (e5 : m "give" = some (.int give tg))
      (e6 : m "heaps" = some (.ref D))
      (e7 : m "told" = some (.str told t))
      (e8 : told = toldF sd (bits.take i))
      (e9 : told.length ≤ 4 * i)
theorem send_mail {w : World} {p : Program} {loose : List Str} {mean : ExcName → Option Value} {mg mb : Str → Option Value} {dp un : Nat} {gd : Option (List Code)} {L fa D D3 : Addr} {cd : Value} {outer : List Env} {A₀ : Around} {base h₀ : Heap} {m : Str → Option Value} {s : Shared} {Q : Flow → Shared → Prop} {E : Value → Shared → Prop}
    {sd give bas ov un_ : Int} {tx ml f : Str} {q : Nat → Str} {pl : List Int} {ts tt tg tf : Tok} {ys : List Value} {k3 : Nat} {bits : List Int} {news : List (Addr × Obj)}
    (SF : SendFacts give sd bas bits f tx q ml ov un_ pl)
    (B : Below A₀ base outer h₀) (F : Fr h₀ L s.heap m) (X : (hd.heap_39 w.params).In h₀) (N : News h₀ L s.heap news) (T : Top p loose mean mg mb h₀) (hC : CodeHd h₀ 191 187)
    (hm3 : (D3, W.listOf ys.toArray k3) ∈ news) (hys : IntsAre ys bits) (hbl : ys.length ≤ 4)
    (ms : m "steps" = some (.ref D3)) (msd : m "sends" = some (.int sd ts)) (mt : m "text" = some (.str tx tt)) (mgv : m "give" = some (.int give tg)) (mh : m "heaps" = some (.ref D)) (mf : m "found" = some (.str f tf))
    (hnext : ∀ h' tk m' tm tt', Fr h₀ L h' m' → News h₀ L h' news → m' "steps" = some (.ref D3) → m' "sends" = some (.int sd ts) → m' "text" = some (.str (q sd.toNat) tt') → m' "give" = some (.int give tg) → m' "heaps" = some (.ref D) → m' "found" = some (.str f tf) → m' "mail" = some (.str ml tm) →
      wpAny (model PySem.Challenge.rw_uc0020_01.row.prog w) (ktrTop dp un gd "law" lawScope L fa cd (lawCells L) outer) (execs (sendsBody.drop 5) (envX "law" lawScope L fa cd (lawCells L))) Q E { s with heap := h', toks := tk })
    (hd0 : dp + 200 < recursionLimit) (hu0 : un + 400 < cLine)
    (hE : PassesOwn (model PySem.Challenge.rw_uc0020_01.row.prog w) (ktrTop dp un gd "law" lawScope L fa cd (lawCells L) outer) (envX "law" lawScope L fa cd (lawCells L)) E) :
    wpAny (model PySem.Challenge.rw_uc0020_01.row.prog w) (ktrTop dp un gd "law" lawScope L fa cd (lawCells L) outer) (execs sendsBody (envX "law" lawScope L fa cd (lawCells L))) Q E s := by
  revert X
  k_fill
  intro X
  obtain ⟨sc, hsc⟩ : ∃ sc, lawScope = sc := ⟨_, rfl⟩
  obtain ⟨lb, hlb⟩ : ∃ lb, sendsBody = lb := ⟨_, rfl⟩
  obtain ⟨lb5, hlb5⟩ : ∃ lb, sendsBody.drop 5 = lb := ⟨_, rfl⟩
  rw [hsc] at hE hnext ⊢
  rw [hlb5] at hnext
  rw [hlb]
  conv at hsc => lhs; whnf
  conv at hlb => lhs; whnf
  conv at hlb5 => lhs; whnf
  subst hsc
  subst hlb
  subst hlb5
  have kMark := kstMark
  have hI0 : IntsAre [] [] := .nil
  have hS0 : StrsAre [] [] := .nil
  have lF := fr_kst [("steps", .ref D3), ("sends", .int sd ts), ("text", .str tx tt), ("found", .str f tf), ("give", .int give tg), ("heaps", .ref D)] (by simp [ms, msd, mt, mgv, mh, mf]) F
  clear F ms msd mt mgv mh mf
  have hsd := SF.hsd
  refine exec_split5 ?_
  k_steps
  (rename Fr _ _ _ _ => lF)
  (rename News _ _ _ _ => lN)
  refine led_at (l := D3) (items := ys.toArray) (nl := k3) (MailInv sd give f tx ts tt tf tg D D3 bits news) ?mem lF lN ?st rfl rfl hE rfl ?turn ?done
  case mem => rintro i m nx ⟨_, _, rfl, _⟩; exact hm3
  case st => exact ⟨_, _, rfl, rfl, rfl, rfl, rfl, rfl, rfl, rfl, rfl, by decide⟩
  case done =>
    clear lF lN
    rintro m₁ nx h tk ⟨told, t, rfl, m1, m2, m3, m4, m5, m6, m7, htold, htl⟩ F N
    have htold2 : told = ml := by
      rw [htold, List.take_of_length_le (by rw [List.size_toArray, IntsAre.length hys]; exact Nat.le_refl _), SF.told]
    subst htold2
    have F9 : Fr h₀ L h m₁ := F
    have lF := fr_kst (m := m₁) [("steps", .ref D3), ("sends", .int sd ts), ("text", .str tx tt), ("found", .str f tf), ("give", .int give tg), ("heaps", .ref D), ("told", .str told t)]
      (List.forall_mem_cons.mpr ⟨m1, List.forall_mem_cons.mpr ⟨m2, List.forall_mem_cons.mpr ⟨m3, List.forall_mem_cons.mpr ⟨m4, List.forall_mem_cons.mpr ⟨m5, List.forall_mem_cons.mpr ⟨m6, List.forall_mem_cons.mpr ⟨m7, fun _ hq => nomatch hq⟩⟩⟩⟩⟩⟩⟩) F9
    clear F F9 m1 m2 m3 m4 m5 m6 m7
    have N : News h₀ L h nx := N
    obtain ⟨sd0, sd1⟩ := hsd
    dsimp only
    k_steps
    (rename Fr _ _ _ _ => lF)
    (rename News _ _ _ _ => lN)
    (rename IsRange _ _ _ _ _ _ _ _ => rgX)
    let IV1 : Nat → (PySem.Str → Option PySem.Value) → List (PySem.Addr × PySem.Obj) → Prop := fun i m nx2 => ∃ tt', nx2 = nx ∧ m "steps" = some (.ref D3) ∧ m "sends" = some (.int sd ts) ∧ m "text" = some (.str (q i) tt') ∧ m "found" = some (.str f tf) ∧ m "give" = some (.int give tg) ∧ m "heaps" = some (.ref D) ∧ m "told" = some (.str told t)
    refine range_at (sd - 0).toNat IV1 rgX ?sm ?sz lF lN ?st2 rfl rfl hE rfl ?turn2 ?done2
    case sm => exact small_one (by omega) (by omega) (by omega) (by omega)
    case sz => exact rangeSize_nat _ _
    case st2 => exact ⟨_, rfl, rfl, rfl, by rw [SF.q0]; rfl, rfl, rfl, rfl, rfl⟩
    case turn2 =>
      clear lF lN rgX N
      rintro i ti m₁ nx2 h tk own hi hoff ⟨tt', rfl, m1, m2, m3, m4, m5, m6, m7⟩ F N
      have F9 : Fr h₀ L h (fun y => if y = Str.ofString "k" then some (.int (0 + (i : Int)) ti) else m₁ y) := F
      have lF := fr_kst (m := fun y => if y = Str.ofString "k" then some (.int (0 + (i : Int)) ti) else m₁ y) [("k", .int (0 + (i : Int)) ti), ("steps", .ref D3), ("sends", .int sd ts), ("text", .str (q i) tt'), ("found", .str f tf), ("give", .int give tg), ("heaps", .ref D), ("told", .str told t)] (List.forall_mem_cons.mpr ⟨rfl, List.forall_mem_cons.mpr ⟨m1, List.forall_mem_cons.mpr ⟨m2, List.forall_mem_cons.mpr ⟨m3, List.forall_mem_cons.mpr ⟨m4, List.forall_mem_cons.mpr ⟨m5, List.forall_mem_cons.mpr ⟨m6, List.forall_mem_cons.mpr ⟨m7, fun _ hq => nomatch hq⟩⟩⟩⟩⟩⟩⟩⟩) F9
      clear F F9 m1 m2 m3 m4 m5 m6 m7
      have hi2 : i < sd.toNat := by omega
      obtain ⟨y, hy1, hy2, hy3, hy4⟩ := SF.qs i hi2
      k_steps
      (rename Fr _ _ _ _ => lF)
      (rename News _ _ _ _ => lN)
      unfold CallAt
      refine' quote_claim _ (q i) y (q (i + 1)) _ _ _ _ _ _ _ _ _ _ _ _ _ _ _ _ _ _ ?kB ?kF ?kK ?kN ?kT ?kc ?kp ?kd ?ku ?_
      case kB => exact B
      case kF => exact lF
      case kK => exact X
      case kN => exact lN
      case kT => exact T
      case kc => rfl
      case kp => exact ⟨hy1, hy2, hy3, hy4⟩
      case kd => ktr_room
      case ku => ktr_units
      clear lN lF
      dsimp only [RetStr]
      intro t8 h8 tk8 lF lN
      k_steps
      (rename Fr _ _ _ _ => lF)
      (rename News _ _ _ _ => lN)
      exact ⟨_, _, _, nx2, rfl, lF, lN, hoff, ⟨_, rfl, rfl, rfl, rfl, rfl, rfl, rfl, rfl⟩⟩
    case done2 =>
      clear lF lN rgX N
      rintro m₁ nx2 h tk ⟨tt', rfl, m1, m2, m3, m4, m5, m6, m7⟩ F N
      have e0 : (sd - 0).toNat = sd.toNat := by omega
      rw [e0] at m3
      have F9 : Fr h₀ L h m₁ := F
      have lF := fr_kst (m := m₁) [("steps", .ref D3), ("sends", .int sd ts), ("text", .str (q sd.toNat) tt'), ("found", .str f tf), ("give", .int give tg), ("heaps", .ref D), ("told", .str told t)]
        (List.forall_mem_cons.mpr ⟨m1, List.forall_mem_cons.mpr ⟨m2, List.forall_mem_cons.mpr ⟨m3, List.forall_mem_cons.mpr ⟨m4, List.forall_mem_cons.mpr ⟨m5, List.forall_mem_cons.mpr ⟨m6, List.forall_mem_cons.mpr ⟨m7, fun _ hq => nomatch hq⟩⟩⟩⟩⟩⟩⟩) F9
      clear F F9 m1 m2 m3 m4 m5 m6 m7
      have N : News h₀ L h nx2 := N
      dsimp only
      k_steps
      · exact absurd ‹(q sd.toNat != told) = true› (by rw [← SF.pos (by omega)]; simp)
      · (rename Fr _ _ _ _ => lF)
        (rename News _ _ _ _ => lN)
        have e := SF.pos (by omega)
        exact hnext _ _ _ _ _ lF lN rfl rfl rfl rfl rfl rfl (by rw [e]; rfl)
      · (rename Fr _ _ _ _ => lF)
        (rename News _ _ _ _ => lN)
        unfold CallAt
        have sdz : sd = 0 := by omega
        obtain ⟨z1, z2⟩ := SF.zero sdz
        have q0 := SF.q0
        have e1 : q sd.toNat = tx := by rw [sdz]; exact q0
        refine' fix_claim _ (q sd.toNat) told _ _ _ _ _ _ _ _ _ _ _ _ _ _ _ _ _ _ ?kB ?kF ?kK ?kN ?kT ?kc ?kp ?kd ?ku ?_
        case kB => exact B
        case kF => exact lF
        case kK => exact X
        case kN => exact lN
        case kT => exact T
        case kc => rfl
        case kp => rw [e1]; exact ⟨z1, z2⟩
        case kd => ktr_room
        case ku => ktr_units
        clear lN lF
        dsimp only [RetStr]
        intro t8 h8 tk8 lF lN
        k_steps
        · exact absurd ‹(told != told) = true› (by simp)
        · (rename Fr _ _ _ _ => lF)
          (rename News _ _ _ _ => lN)
          exact hnext _ _ _ _ _ lF lN rfl rfl rfl rfl rfl rfl rfl
  case turn =>
    clear lF lN
    rintro i v m₁ nx h tk own hv hoff ⟨told, t, rfl, m1, m2, m3, m4, m5, m6, m7, htold, htl⟩ F N
    have F9 : Fr h₀ L h (fun y => if y = Str.ofString "step" then some v else m₁ y) := F
    have lF := fr_kst (m := fun y => if y = Str.ofString "step" then some v else m₁ y) [("step", v), ("steps", .ref D3), ("sends", .int sd ts), ("text", .str tx tt), ("found", .str f tf), ("give", .int give tg), ("heaps", .ref D), ("told", .str told t)]
      (List.forall_mem_cons.mpr ⟨rfl, List.forall_mem_cons.mpr ⟨m1, List.forall_mem_cons.mpr ⟨m2, List.forall_mem_cons.mpr ⟨m3, List.forall_mem_cons.mpr ⟨m4, List.forall_mem_cons.mpr ⟨m5, List.forall_mem_cons.mpr ⟨m6, List.forall_mem_cons.mpr ⟨m7, fun _ hq => nomatch hq⟩⟩⟩⟩⟩⟩⟩⟩) F9
    clear F F9
    obtain ⟨k, tv, rfl⟩ := mem_ints hys v (by have := Array.mem_of_getElem? hv; simpa using this)
    have hi4 : i < 4 := by
      have := (Array.getElem?_eq_some_iff.mp hv).1
      rw [List.size_toArray] at this
      omega
    have htl2 : told.length ≤ 16 := by omega
    obtain ⟨sd0, sd1⟩ := hsd
    k_steps
    have hnx := told_next htold (ints_at hys (by simpa using hv))
    have l1 : (Str.ofString "\r\n").length = 2 := by decide
    have l2 : (Str.ofString ".").length = 1 := by decide
    · (rename Fr _ _ _ _ => lF)
      (rename News _ _ _ _ => lN)
      rw [toldStep, if_pos (by assumption)] at hnx
      exact ⟨_, _, _, nx, rfl, lF, lN, hoff, ⟨_, _, rfl, rfl, rfl, rfl, rfl, rfl, rfl, rfl, hnx, by omega⟩⟩
    · (rename Fr _ _ _ _ => lF)
      (rename News _ _ _ _ => lN)
      have hnx := told_next htold (ints_at hys (by simpa using hv))
      have l2 : (Str.ofString ".").length = 1 := by decide
      rw [toldStep, if_neg (by assumption), if_pos (by simpa using ‹(Txt.slice told _ _ == _) = true›)] at hnx
      exact ⟨_, _, _, nx, rfl, lF, lN, hoff, ⟨_, _, rfl, rfl, rfl, rfl, rfl, rfl, rfl, rfl, hnx, by omega⟩⟩
    · (rename Fr _ _ _ _ => lF)
      (rename News _ _ _ _ => lN)
      have hnx := told_next htold (ints_at hys (by simpa using hv))
      rw [toldStep, if_neg (by assumption), if_neg (by simpa using ‹(Txt.slice told _ _ == _) = false›)] at hnx
      exact ⟨_, _, _, nx, rfl, lF, lN, hoff, ⟨_, _, rfl, rfl, rfl, rfl, rfl, rfl, rfl, rfl, hnx, by omega⟩⟩
end

section
open PySem PySem.W PySem.Spec PyProof.Rows
theorem rest_ULawL {prog : PySem.Program} {w : PySem.World} {A : PySem.Around} {env : PySem.Env} {Q : PySem.Flow → PySem.Shared → Prop} {E : PySem.Value → PySem.Shared → Prop} {s : PySem.Shared} (h : PySem.wpAny (PySem.model prog w) A (PySem.execs [] env) Q E s) : PySem.wpAny (PySem.model prog w) A (PySem.execs [] env) Q E s := by
  w_top off
  k_with_none
  first | (walk1; fail) | exact h
set_option maxRecDepth 100000
set_option maxHeartbeats 0
set_option pp.deepTerms false
theorem tokB_facts : ∀ (xs : List Str) (ln : Int) (tok : Str), Mail xs → Mail (tokB ln tok xs).2.2 ∧ (tokB ln tok xs).2.2.length ≤ xs.length ∧ (tokB ln tok xs).1.length ≤ tok.length + xs.length
  | [], ln, tok, h => ⟨h, Nat.le_refl _, Nat.le_refl _⟩
  | x :: xs, ln, tok, h => by
    rw [tokB]
    split
    · exact ⟨h.tail, by simp, by simp⟩
    · obtain ⟨h1, h2, h3⟩ := tokB_facts xs ln (tok ++ x) h.tail
      have hx : x.length = 1 := by rcases h.ok x (.head _) with rfl | rfl | rfl <;> decide
      rw [PySem.Str.length_append] at h3
      refine ⟨h1, ?_, ?_⟩
      · simp only [List.length_cons]; omega
      · simp only [List.length_cons]; omega
theorem tokA_facts : ∀ (xs : List Str) (ln : Int), Mail xs → Mail (tokA ln xs).2.2 ∧ (tokA ln xs).2.2.length ≤ xs.length ∧ (tokA ln xs).1.length ≤ xs.length
  | [], ln, h => ⟨h, Nat.le_refl _, by simp [tokA]; decide⟩
  | x :: xs, ln, h => by
    rw [tokA]
    split
    · obtain ⟨h1, h2, h3⟩ := tokA_facts xs (lineF ln (x :: xs)) h.tail
      refine ⟨h1, ?_, ?_⟩
      · simp only [List.length_cons]; omega
      · simp only [List.length_cons]; omega
    · obtain ⟨h1, h2, h3⟩ := tokB_facts xs ln x h.tail
      have hx : x.length = 1 := by rcases h.ok x (.head _) with rfl | rfl | rfl <;> decide
      refine ⟨h1, ?_, ?_⟩
      · simp only [List.length_cons]; omega
      · simp only [List.length_cons]; omega
theorem lineF_le (ln : Int) (xs : List Str) : ln ≤ lineF ln xs ∧ lineF ln xs ≤ ln + 1 := by
  unfold lineF
  split <;> omega
theorem tokB_line : ∀ (xs : List Str) (ln : Int) (tok : Str), ln ≤ (tokB ln tok xs).2.1 ∧ (tokB ln tok xs).2.1 ≤ ln + xs.length
  | [], ln, tok => ⟨Int.le_refl _, by simp [tokB]⟩
  | x :: xs, ln, tok => by
    rw [tokB]
    have h := lineF_le ln (x :: xs)
    have h2 := tokB_line xs ln (tok ++ x)
    simp only [List.length_cons]
    split
    · dsimp only; omega
    · omega
theorem tokA_line : ∀ (xs : List Str) (ln : Int), ln ≤ (tokA ln xs).2.1 ∧ (tokA ln xs).2.1 ≤ ln + xs.length
  | [], ln => ⟨Int.le_refl _, by simp [tokA]⟩
  | x :: xs, ln => by
    rw [tokA]
    have h := lineF_le ln (x :: xs)
    have h2 := tokB_line xs ln x
    have h3 := tokA_line xs (lineF ln (x :: xs))
    simp only [List.length_cons]
    split <;> omega
theorem lex_line2 {l I dI dS R S D cel cS cR : Addr} {news : List (Addr × Obj)} {o o1 o2 : Obj} (h : LexOrd2 l I dI dS R S D cel cS cR news) (lo : TabOrd cS cR news) : CharOrd R D cel cR I dI dS S ((l, o) :: (187, o1) :: (cS, o2) :: news) := by
  obtain ⟨⟨a1, a2, a3, a4, a5, a6, a7, a8, a9, a10, a11⟩, b, ⟨c1, c2, c3, c4, c5, c6, c7, c8, c9, c10⟩⟩ := h
  have r1 : ∀ p ∈ news, @LT.lt Nat _ p.1 cel := allLt_to b
  refine ⟨⟨Nat.ne_of_lt (by omega), Nat.ne_of_gt c4, Nat.ne_of_gt (by omega), Nat.ne_of_lt (by omega), Nat.ne_of_lt (by omega), Nat.ne_of_lt (by omega), Nat.ne_of_lt (by omega)⟩, ⟨Nat.ne_of_gt (by omega), Nat.ne_of_gt (by omega), Nat.ne_of_gt (by omega), Ne.symm c10, Nat.ne_of_gt (by omega), Nat.ne_of_gt (by omega)⟩, ?_⟩
  intro p hp x hx
  simp only [List.mem_cons, List.not_mem_nil, or_false] at hx
  rcases List.mem_cons.mp hp with rfl | hp
  · rcases hx with rfl | rfl
    · exact Nat.ne_of_gt a6
    · exact Nat.ne_of_gt a2
  · rcases List.mem_cons.mp hp with rfl | hp
    · rcases hx with rfl | rfl
      · exact Nat.ne_of_lt (by dsimp only; omega)
      · exact Nat.ne_of_lt (by dsimp only; omega)
    · rcases List.mem_cons.mp hp with rfl | hp
      · rcases hx with rfl | rfl
        · exact Nat.ne_of_lt (by dsimp only; omega)
        · exact Nat.ne_of_lt (by dsimp only; omega)
      · have h1 := r1 p hp
        rcases hx with rfl | rfl
        · exact Nat.ne_of_lt (by omega)
        · exact Nat.ne_of_lt (by omega)
theorem perm_second {h : Heap} {h₀ : Heap} {L : Addr} {l I dI dS R cR S cS D cel t : Addr × Obj} {rest : List (Addr × Obj)} (N : News h₀ L h (l :: I :: dI :: dS :: R :: S :: D :: cel :: t :: cS :: cR :: rest)) :
    News h₀ L h (R :: D :: cel :: cR :: I :: dI :: dS :: S :: l :: t :: cS :: rest) := by
  repeat refine List.forall_mem_cons.mpr ⟨N _ (by repeat (first | exact List.Mem.head _ | refine List.Mem.tail _ ?_)), ?_⟩
  exact fun p hp => N p (by repeat (first | exact hp | refine List.Mem.tail _ ?_))
theorem perm_third {h : Heap} {h₀ : Heap} {L : Addr} {l I dI dS R cR S cS D cel t : Addr × Obj} {rest : List (Addr × Obj)} (N : News h₀ L h (R :: D :: cel :: cR :: I :: dI :: dS :: S :: l :: t :: cS :: rest)) :
    News h₀ L h (t :: cS :: cR :: rest) := by
  repeat refine List.forall_mem_cons.mpr ⟨N _ (by repeat (first | exact List.Mem.head _ | refine List.Mem.tail _ ?_)), ?_⟩
  exact fun p hp => N p (by repeat (first | exact hp | refine List.Mem.tail _ ?_))
local macro_rules | `(tactic| k_room) => `(tactic| ktr_room)
theorem rule_ULawL_1 : True := by
  k_with "call ref" => ((k_here; (with_reducible show wpAny _ _ (call (Value.ref _) _) _ _ _); refine CallAt.intro ?_))
  exact trivial
theorem rule_ULawL_2 : True := by
  k_with "exec While" => ((k_here; k_dflt (refine while_any ?_)))
  exact trivial
theorem rule_ULawL_3 : True := by
  k_with "exec While Compare" => ((k_here; k_dflt (refine while_any ?_)))
  exact trivial
theorem rule_ULawL_4 : True := by
  k_with "loadName" => ((k_here; k_dflt (refine' ldnX ?F ?m ?_ ?a ?b; (case F => k_asm); (case m => exact rfl); (case a => rfl); (case b => rfl))))
  exact trivial
inductive LexInv (w : World) (s : Shared) (h₀ : Heap) (L : Addr) (OV UN sd give : Int) (f ml : Str) (vt : Value) (ts tf tg tm : Tok) (R D D2 D3 I dI dS S l cS : Addr) (q1 q2 : Str) (cel : Addr) (pm1 pm2 : Value) (cR : Addr) (ct1 ct2 : Value) (ocell ocR ocS : Obj) (k6 ta tb2 tc td2 : Tok) (news : List (Addr × Obj)) (n : Nat) (s' : Shared) : Prop
  | mk (ov un_ lnr : Int) (wd : Str) (xs : List Str) (vs : List Value) (n' fuel : Nat) (k0 k1 k2 k3 k4 k5 to tu tr tw : Tok) (h : Heap) (tk : Nat) (m : Str → Option Value) (e0 : s' = { s with heap := h, toks := tk })
      (e1 : Fr h₀ L h m)
      (e2 : News h₀ L h (coreL w lnr vs n' R D2 I dI dS S l q1 q2 cel pm1 pm2 cR cS ct1 ct2 ocell ocR k0 k1 k2 k3 k4 k5 k6 ((l, W.listOf #[] 0) :: (187, tab2 ta tb2 tc td2 cS cR) :: (cS, ocS) :: news)))
      (e3 : m "steps" = some (.ref D3))
      (e4 : m "sends" = some (.int sd ts))
      (e5 : m "text" = some vt)
      (e6 : m "found" = some (.str f tf))
      (e7 : m "give" = some (.int give tg))
      (e8 : m "heaps" = some (.ref D))
      (e9 : m "mail" = some (.str ml tm))
      (e10 : m "lexer" = some (.ref I))
      (e11 : m "over" = some (.int ov to))
      (e12 : m "under" = some (.int un_ tu))
      (e13 : m "row" = some (.int lnr tr))
      (e14 : m "word" = some (.str wd tw))
      (e15 : StrsAre vs xs)
      (e16 : Mail xs)
      (e17 : xs.length ≤ 900)
      (e18 : ((wd ≠ Str.ofString "" ∧ lexLoop fuel ov un_ lnr xs = some (OV, UN) ∧ n = fuel + 1) ∨ (wd = Str.ofString "" ∧ ov = OV ∧ un_ = UN ∧ n = 0)))
theorem send_lex {w : World} {p : Program} {loose : List Str} {mean : ExcName → Option Value} {mg mb : Str → Option Value} {dp un : Nat} {gd : Option (List Code)} {L fa D D3 : Addr} {cd : Value} {outer : List Env} {A₀ : Around} {base h₀ : Heap} {m : Str → Option Value} {s : Shared} {Q : Flow → Shared → Prop} {E : Value → Shared → Prop}
    {sd give bas OV UN : Int} {tx ml f : Str} {q : Nat → Str} {pl : List Int} {ts tt tg tf tm : Tok} {bits : List Int} {news : List (Addr × Obj)} {cR cS : Addr} {ocR ocS : Obj} {ta tb2 tc td2 : Tok} {vt : Value}
    (SF : SendFacts give sd bas bits f tx q ml OV UN pl)
    (lo : TabOrd cS cR news) (lR : LamCode lamQual ocR) (lS : LamCode lamQual ocS)
    (B : Below A₀ base outer h₀) (F : Fr h₀ L s.heap m) (X : (hd.heap_39 w.params).In h₀) (N : News h₀ L s.heap ((187, tab2 ta tb2 tc td2 cS cR) :: (cS, ocS) :: (cR, ocR) :: news)) (T : Top p loose mean mg mb h₀) (hC : CodeHd h₀ 191 187)
    (ms : m "steps" = some (.ref D3)) (msd : m "sends" = some (.int sd ts)) (mt : m "text" = some vt) (mgv : m "give" = some (.int give tg)) (mh : m "heaps" = some (.ref D)) (mf : m "found" = some (.str f tf)) (mm : m "mail" = some (.str ml tm))
    (hnext : ∀ h' tk m' to tu, Fr h₀ L h' m' → News h₀ L h' ((187, tab2 ta tb2 tc td2 cS cR) :: (cS, ocS) :: (cR, ocR) :: news) → m' "steps" = some (.ref D3) → m' "text" = some vt → m' "give" = some (.int give tg) → m' "heaps" = some (.ref D) → m' "found" = some (.str f tf) → m' "mail" = some (.str ml tm) → m' "over" = some (.int OV to) → m' "under" = some (.int UN tu) →
      wpAny (model PySem.Challenge.rw_uc0020_01.row.prog w) (ktrTop dp un gd "law" lawScope L fa cd (lawCells L) outer) (execs (sendsBody.drop 11) (envX "law" lawScope L fa cd (lawCells L))) Q E { s with heap := h', toks := tk })
    (hd0 : dp + 200 < recursionLimit) (hu0 : un + 400 < cLine)
    (hE : PassesOwn (model PySem.Challenge.rw_uc0020_01.row.prog w) (ktrTop dp un gd "law" lawScope L fa cd (lawCells L) outer) (envX "law" lawScope L fa cd (lawCells L)) E) :
    wpAny (model PySem.Challenge.rw_uc0020_01.row.prog w) (ktrTop dp un gd "law" lawScope L fa cd (lawCells L) outer) (execs (sendsBody.drop 5) (envX "law" lawScope L fa cd (lawCells L))) Q E s := by
  revert X
  k_fill
  intro X
  obtain ⟨sc, hsc⟩ : ∃ sc, lawScope = sc := ⟨_, rfl⟩
  obtain ⟨lb, hlb⟩ : ∃ lb, sendsBody.drop 5 = lb := ⟨_, rfl⟩
  obtain ⟨lb5, hlb5⟩ : ∃ lb, sendsBody.drop 11 = lb := ⟨_, rfl⟩
  rw [hsc] at hE hnext ⊢
  rw [hlb5] at hnext
  rw [hlb]
  conv at hsc => lhs; whnf
  conv at hlb => lhs; whnf
  conv at hlb5 => lhs; whnf
  subst hsc
  subst hlb
  subst hlb5
  have kMark := kstMark
  have hI0 : IntsAre [] [] := .nil
  have hS0 : StrsAre [] [] := .nil
  have lF := fr_kst [("steps", .ref D3), ("sends", .int sd ts), ("text", vt), ("found", .str f tf), ("give", .int give tg), ("heaps", .ref D), ("mail", .str ml tm)] (by simp [ms, msd, mt, mgv, mh, mf, mm]) F
  clear F ms msd mt mgv mh mf mm
  refine exec_split6 ?_
  k_steps
  (rename Fr _ _ _ _ => lF)
  (rename News _ _ _ _ => lN)
  unfold CallAt
  refine' lexer_claim2 news cS cR ocS ocR _ _ _ _ _ _ _ _ _ _ _ _ _ _ _ _ _ _ _ _ _ _ _ ?kB ?kF ?kK ?kN ?kT ?kc ?kp ?kd ?ku ?_
  case kB => exact B
  case kF => exact lF
  case kK => exact X
  case kN => exact lN
  case kT => exact T
  case kc => rfl
  case kp => exact ⟨Nat.le_trans SF.mlen (by decide), SF.asc, hC, lo.a, lo.b, lo.c, lS, lR, lo.d.1, lo.d.2⟩
  case kd => ktr_room
  case ku => ktr_units
  clear lN lF
  dsimp only [RetLex2]
  intro l I dI dS R S D2 cel q1 q2 ocell pm1 pm2 ct1 ct2 vs n h' tk k0 k1 k2 k3 k4 k5 k6 lF lN hsv hcell hq1 hq2 lord
  have N0 := perm_second lN
  clear lN
  k_steps
  (rename Fr _ _ _ _ => lF)
  (rename News _ _ _ _ => lN)
  let IV1 : Nat → PySem.Shared → Prop := LexInv w s h₀ L OV UN sd give f ml vt ts tf tg tm R D D2 D3 I dI dS S l cS q1 q2 cel pm1 pm2 cR ct1 ct2 ocell ocR ocS k6 ta tb2 tc td2 news
  refine while_at IV1 51 ?st hE ?turn
  case st =>
    exact ⟨give, give, 1, _, signs ml, vs, n, 50, _, _, _, _, _, _, _, _, _, _, _, _, _, rfl, lF, lN, rfl, rfl, rfl, rfl, rfl, rfl, rfl, rfl, rfl, rfl, rfl, rfl, hsv, SF.mail, by rw [PyProof.Rows.signs_length]; exact SF.mlen, .inl ⟨by decide, SF.run, rfl⟩⟩
  case turn =>
    clear lF lN
    rintro n9 s' ⟨ov, un_, lnr, wd, xs, vs, n, fuel, k0, k1, k2, k3, k4, k5, to, tu, tr, tw, h, tk, m, rfl, F, N, m1, m2, m3, m4, m5, m6, m7, m8, m9, m10, m11, m12, hsv, hmail, hxl, hmode⟩
    have lF := fr_kst (m := m) [("steps", .ref D3), ("sends", .int sd ts), ("text", vt), ("found", .str f tf), ("give", .int give tg), ("heaps", .ref D), ("mail", .str ml tm), ("lexer", .ref I), ("over", .int ov to), ("under", .int un_ tu), ("row", .int lnr tr), ("word", .str wd tw)] (List.forall_mem_cons.mpr ⟨m1, List.forall_mem_cons.mpr ⟨m2, List.forall_mem_cons.mpr ⟨m3, List.forall_mem_cons.mpr ⟨m4, List.forall_mem_cons.mpr ⟨m5, List.forall_mem_cons.mpr ⟨m6, List.forall_mem_cons.mpr ⟨m7, List.forall_mem_cons.mpr ⟨m8, List.forall_mem_cons.mpr ⟨m9, List.forall_mem_cons.mpr ⟨m10, List.forall_mem_cons.mpr ⟨m11, List.forall_mem_cons.mpr ⟨m12, fun _ hq => nomatch hq⟩⟩⟩⟩⟩⟩⟩⟩⟩⟩⟩⟩) F
    clear F m1 m2 m3 m4 m5 m6 m7 m8 m9 m10 m11 m12
    dsimp only [coreL] at N
    rcases hmode with ⟨hwd, hrun, rfl⟩ | ⟨rfl, rfl, rfl, rfl⟩
    · k_steps
      unfold TestPost
      rw [if_pos (by simpa using hwd)]
      k_steps
      (rename Fr _ _ _ _ => lF)
      (rename News _ _ _ _ => lN)
      unfold CallAt
      obtain ⟨g1, g2, g3⟩ := tokA_facts xs lnr hmail
      obtain ⟨g4, g5⟩ := tokA_line xs lnr
      have hvl : vs.length ≤ 1000 := by rw [strsAre_len hsv]; omega
      refine' tok_claim lnr xs vs ((187, tab2 ta tb2 tc td2 cS cR) :: (cS, ocS) :: news) _ _ _ _ _ _ _ _ _ _ _ _ _ _ _ _ _ ?kB ?kF ?kK ?kN ?kT ?kc ?kp ?kd ?ku ?_
      case kB => exact B
      case kF => exact lF
      case kK => exact X
      case kN => exact lN
      case kT => exact T
      case kc => rfl
      case kp => exact ⟨hsv, hvl, hcell, by rw [hq1]; exact lR, hmail, lex_line2 lord lo⟩
      case kd => ktr_room
      case ku => ktr_units
      clear lN lF
      dsimp only [RetTok]
      intro vs2 n2 t8 h8 tk8 k0 k1 k2 k3 k4 k5 lF lN hsv2
      dsimp only [coreL] at lN
      generalize hr : tokA lnr xs = r at g1 g2 g3 g4 g5 hsv2 lN lF ⊢
      obtain ⟨tok, ln2, xs2⟩ := r
      dsimp only at g1 g2 g3 g4 g5 hsv2 lN lF ⊢
      have htk : tok.length ≤ 900 := by omega
      have hln : 0 ≤ ln2 - lnr ∧ ln2 - lnr ≤ 900 := by omega
      obtain ⟨hl1, hl2⟩ := hln
      k_steps
      (rename Fr _ _ _ _ => lF)
      (rename News _ _ _ _ => lN)
      cases fuel with
      | zero => cases hrun
      | succ fuel =>
        rw [lexLoop, hr] at hrun
        dsimp only at hrun
        by_cases htok : tok = Str.ofString ""
        · rw [if_pos htok] at hrun
          injection hrun with hrun
          injection hrun with e1 e2
          exact ⟨0, by omega, _, _, ln2, tok, xs2, vs2, n2, 0, k0, k1, k2, k3, k4, k5, _, _, _, _, _, _, _, rfl, lF, lN, rfl, rfl, rfl, rfl, rfl, rfl, rfl, rfl, rfl, rfl, rfl, rfl, hsv2, g1, by omega, .inr ⟨htok, e1, e2, rfl⟩⟩
        · rw [if_neg htok] at hrun
          exact ⟨fuel + 1, by omega, _, _, ln2, tok, xs2, vs2, n2, fuel, k0, k1, k2, k3, k4, k5, _, _, _, _, _, _, _, rfl, lF, lN, rfl, rfl, rfl, rfl, rfl, rfl, rfl, rfl, rfl, rfl, rfl, rfl, hsv2, g1, by omega, .inl ⟨htok, hrun, rfl⟩⟩
    · obtain ⟨u1, u2, u3, u4⟩ := SF.ub
      have u5 : un_ < 524288 := u2
      k_steps
      unfold TestPost
      rw [if_neg (by decide)]
      dsimp only
      k_steps
      · exact absurd ‹(f != _) = true› (by rw [SF.found (by assumption)]; simp [dotsA])
      · (rename Fr _ _ _ _ => lF)
        (rename News _ _ _ _ => lN)
        exact hnext _ _ _ _ _ lF (perm_third lN) rfl rfl rfl rfl rfl rfl rfl rfl
      · (rename Fr _ _ _ _ => lF)
        (rename News _ _ _ _ => lN)
        exact hnext _ _ _ _ _ lF (perm_third lN) rfl rfl rfl rfl rfl rfl rfl rfl
end

section
open PySem PySem.W PySem.Spec PyProof.Rows
theorem rest_ULawN {prog : PySem.Program} {w : PySem.World} {A : PySem.Around} {env : PySem.Env} {Q : PySem.Flow → PySem.Shared → Prop} {E : PySem.Value → PySem.Shared → Prop} {s : PySem.Shared} (h : PySem.wpAny (PySem.model prog w) A (PySem.execs [] env) Q E s) : PySem.wpAny (PySem.model prog w) A (PySem.execs [] env) Q E s := by
  w_top off
  k_with_none
  first | (walk1; fail) | exact h
set_option maxRecDepth 100000
set_option maxHeartbeats 0
set_option pp.deepTerms false
theorem pow_le_2048 {b : Int} (h : b ≤ 11) : 0 < (2 : Int) ^ b.toNat ∧ (2 : Int) ^ b.toNat ≤ 2048 := by
  have hb : b.toNat < 12 := by omega
  have key : ∀ n : Fin 12, 0 < (2 : Int) ^ n.1 ∧ (2 : Int) ^ n.1 ≤ 2048 := by decide
  exact key ⟨_, hb⟩
theorem name_short {p : Int} (h0 : 0 ≤ p) (h1 : p < 64) : (lawName p).length ≤ 64 := by
  have key : ∀ n : Fin 64, (lawName (n.1 : Int)).length ≤ 64 := by decide +kernel
  have := key ⟨p.toNat, by omega⟩
  rw [show (((⟨p.toNat, by omega⟩ : Fin 64).1 : Nat) : Int) = p from Int.toNat_of_nonneg h0] at this
  exact this
theorem sum_short : ∀ {l : List Str}, (∀ x ∈ l, x.length ≤ 64) → (l.map (·.length)).sum ≤ 64 * l.length
  | [], _ => by simp
  | x :: l, h => by
    have h1 := sum_short fun y hy => h y (List.mem_cons_of_mem x hy)
    have h2 := h x (.head _)
    simp only [List.map_cons, List.sum_cons, List.length_cons]
    omega
theorem num_next {x : Str} {i k : Nat} {nm : Int} (h : nm = ((signs x).take i).foldl numStep 1) (hk : x.cps[i]? = some k) : numStep nm ⟨#[k]⟩ = ((signs x).take (i + 1)).foldl numStep 1 := by
  have e : (signs x)[i]? = some ⟨#[k]⟩ := by
    have : x.cps.toList[i]? = some k := by rw [Array.getElem?_toList]; exact hk
    simp [signs, this]
  rw [List.take_add_one, e, Option.toList_some, List.foldl_append, ← h]
  rfl
local macro_rules | `(tactic| k_room) => `(tactic| ktr_room)
theorem rule_ULawN_1 : True := by
  k_with "call ref" => ((k_here; (with_reducible show wpAny _ _ (call (Value.ref _) _) _ _ _); refine CallAt.intro ?_))
  exact trivial
theorem rule_ULawN_2 : True := by
  k_with "exec For Name Call cons nil" => ((k_here; k_dflt (refine for_any ?_)))
  exact trivial
theorem rule_ULawN_3 : True := by
  k_with "loadName" => ((k_here; k_dflt (refine' ldnX ?F ?m ?_ ?a ?b; (case F => k_asm); (case m => exact rfl); (case a => rfl); (case b => rfl))))
  exact trivial
theorem rule_ULawN_4 : True := by
  k_with "eval ListComp" => ((k_here; k_dflt (refine elem_comp (by k_asm) rfl rfl (by decide) rfl (by decide) rfl ?_)))
  exact trivial
inductive NumInv (give : Int) (f ml : Str) (vt : Value) (tf tg tm to tu : Tok) (D D3 L : Addr) (o3 : Obj) (OV UN : Int) (news : List (Addr × Obj)) (i : Nat) (m : Str → Option Value) (nx : List (Addr × Obj)) : Prop
  | mk (nm : Int) (tn : Tok) (e0 : nx = (L + 1 + 1 + 1, o3) :: news)
      (e1 : m "steps" = some (.ref D3))
      (e2 : m "text" = some vt)
      (e3 : m "found" = some (.str f tf))
      (e4 : m "give" = some (.int give tg))
      (e5 : m "heaps" = some (.ref D))
      (e6 : m "mail" = some (.str ml tm))
      (e7 : m "over" = some (.int OV to))
      (e8 : m "under" = some (.int UN tu))
      (e9 : m "number" = some (.int nm tn))
      (e10 : nm = ((signs (Txt.replace ml (Str.ofString "\r") (Str.ofString ""))).take i).foldl numStep 1)
theorem send_num {w : World} {p : Program} {loose : List Str} {mean : ExcName → Option Value} {mg mb : Str → Option Value} {dp un : Nat} {gd : Option (List Code)} {L fa D D3 : Addr} {cd : Value} {outer : List Env} {A₀ : Around} {base h₀ : Heap} {m : Str → Option Value} {s : Shared} {Q : Flow → Shared → Prop} {E : Value → Shared → Prop}
    {sd give bas OV UN : Int} {tx ml f : Str} {q : Nat → Str} {pl : List Int} {tg tf tm : Tok} {bits : List Int} {news : List (Addr × Obj)} {vt : Value} {o3 : Obj} {tb to tu : Tok}
    (SF : SendFacts give sd bas bits f tx q ml OV UN pl)
    (B : Below A₀ base outer h₀) (F : Fr h₀ L s.heap m) (X : (hd.heap_39 w.params).In h₀) (N : News h₀ L s.heap ((L + 1 + 1 + 1, o3) :: news)) (T : Top p loose mean mg mb h₀) (hC : CodeHd h₀ 191 187) (hc3 : o3.data = .cell (some (.int bas tb)))
    (mo : m "over" = some (.int OV to)) (mu : m "under" = some (.int UN tu)) (ms : m "steps" = some (.ref D3)) (mt : m "text" = some vt) (mgv : m "give" = some (.int give tg)) (mh : m "heaps" = some (.ref D)) (mf : m "found" = some (.str f tf)) (mm : m "mail" = some (.str ml tm))
    (hnext : ∀ h' tk m', Fr h₀ L h' m' → News h₀ L h' ((L + 1 + 1 + 1, o3) :: news) → m' "steps" = some (.ref D3) → m' "text" = some vt → m' "give" = some (.int give tg) → m' "heaps" = some (.ref D) → m' "found" = some (.str f tf) → Q .next { s with heap := h', toks := tk })
    (hd0 : dp + 200 < recursionLimit) (hu0 : un + 400 < cLine)
    (hE : PassesOwn (model PySem.Challenge.rw_uc0020_01.row.prog w) (ktrTop dp un gd "law" lawScope L fa cd (lawCells L) outer) (envX "law" lawScope L fa cd (lawCells L)) E) :
    wpAny (model PySem.Challenge.rw_uc0020_01.row.prog w) (ktrTop dp un gd "law" lawScope L fa cd (lawCells L) outer) (execs (sendsBody.drop 11) (envX "law" lawScope L fa cd (lawCells L))) Q E s := by
  revert X
  k_fill
  intro X
  obtain ⟨sc, hsc⟩ : ∃ sc, lawScope = sc := ⟨_, rfl⟩
  obtain ⟨lb, hlb⟩ : ∃ lb, sendsBody.drop 11 = lb := ⟨_, rfl⟩
  rw [hsc] at hE ⊢
  rw [hlb]
  conv at hsc => lhs; whnf
  conv at hlb => lhs; whnf
  subst hsc
  subst hlb
  have kMark := kstMark
  have hI0 : IntsAre [] [] := .nil
  have hS0 : StrsAre [] [] := .nil
  have lF := fr_kst [("steps", .ref D3), ("text", vt), ("found", .str f tf), ("give", .int give tg), ("heaps", .ref D), ("mail", .str ml tm), ("over", .int OV to), ("under", .int UN tu)] (by simp [ms, mt, mgv, mh, mf, mm, mo, mu]) F
  clear F ms mt mgv mh mf mm mo mu
  have hml := SF.mlen
  k_steps
  (rename Fr _ _ _ _ => lF)
  (rename News _ _ _ _ => lN)
  refine text_at (NumInv give f ml vt tf tg tm to tu D D3 L o3 OV UN news) SF.asc2 lF lN ?st rfl rfl hE rfl ?turn ?done
  case st => exact ⟨_, _, rfl, rfl, rfl, rfl, rfl, rfl, rfl, rfl, rfl, rfl, rfl⟩
  case turn =>
    clear lF lN
    rintro i k t m₁ nx h tk own hk2 hoff ⟨nm, tn, rfl, m1, m2, m3, m4, m5, m6, m7, m8, m9, hnm⟩ F N
    have F9 : Fr h₀ L h (fun y => if y = Str.ofString "sign" then some (.str ⟨#[k]⟩ t) else m₁ y) := F
    have lF := fr_kst (m := fun y => if y = Str.ofString "sign" then some (.str ⟨#[k]⟩ t) else m₁ y) [("sign", .str ⟨#[k]⟩ t), ("steps", .ref D3), ("text", vt), ("found", .str f tf), ("give", .int give tg), ("heaps", .ref D), ("mail", .str ml tm), ("over", .int OV to), ("under", .int UN tu), ("number", .int nm tn)] (List.forall_mem_cons.mpr ⟨rfl, List.forall_mem_cons.mpr ⟨m1, List.forall_mem_cons.mpr ⟨m2, List.forall_mem_cons.mpr ⟨m3, List.forall_mem_cons.mpr ⟨m4, List.forall_mem_cons.mpr ⟨m5, List.forall_mem_cons.mpr ⟨m6, List.forall_mem_cons.mpr ⟨m7, List.forall_mem_cons.mpr ⟨m8, List.forall_mem_cons.mpr ⟨m9, fun _ hq => nomatch hq⟩⟩⟩⟩⟩⟩⟩⟩⟩⟩) F9
    clear F F9 m1 m2 m3 m4 m5 m6 m7 m8 m9
    simp only [List.cons_append] at N
    have hnx := num_next hnm hk2
    unfold numStep at hnx
    k_steps
    · (rename Fr _ _ _ _ => lF)
      (rename News _ _ _ _ => lN)
      rw [if_pos (by simpa using ‹((⟨#[k]⟩ : Str) == _) = true›)] at hnx
      exact ⟨_, _, _, (L + 1 + 1 + 1, o3) :: news, rfl, lF, lN, hoff, ⟨_, _, rfl, rfl, rfl, rfl, rfl, rfl, rfl, rfl, rfl, rfl, hnx⟩⟩
    · (rename Fr _ _ _ _ => lF)
      (rename News _ _ _ _ => lN)
      rw [if_neg (by simpa using ‹((⟨#[k]⟩ : Str) == _) = false›)] at hnx
      exact ⟨_, _, _, (L + 1 + 1 + 1, o3) :: news, rfl, lF, lN, hoff, ⟨_, _, rfl, rfl, rfl, rfl, rfl, rfl, rfl, rfl, rfl, rfl, hnx⟩⟩
  case done =>
    clear lF lN
    rintro m₁ nx h tk ⟨nm, tn, rfl, m1, m2, m3, m4, m5, m6, m7, m8, m9, hnm⟩ F N
    have F9 : Fr h₀ L h m₁ := F
    have lF := fr_kst (m := m₁) [("steps", .ref D3), ("text", vt), ("found", .str f tf), ("give", .int give tg), ("heaps", .ref D), ("mail", .str ml tm), ("over", .int OV to), ("under", .int UN tu), ("number", .int nm tn)] (List.forall_mem_cons.mpr ⟨m1, List.forall_mem_cons.mpr ⟨m2, List.forall_mem_cons.mpr ⟨m3, List.forall_mem_cons.mpr ⟨m4, List.forall_mem_cons.mpr ⟨m5, List.forall_mem_cons.mpr ⟨m6, List.forall_mem_cons.mpr ⟨m7, List.forall_mem_cons.mpr ⟨m8, List.forall_mem_cons.mpr ⟨m9, fun _ hq => nomatch hq⟩⟩⟩⟩⟩⟩⟩⟩⟩) F9
    clear F F9 m1 m2 m3 m4 m5 m6 m7 m8 m9
    have N : News h₀ L h ((L + 1 + 1 + 1, o3) :: news) := N
    have hnm2 : nm = numF ml := by
      rw [hnm, List.take_of_length_le (by rw [PyProof.Rows.signs_length]; exact Nat.le_refl _)]
      rfl
    obtain ⟨n1, n2⟩ := SF.num
    rw [← hnm2] at n1 n2
    obtain ⟨b1, b2⟩ := SF.hbas
    dsimp only
    obtain ⟨p1, p2⟩ := pow_le_2048 b2
    have hprod : 0 < nm * 2 ^ bas.toNat ∧ nm * 2 ^ bas.toNat < 2 ^ 31 := by
      refine ⟨Int.mul_pos n1 p1, ?_⟩
      have h1 : nm * 2 ^ bas.toNat ≤ nm * 2048 := Int.mul_le_mul_of_nonneg_left p2 (by omega)
      have h2 : nm < 262144 := n2
      omega
    k_steps
    (rename Fr _ _ _ _ => lF)
    (rename News _ _ _ _ => lN)
    unfold CallAt
    have eX : nm * 2 ^ bas.toNat = (((nm * 2 ^ bas.toNat).toNat : Nat) : Int) := (Int.toNat_of_nonneg (by omega)).symm
    rw [eX]
    refine' flags_claim ((L + 1 + 1 + 1, o3) :: news) (nm * 2 ^ bas.toNat).toNat (Txt.join (Str.ofString ", ") (flagsOf (nm * 2 ^ bas.toNat).toNat 32)) _ _ _ _ _ _ _ _ _ _ _ _ _ _ _ _ _ _ ?kB ?kF ?kK ?kN ?kT ?kc ?kp ?kd ?ku ?_
    case kB => exact B
    case kF => exact lF
    case kK => exact X
    case kN => exact lN
    case kT => exact T
    case kc => rfl
    case kp => exact ⟨by omega, by omega, ⟨rfl⟩⟩
    case kd => ktr_room
    case ku => ktr_units
    clear lN lF eX
    dsimp only [RetStr]
    intro t8 h8 tk8 lF lN
    generalize hfl : Txt.join (Str.ofString ", ") (flagsOf (nm * 2 ^ bas.toNat).toNat 32) = fl
    k_steps
    (rename Fr _ _ _ _ => lF)
    (rename News _ _ _ _ => lN)
    unfold CallAt
    refine' places_claim _ OV UN pl _ _ _ _ _ _ _ _ _ _ _ _ _ _ _ _ _ _ _ ?kB ?kF ?kK ?kN ?kT ?kc ?kp ?kd ?ku ?_
    case kB => exact B
    case kF => exact lF
    case kK => exact X
    case kN => exact lN
    case kT => exact T
    case kc => rfl
    case kp => exact SF.places
    case kd => ktr_room
    case ku => ktr_units
    clear lN lF
    dsimp only [RetNew]
    rintro r9 o9 h9 tk9 ⟨us, n9, hus, rfl⟩ lF lN hlt9
    refine ⟨r9, us, n9, _, pl, fun k => lawName (bas + k), rfl, lF, lN, .head _, hus, SF.pll, ?turn9, ?fin9⟩
    case turn9 =>
      clear lF lN
      intro C oC nx k t m₂ h tk E' hk hns hmk hCL lF lN
      simp only [List.cons_append] at lN
      obtain ⟨k1, k2⟩ := SF.plb k hk
      k_steps
      (rename Fr _ _ _ _ => lF)
      (rename News _ _ _ _ => lN)
      unfold CallAt
      refine' name_claim _ (bas + k) (lawName (bas + k)) _ _ _ _ _ _ _ _ _ _ _ _ _ _ _ _ _ _ ?kB ?kF ?kK ?kN ?kT ?kc ?kp ?kd ?ku ?_
      case kB => exact B
      case kF => exact lF
      case kK => exact X
      case kN => exact lN
      case kT => exact T
      case kc => rfl
      case kp => exact ⟨by omega, by omega, ⟨rfl⟩⟩
      case kd => ktr_room
      case ku => ktr_units
      clear lN lF
      dsimp only [RetStr]
      intro tA hA tkA lF lN
      exact ⟨_, _, _, rfl, rfl, lF, lN⟩
    case fin9 =>
      clear lF lN
      intro D9 h10 tk10 ys9 kk9 lF lN hys9
      dsimp only
      k_steps
      (rename Fr _ _ _ _ => lF)
      (rename News _ _ _ _ => lN)
      refine join_list (ys := pl.map fun k => lawName (bas + k)) ⟨_, (lN _ (by k_mem)).1, rfl, _, rfl⟩ hys9 ?hok ?_
      case hok =>
        have h1 : ((pl.map fun k => lawName (bas + k)).map (·.length)).sum ≤ 64 * (pl.map fun k => lawName (bas + k)).length := sum_short (by
          intro x hx
          obtain ⟨k, hk, rfl⟩ := List.mem_map.mp hx
          obtain ⟨k1, k2⟩ := SF.plb k hk
          exact name_short (by omega) (by omega))
        have h2 := SF.pll
        have h3 : (Str.ofString ", ").length = 2 := by decide
        rw [h3]
        simp only [List.length_map] at h1 ⊢
        omega
      intro tB kB2
      have hfl2 : fl = Txt.join (Str.ofString ", ") (pl.map fun k => lawName (bas + k)) := by
        rw [← hfl, hnm2]
        exact SF.flags
      rw [← hfl2]
      k_steps
      · exact absurd ‹(fl != fl) = true› (by simp)
      · (rename Fr _ _ _ _ => lF)
        (rename News _ _ _ _ => lN)
        unfold CallAt
        obtain ⟨u1, u2, u3, u4⟩ := SF.ub
        have u5 : UN < 524288 := u2
        refine' stop2_claim _ UN OV OV _ _ _ _ _ _ _ _ _ _ _ _ _ _ _ _ _ _ _ _ _ _ ?kB ?kF ?kK ?kN ?kT ?kc ?kp ?kd ?ku ?_
        case kp => exact ⟨by omega, by omega, by omega, by omega, by omega, by omega⟩
        case kB => exact B
        case kF => exact lF
        case kK => exact X
        case kN => exact lN
        case kT => exact T
        case kc => rfl
        case kd => ktr_room
        case ku => ktr_units
        clear lN lF
        dsimp only [RetInt]
        intro tC hC2 tkC lF lN
        generalize hsf : stopF UN [OV, OV] = sf
        k_steps
        (rename Fr _ _ _ _ => lF)
        (rename News _ _ _ _ => lN)
        unfold CallAt
        refine' walk_claim _ (nm + 1) give _ _ _ _ _ _ _ _ _ _ _ _ _ _ _ _ _ _ _ ?kB ?kF ?kK ?kN ?kT ?kc ?kp ?kd ?ku ?_
        case kp => exact ⟨by omega, by have h3 : nm < 262144 := n2; exact Int.lt_trans (show nm + 1 < 262145 by omega) (by decide)⟩
        case kB => exact B
        case kF => exact lF
        case kK => exact X
        case kN => exact lN
        case kT => exact T
        case kc => rfl
        case kd => ktr_room
        case ku => ktr_units
        clear lN lF
        dsimp only [RetNew]
        rintro rW oW hW tkW ⟨wa, wb, wt, wu, wn, hwalk, rfl⟩ lF lN hltW
        have eW : (wa, wb) = (UN, sf - OV - UN) := by
          rw [hwalk.eq, hnm2, SF.walk, hsf]
        injection eW with eA eB
        k_steps
        · (rename Fr _ _ _ _ => lF)
          (rename News _ _ _ _ => lN)
          exact hnext _ _ _ lF (List.forall_mem_cons.mpr ⟨lN _ (by k_mem), fun p hp => lN p (by simp [hp])⟩) rfl rfl rfl rfl rfl
        · exact absurd ‹(UN == wa && sf - OV - UN == wb) = false› (by rw [eA, eB]; simp)
end

section
open PySem PySem.W PySem.Spec PyProof.Rows
theorem rest_UPlainA {prog : PySem.Program} {w : PySem.World} {A : PySem.Around} {env : PySem.Env} {Q : PySem.Flow → PySem.Shared → Prop} {E : PySem.Value → PySem.Shared → Prop} {s : PySem.Shared} (h : PySem.wpAny (PySem.model prog w) A (PySem.execs [] env) Q E s) : PySem.wpAny (PySem.model prog w) A (PySem.execs [] env) Q E s := by
  w_top off
  k_with_none
  first | (walk1; fail) | exact h
set_option maxRecDepth 100000
set_option maxHeartbeats 0
set_option pp.deepTerms false
noncomputable def ckFix (x z : Str) : Bool := decide (x.length ≤ 1000) && (subF code2 x (Str.ofString "\r\n") == some z)
noncomputable def ckDot (x z : Str) : Bool := decide (x.length ≤ 1000) && (subF code1 x (Str.ofString "..") == some z)
noncomputable def ckSign (x : Str) : Bool := x == Str.ofString "." || x == Str.ofString "\r" || x == Str.ofString "\n"
/-- the text's side: fixing the ends, and the later sendings -/
noncomputable def ckEnds (e : Str) (bits : List Int) : Bool := ckFix (textOf e bits) (toldF 0 bits)
noncomputable def ckMore (bits : List Int) : Bool := ckDot (toldF 0 bits) (toldF 1 bits) && ckFix (toldF 1 bits) (toldF 1 bits) && ckDot (toldF 1 bits) (toldF 2 bits) && ckFix (toldF 2 bits) (toldF 2 bits) && ckDot (toldF 2 bits) (toldF 3 bits)
/-- the numbers' side -/
noncomputable def ckMailG (give : Int) (f ml : Str) (sd : Nat) : Bool :=
  decide (ml.length ≤ 900) && ml.cps.all (· < 128) && (Txt.replace ml (Str.ofString "\r") (Str.ofString "")).cps.all (· < 128) && (signs ml).all ckSign && decide (0 < numF ml ∧ numF ml < 2 ^ 18) &&
  match lexLoop 50 give give 1 (signs ml) with
  | none => false
  | some (ov, un_) => (sd != 0 || f == dotsA ov un_) && decide (0 < un_ ∧ un_ < 2 ^ 19 ∧ 0 ≤ ov ∧ ov < 1000) && (walkF (numF ml + 1) give == (un_, stopF un_ [ov, ov] - ov - un_)) &&
    match placesRun 60 ov un_ 0 [] with
    | none => false
    | some pl => pl.all (fun k => decide (0 ≤ k ∧ k < 40)) && decide (pl.length ≤ 100) && ((List.range 18).filter (fun j => (numF ml).toNat.testBit j) == pl.map Int.toNat)
end

section
open PySem PySem.W PySem.Spec PyProof.Rows
theorem rest_UPlainB {prog : PySem.Program} {w : PySem.World} {A : PySem.Around} {env : PySem.Env} {Q : PySem.Flow → PySem.Shared → Prop} {E : PySem.Value → PySem.Shared → Prop} {s : PySem.Shared} (h : PySem.wpAny (PySem.model prog w) A (PySem.execs [] env) Q E s) : PySem.wpAny (PySem.model prog w) A (PySem.execs [] env) Q E s := by
  w_top off
  k_with_none
  first | (walk1; fail) | exact h
set_option maxRecDepth 100000
set_option maxHeartbeats 0
set_option pp.deepTerms false
theorem name_eq : ∀ i : Fin 32, flagName i.1 = lawName i.1 := by decide +kernel
theorem bit_up (N b j : Nat) : (N * 2 ^ b).testBit (b + j) = N.testBit j := by
  rw [Nat.testBit_mul_two_pow]; simp
theorem bit_lo {N b j : Nat} (h : j < b) : (N * 2 ^ b).testBit j = false := by
  rw [Nat.testBit_mul_two_pow]; simp; omega
theorem bit_hi {N j : Nat} (h : N < 2 ^ 18) (hj : 18 ≤ j) : N.testBit j = false :=
  Nat.testBit_lt_two_pow (Nat.lt_of_lt_of_le h (Nat.pow_le_pow_right (by decide) hj))
theorem bits_up {N : Nat} (h : N < 2 ^ 18) {b : Nat} (hb : b ≤ 11) : (List.range 32).filter (fun j => (N * 2 ^ b).testBit j) = ((List.range 18).filter (fun j => N.testBit j)).map (b + ·) := by
  have e : 32 = b + (18 + (14 - b)) := by omega
  rw [e, List.range_add, List.filter_append, List.filter_map, List.range_add, List.filter_append, List.filter_map]
  have h1 : (List.range b).filter (fun j => (N * 2 ^ b).testBit j) = [] := by
    rw [List.filter_eq_nil_iff]; intro j hj; rw [bit_lo (List.mem_range.mp hj)]; decide
  have h2 : (fun j => (N * 2 ^ b).testBit j) ∘ (b + ·) = fun j => N.testBit j := by
    funext j; exact bit_up N b j
  rw [h1, h2, List.nil_append]
  have h3 : (List.range (14 - b)).filter ((fun j => N.testBit j) ∘ (18 + ·)) = [] := by
    rw [List.filter_eq_nil_iff]; intro j hj
    show ¬ (N.testBit (18 + j) = true)
    rw [bit_hi h (by omega)]; decide
  rw [h3, List.map_nil, List.append_nil]
theorem flags_eq {n b : Int} {pl : List Int} (h0 : 0 < n) (h1 : n < 2 ^ 18) (hb : 0 ≤ b ∧ b ≤ 11) (hp : ∀ k ∈ pl, 0 ≤ k ∧ k < 40) (H : (List.range 18).filter (fun j => n.toNat.testBit j) = pl.map Int.toNat) : flagsOf (n * 2 ^ b.toNat).toNat 32 = pl.map fun k => lawName (b + k) := by
  have e : (n * 2 ^ b.toNat).toNat = n.toNat * 2 ^ b.toNat := by
    rw [Int.toNat_mul (by omega) (Int.le_of_lt (Int.pow_pos (by decide)))]
    congr 1
  rw [flagsOf, e, bits_up (by omega) (by omega), H, List.map_map, List.map_map]
  apply List.map_congr_left
  intro k hk
  have hk0 := (hp k hk).1
  have hk1 : k.toNat < 18 := by
    have : k.toNat ∈ (List.range 18).filter (fun j => n.toNat.testBit j) := by rw [H]; exact List.mem_map_of_mem hk
    exact List.mem_range.mp (List.mem_filter.mp this).1
  have hn := name_eq ⟨b.toNat + k.toNat, by omega⟩
  have hc : ((b.toNat + k.toNat : Nat) : Int) = b + k := by omega
  show flagName (b.toNat + k.toNat) = lawName (b + k)
  rw [← hc]
  exact hn
end

section
open PySem PySem.W PySem.Spec PyProof.Rows
theorem rest_UPlainC {prog : PySem.Program} {w : PySem.World} {A : PySem.Around} {env : PySem.Env} {Q : PySem.Flow → PySem.Shared → Prop} {E : PySem.Value → PySem.Shared → Prop} {s : PySem.Shared} (h : PySem.wpAny (PySem.model prog w) A (PySem.execs [] env) Q E s) : PySem.wpAny (PySem.model prog w) A (PySem.execs [] env) Q E s := by
  w_top off
  k_with_none
  first | (walk1; fail) | exact h
set_option maxRecDepth 100000
set_option maxHeartbeats 0
set_option pp.deepTerms false
theorem fix_of {x z : Str} (h : ckFix x z = true) : x.length ≤ 1000 ∧ IsSub code2 x (Str.ofString "\r\n") z := by
  simp only [ckFix, Bool.and_eq_true, decide_eq_true_eq, beq_iff_eq] at h
  exact ⟨h.1, ⟨h.2⟩⟩
theorem dot_of {x z : Str} (h : ckDot x z = true) : x.length ≤ 1000 ∧ IsSub code1 x (Str.ofString "..") z := by
  simp only [ckDot, Bool.and_eq_true, decide_eq_true_eq, beq_iff_eq] at h
  exact ⟨h.1, ⟨h.2⟩⟩
/-- the text after so many sendings -/
noncomputable def qF (tx : Str) (bits : List Int) : Nat → Str
  | 0 => tx
  | i + 1 => toldF ((i : Int) + 1) bits
structure TextFacts (tx : Str) (bits : List Int) (sd : Nat) : Prop where
  qs : ∀ i < sd, ∃ y, (qF tx bits i).length ≤ 1000 ∧ y.length ≤ 1000 ∧ IsSub code2 (qF tx bits i) (Str.ofString "\r\n") y ∧ IsSub code1 y (Str.ofString "..") (qF tx bits (i + 1))
  pos : 0 < sd → toldF (sd : Int) bits = qF tx bits sd
  zero : sd = 0 → tx.length ≤ 1000 ∧ IsSub code2 tx (Str.ofString "\r\n") (toldF (sd : Int) bits)
theorem text_of {e : Str} {bits : List Int} {sd : Nat} (hsd : sd ≤ 3) (h : ckEnds e bits = true) (h' : ckMore bits = true) : TextFacts (textOf e bits) bits sd := by
  simp only [ckMore, Bool.and_eq_true] at h'
  obtain ⟨⟨⟨⟨a1, a2⟩, a3⟩, a4⟩, a5⟩ := h'
  obtain ⟨e1, e2⟩ := fix_of h
  obtain ⟨d1, d2⟩ := dot_of a1
  obtain ⟨f1, f2⟩ := fix_of a2
  obtain ⟨g1, g2⟩ := dot_of a3
  obtain ⟨i1, i2⟩ := fix_of a4
  obtain ⟨j1, j2⟩ := dot_of a5
  refine ⟨?_, ?_, ?_⟩
  · intro i hi
    rcases i with _ | _ | _ | i
    · exact ⟨_, e1, d1, e2, d2⟩
    · exact ⟨_, f1, f1, f2, g2⟩
    · exact ⟨_, i1, i1, i2, j2⟩
    · omega
  · intro h
    cases sd with
    | zero => omega
    | succ k => rfl
  · intro h
    subst h
    exact ⟨e1, e2⟩
theorem sign_of {x : Str} (h : ckSign x = true) : x = Str.ofString "." ∨ x = Str.ofString "\r" ∨ x = Str.ofString "\n" := by
  simpa only [ckSign, Bool.or_eq_true, beq_iff_eq, or_assoc] using h
structure MailFacts (give : Int) (f ml : Str) (sd : Nat) (ov un_ : Int) (pl : List Int) : Prop where
  mlen : ml.length ≤ 900
  asc : ml.cps.all (· < 128) = true
  asc2 : (Txt.replace ml (Str.ofString "\r") (Str.ofString "")).cps.all (· < 128) = true
  mail : Mail (signs ml)
  run : lexLoop 50 give give 1 (signs ml) = some (ov, un_)
  found : sd = 0 → f = dotsA ov un_
  num : 0 < numF ml ∧ numF ml < 2 ^ 18
  flags : (List.range 18).filter (fun j => (numF ml).toNat.testBit j) = pl.map Int.toNat
  places : PlInv pl ov un_ 0 []
  plb : ∀ k ∈ pl, 0 ≤ k ∧ k < 40
  pll : pl.length ≤ 100
  ub : 0 < un_ ∧ un_ < 2 ^ 19 ∧ 0 ≤ ov ∧ ov < 1000
  walk : walkF (numF ml + 1) give = (un_, stopF un_ [ov, ov] - ov - un_)
theorem mail_of {give : Int} {f ml : Str} {sd : Nat} (h : ckMailG give f ml sd = true) : ∃ ov un_ pl, MailFacts give f ml sd ov un_ pl := by
  unfold ckMailG at h
  rw [Bool.and_eq_true] at h
  obtain ⟨ha, h⟩ := h
  simp only [Bool.and_eq_true, decide_eq_true_eq, List.all_eq_true] at ha
  obtain ⟨⟨⟨⟨a1, a2⟩, a2'⟩, a3⟩, a4⟩ := ha
  split at h
  · cases h
  · rename_i ov un_ hr
    rw [Bool.and_eq_true] at h
    obtain ⟨hb, h⟩ := h
    simp only [Bool.and_eq_true, Bool.or_eq_true, decide_eq_true_eq, beq_iff_eq, bne_iff_ne] at hb
    obtain ⟨⟨b1, b2⟩, b3⟩ := hb
    split at h
    · cases h
    · rename_i pl hp
      rw [Bool.and_eq_true, Bool.and_eq_true, List.all_eq_true] at h
      simp only [decide_eq_true_eq, beq_iff_eq] at h
      obtain ⟨⟨c1, c2⟩, c3⟩ := h
      exact ⟨ov, un_, pl, a1, a2, a2', ⟨fun x hx => sign_of (a3 x hx)⟩, hr, fun hz => b1.resolve_left (fun hn => hn hz), a4, c3, ⟨60, hp⟩, c1, c2, b2, b3⟩
theorem facts_of {give sd bas : Int} {bits : List Int} {f e : Str} (hsd : 0 ≤ sd ∧ sd ≤ 3) (hg : give = 1 ∨ give = 2) (hb : 0 ≤ bas ∧ bas ≤ 11) (hE : ckEnds e bits = true) (hT : ckMore bits = true) (hM : ckMailG give f (toldF sd bits) sd.toNat = true) :
    ∃ q ml ov un_ pl, SendFacts give sd bas bits f (textOf e bits) q ml ov un_ pl := by
  have T := text_of (sd := sd.toNat) (by omega) hE hT
  obtain ⟨ov, un_, pl, M⟩ := mail_of hM
  have hs : ((sd.toNat : Nat) : Int) = sd := by omega
  have hp := T.pos
  have hz := T.zero
  rw [hs] at hp hz
  exact ⟨qF (textOf e bits) bits, toldF sd bits, ov, un_, pl, {
    hsd := hsd, q0 := rfl, qs := T.qs, pos := fun h => hp (by omega), zero := fun h => hz (by omega), told := rfl, mlen := M.mlen, asc := M.asc, asc2 := M.asc2, mail := M.mail, run := M.run, found := fun h => M.found (by omega), hgive := hg, num := M.num, hbas := hb,
    flags := by rw [flags_eq M.num.1 M.num.2 hb M.plb M.flags], places := M.places, plb := M.plb, pll := M.pll, ub := M.ub, walk := M.walk }⟩
end

section
open PySem PySem.W PySem.Spec PyProof.Rows
theorem rest_UPlainD {prog : PySem.Program} {w : PySem.World} {A : PySem.Around} {env : PySem.Env} {Q : PySem.Flow → PySem.Shared → Prop} {E : PySem.Value → PySem.Shared → Prop} {s : PySem.Shared} (h : PySem.wpAny (PySem.model prog w) A (PySem.execs [] env) Q E s) : PySem.wpAny (PySem.model prog w) A (PySem.execs [] env) Q E s := by
  w_top off
  k_with_none
  first | (walk1; fail) | exact h
set_option maxRecDepth 100000
set_option maxHeartbeats 0
set_option pp.deepTerms false
theorem endsN8 : ∀ i ∈ [8, 9, 10, 11], ckEnds (Str.ofString "\n") (bitsOf i 3) = true := by decide +kernel
theorem endsN12 : ∀ i ∈ [12, 13, 14, 15], ckEnds (Str.ofString "\n") (bitsOf i 3) = true := by decide +kernel
theorem endsN16 : ∀ i ∈ [16, 17, 18, 19], ckEnds (Str.ofString "\n") (bitsOf i 4) = true := by decide +kernel
theorem endsN20 : ∀ i ∈ [20, 21, 22, 23], ckEnds (Str.ofString "\n") (bitsOf i 4) = true := by decide +kernel
theorem endsN24 : ∀ i ∈ [24, 25, 26, 27], ckEnds (Str.ofString "\n") (bitsOf i 4) = true := by decide +kernel
theorem endsN28 : ∀ i ∈ [28, 29, 30, 31], ckEnds (Str.ofString "\n") (bitsOf i 4) = true := by decide +kernel
theorem endsR8 : ∀ i ∈ [8, 9, 10, 11], ckEnds (Str.ofString "\r") (bitsOf i 3) = true := by decide +kernel
theorem endsR12 : ∀ i ∈ [12, 13, 14, 15], ckEnds (Str.ofString "\r") (bitsOf i 3) = true := by decide +kernel
theorem endsR16 : ∀ i ∈ [16, 17, 18, 19], ckEnds (Str.ofString "\r") (bitsOf i 4) = true := by decide +kernel
theorem endsR20 : ∀ i ∈ [20, 21, 22, 23], ckEnds (Str.ofString "\r") (bitsOf i 4) = true := by decide +kernel
theorem endsR24 : ∀ i ∈ [24, 25, 26, 27], ckEnds (Str.ofString "\r") (bitsOf i 4) = true := by decide +kernel
theorem endsR28 : ∀ i ∈ [28, 29, 30, 31], ckEnds (Str.ofString "\r") (bitsOf i 4) = true := by decide +kernel
theorem endsB8 : ∀ i ∈ [8, 9, 10, 11], ckEnds (Str.ofString "\r\n") (bitsOf i 3) = true := by decide +kernel
theorem endsB12 : ∀ i ∈ [12, 13, 14, 15], ckEnds (Str.ofString "\r\n") (bitsOf i 3) = true := by decide +kernel
theorem endsB16 : ∀ i ∈ [16, 17, 18, 19], ckEnds (Str.ofString "\r\n") (bitsOf i 4) = true := by decide +kernel
theorem endsB20 : ∀ i ∈ [20, 21, 22, 23], ckEnds (Str.ofString "\r\n") (bitsOf i 4) = true := by decide +kernel
theorem endsB24 : ∀ i ∈ [24, 25, 26, 27], ckEnds (Str.ofString "\r\n") (bitsOf i 4) = true := by decide +kernel
theorem endsB28 : ∀ i ∈ [28, 29, 30, 31], ckEnds (Str.ofString "\r\n") (bitsOf i 4) = true := by decide +kernel
theorem more8 : ∀ i ∈ [8, 9, 10, 11], ckMore (bitsOf i 3) = true := by decide +kernel
theorem more12 : ∀ i ∈ [12, 13, 14, 15], ckMore (bitsOf i 3) = true := by decide +kernel
theorem more16 : ∀ i ∈ [16, 17, 18, 19], ckMore (bitsOf i 4) = true := by decide +kernel
theorem more20 : ∀ i ∈ [20, 21, 22, 23], ckMore (bitsOf i 4) = true := by decide +kernel
theorem more24 : ∀ i ∈ [24, 25, 26, 27], ckMore (bitsOf i 4) = true := by decide +kernel
theorem more28 : ∀ i ∈ [28, 29, 30, 31], ckMore (bitsOf i 4) = true := by decide +kernel
theorem mail8g1s0 : ∀ i ∈ [8, 9, 10, 11], ckMailG 1 (placeSt 1 i.toNat).f (toldF 0 (bitsOf i 3)) (Int.toNat 0) = true := by decide +kernel
theorem mail8g1s1 : ∀ i ∈ [8, 9, 10, 11], ckMailG 1 (placeSt 1 i.toNat).f (toldF 1 (bitsOf i 3)) (Int.toNat 1) = true := by decide +kernel
theorem mail8g1s2 : ∀ i ∈ [8, 9, 10, 11], ckMailG 1 (placeSt 1 i.toNat).f (toldF 2 (bitsOf i 3)) (Int.toNat 2) = true := by decide +kernel
theorem mail8g1s3 : ∀ i ∈ [8, 9, 10, 11], ckMailG 1 (placeSt 1 i.toNat).f (toldF 3 (bitsOf i 3)) (Int.toNat 3) = true := by decide +kernel
theorem mail8g2s0 : ∀ i ∈ [8, 9, 10, 11], ckMailG 2 (placeSt 2 i.toNat).f (toldF 0 (bitsOf i 3)) (Int.toNat 0) = true := by decide +kernel
theorem mail8g2s1 : ∀ i ∈ [8, 9, 10, 11], ckMailG 2 (placeSt 2 i.toNat).f (toldF 1 (bitsOf i 3)) (Int.toNat 1) = true := by decide +kernel
theorem mail8g2s2 : ∀ i ∈ [8, 9, 10, 11], ckMailG 2 (placeSt 2 i.toNat).f (toldF 2 (bitsOf i 3)) (Int.toNat 2) = true := by decide +kernel
theorem mail8g2s3 : ∀ i ∈ [8, 9, 10, 11], ckMailG 2 (placeSt 2 i.toNat).f (toldF 3 (bitsOf i 3)) (Int.toNat 3) = true := by decide +kernel
theorem mail12g1s0 : ∀ i ∈ [12, 13, 14, 15], ckMailG 1 (placeSt 1 i.toNat).f (toldF 0 (bitsOf i 3)) (Int.toNat 0) = true := by decide +kernel
theorem mail12g1s1 : ∀ i ∈ [12, 13, 14, 15], ckMailG 1 (placeSt 1 i.toNat).f (toldF 1 (bitsOf i 3)) (Int.toNat 1) = true := by decide +kernel
theorem mail12g1s2 : ∀ i ∈ [12, 13, 14, 15], ckMailG 1 (placeSt 1 i.toNat).f (toldF 2 (bitsOf i 3)) (Int.toNat 2) = true := by decide +kernel
theorem mail12g1s3 : ∀ i ∈ [12, 13, 14, 15], ckMailG 1 (placeSt 1 i.toNat).f (toldF 3 (bitsOf i 3)) (Int.toNat 3) = true := by decide +kernel
theorem mail12g2s0 : ∀ i ∈ [12, 13, 14, 15], ckMailG 2 (placeSt 2 i.toNat).f (toldF 0 (bitsOf i 3)) (Int.toNat 0) = true := by decide +kernel
theorem mail12g2s1 : ∀ i ∈ [12, 13, 14, 15], ckMailG 2 (placeSt 2 i.toNat).f (toldF 1 (bitsOf i 3)) (Int.toNat 1) = true := by decide +kernel
theorem mail12g2s2 : ∀ i ∈ [12, 13, 14, 15], ckMailG 2 (placeSt 2 i.toNat).f (toldF 2 (bitsOf i 3)) (Int.toNat 2) = true := by decide +kernel
theorem mail12g2s3 : ∀ i ∈ [12, 13, 14, 15], ckMailG 2 (placeSt 2 i.toNat).f (toldF 3 (bitsOf i 3)) (Int.toNat 3) = true := by decide +kernel
theorem mail16g1s0 : ∀ i ∈ [16, 17, 18, 19], ckMailG 1 (placeSt 1 i.toNat).f (toldF 0 (bitsOf i 4)) (Int.toNat 0) = true := by decide +kernel
theorem mail16g1s1 : ∀ i ∈ [16, 17, 18, 19], ckMailG 1 (placeSt 1 i.toNat).f (toldF 1 (bitsOf i 4)) (Int.toNat 1) = true := by decide +kernel
theorem mail16g1s2 : ∀ i ∈ [16, 17, 18, 19], ckMailG 1 (placeSt 1 i.toNat).f (toldF 2 (bitsOf i 4)) (Int.toNat 2) = true := by decide +kernel
theorem mail16g1s3 : ∀ i ∈ [16, 17, 18, 19], ckMailG 1 (placeSt 1 i.toNat).f (toldF 3 (bitsOf i 4)) (Int.toNat 3) = true := by decide +kernel
theorem mail20g1s0 : ∀ i ∈ [20, 21, 22, 23], ckMailG 1 (placeSt 1 i.toNat).f (toldF 0 (bitsOf i 4)) (Int.toNat 0) = true := by decide +kernel
theorem mail20g1s1 : ∀ i ∈ [20, 21, 22, 23], ckMailG 1 (placeSt 1 i.toNat).f (toldF 1 (bitsOf i 4)) (Int.toNat 1) = true := by decide +kernel
theorem mail20g1s2 : ∀ i ∈ [20, 21, 22, 23], ckMailG 1 (placeSt 1 i.toNat).f (toldF 2 (bitsOf i 4)) (Int.toNat 2) = true := by decide +kernel
theorem mail20g1s3 : ∀ i ∈ [20, 21, 22, 23], ckMailG 1 (placeSt 1 i.toNat).f (toldF 3 (bitsOf i 4)) (Int.toNat 3) = true := by decide +kernel
theorem mail24g1s0 : ∀ i ∈ [24, 25, 26, 27], ckMailG 1 (placeSt 1 i.toNat).f (toldF 0 (bitsOf i 4)) (Int.toNat 0) = true := by decide +kernel
theorem mail24g1s1 : ∀ i ∈ [24, 25, 26, 27], ckMailG 1 (placeSt 1 i.toNat).f (toldF 1 (bitsOf i 4)) (Int.toNat 1) = true := by decide +kernel
theorem mail24g1s2 : ∀ i ∈ [24, 25, 26, 27], ckMailG 1 (placeSt 1 i.toNat).f (toldF 2 (bitsOf i 4)) (Int.toNat 2) = true := by decide +kernel
theorem mail24g1s3 : ∀ i ∈ [24, 25, 26, 27], ckMailG 1 (placeSt 1 i.toNat).f (toldF 3 (bitsOf i 4)) (Int.toNat 3) = true := by decide +kernel
theorem mail28g1s0 : ∀ i ∈ [28, 29, 30, 31], ckMailG 1 (placeSt 1 i.toNat).f (toldF 0 (bitsOf i 4)) (Int.toNat 0) = true := by decide +kernel
theorem mail28g1s1 : ∀ i ∈ [28, 29, 30, 31], ckMailG 1 (placeSt 1 i.toNat).f (toldF 1 (bitsOf i 4)) (Int.toNat 1) = true := by decide +kernel
theorem mail28g1s2 : ∀ i ∈ [28, 29, 30, 31], ckMailG 1 (placeSt 1 i.toNat).f (toldF 2 (bitsOf i 4)) (Int.toNat 2) = true := by decide +kernel
theorem mail28g1s3 : ∀ i ∈ [28, 29, 30, 31], ckMailG 1 (placeSt 1 i.toNat).f (toldF 3 (bitsOf i 4)) (Int.toNat 3) = true := by decide +kernel
theorem endsN3b {i : Int} (h1 : 8 ≤ i) (h2 : i ≤ 15) : ckEnds (Str.ofString "\n") (bitsOf i 3) = true := by
  by_cases h8 : i < 12
  · exact endsN8 i (by simp only [List.mem_cons, List.not_mem_nil, or_false]; omega)
  exact endsN12 i (by simp only [List.mem_cons, List.not_mem_nil, or_false]; omega)
theorem endsR3b {i : Int} (h1 : 8 ≤ i) (h2 : i ≤ 15) : ckEnds (Str.ofString "\r") (bitsOf i 3) = true := by
  by_cases h8 : i < 12
  · exact endsR8 i (by simp only [List.mem_cons, List.not_mem_nil, or_false]; omega)
  exact endsR12 i (by simp only [List.mem_cons, List.not_mem_nil, or_false]; omega)
theorem endsB3b {i : Int} (h1 : 8 ≤ i) (h2 : i ≤ 15) : ckEnds (Str.ofString "\r\n") (bitsOf i 3) = true := by
  by_cases h8 : i < 12
  · exact endsB8 i (by simp only [List.mem_cons, List.not_mem_nil, or_false]; omega)
  exact endsB12 i (by simp only [List.mem_cons, List.not_mem_nil, or_false]; omega)
theorem more3b {i : Int} (h1 : 8 ≤ i) (h2 : i ≤ 15) : ckMore (bitsOf i 3) = true := by
  by_cases h8 : i < 12
  · exact more8 i (by simp only [List.mem_cons, List.not_mem_nil, or_false]; omega)
  exact more12 i (by simp only [List.mem_cons, List.not_mem_nil, or_false]; omega)
theorem mail3g1s0b {i : Int} (h1 : 8 ≤ i) (h2 : i ≤ 15) : ckMailG 1 (placeSt 1 i.toNat).f (toldF 0 (bitsOf i 3)) (Int.toNat 0) = true := by
  by_cases h8 : i < 12
  · exact mail8g1s0 i (by simp only [List.mem_cons, List.not_mem_nil, or_false]; omega)
  exact mail12g1s0 i (by simp only [List.mem_cons, List.not_mem_nil, or_false]; omega)
theorem mail3g1s1b {i : Int} (h1 : 8 ≤ i) (h2 : i ≤ 15) : ckMailG 1 (placeSt 1 i.toNat).f (toldF 1 (bitsOf i 3)) (Int.toNat 1) = true := by
  by_cases h8 : i < 12
  · exact mail8g1s1 i (by simp only [List.mem_cons, List.not_mem_nil, or_false]; omega)
  exact mail12g1s1 i (by simp only [List.mem_cons, List.not_mem_nil, or_false]; omega)
theorem mail3g1s2b {i : Int} (h1 : 8 ≤ i) (h2 : i ≤ 15) : ckMailG 1 (placeSt 1 i.toNat).f (toldF 2 (bitsOf i 3)) (Int.toNat 2) = true := by
  by_cases h8 : i < 12
  · exact mail8g1s2 i (by simp only [List.mem_cons, List.not_mem_nil, or_false]; omega)
  exact mail12g1s2 i (by simp only [List.mem_cons, List.not_mem_nil, or_false]; omega)
theorem mail3g1s3b {i : Int} (h1 : 8 ≤ i) (h2 : i ≤ 15) : ckMailG 1 (placeSt 1 i.toNat).f (toldF 3 (bitsOf i 3)) (Int.toNat 3) = true := by
  by_cases h8 : i < 12
  · exact mail8g1s3 i (by simp only [List.mem_cons, List.not_mem_nil, or_false]; omega)
  exact mail12g1s3 i (by simp only [List.mem_cons, List.not_mem_nil, or_false]; omega)
theorem mail3g1 {i sd : Int} (h1 : 8 ≤ i) (h2 : i ≤ 15) (hs : 0 ≤ sd ∧ sd ≤ 3) : ckMailG 1 (placeSt 1 i.toNat).f (toldF sd (bitsOf i 3)) sd.toNat = true := by
  have hc : sd = 0 ∨ sd = 1 ∨ sd = 2 ∨ sd = 3 := by omega
  rcases hc with rfl | rfl | rfl | rfl
  · exact mail3g1s0b h1 h2
  · exact mail3g1s1b h1 h2
  · exact mail3g1s2b h1 h2
  · exact mail3g1s3b h1 h2
theorem mail3g2s0b {i : Int} (h1 : 8 ≤ i) (h2 : i ≤ 15) : ckMailG 2 (placeSt 2 i.toNat).f (toldF 0 (bitsOf i 3)) (Int.toNat 0) = true := by
  by_cases h8 : i < 12
  · exact mail8g2s0 i (by simp only [List.mem_cons, List.not_mem_nil, or_false]; omega)
  exact mail12g2s0 i (by simp only [List.mem_cons, List.not_mem_nil, or_false]; omega)
theorem mail3g2s1b {i : Int} (h1 : 8 ≤ i) (h2 : i ≤ 15) : ckMailG 2 (placeSt 2 i.toNat).f (toldF 1 (bitsOf i 3)) (Int.toNat 1) = true := by
  by_cases h8 : i < 12
  · exact mail8g2s1 i (by simp only [List.mem_cons, List.not_mem_nil, or_false]; omega)
  exact mail12g2s1 i (by simp only [List.mem_cons, List.not_mem_nil, or_false]; omega)
theorem mail3g2s2b {i : Int} (h1 : 8 ≤ i) (h2 : i ≤ 15) : ckMailG 2 (placeSt 2 i.toNat).f (toldF 2 (bitsOf i 3)) (Int.toNat 2) = true := by
  by_cases h8 : i < 12
  · exact mail8g2s2 i (by simp only [List.mem_cons, List.not_mem_nil, or_false]; omega)
  exact mail12g2s2 i (by simp only [List.mem_cons, List.not_mem_nil, or_false]; omega)
theorem mail3g2s3b {i : Int} (h1 : 8 ≤ i) (h2 : i ≤ 15) : ckMailG 2 (placeSt 2 i.toNat).f (toldF 3 (bitsOf i 3)) (Int.toNat 3) = true := by
  by_cases h8 : i < 12
  · exact mail8g2s3 i (by simp only [List.mem_cons, List.not_mem_nil, or_false]; omega)
  exact mail12g2s3 i (by simp only [List.mem_cons, List.not_mem_nil, or_false]; omega)
theorem mail3g2 {i sd : Int} (h1 : 8 ≤ i) (h2 : i ≤ 15) (hs : 0 ≤ sd ∧ sd ≤ 3) : ckMailG 2 (placeSt 2 i.toNat).f (toldF sd (bitsOf i 3)) sd.toNat = true := by
  have hc : sd = 0 ∨ sd = 1 ∨ sd = 2 ∨ sd = 3 := by omega
  rcases hc with rfl | rfl | rfl | rfl
  · exact mail3g2s0b h1 h2
  · exact mail3g2s1b h1 h2
  · exact mail3g2s2b h1 h2
  · exact mail3g2s3b h1 h2
theorem ends3 {i : Int} {e : Str} (h1 : 8 ≤ i) (h2 : i ≤ 15) (he : e = Str.ofString "\n" ∨ e = Str.ofString "\r" ∨ e = Str.ofString "\r\n") : ckEnds e (bitsOf i 3) = true := by
  rcases he with rfl | rfl | rfl
  · exact endsN3b h1 h2
  · exact endsR3b h1 h2
  · exact endsB3b h1 h2
theorem endsN4b {i : Int} (h1 : 16 ≤ i) (h2 : i ≤ 31) : ckEnds (Str.ofString "\n") (bitsOf i 4) = true := by
  by_cases h16 : i < 20
  · exact endsN16 i (by simp only [List.mem_cons, List.not_mem_nil, or_false]; omega)
  by_cases h20 : i < 24
  · exact endsN20 i (by simp only [List.mem_cons, List.not_mem_nil, or_false]; omega)
  by_cases h24 : i < 28
  · exact endsN24 i (by simp only [List.mem_cons, List.not_mem_nil, or_false]; omega)
  exact endsN28 i (by simp only [List.mem_cons, List.not_mem_nil, or_false]; omega)
theorem endsR4b {i : Int} (h1 : 16 ≤ i) (h2 : i ≤ 31) : ckEnds (Str.ofString "\r") (bitsOf i 4) = true := by
  by_cases h16 : i < 20
  · exact endsR16 i (by simp only [List.mem_cons, List.not_mem_nil, or_false]; omega)
  by_cases h20 : i < 24
  · exact endsR20 i (by simp only [List.mem_cons, List.not_mem_nil, or_false]; omega)
  by_cases h24 : i < 28
  · exact endsR24 i (by simp only [List.mem_cons, List.not_mem_nil, or_false]; omega)
  exact endsR28 i (by simp only [List.mem_cons, List.not_mem_nil, or_false]; omega)
theorem endsB4b {i : Int} (h1 : 16 ≤ i) (h2 : i ≤ 31) : ckEnds (Str.ofString "\r\n") (bitsOf i 4) = true := by
  by_cases h16 : i < 20
  · exact endsB16 i (by simp only [List.mem_cons, List.not_mem_nil, or_false]; omega)
  by_cases h20 : i < 24
  · exact endsB20 i (by simp only [List.mem_cons, List.not_mem_nil, or_false]; omega)
  by_cases h24 : i < 28
  · exact endsB24 i (by simp only [List.mem_cons, List.not_mem_nil, or_false]; omega)
  exact endsB28 i (by simp only [List.mem_cons, List.not_mem_nil, or_false]; omega)
theorem more4b {i : Int} (h1 : 16 ≤ i) (h2 : i ≤ 31) : ckMore (bitsOf i 4) = true := by
  by_cases h16 : i < 20
  · exact more16 i (by simp only [List.mem_cons, List.not_mem_nil, or_false]; omega)
  by_cases h20 : i < 24
  · exact more20 i (by simp only [List.mem_cons, List.not_mem_nil, or_false]; omega)
  by_cases h24 : i < 28
  · exact more24 i (by simp only [List.mem_cons, List.not_mem_nil, or_false]; omega)
  exact more28 i (by simp only [List.mem_cons, List.not_mem_nil, or_false]; omega)
theorem mail4g1s0b {i : Int} (h1 : 16 ≤ i) (h2 : i ≤ 31) : ckMailG 1 (placeSt 1 i.toNat).f (toldF 0 (bitsOf i 4)) (Int.toNat 0) = true := by
  by_cases h16 : i < 20
  · exact mail16g1s0 i (by simp only [List.mem_cons, List.not_mem_nil, or_false]; omega)
  by_cases h20 : i < 24
  · exact mail20g1s0 i (by simp only [List.mem_cons, List.not_mem_nil, or_false]; omega)
  by_cases h24 : i < 28
  · exact mail24g1s0 i (by simp only [List.mem_cons, List.not_mem_nil, or_false]; omega)
  exact mail28g1s0 i (by simp only [List.mem_cons, List.not_mem_nil, or_false]; omega)
theorem mail4g1s1b {i : Int} (h1 : 16 ≤ i) (h2 : i ≤ 31) : ckMailG 1 (placeSt 1 i.toNat).f (toldF 1 (bitsOf i 4)) (Int.toNat 1) = true := by
  by_cases h16 : i < 20
  · exact mail16g1s1 i (by simp only [List.mem_cons, List.not_mem_nil, or_false]; omega)
  by_cases h20 : i < 24
  · exact mail20g1s1 i (by simp only [List.mem_cons, List.not_mem_nil, or_false]; omega)
  by_cases h24 : i < 28
  · exact mail24g1s1 i (by simp only [List.mem_cons, List.not_mem_nil, or_false]; omega)
  exact mail28g1s1 i (by simp only [List.mem_cons, List.not_mem_nil, or_false]; omega)
theorem mail4g1s2b {i : Int} (h1 : 16 ≤ i) (h2 : i ≤ 31) : ckMailG 1 (placeSt 1 i.toNat).f (toldF 2 (bitsOf i 4)) (Int.toNat 2) = true := by
  by_cases h16 : i < 20
  · exact mail16g1s2 i (by simp only [List.mem_cons, List.not_mem_nil, or_false]; omega)
  by_cases h20 : i < 24
  · exact mail20g1s2 i (by simp only [List.mem_cons, List.not_mem_nil, or_false]; omega)
  by_cases h24 : i < 28
  · exact mail24g1s2 i (by simp only [List.mem_cons, List.not_mem_nil, or_false]; omega)
  exact mail28g1s2 i (by simp only [List.mem_cons, List.not_mem_nil, or_false]; omega)
theorem mail4g1s3b {i : Int} (h1 : 16 ≤ i) (h2 : i ≤ 31) : ckMailG 1 (placeSt 1 i.toNat).f (toldF 3 (bitsOf i 4)) (Int.toNat 3) = true := by
  by_cases h16 : i < 20
  · exact mail16g1s3 i (by simp only [List.mem_cons, List.not_mem_nil, or_false]; omega)
  by_cases h20 : i < 24
  · exact mail20g1s3 i (by simp only [List.mem_cons, List.not_mem_nil, or_false]; omega)
  by_cases h24 : i < 28
  · exact mail24g1s3 i (by simp only [List.mem_cons, List.not_mem_nil, or_false]; omega)
  exact mail28g1s3 i (by simp only [List.mem_cons, List.not_mem_nil, or_false]; omega)
theorem mail4g1 {i sd : Int} (h1 : 16 ≤ i) (h2 : i ≤ 31) (hs : 0 ≤ sd ∧ sd ≤ 3) : ckMailG 1 (placeSt 1 i.toNat).f (toldF sd (bitsOf i 4)) sd.toNat = true := by
  have hc : sd = 0 ∨ sd = 1 ∨ sd = 2 ∨ sd = 3 := by omega
  rcases hc with rfl | rfl | rfl | rfl
  · exact mail4g1s0b h1 h2
  · exact mail4g1s1b h1 h2
  · exact mail4g1s2b h1 h2
  · exact mail4g1s3b h1 h2
theorem ends4 {i : Int} {e : Str} (h1 : 16 ≤ i) (h2 : i ≤ 31) (he : e = Str.ofString "\n" ∨ e = Str.ofString "\r" ∨ e = Str.ofString "\r\n") : ckEnds e (bitsOf i 4) = true := by
  rcases he with rfl | rfl | rfl
  · exact endsN4b h1 h2
  · exact endsR4b h1 h2
  · exact endsB4b h1 h2
end

section
open PySem PySem.W PySem.Spec PyProof.Rows
theorem rest_UPlain {prog : PySem.Program} {w : PySem.World} {A : PySem.Around} {env : PySem.Env} {Q : PySem.Flow → PySem.Shared → Prop} {E : PySem.Value → PySem.Shared → Prop} {s : PySem.Shared} (h : PySem.wpAny (PySem.model prog w) A (PySem.execs [] env) Q E s) : PySem.wpAny (PySem.model prog w) A (PySem.execs [] env) Q E s := by
  w_top off
  k_with_none
  first | (walk1; fail) | exact h
set_option maxRecDepth 100000
set_option maxHeartbeats 0
set_option pp.deepTerms false
theorem plain {nb : Nat} {index give bas sd : Int} {e f : Str} (hn : (nb = 3 ∧ 8 ≤ index ∧ index ≤ 15 ∧ (give = 1 ∨ give = 2)) ∨ (nb = 4 ∧ 16 ≤ index ∧ index ≤ 31 ∧ give = 1)) (hb : 0 ≤ bas ∧ bas ≤ 11) (he : e = Str.ofString "\n" ∨ e = Str.ofString "\r" ∨ e = Str.ofString "\r\n")
    (hf : f = (placeSt give index.toNat).f) (hsd : 0 ≤ sd ∧ sd ≤ 3) : ∃ q ml OV UN pl, SendFacts give sd bas (bitsOf index nb) f (textOf e (bitsOf index nb)) q ml OV UN pl := by
  rcases hn with ⟨rfl, h1, h2, rfl | rfl⟩ | ⟨rfl, h1, h2, rfl⟩
  · rw [hf]; exact facts_of hsd (.inl rfl) hb (ends3 h1 h2 he) (more3b h1 h2) (mail3g1 h1 h2 hsd)
  · rw [hf]; exact facts_of hsd (.inr rfl) hb (ends3 h1 h2 he) (more3b h1 h2) (mail3g2 h1 h2 hsd)
  · rw [hf]; exact facts_of hsd (.inl rfl) hb (ends4 h1 h2 he) (more4b h1 h2) (mail4g1 h1 h2 hsd)
end

section
open PySem PySem.W PySem.Spec PyProof.Rows
theorem rest_ULawG {prog : PySem.Program} {w : PySem.World} {A : PySem.Around} {env : PySem.Env} {Q : PySem.Flow → PySem.Shared → Prop} {E : PySem.Value → PySem.Shared → Prop} {s : PySem.Shared} (h : PySem.wpAny (PySem.model prog w) A (PySem.execs [] env) Q E s) : PySem.wpAny (PySem.model prog w) A (PySem.execs [] env) Q E s := by
  w_top off
  k_with_none
  first | (walk1; fail) | exact h
set_option maxRecDepth 100000
set_option maxHeartbeats 0
set_option pp.deepTerms false
local macro_rules | `(tactic| k_room) => `(tactic| ktr_room)
theorem rule_ULawG_1 : True := by
  k_with "exec For Name List cons nil" => ((k_here; k_dflt (refine for_any ?_)))
  exact trivial
theorem law_sends {w : World} {p : Program} {loose : List Str} {mean : ExcName → Option Value} {mg mb : Str → Option Value} {dp un : Nat} {gd : Option (List Code)} {L fa D : Addr} {cd : Value} {outer : List Env} {A₀ : Around} {base h₀ : Heap} {m : Str → Option Value} {s : Shared} {Q : Flow → Shared → Prop} {E : Value → Shared → Prop}
    {o1 o2 o3 o4 : Obj} {dep index give bas h4 : Int} {e : Str} {te ti tb tg t4 tf tt : Tok} {HA HB HC HD : Value} {f : Str}
    {D3 : Addr} {ys : List Value} {k3 nb : Nat} {cR cS : Addr} {ocR ocS : Obj} {ta tb2 tc td2 : Tok}
    (lo : TabOrd cS cR (rest5 L D HA HB HC HD h4 t4 o1 o2 o3 o4))
    (B : Below A₀ base outer h₀) (F : Fr h₀ L s.heap m) (X : (hd.heap_39 w.params).In h₀)
    (N : News h₀ L s.heap ((D3, W.listOf ys.toArray k3) :: (187, tab2 ta tb2 tc td2 cS cR) :: (cS, ocS) :: (cR, ocR) :: rest5 L D HA HB HC HD h4 t4 o1 o2 o3 o4))
    (T : Top p loose mean mg mb h₀) (hC : CodeHd h₀ 191 187) (h187 : @LT.lt Nat _ 187 L) (hD : @LT.lt Nat _ (L + 1 + 1 + 1 + 1) D)
    (hs : Start dep index give bas h4 e) (ms : m "steps" = some (.ref D3)) (mt : m "text" = some (.str (textOf e (bitsOf index nb)) tt)) (hys : IntsAre ys (bitsOf index nb)) (hn : (nb = 3 ∧ 8 ≤ index ∧ index ≤ 15 ∧ (give = 1 ∨ give = 2)) ∨ (nb = 4 ∧ 16 ≤ index ∧ index ≤ 31 ∧ give = 1)) (hD3 : D3 ≠ cS ∧ D3 ≠ cR ∧ D3 ≠ 187) (mgv : m "give" = some (.int give tg)) (mh : m "heaps" = some (.ref D)) (mf : m "found" = some (.str f tf)) (hf : f = (placeSt give index.toNat).f)
    (c4 : o4.data = .cell (some (.str e te))) (c3 : o3.data = .cell (some (.int bas tb))) (c2 : o2.data = .cell (some (.int index ti)))
    (lR : LamCode lamQual ocR) (lS : LamCode lamQual ocS)
    (hd0 : dp + 200 < recursionLimit) (hu0 : un + 400 < cLine) (hret : ∀ h' tk m' news' ps, Fr h₀ L h' m' → News h₀ L h' ((187, tabObj ps) :: news') → Q (.ret (.bool true)) { s with heap := h', toks := tk })
    (hE : PassesOwn (model PySem.Challenge.rw_uc0020_01.row.prog w) (ktrTop dp un gd "law" lawScope L fa cd (lawCells L) outer) (envX "law" lawScope L fa cd (lawCells L)) E) :
    wpAny (model PySem.Challenge.rw_uc0020_01.row.prog w) (ktrTop dp un gd "law" lawScope L fa cd (lawCells L) outer) (execs (lawBody.drop 13) (envX "law" lawScope L fa cd (lawCells L))) Q E s := by
  revert X
  k_fill
  intro X
  obtain ⟨sc, hsc⟩ : ∃ sc, lawScope = sc := ⟨_, rfl⟩
  obtain ⟨lb, hlb⟩ : ∃ lb, lawBody.drop 13 = lb := ⟨_, rfl⟩
  have hE0 := hE
  rw [hsc] at hE ⊢
  rw [hlb]
  conv at hsc => lhs; whnf
  conv at hlb => lhs; whnf
  subst hsc
  subst hlb
  have kMark := kstMark
  have hI0 : IntsAre [] [] := .nil
  have hS0 : StrsAre [] [] := .nil
  have lF := fr_kst [("steps", .ref D3), ("text", .str (textOf e (bitsOf index nb)) tt), ("found", .str f tf), ("give", .int give tg), ("heaps", .ref D)] (by simp [ms, mt, mgv, mh, mf]) F
  clear F ms mt mgv mh mf
  dsimp only [rest5] at N
  obtain ⟨h4a, h4b⟩ := hs.c
  have hbl : ys.length ≤ 4 := by
    rw [IntsAre.length hys]
    unfold bitsOf
    rw [List.length_map, List.length_range]
    omega
  k_steps
  (rename Fr _ _ _ _ => lF)
  (rename News _ _ _ _ => lN)
  refine list_at (news := ((187, tab2 ta tb2 tc td2 cS cR) :: (cS, ocS) :: (cR, ocR) :: (D3, W.listOf ys.toArray k3) :: rest5 L D HA HB HC HD h4 t4 o1 o2 o3 o4)) (fun i m nx => ∃ vt, nx = ((187, tab2 ta tb2 tc td2 cS cR) :: (cS, ocS) :: (cR, ocR) :: (D3, W.listOf ys.toArray k3) :: rest5 L D HA HB HC HD h4 t4 o1 o2 o3 o4) ∧ m "steps" = some (.ref D3) ∧ m "text" = some vt ∧ m "found" = some (.str f tf) ∧ m "give" = some (.int give tg) ∧ m "heaps" = some (.ref D) ∧ (i < 2 → ∃ t', vt = .str (textOf e (bitsOf index nb)) t')) ⟨_, (lN _ (.head _)).1, rfl, _, rfl⟩ (lN _ (.head _)).2.2 (Ne.symm (lN _ (.head _)).2.1) ?hln lF ?hN ?h0 rfl rfl hE rfl ?turn ?done
  case hN =>
    refine List.forall_mem_cons.mpr ⟨lN _ (by k_mem), ?_⟩
    refine List.forall_mem_cons.mpr ⟨lN _ (by k_mem), ?_⟩
    refine List.forall_mem_cons.mpr ⟨lN _ (by k_mem), ?_⟩
    refine List.forall_mem_cons.mpr ⟨lN _ (by k_mem), ?_⟩
    refine List.forall_mem_cons.mpr ⟨lN _ (by k_mem), ?_⟩
    refine List.forall_mem_cons.mpr ⟨lN _ (by k_mem), ?_⟩
    refine List.forall_mem_cons.mpr ⟨lN _ (by k_mem), ?_⟩
    refine List.forall_mem_cons.mpr ⟨lN _ (by k_mem), ?_⟩
    refine List.forall_mem_cons.mpr ⟨lN _ (by k_mem), ?_⟩
    exact fun _ hq => nomatch hq
  case hln =>
    refine List.forall_mem_cons.mpr ⟨Nat.ne_of_lt (by dsimp only; omega), ?_⟩
    refine List.forall_mem_cons.mpr ⟨Nat.ne_of_lt (by dsimp only; omega), ?_⟩
    refine List.forall_mem_cons.mpr ⟨Nat.ne_of_lt (by dsimp only; omega), ?_⟩
    refine List.forall_mem_cons.mpr ⟨Nat.ne_of_lt (by dsimp only; omega), ?_⟩
    refine List.forall_mem_cons.mpr ⟨Nat.ne_of_lt (by dsimp only; omega), ?_⟩
    refine List.forall_mem_cons.mpr ⟨Nat.ne_of_lt (by dsimp only; omega), ?_⟩
    refine List.forall_mem_cons.mpr ⟨Nat.ne_of_lt (by dsimp only; omega), ?_⟩
    refine List.forall_mem_cons.mpr ⟨Nat.ne_of_lt (by dsimp only; omega), ?_⟩
    refine List.forall_mem_cons.mpr ⟨Nat.ne_of_lt (by dsimp only; omega), ?_⟩
    exact fun _ hq => nomatch hq
  case h0 => exact ⟨_, rfl, rfl, rfl, rfl, rfl, rfl, fun _ => ⟨_, rfl⟩⟩
  case done =>
    clear lF lN
    rintro m₁ nx h tk ⟨vt, rfl, m1, m2, m3, m4, m5, _⟩ F N
    have N9 : News h₀ L h ((187, tab2 ta tb2 tc td2 cS cR) :: (cS, ocS) :: (cR, ocR) :: (D3, W.listOf ys.toArray k3) :: rest5 L D HA HB HC HD h4 t4 o1 o2 o3 o4) := N
    have F9 : Fr h₀ L h m₁ := F
    dsimp only
    k_steps
    exact hret _ _ _ _ _ F9 N9
  case turn =>
    clear lF lN
    rintro i v m₁ nx h tk own hv hoff ⟨vt, rfl, m1, m2, m3, m4, m5, m6⟩ F N
    have hcase : ∃ sd tsd, v = .int sd tsd ∧ (0 ≤ sd ∧ sd ≤ 3) ∧ i < 2 ∧ (i = 0 → sd = 0) := by
      have hb0 := Int.fmod_nonneg_of_pos (h4.fdiv 3) (show (0 : Int) < 3 by decide)
      have hb1 := Int.fmod_lt_of_pos (h4.fdiv 3) (show (0 : Int) < 3 by decide)
      match i, hv with
      | 0, hv => simp at hv; exact ⟨_, _, hv.symm, ⟨by omega, by omega⟩, by omega, fun _ => rfl⟩
      | 1, hv => simp at hv; exact ⟨_, _, hv.symm, ⟨by omega, by omega⟩, by omega, fun h => by omega⟩
      | i + 2, hv => simp at hv
    obtain ⟨sd, tsd, rfl, hsd, hi2, hi0⟩ := hcase
    obtain ⟨tx, rfl⟩ := m6 hi2
    obtain ⟨q, ml, OV, UN, pl, SF⟩ := plain hn hs.b hs.d hf hsd
    have N9 : News h₀ L h ((187, tab2 ta tb2 tc td2 cS cR) :: (cS, ocS) :: (cR, ocR) :: (D3, W.listOf ys.toArray k3) :: (rest5 L D HA HB HC HD h4 t4 o1 o2 o3 o4 ++ own)) := N
    have F9 : Fr h₀ L h (fun y => if y = Str.ofString "sends" then some (.int sd tsd) else m₁ y) := F
    have lo9 : TabOrd cS cR ((D3, W.listOf ys.toArray k3) :: (rest5 L D HA HB HC HD h4 t4 o1 o2 o3 o4 ++ own)) := by
      obtain ⟨z1, z2, z3, z4⟩ := lo
      have ho : ∀ p ∈ own, p.1 ≠ 187 ∧ p.1 ≠ cS ∧ p.1 ≠ cR := fun p hp => ⟨hoff p hp _ (by simp), hoff p hp _ (by simp), hoff p hp _ (by simp)⟩
      have key : ∀ {b : Addr}, D3 ≠ b → OwnOff (rest5 L D HA HB HC HD h4 t4 o1 o2 o3 o4) [b] → (∀ p ∈ own, p.1 ≠ b) → OwnOff ((D3, W.listOf ys.toArray k3) :: (rest5 L D HA HB HC HD h4 t4 o1 o2 o3 o4 ++ own)) [b] := by
        intro b h1 h2 h3 p hp x hx
        rw [List.mem_singleton.mp hx]
        rcases List.mem_cons.mp hp with rfl | hp
        · exact h1
        · rcases List.mem_append.mp hp with hp | hp
          · exact h2 p hp b (by simp)
          · exact h3 p hp
      exact ⟨key hD3.2.2 z1 fun p hp => (ho p hp).1, key hD3.1 z2 fun p hp => (ho p hp).2.1, key hD3.2.1 z3 fun p hp => (ho p hp).2.2, z4⟩
    refine send_mail (k3 := k3) (s := { s with heap := h, toks := tk }) (D := D) (give := give) (f := f) SF B F9 X N9 T hC (by simp) hys hbl m1 rfl m2 m4 m5 m3 ?_ hd0 hu0 hE
    intro h1 tk1 mA tm tt' FA NA a1 a2 a3 a4 a5 a6 a7
    refine send_lex (tt := tt') (s := { s with heap := h1, toks := tk1 }) (D := D) (D3 := D3) SF lo9 lR lS B FA X NA T hC a1 a2 a3 a4 a5 a6 a7 ?_ hd0 hu0 hE
    intro h2 tk2 mB tO tU FB NB b1 b2 b3 b4 b5 b6 b7 b8
    refine send_num (s := { s with heap := h2, toks := tk2 }) (D := D) (D3 := D3) (o3 := o3) (news := ((187, tab2 ta tb2 tc td2 cS cR) :: (cS, ocS) :: (cR, ocR) :: (D3, W.listOf ys.toArray k3) :: (rest5 L D HA HB HC HD h4 t4 o1 o2 o3 o4 ++ own))) SF B FB X (List.forall_mem_cons.mpr ⟨NB _ (by simp), NB⟩) T hC c3 b7 b8 b1 b2 b3 b4 b5 b6 ?_ hd0 hu0 hE
    intro h3 tk3 mC FC NC d1 d2 d3 d4 d5
    refine ⟨h3, tk3, mC, ((187, tab2 ta tb2 tc td2 cS cR) :: (cS, ocS) :: (cR, ocR) :: (D3, W.listOf ys.toArray k3) :: rest5 L D HA HB HC HD h4 t4 o1 o2 o3 o4), rfl, FC, fun p hp => NC p (.tail _ hp), hoff, ⟨_, rfl, d1, d2, d5, d3, d4, ?_⟩⟩
    intro hi3
    have hz : sd = 0 := hi0 (by omega)
    refine ⟨tt', ?_⟩
    have := SF.q0
    rw [hz]
    rw [show (0 : Int).toNat = 0 from rfl, this]
end

section
open PySem PySem.W PySem.Spec PyProof.Rows
theorem rest_ULawE {prog : PySem.Program} {w : PySem.World} {A : PySem.Around} {env : PySem.Env} {Q : PySem.Flow → PySem.Shared → Prop} {E : PySem.Value → PySem.Shared → Prop} {s : PySem.Shared} (h : PySem.wpAny (PySem.model prog w) A (PySem.execs [] env) Q E s) : PySem.wpAny (PySem.model prog w) A (PySem.execs [] env) Q E s := by
  w_top off
  k_with_none
  first | (walk1; fail) | exact h
set_option maxRecDepth 100000
set_option maxHeartbeats 0
set_option pp.deepTerms false
local macro_rules | `(tactic| k_room) => `(tactic| ktr_room)
theorem rule_ULawE_1 : True := by
  k_with "call ref" => ((k_here; (with_reducible show wpAny _ _ (call (Value.ref _) _) _ _ _); refine CallAt.intro ?_))
  exact trivial
theorem rule_ULawE_2 : True := by
  k_with "exec Assign cons ListComp" => ((k_here; k_dflt (refine' steps_assign ?F ?hLe ?hsw ?hy0 ?hp0 ?hh ?c1 ?c2 ?c3 ?c4 ?c5 ?hy ?hyc ?x1 ?x2 ?_; (case F => k_asm); (case hLe => rfl); (case hsw => with_unfolding_all rfl); (case hy0 => rfl); (case hp0 => rfl); (case hh => rfl); (case c1 => rfl); (case c2 => decide); (case c3 => rfl); (case c4 => decide); (case c5 => rfl); (case hy => (intro _; rfl)); (case hyc => rfl); (case x1 => decide); (case x2 => decide))))
  exact trivial
theorem rule_ULawE_3 : True := by
  k_with "R ULawE 3" => (k_here; (try dsimp only); k_dflt (refine' text_comp ?F ?N ?hLe ?hek ?hez ?hmz ?hmD ?hI ?hlen ?hmc ?hdc ?hh ?c1 ?c2 ?c3 ?c4 ?c5 ?hy ?hyc ?x1 ?x2 ?x3 ?_; (case F => k_asm); (case N => k_asm); (case hLe => rfl); (case hek => rfl); (case hez => rfl); (case hmz => exact rfl); (case hmD => k_mem); (case hI => assumption); (case hlen => assumption); (case c1 => rfl); (case hyc => rfl); (case hmc => k_mem); (case hdc => assumption); (case hh => rfl); (case c2 => decide); (case c3 => rfl); (case c4 => decide); (case c5 => rfl); (case hy => (intro _; rfl)); (case x1 => decide); (case x2 => decide); (case x3 => decide)))
  exact trivial
local macro_rules | `(tactic| walk_at "eval ListComp") => `(tactic| (k_extra "R ULawE 3"; intro D' h' tk' ys' k' F' N' ne' hs'))
theorem law_text {w : World} {p : Program} {loose : List Str} {mean : ExcName → Option Value} {mg mb : Str → Option Value} {dp un : Nat} {gd : Option (List Code)} {L fa D : Addr} {cd : Value} {outer : List Env} {A₀ : Around} {base h₀ : Heap} {m : Str → Option Value} {s : Shared} {Q : Flow → Shared → Prop} {E : Value → Shared → Prop}
    {o1 o2 o3 o4 : Obj} {dep index give bas h4 : Int} {e : Str} {te ti tb tg t4 tf : Tok} {HA HB HC HD : Value} {f : Str}
    {D3 : Addr} {ys : List Value} {k3 nb : Nat} {cR cS : Addr} {ocR ocS : Obj} {ta tb2 tc td2 : Tok}
    (lo : TabOrd cS cR (rest5 L D HA HB HC HD h4 t4 o1 o2 o3 o4))
    (B : Below A₀ base outer h₀) (F : Fr h₀ L s.heap m) (X : (hd.heap_39 w.params).In h₀)
    (N : News h₀ L s.heap ((D3, W.listOf ys.toArray k3) :: (187, tab2 ta tb2 tc td2 cS cR) :: (cS, ocS) :: (cR, ocR) :: rest5 L D HA HB HC HD h4 t4 o1 o2 o3 o4))
    (T : Top p loose mean mg mb h₀) (hC : CodeHd h₀ 191 187) (h187 : @LT.lt Nat _ 187 L) (hD : @LT.lt Nat _ (L + 1 + 1 + 1 + 1) D)
    (hs : Start dep index give bas h4 e) (ms : m "steps" = some (.ref D3)) (hys : IntsAre ys (bitsOf index nb)) (hn : (nb = 3 ∧ 8 ≤ index ∧ index ≤ 15 ∧ (give = 1 ∨ give = 2)) ∨ (nb = 4 ∧ 16 ≤ index ∧ index ≤ 31 ∧ give = 1)) (hD3 : D3 ≠ cS ∧ D3 ≠ cR ∧ D3 ≠ 187) (mgv : m "give" = some (.int give tg)) (mh : m "heaps" = some (.ref D)) (mf : m "found" = some (.str f tf)) (hf : f = (placeSt give index.toNat).f)
    (c4 : o4.data = .cell (some (.str e te))) (c3 : o3.data = .cell (some (.int bas tb))) (c2 : o2.data = .cell (some (.int index ti)))
    (lR : LamCode lamQual ocR) (lS : LamCode lamQual ocS)
    (hd0 : dp + 200 < recursionLimit) (hu0 : un + 400 < cLine) (hret : ∀ h' tk m' news' ps, Fr h₀ L h' m' → News h₀ L h' ((187, tabObj ps) :: news') → Q (.ret (.bool true)) { s with heap := h', toks := tk })
    (hE : PassesOwn (model PySem.Challenge.rw_uc0020_01.row.prog w) (ktrTop dp un gd "law" lawScope L fa cd (lawCells L) outer) (envX "law" lawScope L fa cd (lawCells L)) E) :
    wpAny (model PySem.Challenge.rw_uc0020_01.row.prog w) (ktrTop dp un gd "law" lawScope L fa cd (lawCells L) outer) (execs (lawBody.drop 12) (envX "law" lawScope L fa cd (lawCells L))) Q E s := by
  revert X
  k_fill
  intro X
  obtain ⟨sc, hsc⟩ : ∃ sc, lawScope = sc := ⟨_, rfl⟩
  obtain ⟨lb, hlb⟩ : ∃ lb, lawBody.drop 12 = lb := ⟨_, rfl⟩
  rw [hsc] at hE ⊢
  rw [hlb]
  conv at hsc => lhs; whnf
  conv at hlb => lhs; whnf
  subst hsc
  subst hlb
  have kMark := kstMark
  have hI0 : IntsAre [] [] := .nil
  have hS0 : StrsAre [] [] := .nil
  have lF := fr_kst [("steps", .ref D3), ("found", .str f tf), ("give", .int give tg), ("heaps", .ref D)] (by simp [ms, mgv, mh, mf]) F
  clear F ms mgv mh mf
  dsimp only [rest5] at N
  have hyl : ys.length ≤ 100 := by
    rw [IntsAre.length hys]
    unfold bitsOf
    rw [List.length_map, List.length_range]
    omega
  refine exec_split1 ?_
  k_steps
  (rename Fr _ _ _ _ => lF)
  (rename News _ _ _ _ => lN)
  have hsx : ∃ (D9 : Addr) (yz : List Value) (k9 : Nat), StrsAre yz ((bitsOf index nb).map fun k => if k = 1 then Str.ofString "." else e) := ⟨L, _, 0, by assumption⟩
  clear hsx
  refine join_list (ys := (bitsOf index nb).map fun k => if k = 1 then Str.ofString "." else e) ⟨_, (lN _ (by k_mem)).1, rfl, _, rfl⟩ (by assumption) ?hok ?_
  case hok =>
    have he : e.length ≤ 2 := by rcases hs.d with rfl | rfl | rfl <;> decide
    have h1 := text_weight he (bitsOf index nb)
    have h2 : (bitsOf index nb).length ≤ 100 := by rw [← IntsAre.length hys]; exact hyl
    have h3 : (Str.ofString "").length = 0 := by decide
    rw [h3]
    omega
  intro t9 k9
  k_steps
  (rename Fr _ _ _ _ => lF)
  (rename News _ _ _ _ => lN)
  exact law_sends (D3 := D3) lo B lF X (fun q hq => lN q (.tail _ hq)) T hC h187 hD hs rfl rfl hys hn hD3 rfl rfl rfl hf c4 c3 c2 lR lS hd0 hu0 hret hE
end

section
open PySem PySem.W PySem.Spec PyProof.Rows
theorem rest_ULawD {prog : PySem.Program} {w : PySem.World} {A : PySem.Around} {env : PySem.Env} {Q : PySem.Flow → PySem.Shared → Prop} {E : PySem.Value → PySem.Shared → Prop} {s : PySem.Shared} (h : PySem.wpAny (PySem.model prog w) A (PySem.execs [] env) Q E s) : PySem.wpAny (PySem.model prog w) A (PySem.execs [] env) Q E s := by
  w_top off
  k_with_none
  first | (walk1; fail) | exact h
set_option maxRecDepth 100000
set_option maxHeartbeats 0
set_option pp.deepTerms false
local macro_rules | `(tactic| k_room) => `(tactic| ktr_room)
theorem rule_ULawD_1 : True := by
  k_with "call ref" => ((k_here; (with_reducible show wpAny _ _ (call (Value.ref _) _) _ _ _); refine CallAt.intro ?_))
  exact trivial
theorem rule_ULawD_2 : True := by
  k_with "exec Assign cons ListComp" => ((k_here; k_dflt (refine' steps_assign ?F ?hLe ?hsw ?hy0 ?hp0 ?hh ?c1 ?c2 ?c3 ?c4 ?c5 ?hy ?hyc ?x1 ?x2 ?_; (case F => k_asm); (case hLe => rfl); (case hsw => with_unfolding_all rfl); (case hy0 => rfl); (case hp0 => rfl); (case hh => rfl); (case c1 => rfl); (case c2 => decide); (case c3 => rfl); (case c4 => decide); (case c5 => rfl); (case hy => (intro _; rfl)); (case hyc => rfl); (case x1 => decide); (case x2 => decide))))
  exact trivial
theorem rule_ULawD_3 : True := by
  k_with "R ULawD 3" => (k_here; k_dflt (refine' text_comp ?F ?N ?hLe ?hek ?hez ?hmz ?hmD ?hI ?hlen ?hmc ?hdc ?hh ?c1 ?c2 ?c3 ?c4 ?c5 ?hy ?hyc ?x1 ?x2 ?x3 ?_; (case F => k_asm); (case N => k_asm); (case hLe => rfl); (case hek => rfl); (case hez => rfl); (case hmz => exact rfl); (case hmD => k_mem); (case hI => assumption); (case hlen => assumption); (case c1 => rfl); (case hyc => rfl); (case hmc => k_mem); (case hdc => assumption); (case hh => rfl); (case c2 => decide); (case c3 => rfl); (case c4 => decide); (case c5 => rfl); (case hy => (intro _; rfl)); (case x1 => decide); (case x2 => decide); (case x3 => decide)))
  exact trivial
local macro_rules | `(tactic| walk_at "eval ListComp") => `(tactic| (k_extra "R ULawD 3"; intro D' h' tk' ys' k' F' N' ne' hs'))
theorem law_tail {w : World} {p : Program} {loose : List Str} {mean : ExcName → Option Value} {mg mb : Str → Option Value} {dp un : Nat} {gd : Option (List Code)} {L fa D : Addr} {cd : Value} {outer : List Env} {A₀ : Around} {base h₀ : Heap} {m : Str → Option Value} {s : Shared} {Q : Flow → Shared → Prop} {E : Value → Shared → Prop}
    {o1 o2 o3 o4 : Obj} {dep index give bas h4 : Int} {e : Str} {te ti tb td tg t4 tf : Tok} {HA HB HC HD : Value} {f : Str}
    {cR cS : Addr} {ocR ocS : Obj} {ta tb2 tc td2 : Tok}
    (lo : TabOrd cS cR (rest5 L D HA HB HC HD h4 t4 o1 o2 o3 o4))
    (B : Below A₀ base outer h₀) (F : Fr h₀ L s.heap m) (X : (hd.heap_39 w.params).In h₀)
    (N : News h₀ L s.heap ((187, tab2 ta tb2 tc td2 cS cR) :: (cS, ocS) :: (cR, ocR) :: rest5 L D HA HB HC HD h4 t4 o1 o2 o3 o4))
    (T : Top p loose mean mg mb h₀) (hC : CodeHd h₀ 191 187) (h187 : @LT.lt Nat _ 187 L) (hD : @LT.lt Nat _ (L + 1 + 1 + 1 + 1) D)
    (hs : Start dep index give bas h4 e) (md : m "depth" = some (.int dep td)) (mgv : m "give" = some (.int give tg)) (mh : m "heaps" = some (.ref D)) (mf : m "found" = some (.str f tf)) (hf : f = (placeSt give index.toNat).f)
    (c4 : o4.data = .cell (some (.str e te))) (c3 : o3.data = .cell (some (.int bas tb))) (c2 : o2.data = .cell (some (.int index ti)))
    (lR : LamCode lamQual ocR) (lS : LamCode lamQual ocS)
    (hd0 : dp + 200 < recursionLimit) (hu0 : un + 400 < cLine) (hret : ∀ h' tk m' news' ps, Fr h₀ L h' m' → News h₀ L h' ((187, tabObj ps) :: news') → Q (.ret (.bool true)) { s with heap := h', toks := tk })
    (hE : PassesOwn (model PySem.Challenge.rw_uc0020_01.row.prog w) (ktrTop dp un gd "law" lawScope L fa cd (lawCells L) outer) (envX "law" lawScope L fa cd (lawCells L)) E) :
    wpAny (model PySem.Challenge.rw_uc0020_01.row.prog w) (ktrTop dp un gd "law" lawScope L fa cd (lawCells L) outer) (execs (lawBody.drop 11) (envX "law" lawScope L fa cd (lawCells L))) Q E s := by
  revert X
  k_fill
  intro X
  obtain ⟨sc, hsc⟩ : ∃ sc, lawScope = sc := ⟨_, rfl⟩
  obtain ⟨lb, hlb⟩ : ∃ lb, lawBody.drop 11 = lb := ⟨_, rfl⟩
  rw [hsc] at hE ⊢
  rw [hlb]
  conv at hsc => lhs; whnf
  conv at hlb => lhs; whnf
  subst hsc
  subst hlb
  have kMark := kstMark
  have hI0 : IntsAre [] [] := .nil
  have hS0 : StrsAre [] [] := .nil
  have lF := fr_kst [("found", .str f tf), ("depth", .int dep td), ("give", .int give tg), ("heaps", .ref D)] (by simp [md, mgv, mh, mf]) F
  clear F md mgv mh mf
  dsimp only [rest5] at N
  have hib : (dep = 3 ∧ 8 ≤ index ∧ index ≤ 15) ∨ (dep = 4 ∧ 16 ≤ index ∧ index ≤ 31) := by
    rcases hs.a with ⟨h0, h1, h2, _⟩ | ⟨h0, h1, h2, _⟩
    · exact .inl ⟨h0, h1, h2⟩
    · exact .inr ⟨h0, h1, h2⟩
  refine exec_split1 ?_
  have hgv := hs.a
  rcases hib with ⟨rfl, hi1, hi2⟩ | ⟨rfl, hi1, hi2⟩
  · walk_at "execs cons"
    walk_at "exec Assign cons ListComp"
    k_steps
    (rename Fr _ _ _ _ => lF)
    (rename News _ _ _ _ => lN)
    (rename IsRange _ _ _ _ _ _ _ _ => rgX)
    refine ⟨_, 3, _, _, _, _, _, index, _, rfl, by decide, by decide, rgX, by decide, lF, lN, by k_mem, c2, by omega, by omega, ?_⟩
    clear lF lN rgX
    intro D3 h3 tk3 ys k3 lF lN hne hys
    refine wpAny_execs_nil ?_
    exact law_text (s := { s with heap := h3, toks := tk3 }) (D3 := D3) (ys := ys.toList) (nb := 3) lo B lF X (fun q hq => lN q (by
      rcases List.mem_cons.mp hq with rfl | hq
      · exact .head _
      · exact .tail _ hq)) T hC h187 hD hs rfl hys (.inl ⟨rfl, hi1, hi2, by rcases hgv with ⟨_, _, _, h⟩ | ⟨h, _⟩ <;> first | exact h | omega⟩) ⟨fun q => hne (cS, ocS) (by k_mem) q.symm, fun q => hne (cR, ocR) (by k_mem) q.symm, fun q => hne (187, _) (by k_mem) q.symm⟩ rfl rfl rfl hf c4 c3 c2 lR lS hd0 hu0 hret hE
  · walk_at "execs cons"
    walk_at "exec Assign cons ListComp"
    k_steps
    (rename Fr _ _ _ _ => lF)
    (rename News _ _ _ _ => lN)
    (rename IsRange _ _ _ _ _ _ _ _ => rgX)
    refine ⟨_, 4, _, _, _, _, _, index, _, rfl, by decide, by decide, rgX, by decide, lF, lN, by k_mem, c2, by omega, by omega, ?_⟩
    clear lF lN rgX
    intro D3 h3 tk3 ys k3 lF lN hne hys
    refine wpAny_execs_nil ?_
    exact law_text (s := { s with heap := h3, toks := tk3 }) (D3 := D3) (ys := ys.toList) (nb := 4) lo B lF X (fun q hq => lN q (by
      rcases List.mem_cons.mp hq with rfl | hq
      · exact .head _
      · exact .tail _ hq)) T hC h187 hD hs rfl hys (.inr ⟨rfl, hi1, hi2, by rcases hgv with ⟨h, _⟩ | ⟨_, _, _, h⟩ <;> first | exact h | omega⟩) ⟨fun q => hne (cS, ocS) (by k_mem) q.symm, fun q => hne (cR, ocR) (by k_mem) q.symm, fun q => hne (187, _) (by k_mem) q.symm⟩ rfl rfl rfl hf c4 c3 c2 lR lS hd0 hu0 hret hE
end

section
open PySem PySem.W PySem.Spec PyProof.Rows
theorem rest_UPlaceF {prog : PySem.Program} {w : PySem.World} {A : PySem.Around} {env : PySem.Env} {Q : PySem.Flow → PySem.Shared → Prop} {E : PySem.Value → PySem.Shared → Prop} {s : PySem.Shared} (h : PySem.wpAny (PySem.model prog w) A (PySem.execs [] env) Q E s) : PySem.wpAny (PySem.model prog w) A (PySem.execs [] env) Q E s := by
  w_top off
  k_with_none
  first | (walk1; fail) | exact h
set_option maxRecDepth 100000
set_option maxHeartbeats 0
set_option pp.deepTerms false
theorem places_ok {dep index give : Int} {i : Nat} (h : (dep = 3 ∧ 8 ≤ index ∧ index ≤ 15 ∧ (give = 1 ∨ give = 2)) ∨ (dep = 4 ∧ 16 ≤ index ∧ index ≤ 31 ∧ give = 1)) (hi : (i : Int) < index) : placeOk give i = true := by
  rcases h with ⟨_, _, _, rfl | rfl⟩ | ⟨_, _, _, rfl⟩
  · exact places_ok1 i (by omega)
  · exact places_ok2 i (by omega)
  · exact places_ok1 i (by omega)
theorem place_zero {g o u : Int} {pb : List Str} {f : Str} (h : PlAt g 0 o u pb f) : pb = [] := by
  have e := h.eq
  simp only [placeSt, PlSt.mk.injEq] at e
  exact e.2.2.1.symm
theorem place_go {g o u : Int} {i : Nat} {pb : List Str} {f : Str} (h : PlAt g i o u pb f) (hi : i < 15) :
    PlAt g (i + 1) u (stopF u [o, o + u] - o - 2 * u) (pb.tail ++ [dotsA u (u + (stopF u [o, o + u] - o - 2 * u)), dotsA (u + (stopF u [o, o + u] - o - 2 * u)) (stopF u [o, o + u] - o - 2 * u)]) (tokOf g i pb) := by
  refine ⟨?_⟩
  rw [placeSt, h.eq]
  dsimp only
  rw [if_pos hi]
  rfl
theorem place_end {g o u : Int} {i : Nat} {pb : List Str} {f : Str} (h : PlAt g i o u pb f) (hi : ¬ i < 15) : PlAt g (i + 1) o u pb.tail (tokOf g i pb) := by
  refine ⟨?_⟩
  rw [placeSt, h.eq]
  dsimp only
  rw [if_neg hi]
  rfl
structure PlaceFacts (g : Int) (i : Nat) (o u : Int) (pb : List Str) : Prop where
  ne : i ≠ 0 → pb ≠ []
  len : pb.length ≤ 100
  lo : i < 15 → 0 < u ∧ u < 500 ∧ 0 ≤ o ∧ o < 500
  tok : i < 15 → tokOf g i pb = dotsA u (stopF u [o, o + u] - o - 2 * u) ∧ 0 ≤ stopF u [o, o + u] - o - 2 * u ∧ stopF u [o, o + u] - o - 2 * u < 500
theorem place_facts {g o u : Int} {i : Nat} {pb : List Str} {f : Str} (h : PlAt g i o u pb f) (hok : placeOk g i = true) : PlaceFacts g i o u pb := by
  unfold placeOk at hok
  simp only [h.eq, Bool.and_eq_true, Bool.or_eq_true, beq_iff_eq, Bool.not_eq_true', decide_eq_true_eq, List.isEmpty_eq_false_iff] at hok
  obtain ⟨⟨h1, h2⟩, h3⟩ := hok
  refine ⟨fun n => h1.resolve_left n, h2, fun n => ?_, fun n => ?_⟩
  · exact (h3.resolve_left (by omega)).1.1
  · have hq := h3.resolve_left (by omega)
    rw [(place_go h n).eq] at hq
    exact ⟨hq.1.2, hq.2.1, hq.2.2⟩
end

section
open PySem PySem.W PySem.Spec PyProof.Rows
theorem rest_ULawC {prog : PySem.Program} {w : PySem.World} {A : PySem.Around} {env : PySem.Env} {Q : PySem.Flow → PySem.Shared → Prop} {E : PySem.Value → PySem.Shared → Prop} {s : PySem.Shared} (h : PySem.wpAny (PySem.model prog w) A (PySem.execs [] env) Q E s) : PySem.wpAny (PySem.model prog w) A (PySem.execs [] env) Q E s := by
  w_top off
  k_with_none
  first | (walk1; fail) | exact h
set_option maxRecDepth 100000
set_option maxHeartbeats 0
set_option pp.deepTerms false
theorem strs_push : ∀ {vs : List Value} {xs : List Str} {x : Str} {t : Tok}, StrsAre vs xs → StrsAre (vs ++ [.str x t]) (xs ++ [x])
  | _, _, x, t, .nil => .cons x t .nil
  | _, _, _, _, .cons y u r => .cons y u (strs_push r)
theorem tab_ord {l I dI dS R cR S cS D2 cel L D : Addr} {HA HB HC HD : Value} {h4 : Int} {t4 : Tok} {o1 o2 o3 o4 : Obj} (h : LexOrd l I dI dS R cR S cS D2 cel (rest5 L D HA HB HC HD h4 t4 o1 o2 o3 o4)) (h187 : @LT.lt Nat _ 187 L) (hD : @LT.lt Nat _ (L + 1 + 1 + 1 + 1) D) : TabOrd cS cR (rest5 L D HA HB HC HD h4 t4 o1 o2 o3 o4) := by
  obtain ⟨_, b, ⟨c1, c2, c3, c4, c5, _⟩⟩ := h
  have r1 := allLt_to b
  have big : ∀ p ∈ rest5 L D HA HB HC HD h4 t4 o1 o2 o3 o4, @LT.lt Nat _ 187 p.1 := by
    intro p hp
    simp only [List.mem_cons, List.not_mem_nil, or_false] at hp
    rcases hp with rfl | rfl | rfl | rfl | rfl <;> (dsimp only; omega)
  refine ⟨?_, ?_, ?_, ⟨by omega, by omega⟩⟩
  · intro p hp b hb
    rw [List.mem_singleton.mp hb]
    exact Nat.ne_of_gt (big p hp)
  · intro p hp b hb
    rw [List.mem_singleton.mp hb]
    have : @LT.lt Nat _ p.1 cel := r1 p hp
    exact Nat.ne_of_lt (by omega)
  · intro p hp b hb
    rw [List.mem_singleton.mp hb]
    have : @LT.lt Nat _ p.1 cel := r1 p hp
    exact Nat.ne_of_lt (by omega)
theorem core_tail {h : Heap} {h₀ : Heap} {L : Addr} {r1 r2 r3 r4 r5 r6 r7 r8 l cs t : Addr × Obj} {rest : List (Addr × Obj)} (N : News h₀ L h (r1 :: r2 :: r3 :: r4 :: r5 :: r6 :: r7 :: r8 :: l :: cs :: t :: rest)) : News h₀ L h (t :: cs :: r4 :: rest) := by
  repeat refine List.forall_mem_cons.mpr ⟨N _ (by repeat (first | exact List.Mem.head _ | refine List.Mem.tail _ ?_)), ?_⟩
  exact fun p hp => N p (by repeat (first | exact hp | refine List.Mem.tail _ ?_))
theorem perm_first {h : Heap} {h₀ : Heap} {L : Addr} {l I dI dS R cR S cS D cel t : Addr × Obj} {rest : List (Addr × Obj)} (N : News h₀ L h (l :: I :: dI :: dS :: R :: cR :: S :: cS :: D :: cel :: t :: rest)) :
    News h₀ L h (R :: D :: cel :: cR :: I :: dI :: dS :: S :: l :: cS :: t :: rest) := by
  repeat refine List.forall_mem_cons.mpr ⟨N _ (by repeat (first | exact List.Mem.head _ | refine List.Mem.tail _ ?_)), ?_⟩
  exact fun p hp => N p (by repeat (first | exact hp | refine List.Mem.tail _ ?_))
local macro_rules | `(tactic| k_room) => `(tactic| ktr_room)
local macro_rules | `(tactic| k_ne) => `(tactic| ((try dsimp only); first | with_reducible assumption | (refine Ne.symm ?_; with_reducible assumption)))
theorem rule_ULawC_1 : True := by
  k_with "call ref" => ((k_here; (with_reducible show wpAny _ _ (call (Value.ref _) _) _ _ _); refine CallAt.intro ?_))
  exact trivial
theorem rule_ULawC_2 : True := by
  k_with "exec For Name Call cons nil" => ((k_here; k_dflt (refine for_any ?_)))
  exact trivial
inductive PlaceInv (w : World) (dep give : Int) (td tg : Tok) (R D D2 I dI dS S l cS L : Addr) (q1 q2 : Str) (cel : Addr) (pm1 pm2 : Value) (cR : Addr) (ct1 ct2 : Value) (ocell ocR ocS : Obj) (k6 ta tb2 tc td2 : Tok) (HA HB HC HD : Value) (h4 : Int) (t4 : Tok) (o1 o2 o3 o4 : Obj) (i : Nat) (m : Str → Option Value) (nx : List (Addr × Obj)) : Prop
  | mk (ov un_ : Int) (pb : List Str) (f : Str) (pbv vs' : List Value) (n' np : Nat) (ln' : Int) (k0 k1 k2 k3 k4 k5 to tu tf : Tok) (e0 : PlAt give i ov un_ pb f)
      (e1 : m "line" = some (.ref I))
      (e2 : m "over" = some (.int ov to))
      (e3 : m "under" = some (.int un_ tu))
      (e4 : m "found" = some (.str f tf))
      (e5 : m "depth" = some (.int dep td))
      (e6 : m "give" = some (.int give tg))
      (e7 : m "heaps" = some (.ref D))
      (e8 : nx = coreL w ln' vs' n' R D2 I dI dS S l q1 q2 cel pm1 pm2 cR cS ct1 ct2 ocell ocR k0 k1 k2 k3 k4 k5 k6 ((l, W.listOf pbv.toArray np) :: (cS, ocS) :: (187, tab2 ta tb2 tc td2 cS cR) :: rest5 L D HA HB HC HD h4 t4 o1 o2 o3 o4))
      (e9 : StrsAre pbv pb)
      (e10 : (i = 0 → StrsAre vs' (signs (quoteOf give))))
theorem law_place {w : World} {p : Program} {loose : List Str} {mean : ExcName → Option Value} {mg mb : Str → Option Value} {dp un : Nat} {gd : Option (List Code)} {L fa D : Addr} {cd : Value} {outer : List Env} {A₀ : Around} {base h₀ : Heap} {m : Str → Option Value} {s : Shared} {Q : Flow → Shared → Prop} {E : Value → Shared → Prop}
    {o1 o2 o3 o4 : Obj} {dep index give bas h4 : Int} {e : Str} {te ti tb td tg t4 t5 t6 t7 : Tok} {HA HB HC HD : Value}
    {l I dI dS R cR S cS D2 cel : Addr} {q1 q2 : Str} {ocR ocS ocell : Obj} {pm1 pm2 ct1 ct2 : Value} {vs : List Value} {n : Nat} {k0 k1 k2 k3 k4 k5 k6 ta tb2 tc td2 : Tok}
    (lo : LexOrd l I dI dS R cR S cS D2 cel (rest5 L D HA HB HC HD h4 t4 o1 o2 o3 o4))
    (B : Below A₀ base outer h₀) (F : Fr h₀ L s.heap m) (X : (hd.heap_39 w.params).In h₀)
    (N : News h₀ L s.heap (coreL w 1 vs n R D2 I dI dS S l q1 q2 cel pm1 pm2 cR cS ct1 ct2 ocell ocR k0 k1 k2 k3 k4 k5 k6 ((l, W.listOf #[] 0) :: (cS, ocS) :: (187, tab2 ta tb2 tc td2 cS cR) :: rest5 L D HA HB HC HD h4 t4 o1 o2 o3 o4)))
    (T : Top p loose mean mg mb h₀) (hC : CodeHd h₀ 191 187) (h187 : @LT.lt Nat _ 187 L) (hD : @LT.lt Nat _ (L + 1 + 1 + 1 + 1) D)
    (hs : Start dep index give bas h4 e) (md : m "depth" = some (.int dep td)) (mgv : m "give" = some (.int give tg)) (mh : m "heaps" = some (.ref D)) (ml : m "line" = some (.ref I)) (mo : m "over" = some (.int 0 t5)) (mu : m "under" = some (.int give t6)) (mf : m "found" = some (.str (Str.ofString "") t7))
    (c4 : o4.data = .cell (some (.str e te))) (c3 : o3.data = .cell (some (.int bas tb))) (c2 : o2.data = .cell (some (.int index ti)))
    (hsv : StrsAre vs (signs (quoteOf give))) (hcell : IsCellOf ocell D2) (lR : LamCode lamQual ocR) (lS : LamCode lamQual ocS) (hq1 : q1 = lamQual) (hq2 : q2 = lamQual)
    (hd0 : dp + 200 < recursionLimit) (hu0 : un + 400 < cLine) (hret : ∀ h' tk m' news' ps, Fr h₀ L h' m' → News h₀ L h' ((187, tabObj ps) :: news') → Q (.ret (.bool true)) { s with heap := h', toks := tk })
    (hE : PassesOwn (model PySem.Challenge.rw_uc0020_01.row.prog w) (ktrTop dp un gd "law" lawScope L fa cd (lawCells L) outer) (envX "law" lawScope L fa cd (lawCells L)) E) :
    wpAny (model PySem.Challenge.rw_uc0020_01.row.prog w) (ktrTop dp un gd "law" lawScope L fa cd (lawCells L) outer) (execs (lawBody.drop 10) (envX "law" lawScope L fa cd (lawCells L))) Q E s := by
  revert X
  k_fill
  intro X
  obtain ⟨sc, hsc⟩ : ∃ sc, lawScope = sc := ⟨_, rfl⟩
  obtain ⟨lb, hlb⟩ : ∃ lb, lawBody.drop 10 = lb := ⟨_, rfl⟩
  rw [hsc] at hE ⊢
  rw [hlb]
  conv at hsc => lhs; whnf
  conv at hlb => lhs; whnf
  subst hsc
  subst hlb
  have kMark := kstMark
  have hI0 : IntsAre [] [] := .nil
  have hS0 : StrsAre [] [] := .nil
  have lF := fr_kst [("line", .ref I), ("over", .int 0 t5), ("under", .int give t6), ("found", .str (Str.ofString "") t7), ("depth", .int dep td), ("give", .int give tg), ("heaps", .ref D)] (by simp [md, mgv, mh, ml, mo, mu, mf]) F
  clear F md mgv mh ml mo mu mf
  dsimp only [coreL, rest5] at N
  refine exec_split1 ?_
  have hib : 0 ≤ index ∧ index ≤ 31 := by
    rcases hs.a with ⟨_, h1, h2, _⟩ | ⟨_, h1, h2, _⟩ <;> omega
  k_steps
  (rename Fr _ _ _ _ => lF)
  (rename News _ _ _ _ => lN)
  (rename IsRange _ _ _ _ _ _ _ _ => rgX)
  let IV1 : Nat → (PySem.Str → Option PySem.Value) → List (PySem.Addr × PySem.Obj) → Prop := PlaceInv w dep give td tg R D D2 I dI dS S l cS L q1 q2 cel pm1 pm2 cR ct1 ct2 ocell ocR ocS k6 ta tb2 tc td2 HA HB HC HD h4 t4 o1 o2 o3 o4
  refine range_at (index + 1 - 1).toNat IV1 rgX ?sm ?sz lF lN ?st rfl rfl hE rfl ?turn ?done
  case sm => exact small_one (by omega) (by omega) (by omega) (by omega)
  case sz => exact rangeSize_nat _ _
  case st => exact ⟨0, give, [], _, [], vs, n, 0, 1, k0, k1, k2, k3, k4, k5, t5, t6, t7, ⟨rfl⟩, rfl, rfl, rfl, rfl, rfl, rfl, rfl, rfl, .nil, fun _ => hsv⟩
  case done =>
    clear lF lN rgX
    rintro m₁ nx h tk ⟨ov, un_, pb, f, pbv, vs', n', np, ln', k0, k1, k2, k3, k4, k5, to, tu, tf, hP, ml, mo, mu, mf, md, mgv, mh, rfl, hpb, hst⟩ F N
    have hfin : f = (placeSt give index.toNat).f := by
      have e1 : (index + 1 - 1).toNat = index.toNat := by omega
      have := hP.eq
      rw [e1] at this
      rw [this]
    have F9 : Fr h₀ L h m₁ := F
    have N8 : News h₀ L h (coreL w ln' vs' n' R D2 I dI dS S l q1 q2 cel pm1 pm2 cR cS ct1 ct2 ocell ocR k0 k1 k2 k3 k4 k5 k6 ((l, W.listOf pbv.toArray np) :: (cS, ocS) :: (187, tab2 ta tb2 tc td2 cS cR) :: rest5 L D HA HB HC HD h4 t4 o1 o2 o3 o4)) := N
    have N9 := core_tail N8
    refine wpAny_execs_nil ?_
    exact law_tail (s := { s with heap := h, toks := tk }) (tab_ord lo h187 hD) B F9 X N9 T hC h187 hD hs md mgv mh mf hfin c4 c3 c2 lR lS hd0 hu0 hret hE
  case turn =>
    clear lF lN rgX
    rintro i t m₁ nx h tk own hi hoff ⟨ov, un_, pb, f, pbv, vs', n', np, ln', k0, k1, k2, k3, k4, k5, to, tu, tf, hP, ml, mo, mu, mf, md, mgv, mh, rfl, hpb, hst⟩ F N
    have F9 : Fr h₀ L h (fun y => if y = Str.ofString "place" then some (.int (1 + (i : Int)) t) else m₁ y) := F
    have lF := fr_kst (m := fun y => if y = Str.ofString "place" then some (.int (1 + (i : Int)) t) else m₁ y) [("place", .int (1 + (i : Int)) t), ("line", .ref I), ("over", .int ov to), ("under", .int un_ tu), ("found", .str f tf), ("depth", .int dep td), ("give", .int give tg), ("heaps", .ref D)]
      (List.forall_mem_cons.mpr ⟨rfl, List.forall_mem_cons.mpr ⟨ml, List.forall_mem_cons.mpr ⟨mo, List.forall_mem_cons.mpr ⟨mu, List.forall_mem_cons.mpr ⟨mf, List.forall_mem_cons.mpr ⟨md, List.forall_mem_cons.mpr ⟨mgv, List.forall_mem_cons.mpr ⟨mh, fun _ hq => nomatch hq⟩⟩⟩⟩⟩⟩⟩⟩) F9
    clear F F9
    dsimp only [coreL, rest5] at N
    simp only [List.cons_append, List.nil_append] at N
    k_steps
    (rename Fr _ _ _ _ => lF)
    (rename News _ _ _ _ => lN)
    unfold CallAt
    have hpf := place_facts hP (places_ok hs.a (by omega))
    have hgv : give = 1 ∨ give = 2 := by
      rcases hs.a with ⟨_, _, _, h⟩ | ⟨_, _, _, h⟩
      · exact h
      · exact .inl h
    have hown : ∀ p ∈ own, p.1 ≠ D2 ∧ p.1 ≠ dI ∧ p.1 ≠ l := fun p hp => ⟨hoff p hp _ (by simp [coreL]), hoff p hp _ (by simp [coreL]), hoff p hp _ (by simp [coreL])⟩
    refine' line_claim give i pb pbv vs' ((cS, ocS) :: (187, tab2 ta tb2 tc td2 cS cR) :: (rest5 L D HA HB HC HD h4 t4 o1 o2 o3 o4 ++ own)) _ _ _ _ _ _ _ _ _ _ _ _ _ _ _ _ _ ?kB ?kF ?kK ?kN ?kT ?kc ?kp ?kd ?ku ?_
    case kB => exact B
    case kF => exact lF
    case kK => exact X
    case kN => exact lN
    case kT => exact T
    case kc => rfl
    case kp =>
      refine ⟨hpb, ?_, fun h => ⟨hpf.ne h, Nat.le_trans hpf.len (by decide)⟩, hgv, hcell, by rw [hq1]; exact lR, lex_line lo hown⟩
      intro h
      subst h
      exact ⟨place_zero hP, hst rfl⟩
    case kd => ktr_room
    case ku => ktr_units
    clear lN lF
    intro vs2 pbv2 n2 np2 ln2 tt h2 tk2 k0 k1 k2 k3 k4 k5 lF lN hpb2
    dsimp only [coreL, rest5] at lN
    simp only [List.cons_append, List.nil_append] at lN
    k_steps
    · (rename Fr _ _ _ _ => lF)
      (rename News _ _ _ _ => lN)
      unfold CallAt
      have hi15 : i < 15 := by omega
      obtain ⟨f1, f2, f3, f4⟩ := hpf.lo hi15
      obtain ⟨g1, g2, g3⟩ := hpf.tok hi15
      refine' stop2_claim _ un_ ov (ov + un_) _ _ _ _ _ _ _ _ _ _ _ _ _ _ _ _ _ _ _ _ _ _ ?kB ?kF ?kK ?kN ?kT ?kc ?kp ?kd ?ku ?_
      case kB => exact B
      case kF => exact lF
      case kK => exact X
      case kN => exact lN
      case kT => exact T
      case kc => rfl
      case kp => exact ⟨by omega, by omega, by omega, by omega, by omega, by omega⟩
      case kd => ktr_room
      case ku => ktr_units
      clear lN lF
      dsimp only [RetInt]
      intro t8 h8 tk8 lF lN
      generalize hsf : stopF un_ [ov, ov + un_] = sf at g1 g2 g3 ⊢
      k_steps
      · exact absurd ‹(tokOf give i pb != _) = true› (by rw [g1]; simp [dotsA])
      · have hl2 := strsAre_len hpb2
        have hl3 := hpf.len
        have hl4 : pb.tail.length ≤ pb.length := by rw [List.length_tail]; omega
        (rename Fr _ _ _ _ => lF)
        (rename News _ _ _ _ => lN)
        unfold CallAt
        have lN1 : News h₀ L _ (coreL w ln2 vs2 n2 R D2 I dI dS S l q1 q2 cel pm1 pm2 cR cS ct1 ct2 ocell ocR k0 k1 k2 k3 k4 k5 k6 ((l, W.listOf pbv2.toArray np2) :: (cS, ocS) :: (187, tab2 ta tb2 tc td2 cS cR) :: (rest5 L D HA HB HC HD h4 t4 o1 o2 o3 o4 ++ own))) := fun q hq => lN q (.tail _ (.tail _ hq))
        have lN2 := core_pop lN1
        refine' push_claim _ _ _ _ _ _ _ _ _ _ _ _ _ _ _ _ _ _ _ _ _ ?kB ?kF ?kK ?kN ?kT ?kc ?kp ?kd ?ku ?_
        case kB => exact B
        case kF => exact lF
        case kK => exact X
        case kN => exact lN2
        case kT => exact T
        case kc => rfl
        case kp => exact ⟨by omega, (lex_line lo hown).push⟩
        case kd => ktr_room
        case ku => ktr_units
        clear lN lN1 lN2 lF
        intro h9 tk9 lF lN
        have lN := core_unpop lN
        k_steps
        (rename Fr _ _ _ _ => lF)
        (rename News _ _ _ _ => lN)
        unfold CallAt
        have lN1 : News h₀ L _ (coreL w ln2 vs2 n2 R D2 I dI dS S l q1 q2 cel pm1 pm2 cR cS ct1 ct2 ocell ocR k0 k1 k2 k3 k4 k5 k6 ((l, W.listOf (List.toArray _) _) :: (cS, ocS) :: (187, tab2 ta tb2 tc td2 cS cR) :: (rest5 L D HA HB HC HD h4 t4 o1 o2 o3 o4 ++ own))) := lN
        have lN2 := core_pop lN1
        refine' push_claim _ _ _ _ _ _ _ _ _ _ _ _ _ _ _ _ _ _ _ _ _ ?kB ?kF ?kK ?kN ?kT ?kc ?kp ?kd ?ku ?_
        case kB => exact B
        case kF => exact lF
        case kK => exact X
        case kN => exact lN2
        case kT => exact T
        case kc => rfl
        case kp => exact ⟨by (rw [List.length_append]; simp only [List.length_cons, List.length_nil]; omega), (lex_line lo hown).push⟩
        case kd => ktr_room
        case ku => ktr_units
        clear lN lN1 lN2 lF
        intro hA tkA lF lN
        have lN := core_unpop lN
        k_steps
        (rename Fr _ _ _ _ => lF)
        (rename News _ _ _ _ => lN)
        have hgo := place_go hP hi15
        rw [hsf] at hgo
        have hpb3 : ∀ ta tb : Tok, StrsAre (pbv2 ++ [.str (dotsA un_ (un_ + (sf - ov - 2 * un_))) ta] ++ [.str (dotsA (un_ + (sf - ov - 2 * un_)) (sf - ov - 2 * un_)) tb]) (pb.tail ++ [dotsA un_ (un_ + (sf - ov - 2 * un_)), dotsA (un_ + (sf - ov - 2 * un_)) (sf - ov - 2 * un_)]) := fun ta tb => by
          have := strs_push (x := dotsA (un_ + (sf - ov - 2 * un_)) (sf - ov - 2 * un_)) (t := tb) (strs_push (x := dotsA un_ (un_ + (sf - ov - 2 * un_))) (t := ta) hpb2)
          rw [List.append_assoc (pb.tail)] at this
          exact this
        exact ⟨_, _, _, coreL w ln2 vs2 n2 R D2 I dI dS S l q1 q2 cel pm1 pm2 cR cS ct1 ct2 ocell ocR k0 k1 k2 k3 k4 k5 k6 ((l, W.listOf (List.toArray _) _) :: (cS, ocS) :: (187, tab2 ta tb2 tc td2 cS cR) :: rest5 L D HA HB HC HD h4 t4 o1 o2 o3 o4), rfl, lF, lN, hoff,
          ⟨un_, sf - ov - 2 * un_, _, _, _, vs2, n2, _, ln2, k0, k1, k2, k3, k4, k5, _, _, _, hgo, rfl, rfl, rfl, rfl, rfl, rfl, rfl, rfl, hpb3 _ _, fun h => by cases h⟩⟩
    · (rename Fr _ _ _ _ => lF)
      (rename News _ _ _ _ => lN)
      have hi15 : ¬ i < 15 := by omega
      exact ⟨_, _, _, coreL w ln2 vs2 n2 R D2 I dI dS S l q1 q2 cel pm1 pm2 cR cS ct1 ct2 ocell ocR k0 k1 k2 k3 k4 k5 k6 ((l, W.listOf pbv2.toArray np2) :: (cS, ocS) :: (187, tab2 ta tb2 tc td2 cS cR) :: rest5 L D HA HB HC HD h4 t4 o1 o2 o3 o4), rfl, lF, lN, hoff,
        ⟨ov, un_, pb.tail, _, pbv2, vs2, n2, np2, ln2, k0, k1, k2, k3, k4, k5, _, _, _, place_end hP hi15, rfl, rfl, rfl, rfl, rfl, rfl, rfl, rfl, hpb2, fun h => by cases h⟩⟩
end

section
open PySem PySem.W PySem.Spec PyProof.Rows
theorem rest_ULawB {prog : PySem.Program} {w : PySem.World} {A : PySem.Around} {env : PySem.Env} {Q : PySem.Flow → PySem.Shared → Prop} {E : PySem.Value → PySem.Shared → Prop} {s : PySem.Shared} (h : PySem.wpAny (PySem.model prog w) A (PySem.execs [] env) Q E s) : PySem.wpAny (PySem.model prog w) A (PySem.execs [] env) Q E s := by
  w_top off
  k_with_none
  first | (walk1; fail) | exact h
set_option maxRecDepth 100000
set_option maxHeartbeats 0
set_option pp.deepTerms false
local macro_rules | `(tactic| k_room) => `(tactic| ktr_room)
theorem rule_ULawB_1 : True := by
  k_with "call ref" => ((k_here; (with_reducible show wpAny _ _ (call (Value.ref _) _) _ _ _); refine CallAt.intro ?_))
  exact trivial
theorem law_rest {w : World} {p : Program} {loose : List Str} {mean : ExcName → Option Value} {mg mb : Str → Option Value} {dp un : Nat} {gd : Option (List Code)} {L fa D : Addr} {cd : Value} {outer : List Env} {A₀ : Around} {base h₀ : Heap} {m : Str → Option Value} {s : Shared} {Q : Flow → Shared → Prop} {E : Value → Shared → Prop}
    {o1 o2 o3 o4 : Obj} {dep index give bas h4 : Int} {e : Str} {te ti tb td tg t4 : Tok} {HA HB HC HD : Value}
    (B : Below A₀ base outer h₀) (F : Fr h₀ L s.heap m) (X : (hd.heap_39 w.params).In h₀) (N : News h₀ L s.heap [(D, W.listOf #[HA, HB, HC, HD, .int h4 t4] 5), (L + 1 + 1 + 1 + 1, o4), (L + 1 + 1 + 1, o3), (L + 1 + 1, o2), (L + 1, o1), (187, tabObj #[])]) (T : Top p loose mean mg mb h₀) (hC : CodeHd h₀ 191 187) (h187 : @LT.lt Nat _ 187 L) (hD : @LT.lt Nat _ (L + 1 + 1 + 1 + 1) D)
    (hs : Start dep index give bas h4 e) (md : m "depth" = some (.int dep td)) (mgv : m "give" = some (.int give tg)) (mh : m "heaps" = some (.ref D))
    (c4 : o4.data = .cell (some (.str e te))) (c3 : o3.data = .cell (some (.int bas tb))) (c2 : o2.data = .cell (some (.int index ti)))
    (hd0 : dp + 200 < recursionLimit) (hu0 : un + 400 < cLine) (hret : ∀ h' tk m' news' ps, Fr h₀ L h' m' → News h₀ L h' ((187, tabObj ps) :: news') → Q (.ret (.bool true)) { s with heap := h', toks := tk })
    (hE : PassesOwn (model PySem.Challenge.rw_uc0020_01.row.prog w) (ktrTop dp un gd "law" lawScope L fa cd (lawCells L) outer) (envX "law" lawScope L fa cd (lawCells L)) E) :
    wpAny (model PySem.Challenge.rw_uc0020_01.row.prog w) (ktrTop dp un gd "law" lawScope L fa cd (lawCells L) outer) (execs (lawBody.drop 6) (envX "law" lawScope L fa cd (lawCells L))) Q E s := by
  revert X
  k_fill
  intro X
  obtain ⟨sc, hsc⟩ : ∃ sc, lawScope = sc := ⟨_, rfl⟩
  obtain ⟨lb, hlb⟩ : ∃ lb, lawBody.drop 6 = lb := ⟨_, rfl⟩
  rw [hsc] at hE ⊢
  rw [hlb]
  conv at hsc => lhs; whnf
  conv at hlb => lhs; whnf
  subst hsc
  subst hlb
  have kMark := kstMark
  have hI0 : IntsAre [] [] := .nil
  have hS0 : StrsAre [] [] := .nil
  have hg : give = 1 ∨ give = 2 := by
    rcases hs.a with ⟨_, _, _, h⟩ | ⟨_, _, _, h⟩
    · exact h
    · exact .inl h
  have lF := fr_kst [("depth", .int dep td), ("give", .int give tg), ("heaps", .ref D)] (by simp [md, mgv, mh]) F
  clear F md mgv mh
  refine exec_split4 ?_
  rcases hg with rfl | rfl
  all_goals (
    k_steps
    (rename Fr _ _ _ _ => lF)
    (rename News _ _ _ _ => lN)
    unfold CallAt
    refine' lexer_claim [(D, W.listOf #[HA, HB, HC, HD, .int h4 t4] 5), (L + 1 + 1 + 1 + 1, o4), (L + 1 + 1 + 1, o3), (L + 1 + 1, o2), (L + 1, o1)] _ _ _ _ _ _ _ _ _ _ _ _ _ _ _ _ _ _ _ ?kB ?kF ?kK ?kN ?kT ?kc ?kp ?kd ?ku ?_
    case kB => exact B
    case kF => exact lF
    case kK => exact X
    case kN =>
      refine List.forall_mem_cons.mpr ⟨lN _ (by k_mem), ?_⟩
      refine List.forall_mem_cons.mpr ⟨lN _ (by k_mem), ?_⟩
      refine List.forall_mem_cons.mpr ⟨lN _ (by k_mem), ?_⟩
      refine List.forall_mem_cons.mpr ⟨lN _ (by k_mem), ?_⟩
      refine List.forall_mem_cons.mpr ⟨lN _ (by k_mem), ?_⟩
      refine List.forall_mem_cons.mpr ⟨lN _ (by k_mem), ?_⟩
      exact fun _ hq => nomatch hq
    case kT => exact T
    case kc => rfl
    case kp => 
      refine ⟨?_, ?_, hC, ?_⟩
      · decide +kernel
      · decide +kernel
      · intro q hq b hb
        simp only [List.mem_singleton] at hb
        subst hb
        simp only [List.mem_cons, List.not_mem_nil, or_false] at hq
        rcases hq with rfl | rfl | rfl | rfl | rfl <;> (apply Nat.ne_of_gt; dsimp only; omega)
    case kd => ktr_room
    case ku => ktr_units
    clear lN lF
    dsimp only [RetLex1]
    intro l I dI dS R cR S cS D2 cel q1 q2 ocR ocS ocell pm1 pm2 ct1 ct2 vs n h' tk k0 k1 k2 k3 k4 k5 k6 ta tb2 tc td2 lF lN hsv hcell hq1 hq2 lR lS lo
    k_steps
    (rename Fr _ _ _ _ => lF)
    (rename News _ _ _ _ => lN)
    exact law_place (lo := lo) B lF X (perm_first lN) T hC h187 hD hs rfl rfl rfl rfl rfl rfl rfl c4 c3 c2 hsv hcell (by rw [← hq1]; exact lR) (by rw [← hq2]; exact lS) hq1 hq2 hd0 hu0 hret hE)
end

section
open PySem PySem.W PySem.Spec PyProof.Rows
theorem rest_ULaw {prog : PySem.Program} {w : PySem.World} {A : PySem.Around} {env : PySem.Env} {Q : PySem.Flow → PySem.Shared → Prop} {E : PySem.Value → PySem.Shared → Prop} {s : PySem.Shared} (h : PySem.wpAny (PySem.model prog w) A (PySem.execs [] env) Q E s) : PySem.wpAny (PySem.model prog w) A (PySem.execs [] env) Q E s := by
  w_top off
  k_with_none
  first | (walk1; fail) | exact h
set_option maxRecDepth 100000
set_option maxHeartbeats 0
set_option pp.deepTerms false
theorem list_five : ∀ {ys : List Value}, ys.length = 5 → ∃ y0 y1 y2 y3 y4, ys = [y0, y1, y2, y3, y4]
  | [_, _, _, _, _], _ => ⟨_, _, _, _, _, rfl⟩
local macro_rules | `(tactic| k_room) => `(tactic| ktr_room)
theorem rule_ULaw_1 : True := by
  k_with "exec Assign cons ListComp" => ((k_here; k_dflt (refine' heaps_assign ?F ?hLe ?hsw ?hy0 ?hp0 ?hh ?c1 ?c2 ?c3 ?c4 ?c5 ?c6 ?c7 ?d1 ?d2 ?d3 ?d4 ?d5 ?hy ?hyc ?hl ?hI ?hlen ?x1 ?x2 ?x3 ?x4 ?X ?T ?es ?hg ?hbu ?hsk ?_;(case F => k_asm); (case hLe => rfl); (case hsw => with_unfolding_all rfl); (case hy0 => rfl); (case hp0 => rfl); (case hh => rfl); (case c1 => rfl); (case c2 => decide); (case c3 => rfl); (case c4 => decide); (case c5 => rfl); (case c6 => rfl); (case c7 => decide);(case d1 => (intro _; rfl)); (case d2 => decide); (case d3 => rfl); (case d4 => decide); (case d5 => rfl); (case hy => (intro _; rfl)); (case hyc => rfl); (case hl => assumption); (case hI => assumption); (case hlen => (rw [IntsAre.length (by assumption)]; omega)); (case x1 => decide); (case x2 => decide); (case x3 => decide); (case x4 => decide); (case X => k_asm); (case T => k_asm); (case es => k_is); (case hg => rfl); (case hbu => rfl); (case hsk => (intro _; rfl)))))
  exact trivial
theorem rule_ULaw_2 : True := by
  k_with "R ULaw 2" => (k_here; k_dflt (refine' enum_callK ?F ?N ?m ?_; (case F => k_asm); (case N => k_asm); (case m => k_mem)))
  exact trivial
local macro_rules | `(tactic| walk_at "call type:enumerate") => `(tactic| (k_extra "R ULaw 2"; intro e' it' o' h' hio' F' N' l1 l2))
theorem law_core {w : World} {p : Program} {loose : List Str} {mean : ExcName → Option Value} {mg mb : Str → Option Value} {dp un : Nat} {gd : Option (List Code)} {L fa script : Addr} {cd : Value} {outer : List Env} {A₀ : Around} {base h₀ : Heap} {m : Str → Option Value} {s : Shared} {Q : Flow → Shared → Prop} {E : Value → Shared → Prop}
    {o1 o2 o3 o4 : Obj} {vs : List Value} {ns : List Int}
    (B : Below A₀ base outer h₀) (F : Fr h₀ L s.heap m) (X : (hd.heap_39 w.params).In h₀) (N : News h₀ L s.heap [(L + 1 + 1 + 1 + 1, o4), (L + 1 + 1 + 1, o3), (L + 1 + 1, o2), (L + 1, o1), (187, tabObj #[])]) (T : Top p loose mean mg mb h₀) (hC : CodeHd h₀ 191 187) (h187 : @LT.lt Nat _ 187 L)
    (c4 : o4.data = .cell none) (c3 : o3.data = .cell none) (c2 : o2.data = .cell none) (c1 : o1.data = .cell (some (.ref script))) (hl : h₀.IsList script vs.toArray) (hI : IntsAre vs ns) (hlen : ns.length ≤ 63)
    (hd0 : dp + 200 < recursionLimit) (hu0 : un + 400 < cLine) (hret : ∀ h' tk m' news' ps, Fr h₀ L h' m' → News h₀ L h' ((187, tabObj ps) :: news') → Q (.ret (.bool true)) { s with heap := h', toks := tk })
    (hE : PassesOwn (model PySem.Challenge.rw_uc0020_01.row.prog w) (ktrTop dp un gd "law" lawScope L fa cd [("end", L + 1 + 1 + 1 + 1), ("base", L + 1 + 1 + 1), ("index", L + 1 + 1), ("script", L + 1)] outer) (envX "law" lawScope L fa cd [("end", L + 1 + 1 + 1 + 1), ("base", L + 1 + 1 + 1), ("index", L + 1 + 1), ("script", L + 1)]) E) :
    wpAny (model PySem.Challenge.rw_uc0020_01.row.prog w) (ktrTop dp un gd "law" lawScope L fa cd [("end", L + 1 + 1 + 1 + 1), ("base", L + 1 + 1 + 1), ("index", L + 1 + 1), ("script", L + 1)] outer)
      (execs lawBody (envX "law" lawScope L fa cd [("end", L + 1 + 1 + 1 + 1), ("base", L + 1 + 1 + 1), ("index", L + 1 + 1), ("script", L + 1)])) Q E s := by
  revert X
  k_fill
  intro X
  obtain ⟨sc, hsc⟩ : ∃ sc, lawScope = sc := ⟨_, rfl⟩
  obtain ⟨lb, hlb⟩ : ∃ lb, lawBody = lb := ⟨_, rfl⟩
  rw [hsc] at hE ⊢
  rw [hlb]
  conv at hsc => lhs; whnf
  conv at hlb => lhs; whnf
  subst hsc
  subst hlb
  have kMark := kstMark
  have hI0 : IntsAre [] [] := .nil
  have hS0 : StrsAre [] [] := .nil
  walk_at "execs cons"
  walk_at "exec Assign cons ListComp"
  k_steps
  rename_i e it oi h1 hio F1 N1 l1 l2
  refine HeapsSrcA.intro hio F1 N1 l1 l2 (by k_mem) (by k_mem) c1 ?_ (by simp) ?_
  · intro v hv
    simp only [List.mem_toArray, List.mem_cons, List.not_mem_nil, or_false] at hv
    rcases hv with rfl | rfl | rfl | rfl | rfl <;> exact ⟨_, _, rfl, by decide, by decide⟩
  intro D h2 tk ys F2 N2 l3 hyl hys
  obtain ⟨y0, y1, y2, y3, y4, rfl⟩ : ∃ y0 y1 y2 y3 y4, ys = [y0, y1, y2, y3, y4] := list_five hyl
  obtain ⟨H0, t0, rfl, H0a, H0b⟩ := hys y0 (by simp)
  obtain ⟨H1, t1, rfl, H1a, H1b⟩ := hys y1 (by simp)
  obtain ⟨H2, t2, rfl, H2a, H2b⟩ := hys y2 (by simp)
  obtain ⟨H3, t3, rfl, H3a, H3b⟩ := hys y3 (by simp)
  obtain ⟨H4, t4, rfl, H4a, H4b⟩ := hys y4 (by simp)
  have N3 : News h₀ L h2 [(D, W.listOf #[.int H0 t0, .int H1 t1, .int H2 t2, .int H3 t3, .int H4 t4] 5), (L + 1 + 1 + 1 + 1, o4), (L + 1 + 1 + 1, o3), (L + 1 + 1, o2), (L + 1, o1), (187, tabObj #[])] := fun p hp => N2 p (by
    rcases List.mem_cons.mp hp with rfl | hp
    · exact .head _
    · exact .tail _ (.tail _ hp))
  have o1 : @LT.lt Nat _ (L + 1 + 1 + 1 + 1) D := l3 (L + 1 + 1 + 1 + 1, o4) (by simp)
  clear N2 N1 F1 hys hyl hio l3 l2 l1
  refine exec_split5 ?_
  k_steps
  all_goals (
    (rename Fr _ _ _ _ => lF)
    (rename News _ _ _ _ => lN)
    refine' law_rest (D := D) (HA := .int H0 t0) (HB := .int H1 t1) (HC := .int H2 t2) (HD := .int H3 t3) (h4 := H4) (t4 := t4) (hs := ?hs) B lF X ?hN T hC h187 o1 rfl rfl rfl ?c4 ?c3 ?c2 hd0 hu0 hret hE
    (case hN =>
      refine List.forall_mem_cons.mpr ⟨lN _ (by k_mem), ?_⟩
      refine List.forall_mem_cons.mpr ⟨lN _ (by k_mem), ?_⟩
      refine List.forall_mem_cons.mpr ⟨lN _ (by k_mem), ?_⟩
      refine List.forall_mem_cons.mpr ⟨lN _ (by k_mem), ?_⟩
      refine List.forall_mem_cons.mpr ⟨lN _ (by k_mem), ?_⟩
      refine List.forall_mem_cons.mpr ⟨lN _ (by k_mem), ?_⟩
      exact fun _ hq => nomatch hq)
    (case c4 => assumption)
    (case c3 => assumption)
    (case c2 => assumption)
    (case hs => exact ⟨start_a (by assumption) (by assumption) (by first | exact .inl rfl | exact .inr ⟨rfl, by assumption⟩), base_b _, ⟨H4a, H4b⟩, by first | exact .inl rfl | exact .inr (.inl rfl) | exact .inr (.inr rfl)⟩))
end

section
open PySem PySem.W PySem.Spec PyProof.Rows
theorem rest_ULawM {prog : PySem.Program} {w : PySem.World} {A : PySem.Around} {env : PySem.Env} {Q : PySem.Flow → PySem.Shared → Prop} {E : PySem.Value → PySem.Shared → Prop} {s : PySem.Shared} (h : PySem.wpAny (PySem.model prog w) A (PySem.execs [] env) Q E s) : PySem.wpAny (PySem.model prog w) A (PySem.execs [] env) Q E s := by
  w_top off
  k_with_none
  first | (walk1; fail) | exact h
set_option maxRecDepth 100000
set_option maxHeartbeats 0
set_option pp.deepTerms false
theorem t : PySem.Challenge.rw_uc0020_01.Holds := Mine.hd (by
  k_go0
  (all_goals try k_fold)
  refine' law_core ?B ?F ?X ?N ?T ?hC ?h187 ?c4 ?c3 ?c2 ?c1 ?hl ?hI ?hlen ?hd0 ?hu0 ?hret ?hE
  case B => assumption
  case F => assumption
  case X => assumption
  case N => assumption
  case T => assumption
  case hC => assumption
  case h187 => assumption
  case c4 => assumption
  case c3 => assumption
  case c2 => assumption
  case c1 => assumption
  case hl => assumption
  case hI => assumption
  case hlen => omega
  case hd0 => decide
  case hu0 => ktr_units
  case hret =>
    intro h5 tk5 m5 news5 ps5 F5 N5
    refine ⟨?_, ?_⟩
    · k_steps
    · walk_at "GrownAll" 
  case hE => passes_own)
end

end Mine
theorem PySem.Challenge.cw_uc0020_01_holds : PySem.Challenge.rw_uc0020_01.Holds :=
  Mine.t

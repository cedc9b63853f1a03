import PyProof.Rows.All
import Wide.All
import OpenK.AllK
import Wide.FinOn
import PySem.Challenge.RW_bj0061_01
open PySem PySem.W PyProof.Rows
set_option Elab.async false
set_option maxRecDepth 100000
set_option linter.all false
namespace Mine
set_option maxHeartbeats 8000000 in
open_top hd for PySem.Challenge.rw_bj0061_01
end Mine
section
open PySem PySem.W PyProof.Rows
set_option maxRecDepth 100000
namespace Mine
theorem cutA {M : Model} {A : Around} {t : Sem Flow} {Q : Flow → Shared → Prop} {E : Value → Shared → Prop} {s : Shared} (P : Model → Around → Prop) (h1 : P M A) (h2 : P M A → wpAny M A t Q E s) : wpAny M A t Q E s := h2 h1
theorem fm_lo (a : Int) {b : Int} (h : 0 < b) : 0 ≤ Int.fmod a b := by
  rw [Int.fmod_eq_emod_of_nonneg a (Int.le_of_lt h)]; exact Int.emod_nonneg a (by omega)
theorem fm_hi (a : Int) {b : Int} (h : 0 < b) : Int.fmod a b < b := by
  rw [Int.fmod_eq_emod_of_nonneg a (Int.le_of_lt h)]; exact Int.emod_lt_of_pos a h

/-- what a turn of a loop hands on: the kept rows `own`, and a state at which the word holds again -/
def TurnEnd (h₀ : Heap) (L : Addr) (own : List (Addr × Obj)) (I : Addr) (J : (PySem.Str → Option Value) → List (Addr × Obj) → Prop) (s₁ : Shared) (Q : Flow → Shared → Prop) (f : Flow) (s₂ : Shared) : Prop :=
  match f with
  | .ret v => Q (.ret v) s₂
  | .brk => Q .next s₂
  | _ => ∃ h' tk m' news', s₂ = { s₁ with heap := h', toks := tk } ∧ Fr h₀ L h' m' ∧ News h₀ L h' (own ++ news') ∧ (∀ p ∈ news', p.1 ≠ I) ∧ J m' news'

section
variable {prog : Program} {w : World} {A : Around} {E : Value → Shared → Prop} {s : Shared} {env : Env} {h₀ : Heap} {x : PySem.Str} {body : List Stmt} {Q : Flow → Shared → Prop}

theorem turn_step {L I : Addr} {own ownE : List (Addr × Obj)} {J : (PySem.Str → Option Value) → List (Addr × Obj) → Prop} {s₁ : Shared} {f : Flow} {s₂ : Shared}
    (hsub : ∀ p ∈ own, p ∈ ownE) (h : TurnEnd h₀ L ownE I J s₁ Q f s₂) : LoopStepV h₀ L [I] own J s₁ (fun v s' => Q (.ret v) s') (fun s' => Q .next s') f s₂ := by
  have key : (∃ h' tk m' news', s₂ = { s₁ with heap := h', toks := tk } ∧ Fr h₀ L h' m' ∧ News h₀ L h' (ownE ++ news') ∧ (∀ p ∈ news', p.1 ≠ I) ∧ J m' news') → LoopStepU h₀ L [I] own J s₁ .next s₂ := by
    rintro ⟨h', tk, m', news', rfl, F, N, off, hJ⟩
    exact ⟨rfl, h', tk, m', news', rfl, F, fun p hp => N p ((List.mem_append.mp hp).elim (fun q => List.mem_append_left _ (hsub p q)) (List.mem_append_right _)), fun p hp hm => off p hp (List.mem_singleton.mp hm), hJ⟩
  cases f with
  | ret v => exact .ret h
  | brk => exact .brk h
  | next => exact .next (key h)
  | cont => exact .cont (key h)

/-- a loop over a list of the call's own; the word may let the ledger grow -/
theorem list_loop {l : Addr} {its : List Value} {n : Nat} {m₀ : PySem.Str → Option Value} {news : List (Addr × Obj)} (J : Nat → (PySem.Str → Option Value) → List (Addr × Obj) → Prop)
    (hh : A.handled = none) (F : Fr h₀ env.locals s.heap m₀) (N : News h₀ env.locals s.heap ((l, listOf its.toArray n) :: news)) (hj : J 0 m₀ news)
    (turn : ∀ i v m₁ news₁ h tk I oI ol, its[i]? = some v → J i m₁ news₁ → (∀ p ∈ news₁, p.1 ≠ I) → Fr h₀ env.locals h (fun y => if y = x then some v else m₁ y) → News h₀ env.locals h ((I, oI) :: (l, ol) :: news₁) →
      wpAny (model prog w) A (execs body env) (TurnEnd h₀ env.locals [(I, oI), (l, ol)] I (J (i + 1)) { s with heap := h, toks := tk } Q) E { s with heap := h, toks := tk })
    (done : ∀ m₁ news₁ h tk, J its.length m₁ news₁ → Fr h₀ env.locals h m₁ → News h₀ env.locals h news₁ → Q .next { s with heap := h, toks := tk }) :
    wpAny (model prog w) A (pyIter (.ref l)) (fun it s₂ => LoopAtV prog w A h₀ env x body Q E it s₂) E s := by
  have hlm := N _ (.head _)
  have hls : s.heap.IsList l its.toArray := ⟨_, hlm.1, rfl, n, rfl⟩
  have hlt : l < s.heap.objs.size := Heap.lt_size hlm.1
  have hne : l ≠ s.heap.objs.size := Nat.ne_of_lt hlt
  refine wpAny_pyIter_list hls ?_
  have W := Walks.list (prog := prog) (w := w) hh s.heap.objs.size l hne its.toArray
  have hnw : ∀ p ∈ news, p.1 ∉ [s.heap.objs.size] := fun p hp hI => absurd (Heap.lt_size (N p (.tail _ hp)).1) ((List.mem_singleton.mp hI) ▸ Nat.lt_irrefl _)
  refine ⟨_, _, _, its.toArray.size, _, _, m₀, news, J, rfl, W, ?_, ?_, hnw, ⟨⟨_, Heap.get?_push_size _ rfl, rfl, rfl⟩, hls.at fun o e => Heap.get?_push_of_some _ e⟩, F.push _, (fun p hp => ⟨Heap.get?_push_of_some _ (N p (.tail _ hp)).1, (N p (.tail _ hp)).2⟩), hj, ?_, ?_⟩
  · intro hm
    rcases List.mem_cons.mp hm with e | hm
    · exact absurd F.ns.lt (e ▸ Nat.lt_irrefl _)
    · exact hlm.2.1 (List.mem_singleton.mp hm).symm
  · intro b hb
    rw [List.mem_singleton.mp hb]
    exact next_is_new F
  · rintro i v m₁ news₁ s₁ own ⟨h, tk, rfl⟩ hin hP hJ hoff hown hat hall hst F₁ N₁
    obtain ⟨oI, hI, _⟩ := hst.1
    obtain ⟨ol, hl, hc, k, hd⟩ := hst.2
    have hIn : (s.heap.objs.size, oI) ∈ own := hall _ (.head _) (next_is_new F) _ hI
    have hln : (l, ol) ∈ own := hall _ (.tail _ (.head _)) hlm.2.2 _ hl
    have hsub : ∀ p ∈ own, p ∈ [(s.heap.objs.size, oI), (l, ol)] := by
      rintro ⟨a, o⟩ hp
      have ha := hat _ hp
      rcases List.mem_cons.mp (hown _ hp) with e | e
      · have e' : a = s.heap.objs.size := e
        subst e'
        have ha' : h.get? s.heap.objs.size = some o := ha
        have : oI = o := Option.some.inj (hI.symm.trans ha')
        subst this; exact .head _
      · have e' : a = l := List.mem_singleton.mp e
        subst e'
        have ha' : h.get? a = some o := ha
        have : ol = o := Option.some.inj (hl.symm.trans ha')
        subst this; exact .tail _ (.head _)
    have N₂ : News h₀ env.locals h ((s.heap.objs.size, oI) :: (l, ol) :: news₁) := fun p hp => by
      rcases List.mem_cons.mp hp with rfl | hp
      · exact N₁ _ (List.mem_append_left _ hIn)
      · rcases List.mem_cons.mp hp with rfl | hp
        · exact N₁ _ (List.mem_append_left _ hln)
        · exact N₁ _ (List.mem_append_right _ hp)
    exact wpAny_mono (turn i v m₁ news₁ h tk _ oI ol (by simpa using hP) hJ (fun p hp => fun e => hoff p hp (e ▸ List.mem_singleton.mpr rfl)) F₁ N₂) (fun f s₂ z => turn_step hsub z) fun _ _ e => e
  · intro h' tk m' news' F' N' _ hJ
    exact done m' news' h' tk (by simpa using hJ) F' N'

/-- a loop over range(a, b); the word may let the ledger grow -/
theorem range_loop {r : Addr} {a b : Int} {t u v : Tok} {n : Nat} {m₀ : PySem.Str → Option Value} {news : List (Addr × Obj)} (J : Nat → (PySem.Str → Option Value) → List (Addr × Obj) → Prop)
    (hh : A.handled = none) (hr : IsRange s.heap r a b 1 t u v) (hsmall : Builtin.Range.small a b 1 = true) (hn : Builtin.Range.rangeSize a b 1 = (n : Int)) (F : Fr h₀ env.locals s.heap m₀) (N : News h₀ env.locals s.heap news) (hj : J 0 m₀ news)
    (turn : ∀ i t' m₁ news₁ h tk I oI, i < n → J i m₁ news₁ → (∀ p ∈ news₁, p.1 ≠ I) → Fr h₀ env.locals h (fun y => if y = x then some (.int (a + (i : Int)) t') else m₁ y) → News h₀ env.locals h ((I, oI) :: news₁) →
      wpAny (model prog w) A (execs body env) (TurnEnd h₀ env.locals [(I, oI)] I (J (i + 1)) { s with heap := h, toks := tk } Q) E { s with heap := h, toks := tk })
    (done : ∀ m₁ news₁ h tk, J n m₁ news₁ → Fr h₀ env.locals h m₁ → News h₀ env.locals h news₁ → Q .next { s with heap := h, toks := tk }) :
    wpAny (model prog w) A (pyIter (.ref r)) (fun it s₂ => LoopAtV prog w A h₀ env x body Q E it s₂) E s := by
  refine wpAny_pyIter_range hr hsmall ?_
  have W : Walks prog w A s.heap.objs.size [s.heap.objs.size] [s.heap.objs.size] n (fun i v => i < n ∧ ∃ t, v = .int (a + i * 1) t)
      (fun i h => IsRangeIter h s.heap.objs.size (a + (i : Nat) * 1) ((n : Int) - (i : Nat)) 1) := (Walks.range hh _ a 1 n).bound
  have hnw : ∀ p ∈ news, p.1 ∉ [s.heap.objs.size] := fun p hp hI => absurd (Heap.lt_size (N p hp).1) ((List.mem_singleton.mp hI) ▸ Nat.lt_irrefl _)
  refine ⟨_, _, _, n, _, _, m₀, news, J, rfl, W, ?_, ?_, hnw, (by show IsRangeIter _ _ _ _ _; rw [hn]; simpa using Heap.get?_push_size _ rfl), F.push _, (fun p hp => ⟨Heap.get?_push_of_some _ (N p hp).1, (N p hp).2⟩), hj, ?_, ?_⟩
  · intro hm
    exact absurd F.ns.lt ((List.mem_singleton.mp hm) ▸ Nat.lt_irrefl _)
  · intro b hb
    rw [List.mem_singleton.mp hb]
    exact next_is_new F
  · rintro i v m₁ news₁ s₁ own ⟨h, tk, rfl⟩ hin ⟨_, t', rfl⟩ hJ hoff hown hat hall hst F₁ N₁
    obtain ⟨oI, hI⟩ : ∃ oI, h.get? s.heap.objs.size = some oI := ⟨_, hst⟩
    have hIn : (s.heap.objs.size, oI) ∈ own := hall _ (.head _) (next_is_new F) _ hI
    have hsub : ∀ p ∈ own, p ∈ [(s.heap.objs.size, oI)] := by
      rintro ⟨a, o⟩ hp
      have ha := hat _ hp
      have e' : a = s.heap.objs.size := List.mem_singleton.mp (hown _ hp)
      subst e'
      have ha' : h.get? s.heap.objs.size = some o := ha
      have : oI = o := Option.some.inj (hI.symm.trans ha')
      subst this; exact .head _
    have N₂ : News h₀ env.locals h ((s.heap.objs.size, oI) :: news₁) := fun p hp => by
      rcases List.mem_cons.mp hp with rfl | hp
      · exact N₁ _ (List.mem_append_left _ hIn)
      · exact N₁ _ (List.mem_append_right _ hp)
    rw [Int.mul_one] at F₁
    exact wpAny_mono (turn i t' m₁ news₁ h tk _ oI hin hJ (fun p hp => fun e => hoff p hp (e ▸ List.mem_singleton.mpr rfl)) F₁ N₂) (fun f s₂ z => turn_step hsub z) fun _ _ e => e
  · intro h' tk m' news' F' N' _ hJ
    exact done m' news' h' tk hJ F' N'
end

abbrev stObj (sl : Addr) (i sd : Int) (ti ts : Tok) (n : Nat) : Obj := listOf #[.ref sl, .int i ti, .int sd ts] n
/-- _law_next: the state's list turns, a draw below `many` comes back -/
def NextSpec (b : Shared) (fn : Addr) (M : Model) (A : Around) : Prop := ∀ (m : PySem.Str → Option Value) (h : Heap) (tk : Nat) (news : List (Addr × Obj)) (st sl : Addr) (i sd : Int) (ti ts tm : Tok) (n n2 : Nat) (many : Int) (ws : List Value) (ks : List Int) (Q : Value → Shared → Prop) (E : Value → Shared → Prop),
      Fr b.heap b.heap.objs.size h m → News b.heap b.heap.objs.size h ((st, stObj sl i sd ti ts n) :: (sl, W.listOf ws.toArray n2) :: news) → IntsAre ws ks → ks.length ≤ 8 → 0 ≤ i → 0 < many → many ≤ 40 →
      (∀ p ∈ (sl, W.listOf ws.toArray n2) :: news, p.1 ≠ st) →
      (∀ h' tk' r tr i' sd' ti' ts' n', Fr b.heap b.heap.objs.size h' m → News b.heap b.heap.objs.size h' ((st, stObj sl i' sd' ti' ts' n') :: (sl, W.listOf ws.toArray n2) :: news) → 0 ≤ i' → 0 ≤ r → r < many →
        Q (.int r tr) { heap := h', gens := b.gens, drawn := b.drawn, toks := tk', os := b.os }) →
      wpAny M A (call (.ref fn) [.ref st, .int many tm]) Q E { heap := h, gens := b.gens, drawn := b.drawn, toks := tk, os := b.os }
theorem NextSpec.use {b : Shared} {fn : Addr} {M : Model} {A : Around} (Z : NextSpec b fn M A) {m : PySem.Str → Option Value} {h : Heap} {tk : Nat} {news : List (Addr × Obj)} {g : Obj → List (Addr × Obj)} {st sl : Addr} {i sd : Int} {ti ts tm : Tok} {n n2 : Nat} {many : Int} {ws : List Value} {ks : List Int} {Q : Value → Shared → Prop} {E : Value → Shared → Prop}
      (F : Fr b.heap b.heap.objs.size h m) (N : News b.heap b.heap.objs.size h news) (U : UpdF st (stObj sl i sd ti ts n) news g) (hs : (sl, W.listOf ws.toArray n2) ∈ news) (hi : IntsAre ws ks) (h8 : ks.length ≤ 8) (h0 : 0 ≤ i) (hm : 0 < many) (hm' : many ≤ 40) (hne : sl ≠ st)
      (fin : ∀ h' tk' r tr i' sd' ti' ts' n', Fr b.heap b.heap.objs.size h' m → News b.heap b.heap.objs.size h' (g (stObj sl i' sd' ti' ts' n')) → 0 ≤ i' → 0 ≤ r → r < many →
        Q (.int r tr) { heap := h', gens := b.gens, drawn := b.drawn, toks := tk', os := b.os }) :
      wpAny M A (call (.ref fn) [.ref st, .int many tm]) Q E { heap := h, gens := b.gens, drawn := b.drawn, toks := tk, os := b.os } := by
  obtain ⟨pre, post, e, hg, h1, h2⟩ := U.split
  subst e
  refine Z m h tk (pre ++ post) st sl i sd ti ts tm n n2 many ws ks Q E F (fun p hp => ?_) hi h8 h0 hm hm' (fun p hp => ?_) fun h' tk' r tr i' sd' ti' ts' n' F' N' => fin h' tk' r tr i' sd' ti' ts' n' F' fun p hp => ?_
  · rcases List.mem_cons.mp hp with rfl | hp
    · exact N _ (List.mem_append_right _ (.head _))
    · rcases List.mem_cons.mp hp with rfl | hp
      · exact N _ hs
      · exact N _ ((List.mem_append.mp hp).elim (List.mem_append_left _) fun q => List.mem_append_right _ (.tail _ q))
  · rcases List.mem_cons.mp hp with rfl | hp
    · exact hne
    · exact (List.mem_append.mp hp).elim (h1 p) (h2 p)
  · rw [hg] at hp
    rcases List.mem_append.mp hp with q | q
    · exact N' p (.tail _ (.tail _ (List.mem_append_left _ q)))
    · rcases List.mem_cons.mp q with rfl | q
      · exact N' _ (.head _)
      · exact N' p (.tail _ (.tail _ (List.mem_append_right _ q)))
theorem m_form {m : PySem.Str → Option Value} {x : PySem.Str} {v : Value} (h : m x = some v) : m = fun y => if y = x then some v else m y := by
  funext y
  by_cases e : y = x
  · rw [if_pos e, e, h]
  · rw [if_neg e]

theorem cutFor {M : Model} {A : Around} {t it : PySem.Expr} {body els : List Stmt} {pos : Pos} {env : Env} {Q : Flow → Shared → Prop} {E : Value → Shared → Prop} {s : Shared} (P : Model → Around → List Stmt → Env → Prop) (h1 : P M A body env)
    (h2 : P M A body env → wpAny M A (exec (.For t it body els pos) env) Q E s) : wpAny M A (exec (.For t it body els pos) env) Q E s := h2 h1
/-- what holds between the turns over the versions -/
def VerJ (c st sl : Addr) (ws : List Value) (m : PySem.Str → Option Value) (news : List (Addr × Obj)) : Prop :=
  m (PySem.Str.ofString "state") = some (.ref st) ∧ ∃ i sd ti ts n co u, 0 ≤ i ∧ co.data = Data.cell u ∧ news = [(st, stObj sl i sd ti ts n), (sl, listOf ws.toArray 0), (c, co)]
def TurnSpec (b : Shared) (c st sl : Addr) (ws : List Value) (M : Model) (A : Around) (body : List Stmt) (env : Env) : Prop :=
  ∀ (v : Int) (tv : Tok) (us : PySem.Str → Option Value) (h : Heap) (tk : Nat) (I : Addr) (oI : Obj) (l : Addr) (ol : Obj) (i sd : Int) (ti ts : Tok) (n : Nat) (co : Obj) (u : Option Value) (Q : Flow → Shared → Prop), 1 ≤ v → v ≤ 40 → 0 ≤ i → co.data = Data.cell u →
    (@Ne Nat I st) → (@Ne Nat I sl) → (@Ne Nat I c) → (@Ne Nat l st) → (@Ne Nat l sl) → (@Ne Nat l c) →
    Fr b.heap b.heap.objs.size h (fun y => if y = PySem.Str.ofString "version" then some (.int v tv) else if y = PySem.Str.ofString "state" then some (.ref st) else us y) →
    News b.heap b.heap.objs.size h [(I, oI), (l, ol), (st, stObj sl i sd ti ts n), (sl, listOf ws.toArray 0), (c, co)] →
    wpAny M A (execs body env) (TurnEnd b.heap b.heap.objs.size [(I, oI), (l, ol)] I (VerJ c st sl ws) { heap := h, gens := b.gens, drawn := b.drawn, toks := tk, os := b.os } Q) (fun _ _ => False) { heap := h, gens := b.gens, drawn := b.drawn, toks := tk, os := b.os }

theorem newsSub {h₀ h : Heap} {L : Addr} {a b : List (Addr × Obj)} (N : News h₀ L h b) (e : ∀ p ∈ a, p ∈ b) : News h₀ L h a := fun p hp => N p (e p hp)

/-- one statement whose ways meet: it ends by going on, the frame's map and the ledger as told -/
theorem joinS {M : Model} {A : Around} {st : Stmt} {env : Env} {Q : Flow → Shared → Prop} {E : Value → Shared → Prop} {b : Shared} {h₀ h : Heap} {L : Addr} {m : PySem.Str → Option Value} {news : List (Addr × Obj)} {tk : Nat}
    (_F : Fr h₀ L h m) (_N : News h₀ L h news)
    (h1 : ∀ (Q' : Flow → Shared → Prop) (E' : Value → Shared → Prop), (∀ h' tk', Fr h₀ L h' m → News h₀ L h' news → Q' .next { heap := h', gens := b.gens, drawn := b.drawn, toks := tk', os := b.os }) → wpAny M A (exec st env) Q' E' { heap := h, gens := b.gens, drawn := b.drawn, toks := tk, os := b.os })
    (h2 : ∀ h' tk', Fr h₀ L h' m → News h₀ L h' news → Q .next { heap := h', gens := b.gens, drawn := b.drawn, toks := tk', os := b.os }) :
    wpAny M A (exec st env) Q E { heap := h, gens := b.gens, drawn := b.drawn, toks := tk, os := b.os } := h1 Q E h2

/-- one statement whose ways meet: it stores an int under a name -/
theorem joinInt {M : Model} {A : Around} {st : Stmt} {env : Env} {Q : Flow → Shared → Prop} {E : Value → Shared → Prop} {b : Shared} {h₀ h : Heap} {L : Addr} {m : PySem.Str → Option Value} {news : List (Addr × Obj)} {tk : Nat} (x : PySem.Str) (X : Int)
    (_F : Fr h₀ L h m) (_N : News h₀ L h news)
    (h1 : ∀ (Q' : Flow → Shared → Prop) (E' : Value → Shared → Prop), (∀ h' tk' t, Fr h₀ L h' (fun y => if y = x then some (.int X t) else m y) → News h₀ L h' news → Q' .next { heap := h', gens := b.gens, drawn := b.drawn, toks := tk', os := b.os }) → wpAny M A (exec st env) Q' E' { heap := h, gens := b.gens, drawn := b.drawn, toks := tk, os := b.os })
    (h2 : ∀ h' tk' t, Fr h₀ L h' (fun y => if y = x then some (.int X t) else m y) → News h₀ L h' news → Q .next { heap := h', gens := b.gens, drawn := b.drawn, toks := tk', os := b.os }) :
    wpAny M A (exec st env) Q E { heap := h, gens := b.gens, drawn := b.drawn, toks := tk, os := b.os } := h1 Q E h2
end Mine
end
section
open PySem PySem.W PyProof.Rows
set_option maxRecDepth 100000
namespace Mine
/-! ## the tables, read off the written part -/
def intsL : List Value → Option (List Int)
  | [] => some []
  | .int i _ :: r => (intsL r).map (i :: ·)
  | _ :: _ => none
theorem intsL_are : ∀ {vs : List Value} {ns : List Int}, intsL vs = some ns → IntsAre vs ns
  | [], _, h => by cases h; exact .nil
  | .int i t :: r, _, h => by
    obtain ⟨ns, hr, rfl⟩ := Option.map_eq_some_iff.mp h
    exact .cons i t (intsL_are hr)
  | .none :: _, _, h => by cases h
  | .ellipsis :: _, _, h => by cases h
  | .notImplemented :: _, _, h => by cases h
  | .bool _ :: _, _, h => by cases h
  | .float _ _ :: _, _, h => by cases h
  | .str _ _ :: _, _, h => by cases h
  | .bytes _ _ :: _, _, h => by cases h
  | .type _ :: _, _, h => by cases h
  | .builtin _ :: _, _, h => by cases h
  | .ref _ :: _, _, h => by cases h
/-- the ints of a written list or tuple -/
def seqIn (K : Frag) (a : Addr) (c : String) : Option (List Int) := match K.lookup a with
  | some ⟨.type n, _, .seq vs _, _⟩ => if n == c then intsL vs.toList else none
  | _ => none
theorem seqIn_at {K : Frag} {a : Addr} {c : String} {ns : List Int} (e : seqIn K a c = some ns) : ∃ dd vs n sl, K.lookup a = some ⟨.type c, dd, .seq vs n, sl⟩ ∧ IntsAre vs.toList ns := by
  unfold seqIn at e
  split at e
  · rename_i n dd vs k sl ho
    split at e
    · rename_i hn
      rw [beq_iff_eq.mp hn] at ho
      exact ⟨_, _, _, _, ho, intsL_are e⟩
    · cases e
  · cases e
theorem seqIn_list {K : Frag} {h : Heap} (X : K.In h) {a : Addr} {ns : List Int} (e : seqIn K a "list" = some ns) : ∃ vs : List Value, h.IsList a vs.toArray ∧ IntsAre vs ns := by
  obtain ⟨dd, vs, n, sl, ho, hi⟩ := seqIn_at e
  exact ⟨vs.toList, ⟨_, X _ _ ho, rfl, n, by simp⟩, hi⟩
theorem seqIn_tup {K : Frag} {h : Heap} (X : K.In h) {a : Addr} {ns : List Int} (e : seqIn K a "tuple" = some ns) : ∃ vs : List Value, IsTup h a vs.toArray ∧ IntsAre vs ns := by
  obtain ⟨dd, vs, n, sl, ho, hi⟩ := seqIn_at e
  exact ⟨vs.toList, ⟨_, X _ _ ho, rfl, n, by simp⟩, hi⟩
def refsFrom : Addr → List Value → Bool
  | _, [] => true
  | b, .ref a :: r => a == b && refsFrom (b + 1) r
  | _, _ :: _ => false
theorem refsFrom_get : ∀ {b : Addr} {l : List Value}, refsFrom b l = true → ∀ {j : Nat}, j < l.length → l[j]? = some (.ref (b + j))
  | b, v :: r, h, j, hj => by
    cases v with
    | ref a =>
      have h' : (a == b && refsFrom (b + 1) r) = true := h
      rw [Bool.and_eq_true, beq_iff_eq] at h'
      obtain ⟨rfl, h2⟩ := h'
      cases j with
      | zero => rfl
      | succ j =>
        rw [List.getElem?_cons_succ, refsFrom_get h2 (by simpa using hj), Nat.add_assoc, Nat.add_comm 1 j]
    | _ => cases h
  | _, [], _, _, hj => by cases hj
section
variable {prog : Program} {w : World} {A : Around} {E : Value → Shared → Prop} {s : Shared} {K : Frag} {h₀ : Heap} {L a : Addr} {m : PySem.Str → Option Value} {n : Nat}
theorem topListRef {value slice : PySem.Expr} {l : List Value} {dd : Option Addr} {sl : Array (Option Value)} {k : Int} {u : Tok} {b : Addr} {Q : Value → Shared → Prop} (F : Fr h₀ L s.heap m) (X₀ : K.In h₀) (hl : K.lookup a = some ⟨.type "list", dd, .seq l.toArray n, sl⟩)
    (hr : refsFrom b l = true) (h0 : 0 ≤ k) (h1 : k < l.length) (hz : l.length ≤ 1000) (h : Q (.ref (b + k.toNat)) s)
    (hs : subscripted slice false (.ref a) (.int k u) = operate [.ref a, .int k u] (getItem (.ref a) (.int k u)) := by with_unfolding_all rfl) :
    wpAny (model prog w) A (subscriptTail value slice (.ref a) (.int k u)) Q E s :=
  topList_K F X₀ hl h0 (by omega) (refsFrom_get hr (by omega)) h hs
theorem topTupRef {value slice : PySem.Expr} {l : List Value} {dd : Option Addr} {sl : Array (Option Value)} {k : Int} {u : Tok} {b : Addr} {Q : Value → Shared → Prop} (F : Fr h₀ L s.heap m) (X₀ : K.In h₀) (hl : K.lookup a = some ⟨.type "tuple", dd, .seq l.toArray n, sl⟩)
    (hr : refsFrom b l = true) (h0 : 0 ≤ k) (h1 : k < l.length) (hz : l.length ≤ 1000) (h : Q (.ref (b + k.toNat)) s)
    (hs : subscripted slice false (.ref a) (.int k u) = operate [.ref a, .int k u] (getItem (.ref a) (.int k u)) := by with_unfolding_all rfl) :
    wpAny (model prog w) A (subscriptTail value slice (.ref a) (.int k u)) Q E s :=
  topTup_K F X₀ hl (by omega) (by omega) (StrLaws.seqIndex_nonneg h0 h1) (refsFrom_get hr (by omega)) h hs
end
def stepsOf (p : List Int) : List Int := (rangeKs 0 ((p.length : Int) - 1 - 0).toNat).map fun k' => p.getD (k' + 1).toNat 0 - p.getD k'.toNat 0
/-- how many ints of a list differ -/
def nset (ns : List Int) : Nat := (firstMet (fun i => ns.getD i 0) ns.length).length
theorem nset_le (ns : List Int) : nset ns ≤ ns.length := firstMet_length_le _ _
/-- what the law asks of the places of version v -/
def posOk (v : Int) (p : List Int) : Bool := decide (p.length ≤ 7 ∧ ((p.length : Int) = if v = 1 then 0 else Int.fdiv v 7 + 2) ∧ nset ((stepsOf p).drop 1) ≤ 1 ∧
  (p = [] ∨ (2 ≤ p.length ∧ p.getD (Int.toNat 0) 0 = 6 ∧ p.getD (-1 + (p.length : Int)).toNat 0 = 4 * v + 10)) ∧ ∀ k ∈ stepsOf p, Int.fmod k 2 ≠ 1 ∧ 12 ≤ k)
section
variable {v : Int} {p : List Int} (h : posOk v p = true)
include h
theorem posOk_len : p.length ≤ 7 := (of_decide_eq_true h).1
theorem posOk_is : (p.length : Int) = if v = 1 then 0 else Int.fdiv v 7 + 2 := (of_decide_eq_true h).2.1
theorem posOk_set : nset ((stepsOf p).drop 1) ≤ 1 := (of_decide_eq_true h).2.2.1
theorem posOk_ends (e : ¬ p = []) : 2 ≤ p.length ∧ p.getD (Int.toNat 0) 0 = 6 ∧ p.getD (-1 + (p.length : Int)).toNat 0 = 4 * v + 10 := (of_decide_eq_true h).2.2.2.1.resolve_left e
theorem posOk_good : ∀ k ∈ stepsOf p, Int.fmod k 2 ≠ 1 ∧ 12 ≤ k := (of_decide_eq_true h).2.2.2.2
theorem posOk_one (e : v = 1) : p = [] := by
  have := posOk_is h
  rw [if_pos e] at this
  exact List.length_eq_zero_iff.mp (by omega)
theorem posOk_more (e : v ≠ 1) : (p.length : Int) = Int.fdiv v 7 + 2 := by
  have := posOk_is h
  rwa [if_neg e] at this
theorem posOk_two (e : ¬ p = []) : 2 ≤ p.length := (posOk_ends h e).1
end
theorem stepsOf_len (p : List Int) : (stepsOf p).length = p.length - 1 := by
  unfold stepsOf rangeKs
  simp only [List.length_map, List.length_range]
  omega
theorem stepsOf_le {p : List Int} (h : p.length ≤ 7) : (stepsOf p).length ≤ 6 := by rw [stepsOf_len]; omega
def posAll (K : Frag) : Bool := (List.range 40).all fun j => match seqIn K (305 + j) "list" with
  | some p => posOk ((j : Int) + 1) p
  | none => false
theorem posAll_at {K : Frag} (h : posAll K = true) {v : Int} (h1 : 1 ≤ v) (h2 : v ≤ 40) : ∃ p, seqIn K (305 + (v - 1).toNat) "list" = some p ∧ posOk v p = true := by
  have z := List.all_eq_true.mp h (v - 1).toNat (List.mem_range.mpr (by omega))
  split at z
  · rename_i p e
    refine ⟨p, e, ?_⟩
    rwa [show (((v - 1).toNat : Nat) : Int) + 1 = v by omega] at z
  · cases z
def PosSpec (b : Shared) (fn : Addr) (M : Model) (A : Around) : Prop := ∀ (m : PySem.Str → Option Value) (h : Heap) (tk : Nat) (news : List (Addr × Obj)) (v : Int) (tv : Tok) (Q : Value → Shared → Prop) (E : Value → Shared → Prop),
      Fr b.heap b.heap.objs.size h m → News b.heap b.heap.objs.size h news → 1 ≤ v → v ≤ 40 →
      (∀ h' tk' pa pvs p, Fr b.heap b.heap.objs.size h' m → News b.heap b.heap.objs.size h' news → b.heap.IsList pa (List.toArray pvs) → IntsAre pvs p → posOk v p = true →
        Q (.ref pa) { heap := h', gens := b.gens, drawn := b.drawn, toks := tk', os := b.os }) →
      wpAny M A (call (.ref fn) [.int v tv]) Q E { heap := h, gens := b.gens, drawn := b.drawn, toks := tk, os := b.os }
theorem PosSpec.use {b : Shared} {fn : Addr} {M : Model} {A : Around} (Z : PosSpec b fn M A) {m : PySem.Str → Option Value} {h : Heap} {tk : Nat} {news : List (Addr × Obj)} {v : Int} {tv : Tok} {Q : Value → Shared → Prop} {E : Value → Shared → Prop}
      (F : Fr b.heap b.heap.objs.size h m) (N : News b.heap b.heap.objs.size h news) (h1 : 1 ≤ v) (h2 : v ≤ 40)
      (fin : ∀ h' tk' pa pvs p, Fr b.heap b.heap.objs.size h' m → News b.heap b.heap.objs.size h' news → b.heap.IsList pa (List.toArray pvs) → IntsAre pvs p → posOk v p = true →
        Q (.ref pa) { heap := h', gens := b.gens, drawn := b.drawn, toks := tk', os := b.os }) :
      wpAny M A (call (.ref fn) [.int v tv]) Q E { heap := h, gens := b.gens, drawn := b.drawn, toks := tk, os := b.os } := Z m h tk news v tv Q E F N h1 h2 fin
end Mine
end
section
open PySem PySem.W PyProof.Rows
set_option maxRecDepth 100000
namespace Mine
section
variable {prog : Program} {w : World} {A : Around} {E : Value → Shared → Prop} {s : Shared} {h₀ : Heap} {L : Addr} {m : PySem.Str → Option Value} {news : List (Addr × Obj)}
/-- set(xs) of a list of ints that the call made -/
theorem mySet {l : Addr} {vs : List Value} {ns : List Int} {Q : Value → Shared → Prop} (F : Fr h₀ L s.heap m) (N : News h₀ L s.heap news)
    (hh : A.handled = none) (hl' : s.heap.IsList l vs.toArray) (hi : IntsAre vs ns) (hb : ns.length ≤ 1000)
    (h : ∀ D h' (tk : Nat) o S, Fr h₀ L h' m → News h₀ L h' ((D, o) :: news) → (∀ p ∈ news, p.1 < D) → o.SetObjOf (intKind prog w) S (nset ns) → nset ns ≤ ns.length → Q (.ref D) { s with heap := h', toks := tk }) :
    wpAny (model prog w) A (call (.type "set") [.ref l]) Q E s := by
  have hvn : vs.length = ns.length := IntsAre.length hi
  have hsz : vs.toArray.size = vs.length := List.size_toArray
  refine PySem.call_set_list (items := vs.toArray) (ns := ns) hh hl' (by simpa using hi) (by rw [hsz, hvn]; unfold scanBound; omega) fun h' tk hS hk => ?_
  rw [hsz] at hS
  obtain ⟨o, ho, hso⟩ := hS.objOf
  obtain ⟨oL, _, _, hL, _⟩ := F.ns
  have hLlt : L < s.heap.objs.size := Heap.lt_size hL
  refine h s.heap.objs.size h' tk o _ ⟨F.ns.at' fun o' e => hk L o' hLlt e, fun b o' e => hk b o' (Heap.lt_size (F.keep b o' e)) (F.keep b o' e), F.above⟩ (fun p hp => ?_) (fun p hp => Heap.lt_size (N p hp).1) (by rw [hvn] at hso; exact hso) (nset_le ns)
  rcases List.mem_cons.mp hp with rfl | hp
  · refine ⟨ho, Nat.ne_of_gt hLlt, ?_⟩
    cases hq : h₀.get? s.heap.objs.size with
    | none => rfl
    | some o' => exact absurd (Heap.lt_size (F.keep _ _ hq)) (Nat.lt_irrefl _)
  · exact ⟨hk _ _ (Heap.lt_size (N p hp).1) (N p hp).1, (N p hp).2.1, (N p hp).2.2⟩
end

/-- a turn's end: nothing is laid down -/
def NoneEnd (h₀ : Heap) (L : Addr) (m : PySem.Str → Option Value) (s : Shared) (news : List (Addr × Obj)) (s' : Shared) : Prop := ∃ h' tk', s' = { s with heap := h', toks := tk' } ∧ Fr h₀ L h' m ∧ News h₀ L h' news
/-- the steps are even and 12 or more -/
def AllGood (q : List Int) : Prop := ∀ k ∈ q, Int.fmod k 2 ≠ 1 ∧ 12 ≤ k
section
variable {prog : Program} {w : World} {A : Around} {h₀ : Heap} {L : Addr} {m : PySem.Str → Option Value} {env : Env} {ct elt : PySem.Expr} {x : PySem.Str} {scope : Scope} {cl : List (PySem.Str × Addr)} {s : Shared} {S : List (Addr × Obj) → Prop} {Fin : List Value → List (Addr × Obj) → Prop} {news : List (Addr × Obj)}
/-- a comprehension whose test holds of no item -/
theorem none_list {vs : List Value} {ns : List Int} (hi : IntsAre vs ns) (hg : AllGood ns) (hS : S news)
    (turn : ∀ k t I oI C oC D m₂ h tk (E' : Value → Shared → Prop), Int.fmod k 2 ≠ 1 → 12 ≤ k → LCg.NsObj oC m₂ → m₂ x = some (.int k t) → Fr h₀ L h m → News h₀ L h ((I, oI) :: (C, oC) :: (D, LCg.lst []) :: news) → LCg.Off3 I C D news → ((@Ne Nat I C) ∧ (@Ne Nat I D) ∧ (@Ne Nat C D)) →
      wpAny (model prog w) A (isTrue ct (compEnvC scope cl C env) (eval ct (compEnvC scope cl C env))) (fun ok s' => if ok = true then False else NoneEnd h₀ L m { s with heap := h, toks := tk } ((I, oI) :: (C, oC) :: (D, LCg.lst []) :: news) s') E' { s with heap := h, toks := tk })
    (fin : Fin [] news) : LCt.CompRestT prog w A h₀ L m env ct elt x scope cl s S (fun i v => vs.toArray[i]? = some v) Fin vs.toArray.size 0 [] news := by
  have key : ∀ (j i : Nat), i + j = vs.toArray.size → LCt.CompRestT prog w A h₀ L m env ct elt x scope cl s S (fun i v => vs.toArray[i]? = some v) Fin j i [] news := by
    intro j
    induction j with
    | zero => intro i _; exact LCt.CompRestT.zero fin
    | succ j ih =>
      intro i hij
      refine LCt.CompRestT.succ ?_
      intro v I oI C oC D m₂ h tk E' hv hC hx F N off ne
      obtain ⟨k, t, hv', hk⟩ := IntsAre.at hi i v (by simpa using hv)
      rw [hv'] at hx
      have hkg := hg k (List.mem_of_getElem? hk)
      refine wpAny_mono (turn k t I oI C oC D m₂ h tk E' hkg.1 hkg.2 hC hx F N off ne) (fun ok s' z => ?_) fun _ _ e => e
      cases ok with
      | true => exact z.elim
      | false =>
        obtain ⟨h', tk', rfl, F', N'⟩ := z
        exact ⟨h', tk', news, rfl, F', N', off, hS, ih (i + 1) (by omega)⟩
  exact key _ 0 (by omega)
end

/-- _law_left's number -/
def leftV (v n : Int) : Int :=
  let base := (4 * v + 17) * (4 * v + 17) - 192 - 2 * (4 * v + 17 - 16) - 31 - (if 6 < v then 36 else 0)
  if n = 0 then base else base - 25 * (n * n - 3) + 10 * (n - 2)
def LeftSpec (b : Shared) (fn : Addr) (M : Model) (A : Around) : Prop := ∀ (m : PySem.Str → Option Value) (h : Heap) (tk : Nat) (news : List (Addr × Obj)) (v n : Int) (tv tn : Tok) (Q : Value → Shared → Prop) (E : Value → Shared → Prop),
      Fr b.heap b.heap.objs.size h m → News b.heap b.heap.objs.size h news → 1 ≤ v → v ≤ 40 → 0 ≤ n → n ≤ 7 →
      (∀ h' tk' t, Fr b.heap b.heap.objs.size h' m → News b.heap b.heap.objs.size h' news → Q (.int (leftV v n) t) { heap := h', gens := b.gens, drawn := b.drawn, toks := tk', os := b.os }) →
      wpAny M A (call (.ref fn) [.int v tv, .int n tn]) Q E { heap := h, gens := b.gens, drawn := b.drawn, toks := tk, os := b.os }
theorem LeftSpec.use {b : Shared} {fn : Addr} {M : Model} {A : Around} (Z : LeftSpec b fn M A) {m : PySem.Str → Option Value} {h : Heap} {tk : Nat} {news : List (Addr × Obj)} {v n : Int} {tv tn : Tok} {Q : Value → Shared → Prop} {E : Value → Shared → Prop}
      (F : Fr b.heap b.heap.objs.size h m) (N : News b.heap b.heap.objs.size h news) (h1 : 1 ≤ v) (h2 : v ≤ 40) (h3 : 0 ≤ n) (h4 : n ≤ 7)
      (fin : ∀ h' tk' t, Fr b.heap b.heap.objs.size h' m → News b.heap b.heap.objs.size h' news → Q (.int (leftV v n) t) { heap := h', gens := b.gens, drawn := b.drawn, toks := tk', os := b.os }) :
      wpAny M A (call (.ref fn) [.int v tv, .int n tn]) Q E { heap := h, gens := b.gens, drawn := b.drawn, toks := tk, os := b.os } := Z m h tk news v n tv tn Q E F N h1 h2 h3 h4 fin

theorem leftEnd {Q : Value → Shared → Prop} {x y : Int} {t : Tok} {s : Shared} (e : x = y) (h : Q (.int y t) s) : Q (.int x t) s := e ▸ h
end Mine
end
section
open PySem PySem.W PyProof.Rows
set_option maxRecDepth 100000
namespace Mine
/-- a block's object: an own tuple of two ints -/
abbrev blkObj (C dx : Addr) (t d : Int) (u v : Tok) (n : Nat) : Obj := { cls := .ref C, dict := some dx, data := .seq #[.int t u, .int d v] n }
/-- the ledger's rows of the blocks bs that stand at the places as -/
inductive Blks (C : Addr) : List (Addr × Obj) → List Value → List (Int × Int) → Prop where
  | nil : Blks C [] [] []
  | snoc {rows : List (Addr × Obj)} {vs : List Value} {bs : List (Int × Int)} {a dx : Addr} {t d : Int} {u v : Tok} {n : Nat} : Blks C rows vs bs → Blks C ((a, blkObj C dx t d u v n) :: (dx, emptyDict) :: rows) (vs ++ [.ref a]) (bs ++ [(t, d)])
theorem Blks.len {C : Addr} {rows : List (Addr × Obj)} {vs : List Value} {bs : List (Int × Int)} (h : Blks C rows vs bs) : vs.length = bs.length := by
  induction h with
  | nil => rfl
  | snoc _ ih => rw [List.length_append, List.length_append, ih]; rfl
theorem Blks.at {C : Addr} {rows : List (Addr × Obj)} {vs : List Value} {bs : List (Int × Int)} (h : Blks C rows vs bs) : ∀ {i : Nat} {x : Value}, vs[i]? = some x → ∃ a dx t d u v n, x = .ref a ∧ bs[i]? = some (t, d) ∧ (a, blkObj C dx t d u v n) ∈ rows ∧ (dx, emptyDict) ∈ rows := by
  induction h with
  | nil => intro i x e; cases e
  | snoc h ih =>
    rename_i rows vs bs a dx t d u v n
    intro i x e
    by_cases hi : i < vs.length
    · rw [List.getElem?_append_left hi] at e
      obtain ⟨a', dx', t', d', u', v', n', hx, hb, hm, hm2⟩ := ih e
      exact ⟨a', dx', t', d', u', v', n', hx, by rw [List.getElem?_append_left (by rw [← h.len]; exact hi)]; exact hb, .tail _ (.tail _ hm), .tail _ (.tail _ hm2)⟩
    · have hi' : i = vs.length := by
        have := (List.getElem?_eq_some_iff.mp e).1
        rw [List.length_append, List.length_singleton] at this
        omega
      subst hi'
      have e' : x = .ref a := by simpa using e.symm
      refine ⟨a, dx, t, d, u, v, n, e', ?_, .head _, .tail _ (.head _)⟩
      rw [h.len]; simp

def offV (lev : Int) : Int := if lev = 1 then 0 else if lev = 0 then 1 else if lev = 3 then 2 else 3

theorem offV_lo (lev : Int) : 0 ≤ offV lev := by unfold offV; (repeat' split) <;> omega
theorem offV_hi (lev : Int) : offV lev ≤ 3 := by unfold offV; (repeat' split) <;> omega
end Mine
end
section
open PySem PySem.W PyProof.Rows PySem.Calls Builtin Builtin.ObjectAttr Builtin.Getset_descriptor
set_option maxRecDepth 100000
set_option maxHeartbeats 4000000
namespace Mine
/-- what a class's __new__ hands back -/
def NewBack (K : Frag) (C : Addr) (Q : Value → Shared → Prop) (E : Value → Shared → Prop) (r : Result) (s' : Shared) : Prop := match r with
  | .ok (.ret v) => ∃ x dx its n, v = .ref x ∧ s'.heap.get? x = some { cls := .ref C, dict := some dx, data := .seq its n } ∧ K.In s'.heap ∧ Q (.ref x) s'
  | .ok _ => False
  | .error e => E e s'
section
variable {prog : Program} {w : World} {A : Around} {E : Value → Shared → Prop} {s : Shared} {K : Frag} {C p f : Addr} {h₀ : Heap} {L : Addr} {m : PySem.Str → Option Value} {Q : Value → Shared → Prop}
theorem oi_run2 {h : Heap} {g : Array GenState} {d : Drawn} {t : Nat} {os : OsState} {x : Addr} {pos : List Value} {R : Fin → Shared → Prop} {E : Value → Shared → Prop}
    (ht : Looks (model prog w) h (typeOf (.ref x)) (.ref C)) (hi : Looks (model prog w) h (typeLookup (.ref C) "__init__") (some (.builtin "object.__init__"))) (hm : Looks (model prog w) h (Bind.madeBy (.ref C)) none)
    (q : R (.done (.ret .none)) ⟨h, g, d, t, os⟩) : wpAny (model prog w) A (Builtin.«object.__init__» ⟨.ref x :: pos, []⟩) R E ⟨h, g, d, t, os⟩ := by
  unfold Builtin.«object.__init__»
  cases pos with
  | nil =>
    repeat (first | exact q | lk)
  | cons y r =>
    have c1 : ((some (Value.builtin "object.__init__")) != some (Value.builtin "object.__init__")) = false := bne_self_eq_false _
    have c2 : ((none : Option String) != some "object.__new__") = true := rfl
    repeat (first | simp only [c1, c2, Bool.or_true, Bool.false_eq_true, if_false, Bool.not_true] | exact q | lk)

theorem isTrue_not {b : Bool} (h : b = true) : (!b) = false := by rw [h]; rfl
/-- a class with a __new__ of its own (a static method), no __init__ of its own -/
theorem call_new {oc : Value} {od : Option Addr} {cd : ClassData} {sl : Array (Option Value)} {pos : List Value} {mc : Value} {rest : List Value} (F : Fr h₀ L s.heap m) (X₀ : K.In h₀)
    (hC : K.lookup C = some ⟨oc, od, .cls cd, sl⟩) (hmro : cd.mro.isEmpty = false)
    (hmade : ∀ h, K.In h → Looks (model prog w) h (Bind.madeBy (.ref C)) none) (hcall : specialIn K (.ref C) "__call__" = some (some (.builtin "type.__call__"))) (htyp : instIn K (.ref C) (.type "type") = some true)
    (hself : subIn K (.ref C) (.ref C) = some true) (hobj : subIn K (.ref C) (.type "object") = some true)
    (hm : typeIn K (.ref C) = some mc) (hr : readsIn K C mc = true) (e : findCls K (.ref C) mc "__new__" = some (.get (.builtin "staticmethod.__get__") (.ref p) .none (.ref C))) (hp : recIn K p "staticmethod" = some (.ref f :: rest)) (hv : handedIn (.ref f) = true)
    (hinit : findIn K (.ref C) "__init__" = some (some (.builtin "object.__init__")))
    (hargs : ∀ x : Addr, argsOk "object.__init__" ⟨.ref x :: pos, []⟩)
    (h : ∀ tk, codeAny (model prog w) (A.under (.builtin "type.__call__" ⟨.ref C :: pos, []⟩)) (.call (.ref f) ⟨.ref C :: pos, []⟩) (NewBack K C Q E) { s with toks := tk }) :
    wpAny (model prog w) A (call (.ref C) pos []) Q E s := by
  refine wpAny_call ?_
  have X := X₀.keeps F.keep
  have made := hmade _ X
  have call := looks_specialIn (M := model prog w) X hcall
  have typ := looks_instIn (M := model prog w) X htyp
  have hCs := X _ _ hC
  have cls := fun expr => cls_sm (prog := prog) (w := w) (A := A.under (.builtin "type.__call__" ⟨.ref C :: pos, []⟩)) (E := fun e s' => E e s') (s := s) (K := K) (C := C) (name := "__new__") (expr := expr) (Q := fun v s' => v = .ref f ∧ s' = { s with toks := s.toks + 1 }) F X₀ hm hr e hp hv ⟨rfl, rfl⟩
  obtain ⟨hh, g, d, t, os⟩ := s
  dsimp only at X made call typ hCs cls
  refine codeAny_of_tree ?_
  show wpAny _ _ (callAny (.ref C) _) _ _ _
  refine nd_load hCs ?_
  show wpAny _ _ (callAny.viaDunder (.ref C) _) _ _ _
  unfold callAny.viaDunder
  refine wpAny_bind (call.at ?_)
  dsimp only
  rw [tc_bind]
  refine wpAny_bind (wpAny_pure (wpAny_bind (wpAny_pure ?_)))
  refine wpAny_pure (a := Fin.again (.call (.builtin "type.__call__") ⟨.ref C :: pos, []⟩)) (And.intro rfl ?_)
  refine codeAny_call_builtin_at (Code.quiet_builtin _ (by decide +kernel)) entry_typeCall (check_slot tc_kind tc_split typ (tc_args _ _ _) ?_)
  unfold Builtin.«type.__call__»
  have hm' : Looks (model prog w) hh (mroOf (.ref C)) cd.mro := ((Looks.ld (part := none) hCs).andThen .now).andThen .now
  repeat (first | simp only [hmro, Bool.false_eq_true, if_false] | ((with_reducible refine wpAny_mono (cls _) (fun v s' z => ?_) (fun _ _ z => z)); obtain ⟨rfl, rfl⟩ := z) | (with_reducible refine wpAny_call ?_) | lk)
  refine codeAny_mono (h (t + 1)) fun r s' z => ?_
  rcases r with e | (_ | _ | _ | v)
  · exact z
  · exact z.elim
  · exact z.elim
  · exact z.elim
  · obtain ⟨x, dx, its, n, rfl, hx, X', hq⟩ := z
    obtain ⟨hh', g', d', t', os'⟩ := s'
    dsimp only at hx X' hq ⊢
    have t1 : Looks (model prog w) hh' (typeOf (.ref x)) (.ref C) := (Looks.ld hx).andThen .now
    have s1 := looks_subIn (M := model prog w) X' hself
    have i1 := looks_findIn (M := model prog w) X' hinit
    have o1 : Looks (model prog w) hh' (isInstance (.ref x) (.type "object")) true := t1.andThen (looks_subIn X' hobj)
    have mk := hmade _ X'
    unfold isInstance callSpecial? specialOf
    have hb : Looks (model prog w) hh' (bindSpecial (.builtin "object.__init__") (.ref x)) (.builtin "object.__init__", [.ref x]) := Looks.of_pure (oi_bind _)
    repeat (first | (with_reducible refine wpAny_call ?_) | lk)
    refine codeAny_call_builtin oi_plain entry_oi (@check_slot (model prog w) _ _ _ "object.__init__" "object" "__init__" (.ref x) _ [] _ oi_kind oi_split o1 ?_ ?_)
    · exact hargs x
    · refine oi_run2 t1 i1 mk ?_
      show wpAny _ _ _ _ _ _
      repeat (first | exact hq | lk)
end
end Mine
end
section
open PySem PySem.W PyProof.Rows PySem.Calls Builtin Builtin.ObjectAttr Builtin.Getset_descriptor
set_option maxRecDepth 100000
set_option maxHeartbeats 4000000
namespace Mine
section
variable {prog : Program} {w : World} {A : Around} {E : Value → Shared → Prop} {s : Shared} {K : Frag} {C : Addr} {h₀ : Heap} {L : Addr} {m : PySem.Str → Option Value} {news : List (Addr × Obj)} {Q : Value → Shared → Prop}
/-- tuple.__new__(cls, t) for a class over tuple -/
theorem tup_new {oc : Value} {od : Option Addr} {cd : ClassData} {sl : Array (Option Value)} {tp : Addr} {its : Array Value} {n : Nat} (F : Fr h₀ L s.heap m) (X₀ : K.In h₀) (N : News h₀ L s.heap news)
    (htp : (tp, ({ cls := .type "tuple", data := .seq its n } : Obj)) ∈ news) (hsz : its.size ≤ 1000)
    (hC : K.lookup C = some ⟨oc, od, .cls cd, sl⟩) (hdel : cd.hasDel = false)
    (hchk : ∀ h, K.In h → Looks (model prog w) h (checkBuiltinCall "tuple.__new__" ⟨[.ref C, .ref tp], []⟩) ())
    (hmade : ∀ h, K.In h → Looks (model prog w) h (Bind.madeHere "tuple.__new__" (.ref C)) ())
    (hsub : subIn K (.ref C) (.type "tuple") = some true)
    (hinit : findIn K (.ref C) "__init__" = some (some (.builtin "object.__init__")))
    (h : ∀ x dx h', Fr h₀ L h' m → News h₀ L h' ((x, ({ cls := .ref C, dict := some dx, data := .seq its 0 } : Obj)) :: (dx, emptyDict) :: news) → (∀ p ∈ news, p.1 < dx) → dx < x → K.In h' → Q (.ref x) { s with heap := h' }) :
    wpAny (model prog w) A (call (.builtin "tuple.__new__") [.ref C, .ref tp] []) Q E s := by
  have X := X₀.keeps F.keep
  have chk := hchk _ X
  have mk := hmade _ X
  have sub := looks_subIn (M := model prog w) X hsub
  have ini := looks_findIn (M := model prog w) X hinit
  have hCs := X _ _ hC
  have htps := (N _ htp).1
  have hlast := h
  obtain ⟨hh, g, d, t, os⟩ := s
  dsimp only at X chk mk sub ini hCs htps F N h
  have hty : Looks (model prog w) hh (isType (.ref C)) true := (Looks.ld (part := some .none) hCs).andThen .now
  refine wpAny_call (codeAny_call_builtin (by decide +kernel) PySem.F.entry_tuple_new ?_)
  refine chk.at ?_
  unfold Builtin.«tuple.__new__»
  have hz : its.size ≤ sizeLine := by rw [sizeLine_eq]; omega
  repeat (first | simp only [Bool.not_true, Bool.false_eq_true, if_false, beq_self_eq_true, if_true] | (with_reducible refine wpAny_collect_seq (hsz := hz) tp (.inr rfl) htps rfl rfl (fun h' hk => ?_)) | lk)
  dsimp only at hk
  rw [Array.toArray_toList, if_neg (by omega)]
  have F' : Fr h₀ L h' m := F.keeps hk
  have N' : News h₀ L h' news := N.grown hk
  have N2 := (N'.push F' emptyDict).push (F'.push _) ({ cls := .ref C, dict := some h'.objs.size, data := .seq its 0 } : Obj)
  rw [Heap.size_push] at N2
  have X2 : K.In ((h'.push emptyDict).push ({ cls := .ref C, dict := some h'.objs.size, data := .seq its 0 } : Obj)) := (X.keeps hk).keeps fun b o e => Heap.get?_push_of_some _ (Heap.get?_push_of_some _ e)
  have hC2 := X2 _ _ hC
  unfold newObjAsIs classHasDel
  refine wpAny_bind (wpAny_alloc ?_)
  refine wpAny_bind (wpAny_bind (wpAny_load hC2 ?_))
  dsimp only
  rw [hdel]
  refine wpAny_pure (wpAny_pure (wpAny_pure ?_))
  have hfin := h (h'.objs.size + 1) h'.objs.size _ ((F'.push _).push _) N2 (fun p hp => Heap.lt_size (N' p hp).1) (Nat.lt_succ_self _) X2
  have e : (h'.push { cls := Value.type "dict", data := Data.dict #[] }).objs.size = h'.objs.size + 1 := Heap.size_push ..
  show Q (.ref (h'.push { cls := Value.type "dict", data := Data.dict #[] }).objs.size) _
  rw [e]
  exact hfin
end
end Mine
namespace Mine
theorem NewBack.mem {K : Frag} {C : Addr} {h₀ : Heap} {L x dx : Addr} {m : PySem.Str → Option Value} {news : List (Addr × Obj)} {its : Array Value} {n : Nat} {Q E : Value → Shared → Prop} {s' : Shared} (F : Fr h₀ L s'.heap m) (X : K.In h₀) (N : News h₀ L s'.heap news)
    (hm : (x, ({ cls := .ref C, dict := some dx, data := .seq its n } : Obj)) ∈ news) (q : Q (.ref x) s') : NewBack K C Q E (.ok (.ret (.ref x))) s' := ⟨x, dx, its, n, rfl, (N _ hm).1, X.keeps F.keep, q⟩
end Mine
end
section
open PySem PySem.W PyProof.Rows PySem.Calls
set_option maxRecDepth 100000
set_option maxHeartbeats 4000000
namespace Mine
section
variable {prog : Program} {w : World} {A : Around} {E : Value → Shared → Prop} {s : Shared} {env : Env} {h₀ : Heap} {x : PySem.Str} {body : List Stmt} {Q : Flow → Shared → Prop}
/-- a loop over range(a, b, c); the word may let the ledger grow -/
theorem range_loopC {r : Addr} {a b c : Int} {t u v : Tok} {n : Nat} {m₀ : PySem.Str → Option Value} {news : List (Addr × Obj)} (J : Nat → (PySem.Str → Option Value) → List (Addr × Obj) → Prop)
    (hh : A.handled = none) (hr : IsRange s.heap r a b c t u v) (hsmall : Builtin.Range.small a b c = true) (hn : Builtin.Range.rangeSize a b c = (n : Int)) (F : Fr h₀ env.locals s.heap m₀) (N : News h₀ env.locals s.heap news) (hj : J 0 m₀ news)
    (turn : ∀ i t' m₁ news₁ h tk I oI, i < n → J i m₁ news₁ → (∀ p ∈ news₁, p.1 ≠ I) → Fr h₀ env.locals h (fun y => if y = x then some (.int (a + (i : Int) * c) t') else m₁ y) → News h₀ env.locals h ((I, oI) :: news₁) →
      wpAny (model prog w) A (execs body env) (TurnEnd h₀ env.locals [(I, oI)] I (J (i + 1)) { s with heap := h, toks := tk } Q) E { s with heap := h, toks := tk })
    (done : ∀ m₁ news₁ h tk, J n m₁ news₁ → Fr h₀ env.locals h m₁ → News h₀ env.locals h news₁ → Q .next { s with heap := h, toks := tk }) :
    wpAny (model prog w) A (pyIter (.ref r)) (fun it s₂ => LoopAtV prog w A h₀ env x body Q E it s₂) E s := by
  refine wpAny_pyIter_range hr hsmall ?_
  have W : Walks prog w A s.heap.objs.size [s.heap.objs.size] [s.heap.objs.size] n (fun i v => i < n ∧ ∃ t, v = .int (a + i * c) t)
      (fun i h => IsRangeIter h s.heap.objs.size (a + (i : Nat) * c) ((n : Int) - (i : Nat)) c) := (Walks.range hh _ a c n).bound
  have hnw : ∀ p ∈ news, p.1 ∉ [s.heap.objs.size] := fun p hp hI => absurd (Heap.lt_size (N p hp).1) ((List.mem_singleton.mp hI) ▸ Nat.lt_irrefl _)
  refine ⟨_, _, _, n, _, _, m₀, news, J, rfl, W, ?_, ?_, hnw, (by show IsRangeIter _ _ _ _ _; rw [hn]; simpa using Heap.get?_push_size _ rfl), F.push _, (fun p hp => ⟨Heap.get?_push_of_some _ (N p hp).1, (N p hp).2⟩), hj, ?_, ?_⟩
  · intro hm
    exact absurd F.ns.lt ((List.mem_singleton.mp hm) ▸ Nat.lt_irrefl _)
  · intro b hb
    rw [List.mem_singleton.mp hb]
    exact next_is_new F
  · rintro i v m₁ news₁ s₁ own ⟨h, tk, rfl⟩ hin ⟨_, t', rfl⟩ hJ hoff hown hat hall hst F₁ N₁
    obtain ⟨oI, hI⟩ : ∃ oI, h.get? s.heap.objs.size = some oI := ⟨_, hst⟩
    have hIn : (s.heap.objs.size, oI) ∈ own := hall _ (.head _) (next_is_new F) _ hI
    have hsub : ∀ p ∈ own, p ∈ [(s.heap.objs.size, oI)] := by
      rintro ⟨a, o⟩ hp
      have ha := hat _ hp
      have e' : a = s.heap.objs.size := List.mem_singleton.mp (hown _ hp)
      subst e'
      have ha' : h.get? s.heap.objs.size = some o := ha
      have : oI = o := Option.some.inj (hI.symm.trans ha')
      subst this; exact .head _
    have N₂ : News h₀ env.locals h ((s.heap.objs.size, oI) :: news₁) := fun p hp => by
      rcases List.mem_cons.mp hp with rfl | hp
      · exact N₁ _ (List.mem_append_left _ hIn)
      · exact N₁ _ (List.mem_append_right _ hp)
    exact wpAny_mono (turn i t' m₁ news₁ h tk _ oI hin hJ (fun p hp => fun e => hoff p hp (e ▸ List.mem_singleton.mpr rfl)) F₁ N₂) (fun f s₂ z => turn_step hsub z) fun _ _ e => e
  · intro h' tk m' news' F' N' _ hJ
    exact done m' news' h' tk hJ F' N'
end

section
variable {prog : Program} {w : World} {A : Around} {E : Value → Shared → Prop} {s : Shared}
theorem adjust_run (a b n : Nat) (hab : a ≤ b) (hb : b ≤ n) : Builtin.Slice.sliceAdjust (some (a : Int)) (some (b : Int)) 1 (n : Int) = ((a : Int), (b : Int)) := by
  unfold Builtin.Slice.sliceAdjust
  have h1 : ¬ ((1 : Int) < 0) := by omega
  have h2 : ¬ ((a : Int) < 0) := by omega
  have h3 : ¬ ((b : Int) < 0) := by omega
  simp only [h1, h2, h3, if_false]
  congr 1 <;> omega
theorem places_run (a b : Nat) (hab : a ≤ b) : Builtin.Slice.slicePlaces (a : Int) (b : Int) 1 = b - a := by
  unfold Builtin.Slice.slicePlaces
  have h1 : (1 : Int) > 0 := by omega
  simp only [h1, if_true, Int.ediv_one]
  split <;> omega
theorem sliceApplied_run {sl : Addr} {a b n : Nat} {u v : Tok} {Q : Int × Int × Nat → Shared → Prop} (hs : s.heap.IsSliceOf sl (.int a u) (.int b v) .none) (hab : a ≤ b) (hb : b ≤ n) (h : Q ((a : Int), 1, b - a) s) :
    wpAny (model prog w) A (Builtin.Slice.sliceApplied (.ref sl) (pure (n : Int))) Q E s := by
  obtain ⟨os, hos, hcs, hds⟩ := id hs
  unfold Builtin.Slice.sliceApplied Builtin.Slice.sliceFields
  refine wpAny_bind (wpAny_bind (wpAny_field hos hds (x := .int a u) rfl (wpAny_bind (wpAny_field hos hds (x := .int b v) rfl (wpAny_bind (wpAny_field hos hds (x := .none) rfl (wpAny_pure ?_)))))))
  refine wpAny_bind (slicePart_none ?_)
  show wpAny _ _ (if ((1 : Int) == 0) = true then _ else _) _ _ s
  rw [if_neg (by decide)]
  refine wpAny_bind (slicePart_int (wpAny_bind (slicePart_int (wpAny_bind (wpAny_pure ?_)))))
  show wpAny _ _ (match Builtin.Slice.sliceAdjust (some (a : Int)) (some (b : Int)) 1 (n : Int) with | (lo, hi) => pure (lo, (1 : Int), Builtin.Slice.slicePlaces lo hi 1)) _ _ s
  rw [adjust_run a b n hab hb]
  show wpAny _ _ (pure ((a : Int), (1 : Int), Builtin.Slice.slicePlaces (a : Int) (b : Int) 1)) _ _ s
  rw [places_run a b hab]
  exact wpAny_pure h
theorem pick_part (xs : Array Value) (a k : Nat) : ((List.range k).filterMap fun (k : Nat) => xs[((a : Int) + (k : Int) * 1).toNat]?).toArray = ((xs.toList.drop a).take k).toArray := by
  congr 1
  induction k with
  | zero => rfl
  | succ n ih =>
    rw [List.range_succ, List.filterMap_append, ih, List.take_succ, List.getElem?_drop, Array.getElem?_toList]
    congr 1
    rw [List.filterMap_cons, show ((a : Int) + (n : Int) * 1).toNat = a + n by omega]
    cases xs[a + n]? <;> rfl
theorem getItem_tup_part {t sl : Addr} {items : Array Value} {a b : Nat} {u v : Tok} {Q : Value → Shared → Prop} (ht : IsTup s.heap t items) (hs : s.heap.IsSliceOf sl (.int a u) (.int b v) .none) (hab : a ≤ b) (hb : b ≤ items.size)
    (hno : ¬ (a = 0 ∧ b = items.size))
    (h : Q (.ref s.heap.objs.size) { s with heap := s.heap.push { cls := .type "tuple", data := .seq ((items.toList.drop a).take (b - a)).toArray } })
    (hsz : items.size ≤ 1000) : wpAny (model prog w) A (getItem (.ref t) (.ref sl)) Q E s := by
  have hdrop : sizeOk (.seq ((items.toList.drop a).take (b - a)).toArray) := by
    show ((items.toList.drop a).take (b - a)).toArray.size ≤ sizeLine
    rw [List.size_toArray, List.length_take, List.length_drop, Array.length_toList, sizeLine_eq]
    omega
  obtain ⟨os, hos, hcs, hds⟩ := id hs
  have hTs : s.TypeIs (.ref sl) "slice" := ⟨os, hos, hcs⟩
  unfold getItem
  try with_reducible refine wpAny_holding ?_
  first | refine wpAny_bind (wpAny_pure ?_) | skip
  refine wpAny_bind (wpAny_sequenceKey ht.typeIs (by decide) ?_)
  refine wpAny_bind (wpAny_callSpecial?_slot (name := Str.ofString "__getitem__") ht.typeIs slot_tuple_getitem
    (wpAny_call_entry slot_tuple_getitem ht.typeIs entry_tuple_getitem ?_ (args_tuple_getitem _ _)))
  show wpAny _ _ (Builtin.Tuple.tupleItemsOf (.ref t) >>= _) _ _ s
  refine wpAny_bind (tupleItemsOf_ ht ?_)
  refine wpAny_bind (wpAny_typeOf hTs ?_)
  rw [if_pos (by decide)]
  refine wpAny_bind (sliceApplied_run hs hab hb ?_)
  have hno' : ¬ (((a : Int) == 0 && (1 : Int) == 1 && (b - a) == items.size) = true) := by
    intro z
    simp only [Bool.and_eq_true, beq_iff_eq] at z
    omega
  show wpAny _ _ (if ((a : Int) == 0 && (1 : Int) == 1 && (b - a) == items.size) = true then _ else _) _ _ s
  rw [if_neg hno', pick_part items a (b - a)]
  exact wpAny_bind (m := Builtin.Tuple.tupleExact _) (wpAny_newObj_type (wpAny_pure ⟨_, rfl, wpAny_pure h⟩) hdrop)
theorem getItem_tup_whole {t sl : Addr} {items : Array Value} {b : Nat} {u v : Tok} {Q : Value → Shared → Prop} (ht : IsTup s.heap t items) (hs : s.heap.IsSliceOf sl (.int 0 u) (.int b v) .none) (hb : b = items.size)
    (h : Q (.ref t) s) : wpAny (model prog w) A (getItem (.ref t) (.ref sl)) Q E s := by
  obtain ⟨os, hos, hcs, hds⟩ := id hs
  have hTs : s.TypeIs (.ref sl) "slice" := ⟨os, hos, hcs⟩
  unfold getItem
  try with_reducible refine wpAny_holding ?_
  first | refine wpAny_bind (wpAny_pure ?_) | skip
  refine wpAny_bind (wpAny_sequenceKey ht.typeIs (by decide) ?_)
  refine wpAny_bind (wpAny_callSpecial?_slot (name := Str.ofString "__getitem__") ht.typeIs slot_tuple_getitem
    (wpAny_call_entry slot_tuple_getitem ht.typeIs entry_tuple_getitem ?_ (args_tuple_getitem _ _)))
  show wpAny _ _ (Builtin.Tuple.tupleItemsOf (.ref t) >>= _) _ _ s
  refine wpAny_bind (tupleItemsOf_ ht ?_)
  refine wpAny_bind (wpAny_typeOf hTs ?_)
  rw [if_pos (by decide)]
  refine wpAny_bind (sliceApplied_run (a := 0) hs (Nat.zero_le _) (Nat.le_of_eq hb) ?_)
  have hyes : (((0 : Nat) : Int) == 0 && (1 : Int) == 1 && (b - 0) == items.size) = true := by
    simp [hb]
  show wpAny _ _ (if (((0 : Nat) : Int) == 0 && (1 : Int) == 1 && (b - 0) == items.size) = true then _ else _) _ _ s
  rw [if_pos hyes]
  unfold Builtin.Tuple.tupleIsExact
  have ht2 : Looks (model prog w) s.heap (typeOf (.ref t)) (.type "tuple") := by
    obtain ⟨o, ho, hc, _⟩ := ht
    exact hc ▸ (Looks.ld ho).andThen .now
  obtain ⟨hh, g, d, tk, os'⟩ := s
  repeat (first | exact h | exact ⟨_, rfl, wpAny_pure h⟩ | lk)
end
section
variable {prog : Program} {w : World} {A : Around} {E : Value → Shared → Prop} {s : Shared} {h₀ : Heap} {L : Addr} {m : PySem.Str → Option Value} {news : List (Addr × Obj)}
/-- a part of a top tuple -/
theorem slice_tup_part {value slice : Expr} {t : Addr} {items : Array Value} {a b : Nat} {u v : Tok} {Q : Value → Shared → Prop}
    (F : Fr h₀ L s.heap m) (N : News h₀ L s.heap news) (ht : IsTup h₀ t items) (hab : a ≤ b) (hb : b ≤ items.size) (hno : ¬ (a = 0 ∧ b = items.size)) (hsz : items.size ≤ 1000)
    (h : ∀ h' D, Fr h₀ L h' m → News h₀ L h' ((D, { cls := .type "tuple", data := .seq ((items.toList.drop a).take (b - a)).toArray }) :: news) → (∀ p ∈ news, p.1 < D) → Q (.ref D) { s with heap := h' })
    (hs : subscripted slice false (.ref t) (.ref s.heap.objs.size) = operate [.ref s.heap.objs.size, .ref t] (getItem (.ref t) (.ref s.heap.objs.size)) := by with_unfolding_all rfl)
    (hg : ∀ r, letTemporaryGo value (.ref t) r = pure () := by intro _; with_unfolding_all rfl) :
    wpAny (model prog w) A (subscriptTail value slice (.ref t) (.ref s.heap.objs.size)) Q E { s with heap := s.heap.push { cls := .type "slice", data := .fields #[.int a u, .int b v, .none] } } := by
  have ht' : IsTup (s.heap.push { cls := .type "slice", data := .fields #[.int a u, .int b v, .none] }) t items := (ht.keeps F.keep).keeps fun _ _ e => Heap.get?_push_of_some _ e
  refine subscriptTail_ops (s := { s with heap := s.heap.push { cls := .type "slice", data := .fields #[.int a u, .int b v, .none] } }) ht'.typeIs slot_tuple_getitem.lookup
    (getItem_tup_part ht' (Heap.IsSliceOf.new ..) hab hb hno ?_ hsz) hs hg
  have N1 := News.push (F.push { cls := .type "slice", data := .fields #[.int a u, .int b v, .none] }) (N.grown fun _ _ e => Heap.get?_push_of_some _ e) { cls := .type "tuple", data := .seq ((items.toList.drop a).take (b - a)).toArray }
  rw [Heap.size_push] at N1
  show Q (.ref (s.heap.push _).objs.size) _
  rw [Heap.size_push]
  exact h _ _ ((F.push _).push _) N1 fun p hp => Nat.lt_succ_of_lt (Heap.lt_size (N p hp).1)
theorem slice_tup_whole {value slice : Expr} {t : Addr} {items : Array Value} {b : Nat} {u v : Tok} {Q : Value → Shared → Prop}
    (F : Fr h₀ L s.heap m) (N : News h₀ L s.heap news) (ht : IsTup h₀ t items) (hb : b = items.size)
    (h : ∀ h', Fr h₀ L h' m → News h₀ L h' news → Q (.ref t) { s with heap := h' })
    (hs : subscripted slice false (.ref t) (.ref s.heap.objs.size) = operate [.ref s.heap.objs.size, .ref t] (getItem (.ref t) (.ref s.heap.objs.size)) := by with_unfolding_all rfl)
    (hg : ∀ r, letTemporaryGo value (.ref t) r = pure () := by intro _; with_unfolding_all rfl) :
    wpAny (model prog w) A (subscriptTail value slice (.ref t) (.ref s.heap.objs.size)) Q E { s with heap := s.heap.push { cls := .type "slice", data := .fields #[.int 0 u, .int b v, .none] } } := by
  have ht' : IsTup (s.heap.push { cls := .type "slice", data := .fields #[.int 0 u, .int b v, .none] }) t items := (ht.keeps F.keep).keeps fun _ _ e => Heap.get?_push_of_some _ e
  refine subscriptTail_ops (s := { s with heap := s.heap.push { cls := .type "slice", data := .fields #[.int 0 u, .int b v, .none] } }) ht'.typeIs slot_tuple_getitem.lookup
    (getItem_tup_whole ht' (Heap.IsSliceOf.new ..) hb ?_) hs hg
  exact h _ (F.push _) (N.grown fun _ _ e => Heap.get?_push_of_some _ e)
end
end Mine
end
section
open PySem PySem.W PyProof.Rows
set_option maxRecDepth 100000
namespace Mine
def blocksOf : List Int → List (Int × Int)
  | c :: t :: d :: r => List.replicate c.toNat (t, d) ++ blocksOf r
  | _ => []
def blocksAt (K : Frag) (v lev : Int) : List (Int × Int) := match seqIn K (66 + ((v - 1) * 4 + offV lev).toNat) "tuple" with
  | some r => blocksOf r
  | none => []
def shapeOk : List Int → Bool
  | [c, _, _] => decide (0 ≤ c ∧ c ≤ 100)
  | [c, _, _, c2, _, _] => decide (0 ≤ c ∧ c ≤ 100 ∧ 0 ≤ c2 ∧ c2 ≤ 100)
  | _ => false
def tabAll (K : Frag) : Bool := (List.range 160).all fun j => match seqIn K (66 + j) "tuple" with
  | some r => shapeOk r
  | none => false
theorem ints1 {vs : List Value} {a : Int} {r : List Int} (h : IntsAre vs (a :: r)) : ∃ u ws, vs = .int a u :: ws ∧ IntsAre ws r := by
  cases h with
  | cons i t h => exact ⟨t, _, rfl, h⟩
theorem ints3 {vs : List Value} {a b c : Int} (h : IntsAre vs [a, b, c]) : ∃ u1 u2 u3, vs = [.int a u1, .int b u2, .int c u3] := by
  obtain ⟨u1, v1, e1, i1⟩ := ints1 h
  obtain ⟨u2, v2, e2, i2⟩ := ints1 i1
  obtain ⟨u3, v3, e3, i3⟩ := ints1 i2
  cases i3
  exact ⟨u1, u2, u3, by rw [e1, e2, e3]⟩
theorem ints6 {vs : List Value} {a b c d e f : Int} (h : IntsAre vs [a, b, c, d, e, f]) : ∃ u1 u2 u3 u4 u5 u6, vs = [.int a u1, .int b u2, .int c u3, .int d u4, .int e u5, .int f u6] := by
  obtain ⟨u1, v1, e1, i1⟩ := ints1 h
  obtain ⟨u2, v2, e2, i2⟩ := ints1 i1
  obtain ⟨u3, v3, e3, i3⟩ := ints1 i2
  obtain ⟨u4, u5, u6, e4⟩ := ints3 i3
  exact ⟨u1, u2, u3, u4, u5, u6, by rw [e1, e2, e3, e4]⟩
theorem row_case {K : Frag} {h : Heap} (hT : tabAll K = true) (X : K.In h) {v lev : Int} (h1 : 1 ≤ v) (h2 : v ≤ 40) :
    (∃ c t d u1 u2 u3, IsTup h (66 + ((v - 1) * 4 + offV lev).toNat) #[.int c u1, .int t u2, .int d u3] ∧ 0 ≤ c ∧ c ≤ 100 ∧ blocksAt K v lev = List.replicate c.toNat (t, d)) ∨
    (∃ c t d c2 t2 d2 u1 u2 u3 u4 u5 u6, IsTup h (66 + ((v - 1) * 4 + offV lev).toNat) #[.int c u1, .int t u2, .int d u3, .int c2 u4, .int t2 u5, .int d2 u6] ∧ 0 ≤ c ∧ c ≤ 100 ∧ 0 ≤ c2 ∧ c2 ≤ 100 ∧ blocksAt K v lev = List.replicate c.toNat (t, d) ++ List.replicate c2.toNat (t2, d2)) := by
  have o1 := offV_lo lev
  have o2 := offV_hi lev
  have z := List.all_eq_true.mp hT ((v - 1) * 4 + offV lev).toNat (List.mem_range.mpr (by omega))
  unfold blocksAt
  split at z
  · rename_i r e
    obtain ⟨vs, hv, hi⟩ := seqIn_tup X e
    unfold shapeOk at z
    split at z
    · rename_i c t d
      obtain ⟨u1, u2, u3, e3⟩ := ints3 hi
      rw [e3] at hv
      have := of_decide_eq_true z
      exact .inl ⟨c, t, d, u1, u2, u3, hv, this.1, this.2, by simp [blocksOf]⟩
    · rename_i c t d c2 t2 d2
      obtain ⟨u1, u2, u3, u4, u5, u6, e6⟩ := ints6 hi
      rw [e6] at hv
      have := of_decide_eq_true z
      exact .inr ⟨c, t, d, c2, t2, d2, u1, u2, u3, u4, u5, u6, hv, this.1, this.2.1, this.2.2.1, this.2.2.2, by simp [blocksOf]⟩
    · cases z
  · cases z
/-- rs_blocks: a new list of blocks -/
def RsSpec (K : Frag) (b : Shared) (fn C : Addr) (M : Model) (A : Around) : Prop := ∀ (m : PySem.Str → Option Value) (h : Heap) (tk : Nat) (news : List (Addr × Obj)) (v lev : Int) (tv tl : Tok) (Q : Value → Shared → Prop) (E : Value → Shared → Prop),
      Fr b.heap b.heap.objs.size h m → News b.heap b.heap.objs.size h news → 1 ≤ v → v ≤ 40 → 0 ≤ lev → lev ≤ 3 →
      (∀ h' tk' bl k vs rows, Fr b.heap b.heap.objs.size h' m → News b.heap b.heap.objs.size h' ((bl, listOf (List.toArray vs) k) :: (news ++ rows)) → Blks C rows vs (blocksAt K v lev) →
        Q (.ref bl) { heap := h', gens := b.gens, drawn := b.drawn, toks := tk', os := b.os }) →
      wpAny M A (call (.ref fn) [.int v tv, .int lev tl]) Q E { heap := h, gens := b.gens, drawn := b.drawn, toks := tk, os := b.os }
end Mine
namespace Mine
theorem rz3 (a b c : Value) : Builtin.Range.rangeSize 0 ((#[a, b, c].size : Nat) : Int) 3 = ((1 : Nat) : Int) := by show Builtin.Range.rangeSize 0 3 3 = 1; decide
theorem rz6 (a b c d e f : Value) : Builtin.Range.rangeSize 0 ((#[a, b, c, d, e, f].size : Nat) : Int) 3 = ((2 : Nat) : Int) := by show Builtin.Range.rangeSize 0 6 3 = 2; decide
theorem rm3 (a b c : Value) : Builtin.Range.small 0 ((#[a, b, c].size : Nat) : Int) 3 = true := by show Builtin.Range.small 0 3 3 = true; decide
theorem rm6 (a b c d e f : Value) : Builtin.Range.small 0 ((#[a, b, c, d, e, f].size : Nat) : Int) 3 = true := by show Builtin.Range.small 0 6 3 = true; decide
end Mine
namespace Mine
theorem rzc {c : Int} (h0 : 0 ≤ c) : Builtin.Range.rangeSize 0 c 1 = ((c.toNat : Nat) : Int) := by
  unfold Builtin.Range.rangeSize
  simp
  omega
theorem rmc {c : Int} (h0 : 0 ≤ c) (h1 : c ≤ 100) : Builtin.Range.small 0 c 1 = true := by
  exact PySem.small_one (by omega) (by omega) (by omega) (by omega)
end Mine
namespace Mine
end Mine
namespace Mine
section
variable {prog : Program} {w : World} {A : Around} {E : Value → Shared → Prop} {s : Shared} {h₀ : Heap} {L : Addr} {m : PySem.Str → Option Value} {news news' : List (Addr × Obj)}
theorem app_vs {D : Addr} {vs : List Value} {n : Nat} {x : Value} {Q : Value → Shared → Prop} (F : Fr h₀ L s.heap m) (N : News h₀ L s.heap news) (hb : vs.length ≤ 1000) (U : Upd D (listOf vs.toArray n) (listOf (vs ++ [x]).toArray (n + 1)) news news')
    (h : ∀ h', Fr h₀ L h' m → News h₀ L h' news' → Q .none { s with heap := h' }) : wpAny (model prog w) A (call (.builtin "list.append") [.ref D, x]) Q E s := by
  have e : (vs ++ [x]).toArray = vs.toArray.push x := by simp
  rw [e] at U
  exact append_K F N U h (by rw [List.size_toArray, sizeLine_eq]; omega)
end
def BlkM (bl rb : Addr) (t d : Int) (u v : Tok) (m : PySem.Str → Option Value) : Prop := m (PySem.Str.ofString "blocks") = some (.ref bl) ∧ m (PySem.Str.ofString "rs_block") = some (.ref rb) ∧ m (PySem.Str.ofString "total_count") = some (.int t u) ∧ m (PySem.Str.ofString "data_count") = some (.int d v)
/-- the ledger between the turns of the inner loop -/
def BlkJ (C bl I : Addr) (oI : Obj) (news : List (Addr × Obj)) (done : List (Int × Int)) (news' : List (Addr × Obj)) : Prop :=
  ∃ k vs rows, news' = (I, oI) :: (bl, listOf (List.toArray vs) k) :: (news ++ rows) ∧ Blks C rows vs done ∧ (∀ p ∈ news ++ rows, p.1 ≠ bl) ∧ ∀ p ∈ news ++ rows, p.1 ≠ I
/-- a block's turn: the rows grow by the block -/
theorem blk_turn {C I I2 bl x dx D rb : Addr} {oI oI2 oD : Obj} {vs : List Value} {k k' j : Nat} {news rows : List (Addr × Obj)} {done : List (Int × Int)} {t d : Int} {u v : Tok} {n : Nat} {h₀ h : Heap} {L : Addr} {m : PySem.Str → Option Value} {tk : Nat} {s₁ : Shared} {Q : Flow → Shared → Prop}
    (F : Fr h₀ L h m) (N : News h₀ L h ((x, blkObj C dx t d u v n) :: (dx, emptyDict) :: (D, oD) :: (I2, oI2) :: (I, oI) :: (bl, listOf (vs ++ [Value.ref x]).toArray k') :: (news ++ rows)))
    (hB : Blks C rows vs (done ++ List.replicate j (t, d))) (hoff : ∀ p ∈ (I, oI) :: (bl, listOf vs.toArray k) :: (news ++ rows), p.1 ≠ I2) (hne : ∀ p ∈ news ++ rows, p.1 ≠ bl) (hne2 : ∀ p ∈ news ++ rows, p.1 ≠ I)
    (l1 : D < dx ∧ I2 < dx ∧ I < dx ∧ bl < dx ∧ AllLt dx (news ++ rows)) (l2 : dx < x) (hJ : BlkM bl rb t d u v m) :
    TurnEnd h₀ L [(I2, oI2)] I2 (fun m' news' => BlkM bl rb t d u v m' ∧ BlkJ C bl I oI news (done ++ List.replicate (j + 1) (t, d)) news') s₁ Q .next { s₁ with heap := h, toks := tk } := by
  obtain ⟨a1, a2, a3, a4, _⟩ := l1
  refine ⟨h, tk, m, (I, oI) :: (bl, listOf (vs ++ [Value.ref x]).toArray k') :: (news ++ ((x, blkObj C dx t d u v n) :: (dx, emptyDict) :: rows)), rfl, F, ?_, ?_, hJ, k', _, _, rfl, ?_, ?_, ?_⟩
  · refine newsSub N fun p hp => ?_
    simp only [List.mem_append, List.mem_cons, List.not_mem_nil, or_false] at hp ⊢
    rcases hp with z | z | z | z | z | z | z <;> simp [z]
  · intro p hp
    simp only [List.mem_append, List.mem_cons] at hp hoff
    rcases hp with rfl | rfl | hp | rfl | rfl | hp
    · exact hoff _ (.inl rfl)
    · exact hoff (bl, listOf vs.toArray k) (.inr (.inl rfl))
    · exact hoff _ (.inr (.inr (.inl hp)))
    · exact Nat.ne_of_gt (Nat.lt_trans a2 l2)
    · exact Nat.ne_of_gt a2
    · exact hoff _ (.inr (.inr (.inr hp)))
  · rw [List.replicate_succ', ← List.append_assoc]
    exact .snoc hB
  · intro p hp
    simp only [List.mem_append, List.mem_cons] at hp hne
    rcases hp with hp | rfl | rfl | hp
    · exact hne _ (.inl hp)
    · exact Nat.ne_of_gt (Nat.lt_trans a4 l2)
    · exact Nat.ne_of_gt a4
    · exact hne _ (.inr hp)
  · intro p hp
    simp only [List.mem_append, List.mem_cons] at hp hne2
    rcases hp with hp | rfl | rfl | hp
    · exact hne2 _ (.inl hp)
    · exact Nat.ne_of_gt (Nat.lt_trans a3 l2)
    · exact Nat.ne_of_gt a3
    · exact hne2 _ (.inr hp)
def RowM (bl rb : Addr) (m : PySem.Str → Option Value) : Prop := m (PySem.Str.ofString "blocks") = some (.ref bl) ∧ m (PySem.Str.ofString "rs_block") = some (.ref rb)
def RowJ (C bl : Addr) (news : List (Addr × Obj)) (done : List (Int × Int)) (news' : List (Addr × Obj)) : Prop :=
  ∃ k vs rows, news' = (bl, listOf (List.toArray vs) k) :: (news ++ rows) ∧ Blks C rows vs done ∧ ∀ p ∈ news ++ rows, p.1 ≠ bl
theorem row_turn {C I bl rb : Addr} {oI : Obj} {vs : List Value} {k : Nat} {news rows : List (Addr × Obj)} {done done' : List (Int × Int)} {h₀ h : Heap} {L : Addr} {m : PySem.Str → Option Value} {tk : Nat} {s₁ : Shared} {Q : Flow → Shared → Prop}
    (F : Fr h₀ L h m) (N : News h₀ L h ((I, oI) :: (bl, listOf vs.toArray k) :: (news ++ rows))) (hB : Blks C rows vs done) (e : done = done') (hne : ∀ p ∈ news ++ rows, p.1 ≠ bl) (hI : ∀ p ∈ (bl, listOf vs.toArray k) :: (news ++ rows), p.1 ≠ I) (hJ : RowM bl rb m) :
    TurnEnd h₀ L [(I, oI)] I (fun m' news' => RowM bl rb m' ∧ RowJ C bl news done' news') s₁ Q .next { s₁ with heap := h, toks := tk } :=
  ⟨h, tk, m, (bl, listOf vs.toArray k) :: (news ++ rows), rfl, F, N, hI, hJ, k, vs, rows, rfl, e ▸ hB, hne⟩
end Mine
end
section
open PySem PySem.W PyProof.Rows PySem.Calls Builtin
set_option maxRecDepth 100000
set_option maxHeartbeats 4000000
namespace Mine
section
variable {prog : Program} {w : World} {A : Around} {E : Value → Shared → Prop} {s : Shared} {K : Frag} {C : Addr} {h₀ : Heap} {L : Addr} {m : PySem.Str → Option Value} {news : List (Addr × Obj)}
theorem isc_nested {M : Model} {dep : Int} {tk : Tok} {oc : Value} {od : Option Addr} {cd : ClassData} {sl : Array (Option Value)} {Q : Fin → Shared → Prop} (X : K.In s.heap)
    (hC : K.lookup C = some ⟨oc, od, .cls cd, sl⟩) (hsub : subIn K (.ref C) (.type "tuple") = some true) (h : Q (.done (.ret (.bool true))) s) :
    wpAny M A (Builtin.«issubclass.nested» ⟨[.ref C, .type "tuple", .int dep tk], []⟩) Q E s := by
  obtain ⟨hh, g, d, tt, os⟩ := s
  have L0 : Looks M hh (typeOf (.type "tuple")) (.type "type") := Looks.of_pure meta_tuple
  have L1 := looks_subIn (M := M) X hsub
  have hCs := X _ _ hC
  have L2 : Looks M hh (isType (.ref C)) true := (Looks.ld (part := some .none) hCs).andThen .now
  unfold Builtin.«issubclass.nested»
  refine wpAny_bind (L0.at ?_)
  rw [if_pos (by decide)]
  k_delta "plainIsSubclass"
  repeat (first | exact h | simp only [if_true, Bool.and_self] | lk)
theorem isc_call {oc : Value} {od : Option Addr} {cd : ClassData} {sl : Array (Option Value)} {Q : Value → Shared → Prop} (F : Fr h₀ L s.heap m) (X₀ : K.In h₀)
    (hC : K.lookup C = some ⟨oc, od, .cls cd, sl⟩) (hsub : subIn K (.ref C) (.type "tuple") = some true) (h : Q (.bool true) s) :
    wpAny (model prog w) A (call (.builtin "issubclass") [.ref C, .type "tuple"]) Q E s := by
  refine call_function_meets (S := fun _ R s => K.In s.heap ∧ R (.ok (.ret (.bool true))) s) PySem.F.kind_issubclass PySem.F.plain_issubclass PySem.F.entry_issubclass (PySem.F.args_issubclass_2 _ _) (fun prog w A R s hs => ?_) ⟨X₀.keeps F.keep, h⟩
  repeat (any_goals (first | assumption | wp_step))
  refine ⟨Code.quiet_builtin _ (by decide +kernel), codeAny_builtin PySem.F.entry_issubclass_nested ?_⟩
  rw [Around.under_plain (show (Code.builtin "issubclass.nested" ⟨[.ref C, .type "tuple", rawInt 0], []⟩).weight = 0 from rfl) rfl]
  exact isc_nested hs.1 hC hsub hs.2
end
end Mine
namespace Mine
theorem kind_tg : builtinKind "tuple.__getitem__" = some .slot := by decide +kernel
theorem split_tg : splitId "tuple.__getitem__" = some ("tuple", "__getitem__") := by decide +kernel
theorem plain_tg : plainId "tuple.__getitem__" = true := by decide +kernel
section
variable {prog : Program} {w : World} {A : Around} {E : Value → Shared → Prop} {s : Shared} {K : Frag} {C : Addr} {h₀ : Heap} {L : Addr} {m : PySem.Str → Option Value} {news : List (Addr × Obj)}
open MeetsSeq in
theorem tup_getM (l C dx : Addr) (items : Array Value) (n : Nat) (i : Int) (u : Tok) (k : Nat) (y : Value) (hlo : -2 ^ 63 ≤ i) (hhi : i < 2 ^ 63) (hk : seqIndex? i items.size = some k) (hy : items[k]? = some y) :
    Meets (Builtin.«tuple.__getitem__» ⟨[.ref l, .int i u], []⟩)
      (fun _ R s => s.heap.get? l = some { cls := .ref C, dict := some dx, data := .seq items n, slots := #[] } ∧ R (.ok (.ret y)) s) :=
  .of_wp fun prog w A R s h => by
    obtain ⟨hp, g, d, tk, os⟩ := s; obtain ⟨hl, h⟩ := h
    have f1 := AutoSeq1.idx_int
    have hf : ¬ (decide (i < -2 ^ 63) || decide (i ≥ 2 ^ 63)) = true := by simp; omega
    wp_walk using wpAny_loadPart' hl
    simp only [hk, hy, Option.bind_some]
    refine wpAny_ite_false (by simp; omega) ?_
    wp_walk
    exact ⟨_, rfl, h⟩
/-- tuple.__getitem__(x, i) at an own tuple -/
theorem tup_get {x dx : Addr} {its : Array Value} {n k : Nat} {i : Int} {u : Tok} {y : Value} {Q : Value → Shared → Prop} (F : Fr h₀ L s.heap m) (X₀ : K.In h₀) (N : News h₀ L s.heap news)
    (hm : (x, ({ cls := .ref C, dict := some dx, data := .seq its n } : Obj)) ∈ news) (hsub : subIn K (.ref C) (.type "tuple") = some true)
    (hlo : -2 ^ 63 ≤ i) (hhi : i < 2 ^ 63) (hk : seqIndex? i its.size = some k) (hy : its[k]? = some y) (h : Q y s) :
    wpAny (model prog w) A (call (.builtin "tuple.__getitem__") [.ref x, .int i u]) Q E s := by
  have X := X₀.keeps F.keep
  have hx := (N _ hm).1
  have sub := looks_subIn (M := model prog w) X hsub
  have ty : Looks (model prog w) s.heap (typeOf (.ref x)) (.ref C) := (Looks.ld hx).andThen .now
  have ins : Looks (model prog w) s.heap (isInstance (.ref x) (.type "tuple")) true := ty.andThen sub
  refine wpAny_call (codeAny_call_builtin plain_tg entry_tuple_getitem (@check_slot (model prog w) _ _ _ "tuple.__getitem__" "tuple" "__getitem__" (.ref x) [.int i u] [] _ kind_tg split_tg ins (args_tuple_getitem _ _) ?_))
  exact tup_getM x C dx its n i u k y hlo hhi hk hy prog w A (fun r s' => match r with | .ok (.ret v) => Q v s' | .ok _ => False | .error e => E e s') s ⟨hx, h⟩
/-- a field that is an own data descriptor of the class -/
theorem get_descr {name : PySem.Str} {expr : Bool} {x dx p gf : Addr} {its : Array Value} {n : Nat} {Q : Value → Shared → Prop} (F : Fr h₀ L s.heap m) (X₀ : K.In h₀) (N : News h₀ L s.heap news)
    (hm : (x, ({ cls := .ref C, dict := some dx, data := .seq its n } : Obj)) ∈ news) (hd : (dx, emptyDict) ∈ news) (hg : plainGet K C name = true) (hh : hasDictIn K C = true)
    (ha : findIn K (.ref C) name = some (some (.ref p))) (hn : specialIn K (.ref p) "__get__" = some (some (.ref gf))) (ht : takesIn K (.ref p) = some true)
    (h : codeAny (model prog w) A.in1 (.call (.ref gf) ⟨[.ref p, .ref x, .ref C], []⟩) (fun r s' => match r with | .ok (.ret v) => wpAny (model prog w) A (handedOut v) Q E s' | .ok _ => False | .error e => wpAny (model prog w) A (noteIf true (.ref x) (.str name s.toks) e) (fun _ s'' => E e s'') E s') { s with toks := s.toks + 1 }) :
    wpAny (model prog w) A (getAttr (.ref x) name expr) Q E s :=
  get_bind (od := some emptyDict) (X₀.keeps F.keep) ⟨(N _ hm).1, rfl, rfl, (N _ hd).1⟩ (plainGet_of hg).1 (findObj_data (by obtain ⟨cd, hc, _⟩ := any_some hh; rw [hc]; rfl) ha hn ht) (plainGet_of hg).2 (wpAny_call h)
end
end Mine
end
section
open PySem PySem.W PyProof.Rows PySem.Calls
set_option maxRecDepth 100000
set_option maxHeartbeats 4000000
namespace Mine
/-- an element's end: nothing laid down, an int handed on -/
def BlkEnd (h₀ : Heap) (L : Addr) (m : PySem.Str → Option Value) (s : Shared) (led : List (Addr × Obj)) (r : Int) (y : Value) (s' : Shared) : Prop := ∃ h' tk' t, s' = { s with heap := h', toks := tk' } ∧ Fr h₀ L h' m ∧ News h₀ L h' led ∧ y = .int r t
section
variable {prog : Program} {w : World} {A : Around} {h₀ : Heap} {L : Addr} {m : PySem.Str → Option Value} {env : Env} {elt : PySem.Expr} {x : PySem.Str} {scope : Scope} {cl : List (PySem.Str × Addr)} {s : Shared} {S : List (Addr × Obj) → Prop} {Fin : List Value → List (Addr × Obj) → Prop} {news : List (Addr × Obj)}
/-- a comprehension over blocks -/
theorem blk_rest {CC : Addr} {vs : List Value} {bs : List (Int × Int)} {rows : List (Addr × Obj)} (g : Int → Int → Int) (hB : Blks CC rows vs bs) (hsub : ∀ p ∈ rows, p ∈ news) (hS : S news)
    (turn : ∀ a dx t d u v n I oI C oC D m₂ ys h tk (E' : Value → Shared → Prop), LCg.NsObj oC m₂ → m₂ x = some (.ref a) → Fr h₀ L h m → News h₀ L h ((I, oI) :: (C, oC) :: (D, LCg.lst ys) :: (a, blkObj CC dx t d u v n) :: (dx, emptyDict) :: news) → ((@Ne Nat I C) ∧ (@Ne Nat I D) ∧ (@Ne Nat C D)) →
      wpAny (model prog w) A (eval elt (compEnvC scope cl C env)) (BlkEnd h₀ L m { s with heap := h, toks := tk } ((I, oI) :: (C, oC) :: (D, LCg.lst ys) :: news) (g t d)) E' { s with heap := h, toks := tk })
    (fin : ∀ ys, IntsAre ys (bs.map fun b => g b.1 b.2) → Fin ys news) : LCg.CompRest prog w A h₀ L m env elt x scope cl s S (fun i v => vs.toArray[i]? = some v) Fin vs.toArray.size 0 [] news := by
  have hlen := hB.len
  have key : ∀ (j i : Nat) (ys : List Value), i + j = vs.length → IntsAre ys ((bs.take i).map fun b => g b.1 b.2) → LCg.CompRest prog w A h₀ L m env elt x scope cl s S (fun i v => vs.toArray[i]? = some v) Fin j i ys news := by
    intro j
    induction j with
    | zero =>
      intro i ys hi hy
      have e : i = bs.length := by omega
      subst e
      rw [List.take_length] at hy
      exact LCg.CompRest.zero (fin ys hy)
    | succ j ih =>
      intro i ys hi hy
      refine LCg.CompRest.succ ?_
      intro v I oI C oC D m₂ h tk E' hv hC hx F N off ne
      obtain ⟨a, dx, t, d, u, v', n, e, hb, hm1, hm2⟩ := hB.at (i := i) (x := v) (by simpa using hv)
      rw [e] at hx
      refine wpAny_mono (turn a dx t d u v' n I oI C oC D m₂ ys h tk E' hC hx F (fun p hp => ?_) ne) (fun y s₂ hq => ?_) fun _ _ e => e
      · rcases List.mem_cons.mp hp with rfl | hp
        · exact N _ (.head _)
        · rcases List.mem_cons.mp hp with rfl | hp
          · exact N _ (.tail _ (.head _))
          · rcases List.mem_cons.mp hp with rfl | hp
            · exact N _ (.tail _ (.tail _ (.head _)))
            · rcases List.mem_cons.mp hp with rfl | hp
              · exact N _ (.tail _ (.tail _ (.tail _ (hsub _ hm1))))
              · rcases List.mem_cons.mp hp with rfl | hp
                · exact N _ (.tail _ (.tail _ (.tail _ (hsub _ hm2))))
                · exact N _ (.tail _ (.tail _ (.tail _ hp)))
      · obtain ⟨h', tk', t', e, F', N', hy'⟩ := hq
        refine ⟨h', tk', news, e, F', N', off, hS, ?_⟩
        rw [hy']
        refine ih (i + 1) _ (by omega) ?_
        rw [List.take_add_one, hb]
        simpa using IntsAre.append hy (.cons (g t d) t' .nil)
  have := key vs.length 0 [] (by omega) (by simp only [List.take_zero, List.map_nil]; exact .nil)
  rwa [List.size_toArray]
end
theorem RsSpec.use {K : Frag} {b : Shared} {fn C : Addr} {M : Model} {A : Around} (Z : RsSpec K b fn C M A) {m : PySem.Str → Option Value} {h : Heap} {tk : Nat} {news : List (Addr × Obj)} {v lev : Int} {tv tl : Tok} {Q : Value → Shared → Prop} {E : Value → Shared → Prop}
      (F : Fr b.heap b.heap.objs.size h m) (N : News b.heap b.heap.objs.size h news) (h1 : 1 ≤ v) (h2 : v ≤ 40) (h3 : 0 ≤ lev) (h4 : lev ≤ 3)
      (fin : ∀ h' tk' bl k vs rows, Fr b.heap b.heap.objs.size h' m → News b.heap b.heap.objs.size h' ((bl, listOf (List.toArray vs) k) :: (news ++ rows)) → Blks C rows vs (blocksAt K v lev) →
        Q (.ref bl) { heap := h', gens := b.gens, drawn := b.drawn, toks := tk', os := b.os }) :
      wpAny M A (call (.ref fn) [.int v tv, .int lev tl]) Q E { heap := h, gens := b.gens, drawn := b.drawn, toks := tk, os := b.os } := Z m h tk news v lev tv tl Q E F N h1 h2 h3 h4 fin
/-- what holds between the turns over the levels -/
def LevM (v lf : Int) (tv tf : Tok) (st : Addr) (bv : Value) (m : PySem.Str → Option Value) : Prop :=
  m (PySem.Str.ofString "before") = some bv ∧ m (PySem.Str.ofString "left") = some (.int lf tf) ∧ m (PySem.Str.ofString "version") = some (.int v tv) ∧ m (PySem.Str.ofString "state") = some (.ref st)
end Mine
namespace Mine
def levOf : Nat → Int
  | 0 => 1
  | 1 => 0
  | 2 => 3
  | _ => 2
theorem levOf_lo (i : Nat) : 0 ≤ levOf i := by unfold levOf; split <;> decide
theorem levOf_hi (i : Nat) : levOf i ≤ 3 := by unfold levOf; split <;> decide
def datas (bs : List (Int × Int)) : List Int := bs.map fun b => b.2
def endsL (bs : List (Int × Int)) : List Int := bs.map fun b => b.1 - b.2
def bvOk (K : Frag) (v : Int) (i : Nat) (bv : Value) : Prop := (i = 0 ∧ bv = .none) ∨ ∃ t, 0 < i ∧ bv = .int (datas (blocksAt K v (levOf (i - 1)))).sum t
def LevSpec (K : Frag) (b : Shared) (M : Model) (A : Around) (body : List Stmt) (env : Env) : Prop :=
  ∀ (v lf : Int) (tv tf tl : Tok) (st : Addr) (us : PySem.Str → Option Value) (h : Heap) (tk : Nat) (led : List (Addr × Obj)) (I : Addr) (oI : Obj) (l : Addr) (ol : Obj) (i : Nat) (bv : Value) (Q : Flow → Shared → Prop) (E : Value → Shared → Prop), 1 ≤ v → v ≤ 40 → i < 4 → bvOk K v i bv →
    Fr b.heap b.heap.objs.size h (fun y => if y = PySem.Str.ofString "level" then some (.int (levOf i) tl) else if y = PySem.Str.ofString "before" then some bv else if y = PySem.Str.ofString "left" then some (.int lf tf) else if y = PySem.Str.ofString "version" then some (.int v tv) else if y = PySem.Str.ofString "state" then some (.ref st) else us y) →
    News b.heap b.heap.objs.size h ((I, oI) :: (l, ol) :: led) → (∀ p ∈ led, p.1 ≠ I) → lf = leftV v (if v = 1 then 0 else Int.fdiv v 7 + 2) →
    wpAny M A (execs body env) (TurnEnd b.heap b.heap.objs.size [(I, oI), (l, ol)] I (fun m' n' => (∃ bv', LevM v lf tv tf st bv' m' ∧ bvOk K v (i + 1) bv') ∧ n' = led) { heap := h, gens := b.gens, drawn := b.drawn, toks := tk, os := b.os } Q) E { heap := h, gens := b.gens, drawn := b.drawn, toks := tk, os := b.os }
end Mine
end
section
open PySem PySem.W PyProof.Rows PySem.Calls Builtin
set_option maxRecDepth 100000
set_option maxHeartbeats 4000000
namespace Mine
theorem kind_tga : builtinKind "tuple.__getattribute__" = some .slot := by decide +kernel
theorem split_tga : splitId "tuple.__getattribute__" = some ("tuple", "__getattribute__") := by decide +kernel
theorem plain_tga : plainId "tuple.__getattribute__" = true := by decide +kernel
/-- what a getter hands back -/
def DescBack (Q : Value → Shared → Prop) (r : Result) (s' : Shared) : Prop := match r with
  | .ok (.ret v) => handedIn v = true ∧ Q v s'
  | _ => False
theorem DescBack.int {Q : Value → Shared → Prop} {i : Int} {t : Tok} {s' : Shared} (q : Q (.int i t) s') : DescBack Q (.ok (.ret (.int i t))) s' := ⟨rfl, q⟩
section
variable {prog : Program} {w : World} {A : Around} {E : Value → Shared → Prop} {s : Shared} {K : Frag} {C : Addr} {h₀ : Heap} {L : Addr} {m : PySem.Str → Option Value} {news : List (Addr × Obj)}
theorem get_tup {name : PySem.Str} {expr : Bool} {x dx p gf : Addr} {its : Array Value} {n : Nat} {Q : Value → Shared → Prop} (F : Fr h₀ L s.heap m) (X₀ : K.In h₀) (N : News h₀ L s.heap news)
    (hm : (x, ({ cls := .ref C, dict := some dx, data := .seq its n } : Obj)) ∈ news) (hd : (dx, emptyDict) ∈ news)
    (hga : findIn K (.ref C) "__getattribute__" = some (some (.builtin "tuple.__getattribute__"))) (hgn : findIn K (.ref C) "__getattr__" = some none) (hc : (clsIn K C).isSome = true) (hsub : subIn K (.ref C) (.type "tuple") = some true)
    (ha : findIn K (.ref C) name = some (some (.ref p))) (hn : specialIn K (.ref p) "__get__" = some (some (.ref gf))) (ht : takesIn K (.ref p) = some true)
    (h : ∀ tk, codeAny (model prog w) A.in1 (.call (.ref gf) ⟨[.ref p, .ref x, .ref C], []⟩) (DescBack Q) { s with toks := tk }) :
    wpAny (model prog w) A (getAttr (.ref x) name expr) Q E s := by
  have X := X₀.keeps F.keep
  have hx := (N _ hm).1
  have I : PySem.W.InstAt s.heap x { cls := .ref C, dict := some dx, data := .seq its n } C (some emptyDict) := ⟨(N _ hm).1, rfl, rfl, (N _ hd).1⟩
  obtain ⟨hh, g, d, t, os⟩ := s
  dsimp only at X I hx h
  have L0 := I.type (M := model prog w)
  have L1 := looks_findIn (M := model prog w) X hga
  have L2 := looks_findIn (M := model prog w) X hgn
  have L3 := looks_find (M := model prog w) X I (findObj_data hc ha hn ht)
  have sub := looks_subIn (M := model prog w) X hsub
  have ins : Looks (model prog w) hh (isInstance (.ref x) (.type "tuple")) true := L0.andThen sub
  unfold getAttr getAttrBy
  refine wpAny_bind (wpAny_mkText (wpAny_holding (wpAny_bind (L0.at (wpAny_bind (L1.at ?_))))))
  dsimp only
  have e1 : (onTheHeap (Value.ref C) && (Value.builtin "tuple.__getattribute__" == Value.builtin "object.__getattribute__")) = false := by
    have : (Value.builtin "tuple.__getattribute__" == Value.builtin "object.__getattribute__") = false := by decide +kernel
    rw [this, Bool.and_false]
  rw [if_neg (by rw [e1]; decide)]
  unfold getAttrByItsOwn hookBefore
  rw [if_pos (by rfl)]
  refine wpAny_bind (L2.at ?_)
  have e2 : (expr && onTheHeap (Value.builtin "tuple.__getattribute__")) = false := by cases expr <;> rfl
  unfold callGetattribute
  rw [if_neg (by rw [e2]; decide)]
  unfold boundAndCalled
  have f3 : Looks (model prog w) hh (bindSpecial (.builtin "tuple.__getattribute__") (.ref x)) (.builtin "tuple.__getattribute__", [.ref x]) := Looks.of_pure (PySem.F.slot_tuple_getattribute.bind (.ref x))
  refine wpAny_bind (wpAny_attempt (wpAny_holding (wpAny_bind (f3.at ?_))))
  dsimp only
  show wpAny _ _ (call (.builtin "tuple.__getattribute__") [.ref x, .str name t] []) _ _ _
  refine wpAny_call (codeAny_call_builtin plain_tga PySem.F.entry_tuple_ga (@check_slot (model prog w) _ _ _ "tuple.__getattribute__" "tuple" "__getattribute__" (.ref x) [.str name t] [] _ kind_tga split_tga ins (PySem.F.args_tuple_getattribute_2 _ _) ?_))
  unfold Builtin.«object.__getattribute__»
  repeat (first | (with_reducible refine wpAny_call ?_) | lk)
  refine codeAny_mono (h _) fun r s' z => ?_
  rcases r with e | (_ | _ | _ | v)
  · exact z.elim
  · exact z.elim
  · exact z.elim
  · exact z.elim
  · refine wpAny_pure ?_
    obtain ⟨z1, z2⟩ := z
    show wpAny _ _ (handedOut v) _ _ _
    rw [handedOut_of z1]; exact wpAny_pure z2
end
end Mine
namespace Mine
section
variable {prog : Program} {w : World} {A : Around} {E : Value → Shared → Prop} {s : Shared} {C : Addr} {h₀ : Heap} {L : Addr} {news : List (Addr × Obj)}
theorem ty_own {x dx : Addr} {its : Array Value} {n : Nat} {Q : Value → Shared → Prop} (N : News h₀ L s.heap news) (hm : (x, ({ cls := .ref C, dict := some dx, data := .seq its n } : Obj)) ∈ news) (hd : (dx, emptyDict) ∈ news)
    (h : Q (.ref C) s) : wpAny (model prog w) A (call (.type "type") [.ref x]) Q E s :=
  kto_own (ox := { cls := .ref C, dict := some dx, data := .seq its n }) (od := some emptyDict) ⟨(N _ hm).1, rfl, rfl, (N _ hd).1⟩ h
end
end Mine
namespace Mine
section
variable {prog : Program} {w : World} {A : Around} {E : Value → Shared → Prop} {s : Shared} {K : Frag} {C : Addr} {h₀ : Heap} {L : Addr} {m : PySem.Str → Option Value} {news : List (Addr × Obj)}
theorem tup_get0 {x dx : Addr} {a b : Value} {n : Nat} {u : Tok} {Q : Value → Shared → Prop} (F : Fr h₀ L s.heap m) (X₀ : K.In h₀) (N : News h₀ L s.heap news)
    (hm : (x, ({ cls := .ref C, dict := some dx, data := .seq #[a, b] n } : Obj)) ∈ news) (hsub : subIn K (.ref C) (.type "tuple") = some true) (h : Q a s) :
    wpAny (model prog w) A (call (.builtin "tuple.__getitem__") [.ref x, .int 0 u]) Q E s := tup_get F X₀ N hm hsub (by decide) (by decide) (k := 0) rfl rfl h
theorem tup_get1 {x dx : Addr} {a b : Value} {n : Nat} {u : Tok} {Q : Value → Shared → Prop} (F : Fr h₀ L s.heap m) (X₀ : K.In h₀) (N : News h₀ L s.heap news)
    (hm : (x, ({ cls := .ref C, dict := some dx, data := .seq #[a, b] n } : Obj)) ∈ news) (hsub : subIn K (.ref C) (.type "tuple") = some true) (h : Q b s) :
    wpAny (model prog w) A (call (.builtin "tuple.__getitem__") [.ref x, .int 1 u]) Q E s := tup_get F X₀ N hm hsub (by decide) (by decide) (k := 1) rfl rfl h
end
end Mine
namespace Mine
theorem BlkEnd.of {h₀ h' : Heap} {L : Addr} {m : PySem.Str → Option Value} {s : Shared} {a b c d e : Addr × Obj} {news : List (Addr × Obj)} {r : Int} {t : Tok} {tk' : Nat} (F : Fr h₀ L h' m) (N : News h₀ L h' (a :: b :: c :: d :: e :: news)) :
    BlkEnd h₀ L m s (a :: b :: c :: news) r (.int r t) { s with heap := h', toks := tk' } := by
  refine ⟨h', tk', t, rfl, F, newsSub N fun p hp => ?_, rfl⟩
  simp only [List.mem_cons] at hp ⊢
  rcases hp with z | z | z | z <;> simp [z]
end Mine
end
section
open PySem PySem.W PyProof.Rows PySem.Calls
set_option maxRecDepth 100000
set_option maxHeartbeats 4000000
namespace Mine
theorem asDatas {vs : List Value} {bs : List (Int × Int)} (h : IntsAre vs (bs.map fun b => b.2)) : IntsAre vs (datas bs) := h
theorem asEnds {vs : List Value} {bs : List (Int × Int)} (h : IntsAre vs (bs.map fun b => b.1 - b.2)) : IntsAre vs (endsL bs) := h
theorem datas_len (bs : List (Int × Int)) : (datas bs).length = bs.length := by simp [datas]
theorem ends_len (bs : List (Int × Int)) : (endsL bs).length = bs.length := by simp [endsL]
def inOrder : List Int → Bool
  | a :: b :: r => decide (a ≤ b) && inOrder (b :: r)
  | _ => true
theorem inOrder_all : ∀ {l : List Int} {a : Int}, inOrder (a :: l) = true → ∀ x ∈ l, a ≤ x
  | [], _, _, _, hx => (nomatch hx)
  | b :: r, a, h, x, hx => by
    have h' : (decide (a ≤ b) && inOrder (b :: r)) = true := h
    rw [Bool.and_eq_true, decide_eq_true_eq] at h'
    rcases List.mem_cons.mp hx with rfl | hx
    · exact h'.1
    · exact Int.le_trans h'.1 (inOrder_all h'.2 x hx)
theorem inOrder_pw : ∀ {l : List Int}, inOrder l = true → l.Pairwise (· ≤ ·)
  | [], _ => .nil
  | [_], _ => List.pairwise_singleton ..
  | a :: b :: r, h => by
    have h' : (decide (a ≤ b) && inOrder (b :: r)) = true := h
    rw [Bool.and_eq_true, decide_eq_true_eq] at h'
    exact List.pairwise_cons.mpr ⟨inOrder_all h, inOrder_pw h'.2⟩
def limOk (K : Frag) (v : Int) (i : Nat) : Bool := match seqIn K (346 + (levOf i).toNat) "list" with
  | some r => decide (r.length = 41 ∧ r.getD v.toNat 0 = 8 * (datas (blocksAt K v (levOf i))).sum)
  | none => false
theorem met_const {val : Nat → Int} {c : Int} : ∀ {i : Nat}, (∀ j, j ≤ i → val j = c) → firstMet val (i + 1) = [c]
  | 0, h => by
    rw [firstMet_succ, firstMet_zero, h 0 (Nat.le_refl 0)]
    rfl
  | i + 1, h => by
    rw [firstMet_succ, met_const (i := i) fun j hj => h j (Nat.le_succ_of_le hj), h (i + 1) (Nat.le_refl _)]
    unfold step_dedup
    simp
/-- a list that is not empty and has one value only -/
def oneVal : List Int → Bool
  | a :: r => r.all fun x => decide (x = a)
  | [] => false
theorem nset_one : ∀ {ns : List Int}, oneVal ns = true → nset ns = 1
  | a :: r, h => by
    have h' : ∀ x ∈ r, x = a := fun x hx => of_decide_eq_true (List.all_eq_true.mp h x hx)
    have key : firstMet (fun i => (a :: r).getD i 0) (r.length + 1) = [a] := met_const fun j hj => by
      cases j with
      | zero => rfl
      | succ j =>
        have hj' : j < r.length := by omega
        have e : (a :: r).getD (j + 1) 0 = r[j] := by simp [List.getD, hj']
        exact e.trans (h' _ (List.getElem_mem hj'))
    show (firstMet (fun i => (a :: r).getD i 0) (r.length + 1)).length = 1
    rw [key]
    rfl
def lvOk (K : Frag) (v : Int) (i : Nat) : Bool :=
  let bs := blocksAt K v (levOf i)
  inOrder (datas bs) && limOk K v i && oneVal (endsL bs) && decide (bs.length ≤ 200 ∧ 0 < bs.length ∧ 0 ≤ leftV v (if v = 1 then 0 else Int.fdiv v 7 + 2) - 8 * ((datas bs).sum + (endsL bs).sum) ∧ leftV v (if v = 1 then 0 else Int.fdiv v 7 + 2) - 8 * ((datas bs).sum + (endsL bs).sum) < 8 ∧ 1 ≤ (endsL bs).getD (Int.toNat 0) 0 ∧ 1 ≤ (datas bs).getD (Int.toNat 0) 0 ∧ (datas bs).getD (-1 + ((datas bs).length : Int)).toNat 0 - (datas bs).getD (Int.toNat 0) 0 ≤ 1 ∧ (i = 0 ∨ (datas bs).sum < (datas (blocksAt K v (levOf (i - 1)))).sum))
/-- five versions' levels -/
def lvPart (K : Frag) (q : Nat) : Bool := (List.range 5).all fun j => (List.range 4).all fun i => lvOk K (((5 * q + j : Nat) : Int) + 1) i
theorem lvOk_at {K : Frag} (h : ∀ q, q < 8 → lvPart K q = true) {v : Int} {i : Nat} (h1 : 1 ≤ v) (h2 : v ≤ 40) (hi : i < 4) :
    (datas (blocksAt K v (levOf i))).Pairwise (· ≤ ·) ∧ limOk K v i = true ∧ (datas (blocksAt K v (levOf i))).length = (blocksAt K v (levOf i)).length ∧ (endsL (blocksAt K v (levOf i))).length = (blocksAt K v (levOf i)).length ∧ (blocksAt K v (levOf i)).length ≤ 200 ∧ 0 < (blocksAt K v (levOf i)).length ∧ 0 ≤ leftV v (if v = 1 then 0 else Int.fdiv v 7 + 2) - 8 * ((datas (blocksAt K v (levOf i))).sum + (endsL (blocksAt K v (levOf i))).sum) ∧ leftV v (if v = 1 then 0 else Int.fdiv v 7 + 2) - 8 * ((datas (blocksAt K v (levOf i))).sum + (endsL (blocksAt K v (levOf i))).sum) < 8 ∧ nset (endsL (blocksAt K v (levOf i))) = 1 ∧ 1 ≤ (endsL (blocksAt K v (levOf i))).getD (Int.toNat 0) 0 ∧ 1 ≤ (datas (blocksAt K v (levOf i))).getD (Int.toNat 0) 0 ∧ (datas (blocksAt K v (levOf i))).getD (-1 + ((datas (blocksAt K v (levOf i))).length : Int)).toNat 0 - (datas (blocksAt K v (levOf i))).getD (Int.toNat 0) 0 ≤ 1 ∧ (i = 0 ∨ (datas (blocksAt K v (levOf i))).sum < (datas (blocksAt K v (levOf (i - 1)))).sum) := by
  have z := List.all_eq_true.mp (List.all_eq_true.mp (h ((v - 1).toNat / 5) (by omega)) ((v - 1).toNat % 5) (List.mem_range.mpr (by omega))) i (List.mem_range.mpr hi)
  rw [show (((5 * ((v - 1).toNat / 5) + (v - 1).toNat % 5 : Nat) : Int)) + 1 = v by omega] at z
  unfold lvOk at z
  rw [Bool.and_eq_true, Bool.and_eq_true, Bool.and_eq_true] at z
  obtain ⟨a1, a2, a3, a4, a5, a6, a7, a8⟩ := of_decide_eq_true z.2
  exact ⟨inOrder_pw z.1.1.1, z.1.1.2, datas_len _, ends_len _, a1, a2, a3, a4, nset_one z.1.2, a5, a6, a7, a8⟩
theorem lim_at {K : Frag} {h : Heap} (X : K.In h) {v : Int} {i : Nat} (e : limOk K v i = true) :
    ∃ (lvs : List Value) (r : List Int), h.IsList (346 + (levOf i).toNat) lvs.toArray ∧ IntsAre lvs r ∧ r.length = 41 ∧ r.getD v.toNat 0 = 8 * (datas (blocksAt K v (levOf i))).sum := by
  unfold limOk at e
  split at e
  · rename_i r hr
    obtain ⟨lvs, hl, hi⟩ := seqIn_list X hr
    obtain ⟨a, b⟩ := of_decide_eq_true e
    exact ⟨lvs, r, hl, hi, a, b⟩
  · cases e
end Mine
namespace Mine
theorem lev_close {h₀ h : Heap} {L I l st : Addr} {oI ol : Obj} {led all : List (Addr × Obj)} {m : PySem.Str → Option Value} {tk : Nat} {s₁ : Shared} {Q : Flow → Shared → Prop} {K : Frag} {v lf : Int} {tv tf t : Tok} {i : Nat}
    (F : Fr h₀ L h m) (N : News h₀ L h all) (hs : ∀ p ∈ (I, oI) :: (l, ol) :: led, p ∈ all) (off : ∀ p ∈ led, p.1 ≠ I) (hm : LevM v lf tv tf st (.int (datas (blocksAt K v (levOf i))).sum t) m) :
    TurnEnd h₀ L [(I, oI), (l, ol)] I (fun m' n' => (∃ bv', LevM v lf tv tf st bv' m' ∧ bvOk K v (i + 1) bv') ∧ n' = led) s₁ Q .next { s₁ with heap := h, toks := tk } :=
  ⟨h, tk, m, led, rfl, F, newsSub N hs, off, ⟨_, hm, .inr ⟨t, Nat.succ_pos _, rfl⟩⟩, rfl⟩
end Mine
end
section
open PySem PySem.W PyProof.Rows PySem.Calls
set_option maxRecDepth 100000
set_option maxHeartbeats 4000000
namespace Mine
/-! ## sorted() of a list that is in order already: one run, no length bound -/
theorem minRun_le : ∀ (f n r : Nat), minRun' f n r ≤ n + r
  | 0, n, r => Nat.le_refl _
  | f + 1, n, r => by
    rw [minRun'_succ]
    split
    · exact Nat.le_refl _
    · have := minRun_le f (n / 2) (max r (n % 2))
      omega
section
variable {prog : Program} {w : World} {A : Around} {E : Value → Shared → Prop} {s : Shared} {a₀ : Array Keyed}
theorem run_all {st : SortSt} {nrem : Nat} {Q : Option Nat → SortSt → Prop} (h0 : IntKeys a₀) (hn : nrem ≤ a₀.size) (h1 : 1 ≤ nrem) (hB : SBase a₀ st) (hs : SortedTo (arrOf st) nrem) (h : Q (some nrem) st) :
    wpS (model prog w) A E s (countRun' 0 nrem) Q st := by
  rw [countRun0_eq]
  refine wpS_bind (wpS_ascLoop h0 hn (Nat.le_refl 1) h1 hB (fun i j hij hj => hs i j hij (by omega)) fun n hn1 hn2 _ hor => ?_)
  have e : n = nrem := by
    rcases hor with e | e
    · exact e
    · by_cases z : n = nrem
      · exact z
      · have := hs (n - 1) n (by omega) (by omega)
        omega
  subst e
  dsimp only
  rw [if_pos (by simp)]
  exact wpS_pure h
theorem runs_all {st : SortSt} {Q : Unit → SortSt → Prop} (h0 : IntKeys a₀) (hB : SBase a₀ st) (h1 : 1 ≤ a₀.size) (hs : SortedTo (arrOf st) a₀.size)
    (h : ∀ st', arrOf st' = arrOf st → failedOf st' = none → Q () st') : wpS (model prog w) A E s sortRuns' Q st := by
  rw [sortRuns'_eq]
  refine wpS_bind (wpS_get ?_)
  dsimp only
  have hmr := minRun_le a₀.size a₀.size 0
  simp only [hB.size]
  refine wpS_bind (wpS_mono (wpS_forRange
    (I := fun x c st' => (x = 0 ∧ c = (none, 0) ∧ st' = st) ∨ (1 ≤ x ∧ c = (none, a₀.size) ∧ arrOf st' = arrOf st ∧ failedOf st' = none ∧ pendingOf st' = #[(0, a₀.size, 0)]))
    (Q := fun c st' => c = (none, a₀.size) ∧ arrOf st' = arrOf st ∧ failedOf st' = none ∧ pendingOf st' = #[(0, a₀.size, 0)]) ?step ?fin (.inl ⟨rfl, rfl, rfl⟩)) ?post)
  case fin =>
    rintro c st' (⟨hx, _, _⟩ | ⟨_, hc, hD⟩)
    · omega
    · exact ⟨hc, hD⟩
  case step =>
    rintro x c st' _ hx (⟨rfl, rfl, rfl⟩ | ⟨hx1, rfl, hD⟩)
    · dsimp only
      rw [if_neg (by omega)]
      simp only [Nat.sub_zero, Nat.zero_add]
      refine wpS_bind (run_all h0 (Nat.le_refl _) h1 hB hs ?_)
      dsimp only
      rw [if_neg (by omega)]
      refine wpS_bind (wpS_get ?_)
      have hb : (pendingOf st').back? = none := by rw [hB.pend]; rfl
      rw [hb]
      dsimp only
      exact wpS_bind (wpS_modify (wpS_pure (.inr ⟨by omega, rfl, rfl, hB.failed, by show (pendingOf st').push _ = _; rw [hB.pend]; rfl⟩)))
    · dsimp only
      rw [if_pos (Nat.le_refl _)]
      exact wpS_pure ⟨rfl, hD⟩
  case post =>
    rintro c st' ⟨rfl, ha, hf, hp⟩
    dsimp only
    refine wpS_bind (wpS_mono (wpS_forRange (I := fun _ c st'' => st'' = st' ∧ c = (none, ())) (Q := fun c st'' => st'' = st' ∧ c = (none, ())) ?_ (fun _ _ hh => hh) ⟨rfl, rfl⟩) ?_)
    · rintro x c st'' _ _ ⟨rfl, rfl⟩
      refine wpS_bind (wpS_get ?_)
      rw [if_pos (by rw [hp]; exact Nat.le_refl 1)]
      exact wpS_pure ⟨rfl, rfl⟩
    · rintro c st'' ⟨rfl, rfl⟩
      exact wpS_pure (h _ ha hf)
end
theorem K_pairs {vs : List Value} {ns : List Int} (hI : IntsAre vs ns) {i : Nat} (hi : i < vs.length) : K (pairsOf vs) i = ns.getD i 0 := by
  obtain ⟨v, hv⟩ : ∃ v, vs[i]? = some v := ⟨vs[i], List.getElem?_eq_getElem hi⟩
  obtain ⟨k, t, e, hk⟩ := IntsAre.at hI i v hv
  have hz : (pairsOf vs)[i]? = some (v, v) := by
    rw [← Array.getElem?_toList, pairsOf_toList, List.getElem?_zip_eq_some]
    exact ⟨hv, hv⟩
  unfold K
  rw [hz, e]
  show k = _
  simp [List.getD, hk]
theorem pairs_sorted {vs : List Value} {ns : List Int} (hI : IntsAre vs ns) (hs : ns.Pairwise (· ≤ ·)) : SortedTo (pairsOf vs) (pairsOf vs).size := by
  intro i j hij hj
  rw [pairsOf_size] at hj
  have hl := IntsAre.length hI
  rw [K_pairs hI (by omega), K_pairs hI hj]
  have hi' : i < ns.length := by omega
  have hj' : j < ns.length := by omega
  rw [show ns.getD i 0 = ns[i] by simp [hi'], show ns.getD j 0 = ns[j] by simp [hj']]
  by_cases e : i = j
  · subst e; exact Int.le_refl _
  · exact List.pairwise_iff_getElem.mp hs i j hi' hj' (by omega)
end Mine
namespace Mine
section
variable {prog : Program} {w : World} {A : Around} {E : Value → Shared → Prop} {s : Shared}
theorem pairs_out (vs : List Value) : (pairsOf vs).map (·.2) = vs.toArray := by
  apply Array.ext'
  rw [Array.toList_map, pairsOf_toList, List.map_snd_zip (Nat.le_refl _)]
theorem lsort_same {a : Addr} {vs : List Value} {ns : List Int} {n : Nat} {P : Fin → Shared → Prop} (ho : s.heap.get? a = some (seqObj "list" vs.toArray n))
    (hI : IntsAre vs ns) (hs : ns.Pairwise (· ≤ ·)) (hz : vs.length ≤ 1000) (h : P (.done (.ret .none)) { s with heap := sortedHeap s.heap a vs vs.toArray }) :
    wpAny (model prog w) A (Builtin.«list.sort» ⟨[.ref a], []⟩) P E s := by
  rw [list_sort_plain]
  have ha : a < s.heap.objs.size := Heap.lt_size ho
  refine wpAny_bind (listItems_at ho rfl ?_)
  refine wpAny_bind (listUpdate_at ho rfl ?_)
  obtain ⟨e1, ho1⟩ : ∃ e1, (s.heap.update a (Obj.mapSeq fun _ => #[])).get? a = some (seqObj "list" #[] e1) := ⟨_, get?_update_seq ho (fun _ => #[])⟩
  refine wpAny_bind (seqEpoch_at ho1 rfl ?_)
  refine wpAny_bind (wpAny_newTuple ?_)
  refine wpAny_bind (wpAny_newList ?_)
  refine wpAny_holding ?_
  have n1 : a ≠ (s.heap.update a (Obj.mapSeq fun _ => #[])).objs.size := by rw [Heap.size_update]; exact Nat.ne_of_lt ha
  have n2 : a ≠ ((s.heap.update a (Obj.mapSeq fun _ => #[])).push (seqObj "tuple" vs.toArray 0)).objs.size := by rw [size_push', Heap.size_update]; exact Nat.ne_of_lt (Nat.lt_succ_of_lt ha)
  have ho6 : (((s.heap.update a (Obj.mapSeq fun _ => #[])).push (seqObj "tuple" vs.toArray 0)).push (seqObj "list" #[] 0)).get? a = some (seqObj "list" #[] e1) := by
    rw [Heap.get?_push_ne _ _ _ n2, Heap.get?_push_ne _ _ _ n1]
    exact ho1
  show wpAny (model prog w) A _ P E { s with heap := ((s.heap.update a (Obj.mapSeq fun _ => #[])).push (seqObj "tuple" vs.toArray 0)).push (seqObj "list" #[] 0) }
  dsimp only
  have hsz : vs.toArray.size = vs.length := by simp
  have hz2 : ((pairsOf vs).map (·.2)).size ≤ sizeLine + 1 := by rw [pairs_out, hsz, sizeLine_eq]; omega
  have fin : ∀ st' : SortSt, arrOf st' = pairsOf vs → P (.done (.ret .none)) { s with heap := sortedHeap s.heap a vs ((arrOf st').map (·.2)) } := by
    intro st' e
    rw [e, pairs_out]
    exact h
  by_cases h2 : vs.toArray.size < 2
  · rw [if_pos h2, if_pos h2]
    refine wpAny_bind (wpAny_pure ?_)
    rw [StateT.run_pure]
    refine wpAny_bind (wpAny_pure ?_)
    dsimp only
    refine wpAny_bind (seqEpoch_at ho6 rfl ?_)
    refine wpAny_bind (listUpdate_at ho6 rfl ?_ (hsz2 := hz2))
    simp only [bne_self_eq_false, Bool.false_eq_true, if_false]
    exact wpAny_pure (fin (SortSt.mk' general' (vs.toArray.zip vs.toArray) #[] 7 none) rfl)
  · rw [if_neg h2, if_neg h2]
    obtain ⟨v₁, v₂, rest, rfl⟩ : ∃ v₁ v₂ rest, vs = v₁ :: v₂ :: rest := by
      match vs, hsz, h2 with
      | [], _, h2 => simp at h2
      | [_], _, h2 => simp at h2
      | v₁ :: v₂ :: rest, _, _ => exact ⟨v₁, v₂, rest, rfl⟩
    rw [keyKind_ints hI]
    refine wpAny_bind (wpAny_pure ?_)
    refine wpAny_bind (wpAny_mono (runs_all (a₀ := pairsOf (v₁ :: v₂ :: rest)) (st := SortSt.mk' oneType' ((v₁ :: v₂ :: rest).toArray.zip (v₁ :: v₂ :: rest).toArray) #[] 7 none)
      (Q := fun _ st' => arrOf st' = pairsOf (v₁ :: v₂ :: rest) ∧ failedOf st' = none)
      hI.intKeys ⟨Array.Perm.refl _, rfl, rfl, rfl⟩ (by rw [pairsOf_size]; simp) (pairs_sorted hI hs) fun st' a1 a2 => ⟨a1, a2⟩) ?_ fun _ _ e => e)
    rintro ⟨⟨⟩, st'⟩ s' ⟨rfl, hp, hf⟩
    dsimp only
    refine wpAny_bind (seqEpoch_at ho6 rfl ?_)
    refine wpAny_bind (listUpdate_at ho6 rfl ?_ (hsz2 := by rw [hp]; exact hz2))
    rw [hf]
    simp only [bne_self_eq_false, Bool.false_eq_true, if_false]
    exact wpAny_pure (fin st' hp)
end
end Mine
namespace Mine
section
variable {prog : Program} {w : World} {A : Around} {E : Value → Shared → Prop} {s : Shared} {h₀ : Heap} {L : Addr} {m : PySem.Str → Option Value} {news : List (Addr × Obj)}
/-- sorted(xs) of a list of ints in order: a new list of the same items -/
theorem sorted_same {l : Addr} {vs : List Value} {ns : List Int} {Q : Value → Shared → Prop} (F : Fr h₀ L s.heap m) (N : News h₀ L s.heap news) (hl : s.heap.IsList l vs.toArray) (hI : IntsAre vs ns) (hs : ns.Pairwise (· ≤ ·)) (hz0 : ns.length ≤ 1000)
    (h : ∀ D h' e, Fr h₀ L h' m → News h₀ L h' ((D, listOf vs.toArray e) :: news) → (∀ q ∈ news, q.1 < D) → Q (.ref D) { s with heap := h' }) :
    wpAny (model prog w) A (call (.builtin "sorted") [.ref l]) Q E s := by
  have hlen := IntsAre.length hI
  have hz : vs.length ≤ 1000 := by omega
  have hz' : vs.length ≤ sizeLine := by rw [sizeLine_eq]; omega
  refine Calls.call_function_entry kind_sorted plain_sorted entry_sorted (args_sorted1 _) ?_
  unfold Builtin.«sorted»
  refine wpAny_bind (m := checkCount "sorted" 1 1 _) (wpAny_pure ?_)
  refine wpAny_bind (collect_list hl ?_ hz')
  refine wpAny_bind (wpAny_newList ?_)
  have hsz : ((s.heap.push (seqObj "list" #[] 0)).update s.heap.objs.size (Obj.mapSeq (· ++ vs.toArray))).objs.size = s.heap.objs.size + 1 := by
    rw [Heap.size_update, size_push']
  have hoL : (((s.heap.push (seqObj "list" #[] 0)).update s.heap.objs.size (Obj.mapSeq (· ++ vs.toArray))).push (seqObj "list" vs.toArray 0)).get? (s.heap.objs.size + 1) = some (seqObj "list" vs.toArray 0) := by
    rw [← hsz]; exact Heap.get?_push_size _ rfl
  show wpAny _ _ _ _ _ { s with heap := ((s.heap.push (seqObj "list" #[] 0)).update s.heap.objs.size (Obj.mapSeq (· ++ vs.toArray))).push (seqObj "list" vs.toArray 0) }
  rw [hsz]
  obtain ⟨e, he⟩ := sortedAll_at s.heap vs vs.toArray
  refine wpAny_bind (wpAny_holding (wpAny_call_entry slot_list_sort ⟨_, hoL, rfl⟩ entry_list_sort (lsort_same hoL hI hs hz ⟨_, rfl, ?_⟩) (args_list_sort _)))
  exact wpAny_pure ⟨_, rfl, h _ _ e (F.kept fun _ _ => sortedAll_old) (N.kept_cons F (fun _ _ => sortedAll_old) (Nat.le_succ _) he) fun p hp => Nat.lt_succ_of_lt (Heap.lt_size (N p hp).1)⟩
end
end Mine
end
section
open PySem PySem.W PyProof.Rows PySem.Calls
set_option maxRecDepth 100000
set_option maxHeartbeats 4000000
namespace Mine
section
variable {prog : Program} {w : World} {A : Around} {E : Value → Shared → Prop} {s' : Shared} {h₀ h : Heap} {env : Env} {outer : List Env} {L e t : Addr} {m : PySem.Str → Option Value}
  {vs : List Value} {b₀ : Stmt} {suite : List Stmt} {pos np : Pos} {rest : List ExceptHandler} {Q : Flow → Shared → Prop} {news : List (Addr × Obj)}
  {p : Program} {loose : List PySem.Str} {mg mb : PySem.Str → Option Value}
/-- «except Exception:» in any function's frame (one with cells too) -/
theorem caught_any (hfr : A.frames = some (env :: outer)) (hf : env.frame = some L) (F : Fr h₀ L h m) (hsm : h.UpToSlots s'.heap) (R : RaisedK h₀ (env :: outer) e (.type "Exception") t vs news s'.heap)
    (T : TopRead p loose mg mb h₀) (hG : env.globals = mainGlobals) (hBn : env.builtins = builtinsNs) (hk : env.scope.kind = .function) (hx : env.kindOf "Exception" = some .globalImplicit)
    (hmiss : mg "Exception" = none)
    (k : ∀ h', Fr h₀ L h' m → News h₀ L h' news → wpAny (model prog w) (A.mark (some (.ref e))) (execs (b₀ :: suite) env) Q (fun _ _ => False) { s' with heap := h' }) :
    wpAny (model prog w) A (noteFrame (.ref e) env)
      (fun _ s₂ => wpAny (model prog w) A (setFlight (.ref e) none) (fun _ s₃ =>
        wpAny (model prog w) A (handleBy (.ref e) env (.ExceptHandler (some (.Name "Exception" np)) none (b₀ :: suite) pos :: rest)) Q E s₃) E s₂) E s' := by
  obtain ⟨⟨B, hB, hl, hfl, hnew⟩, htup⟩ := R
  have hL : B.get? L = none := by
    obtain ⟨_, ⟨L', _, hf', hn', _⟩, _⟩ := hfl.2.2.1
    rw [hf] at hf'
    obtain rfl : L = L' := Option.some.inj hf'
    exact hn'
  refine wpAny_looks_onW hfr hf hfl fun h₄ hheld₄ hsm₄ => ?_
  refine wpAny_landsW hheld₄ fun h₅ hheld hsm₅' => ?_
  have hsm₅ := hsm₄.trans hsm₅'
  have hheld' := flyingW_base hB hheld
  have F₅ := F.of_stays hheld'.1 (hsm.trans hsm₅)
  obtain ⟨ob, hob, hobc⟩ := hheld'.there
  have g1 : h₀.Ns env.globals mg := hG ▸ T.g
  have g2 : h₀.Ns env.builtins mb := hBn ▸ T.b
  refine wpAny_handleBy_builtin (X := "Exception") (T := "Exception") (b := true) PySem.F.isExc_Exception PySem.F.notTuple_Exception (by rw [isSubtype_type]; kernel_rfl)
    (Calls.Name_function_global hk hx (Calls.loadGlobal_builtin (g1.keeps F₅.keep) hmiss (g2.keeps F₅.keep) ((T.builtins _ (by decide +kernel)).trans PyProof.Rows.Boot.«Exception») ⟨rfl, ⟨ob, hob, hobc⟩, ?_⟩) (by decide))
  refine lands_againW hheld fun h₆ hfl₆ hsm₆ => ?_
  have hfl₆' := flyingW_base hB hfl₆
  have F₆ := F.of_stays hfl₆'.1 ((hsm.trans hsm₅).trans hsm₆)
  exact wpAny_noRaise (k h₆ F₆ fun q hq => ⟨hfl₆.1 _ _ (hl q hq).1, (fun z => by have := (hl q hq).1; rw [z, hL] at this; cases this), (hl q hq).2⟩)
end
end Mine
end
namespace Mine
theorem pos_hd (w : World) : posAll (hd.heap_39 w.params) = true := by kernel_rfl
theorem tab_hd (w : World) : tabAll (hd.heap_39 w.params) = true := by kernel_rfl
theorem lv_hd0 (w : World) : lvPart (hd.heap_39 w.params) 0 = true := by kernel_rfl
theorem lv_hd1 (w : World) : lvPart (hd.heap_39 w.params) 1 = true := by kernel_rfl
theorem lv_hd2 (w : World) : lvPart (hd.heap_39 w.params) 2 = true := by kernel_rfl
theorem lv_hd3 (w : World) : lvPart (hd.heap_39 w.params) 3 = true := by kernel_rfl
theorem lv_hd4 (w : World) : lvPart (hd.heap_39 w.params) 4 = true := by kernel_rfl
theorem lv_hd5 (w : World) : lvPart (hd.heap_39 w.params) 5 = true := by kernel_rfl
theorem lv_hd6 (w : World) : lvPart (hd.heap_39 w.params) 6 = true := by kernel_rfl
theorem lv_hd7 (w : World) : lvPart (hd.heap_39 w.params) 7 = true := by kernel_rfl
theorem lv_hd (w : World) : ∀ q, q < 8 → lvPart (hd.heap_39 w.params) q = true := by
  intro q hq
  obtain rfl | rfl | rfl | rfl | rfl | rfl | rfl | rfl : q = 0 ∨ q = 1 ∨ q = 2 ∨ q = 3 ∨ q = 4 ∨ q = 5 ∨ q = 6 ∨ q = 7 := by omega
  · exact lv_hd0 w
  · exact lv_hd1 w
  · exact lv_hd2 w
  · exact lv_hd3 w
  · exact lv_hd4 w
  · exact lv_hd5 w
  · exact lv_hd6 w
  · exact lv_hd7 w
end Mine
local macro_rules | `(tactic| k_all) => `(tactic| with_reducible assumption)
local macro_rules | `(tactic| k_ne) => `(tactic| with_reducible assumption)
local macro_rules | `(tactic| walk_at "exec For Name List cons nil") => `(tactic| (k_here; (with_reducible show wpAny _ _ (exec (Stmt.For _ (Expr.List [_, _] _) _ _ _) _) _ _ _); (rename Fr _ _ _ _ => lF'); (with_unfolding_all refine' For_invVF lF' ?k1 ?k2 ?_; (case k1 => exact rfl); (case k2 => exact rfl); k_whole)))
local macro_rules | `(tactic| walk_at "call ref") => `(tactic| (k_here; (with_reducible show wpAny _ _ (call (Value.ref _) [Value.ref _, Value.int _ _]) _ _ _); k_dflt (refine' Mine.NextSpec.use (by assumption) ?zn1 ?zn2 ?zn3 ?zn4 ?zn5 ?zn6 ?zn7 ?zn8 ?zn9 ?zn10 ?_; (case zn1 => k_asm); (case zn2 => k_asm); (case zn3 => k_updF); (case zn4 => k_mem); (case zn5 => assumption); (case zn6 => omega); (case zn7 => omega); (case zn8 => omega); (case zn9 => omega); (case zn10 => k_ne)); intro h' tk' r' tr' i' sd' ti' ts' n' F' N' i0' r0' r1'; (try dsimp only at N'); walk_say "NEXT"; (try k_sweep)))
local macro_rules | `(tactic| walk_at "call ref") => `(tactic| (k_here; (with_reducible show wpAny _ _ (call (Value.ref _) [Value.int _ _]) _ _ _); k_dflt (refine' Mine.PosSpec.use (by assumption) ?zn1 ?zn2 ?zn3 ?zn4 ?_; (case zn1 => k_asm); (case zn2 => k_asm); (case zn3 => omega); (case zn4 => omega)); intro h' tk' pa' pvs' p' F' N' pl' pi' pk'; have pn' := Mine.posOk_len pk'; walk_say "POS"; (try k_sweep)))
local macro_rules | `(tactic| walk_at "subscriptTail") => `(tactic| (k_here; (with_reducible show wpAny _ _ (subscriptTail (Expr.Name (PySem.Str.ofString "PATTERN_POSITION_TABLE") _) _ _ _) _ _ _); k_dflt (refine' Mine.topListRef (b := 305) ?zn1 ?zn2 ?zn3 ?zn4 ?zn5 ?zn6 ?zn7 ?_; (case zn1 => k_asm); (case zn2 => k_asm); (case zn3 => k_is); (case zn4 => rfl); (case zn5 => omega); (case zn6 => (simp only [List.length_cons, List.length_nil]; omega)); (case zn7 => decide))))
local macro_rules | `(tactic| walk_at "ite") => `(tactic| (k_dflt (first | (refine PySem.W.ite_pos (by ((try simp only [decide_eq_true_eq, Bool.not_eq_true', decide_eq_false_iff_not, bne_iff_ne, beq_iff_eq, beq_eq_false_iff_ne]); first | (with_reducible assumption) | omega)) ?_) | (refine PySem.W.ite_neg (by ((try simp only [decide_eq_true_eq, Bool.not_eq_true', decide_eq_false_iff_not, bne_iff_ne, beq_iff_eq, beq_eq_false_iff_ne]); first | (with_reducible assumption) | omega)) ?_)); walk_say "MINE: pruned"; (try dsimp only)))
local macro_rules | `(tactic| walk_at "subscriptTail Name Slice ref ref") => `(tactic| (k_here; (with_reducible show wpAny _ _ (subscriptTail _ (PySem.Expr.Slice _ _ none _) (Value.ref _) (Value.ref _)) _ _ _); k_dflt (refine' kmk_slice_ints ?zF ?zN ?zl ?zp ?zq ?zi ?zm ?zc ?_ ?zs ?zt ?zz; (case zF => k_asm); (case zN => k_asm); (case zl => kmk_list); (case zp => kmk_part); (case zq => kmk_part); (case zi => l_ints); (case zm => kmk_nums); (case zc => kmk_len); (case zs => with_unfolding_all rfl); (case zt => kmk_pure); (case zz => (refine PySem.W.kmk_sz (by l_ints) ?_; (simp only [sizeLine_eq, List.length_append, List.length_cons, List.length_nil]); omega))); intro D' ws' h' F' N' l1 hI' hC' hL'; (try simp only [Int.reduceNeg, Int.neg_neg, Int.reduceToNat] at hI' hC' hL'); (try k_lt l1); (try k_sweep); walk_say "MINE: slice"))
local macro_rules | `(tactic| walk_at "call type:set") => `(tactic| (k_here; (with_reducible show wpAny _ _ (call (Value.type "set") [Value.ref _]) _ _ _); k_dflt (refine' Mine.mySet ?zF ?zN ?zh ?zl ?zi ?zb ?_; (case zF => k_asm); (case zN => k_asm); (case zh => exact rfl); (case zl => kmk_list); (case zi => l_ints); (case zb => omega)); intro D' h' tk' o' S' F' N' l1 hs' hn'; (try k_lt l1); walk_say "MINE: set"; (try k_sweep)))
local macro_rules | `(tactic| walk_at "eval ListComp") => `(tactic| (k_here; (with_reducible show wpAny _ _ (eval (PySem.Expr.ListComp _ [⟨_, _, [_], _⟩] _ _) _) _ _ _); k_dflt (refine LCt.ListComp_T (F₀ := by k_asm) (by with_unfolding_all rfl) (by decide) (by rfl) (by decide) (by rfl) ?_); walk_say "MINE: comp"))
local macro_rules | `(tactic| walk_at "CompSrcT") => `(tactic| (k_here; k_dflt (refine LCt.CompSrcT.ledger (by rfl) (by k_asm) (by k_asm) (by k_mem) (by (refine PySem.W.kmk_sz (by l_ints) ?_; rw [sizeLine_eq]; omega)) ?_; intro g'; refine' Mine.none_list (by l_ints) (by assumption) ?zS (fun k' t' I' oI' C' oC' D' m' h' tk' E' hka hkb hC' hx' F' N' off' ne' => ?_) ?_; (case zS => exact .inr ⟨_, by k_mem, rfl, _, rfl⟩)); (try simp only [LCg.Off3, and_true] at off'); walk_say "MINE: none"))
local macro_rules | `(tactic| walk_at "NoneEnd") => `(tactic| (exact ⟨_, _, rfl, by assumption, by assumption⟩))
local macro_rules | `(tactic| walk_at "call ref") => `(tactic| (k_here; (with_reducible show wpAny _ _ (call (Value.ref _) [Value.int _ _, Value.int _ _]) _ _ _); k_dflt (refine' Mine.LeftSpec.use (by assumption) ?zn1 ?zn2 ?zn3 ?zn4 ?zn5 ?zn6 ?_; (case zn1 => k_asm); (case zn2 => k_asm); (case zn3 => omega); (case zn4 => omega); (case zn5 => omega); (case zn6 => omega)); intro h' tk' t' F' N'; walk_say "LEFT"; (try k_sweep)))
local macro_rules | `(tactic| walk_at "ite") => `(tactic| (k_dflt (first | (refine PySem.W.ite_pos (by ((try simp only [decide_eq_true_eq, Bool.not_eq_true', decide_eq_false_iff_not, bne_iff_ne, beq_iff_eq, beq_eq_false_iff_ne, Bool.or_eq_true, Bool.or_eq_false_iff, Bool.or_false]); first | (with_reducible assumption) | omega)) ?_) | (refine PySem.W.ite_neg (by ((try simp only [decide_eq_true_eq, Bool.not_eq_true', decide_eq_false_iff_not, bne_iff_ne, beq_iff_eq, beq_eq_false_iff_ne, Bool.or_eq_true, Bool.or_eq_false_iff, Bool.or_false]); first | (with_reducible assumption) | omega)) ?_)); walk_say "MINE: pruned"; (try dsimp only)))
local macro_rules | `(tactic| walk_at "subscriptTail") => `(tactic| (k_here; (with_reducible show wpAny _ _ (subscriptTail (Expr.Name (PySem.Str.ofString "RS_BLOCK_TABLE") _) _ _ _) _ _ _); k_dflt (refine' Mine.topTupRef (b := 66) ?zn1 ?zn2 ?zn3 ?zn4 ?zn5 ?zn6 ?zn7 ?_; (case zn1 => k_asm); (case zn2 => k_asm); (case zn3 => k_is); (case zn4 => rfl); (case zn5 => omega); (case zn6 => (simp only [List.length_cons, List.length_nil]; omega)); (case zn7 => decide))))
local macro_rules | `(tactic| walk_at "subscriptTail Name Slice ref ref") => `(tactic| (k_here; (with_reducible show wpAny _ _ (subscriptTail (Expr.Name (PySem.Str.ofString "rs_block") _) (PySem.Expr.Slice _ _ none _) (Value.ref _) (Value.ref _)) _ _ _); k_dflt (first | (refine' Mine.slice_tup_whole (b := 3) ?zF ?zN ?zt ?zb ?_ ?zs ?zg; (case zF => k_asm); (case zN => k_asm); (case zt => assumption); (case zb => exact rfl); (case zs => with_unfolding_all rfl); (case zg => kmk_pure); intro h' F' N'; (try k_sweep); walk_say "MINE: tup whole") | (refine' Mine.slice_tup_part (a := 0) (b := 3) ?zF ?zN ?zt ?za ?zb ?zc ?zd ?_ ?zs ?zg; (case zF => k_asm); (case zN => k_asm); (case zt => assumption); (case za => decide); (case zb => (show (_ : Nat) ≤ 6; decide)); (case zc => (show ¬ (_ ∧ (_ : Nat) = 6); decide)); (case zd => (show (6 : Nat) ≤ 1000; decide)); (case zs => with_unfolding_all rfl); (case zg => kmk_pure); intro h' D' F' N' l1'; (try simp only [List.drop_zero, List.drop_succ_cons, List.take_succ_cons, List.take_zero, Nat.reduceSub] at N'); (try k_lt l1'); (try k_sweep); walk_say "MINE: tup part") | (refine' Mine.slice_tup_part (a := 3) (b := 6) ?zF ?zN ?zt ?za ?zb ?zc ?zd ?_ ?zs ?zg; (case zF => k_asm); (case zN => k_asm); (case zt => assumption); (case za => decide); (case zb => (show (_ : Nat) ≤ 6; decide)); (case zc => (show ¬ (_ ∧ (_ : Nat) = 6); decide)); (case zd => (show (6 : Nat) ≤ 1000; decide)); (case zs => with_unfolding_all rfl); (case zg => kmk_pure); intro h' D' F' N' l1'; (try simp only [List.drop_zero, List.drop_succ_cons, List.take_succ_cons, List.take_zero, Nat.reduceSub] at N'); (try k_lt l1'); (try k_sweep); walk_say "MINE: tup part"))))
local macro_rules | `(tactic| walk_at "call ref") => `(tactic| (k_here; (with_reducible show wpAny _ _ (call (Value.ref 294) [Value.int _ _, Value.int _ _]) _ _ _); k_dflt (refine' Mine.call_new ?zF ?zX ?z1 ?z2 ?z3 ?z4 ?z5 ?z6 ?z7 ?z8 ?z9 ?z10 ?z11 ?z12 ?z13 ?z14 (fun tk => ?_); (case zF => k_asm); (case zX => k_asm); (case z1 => k_is); (case z2 => rfl); (case z3 => exact fun h X => Looks.of_peek X (by kernel_rfl)); (case z4 => k_is); (case z5 => k_is); (case z6 => k_is); (case z7 => k_is); (case z8 => k_is); (case z9 => k_is); (case z10 => k_is); (case z11 => k_is); (case z12 => rfl); (case z13 => k_is); (case z14 => exact fun _ => PySem.F.args_object_init_3 _ _ _); k_whole; k_enter); walk_say "MINE: call_new"))
local macro_rules | `(tactic| walk_at "call builtin:tuple.__new__") => `(tactic| (k_here; (with_reducible show wpAny _ _ (call (Value.builtin "tuple.__new__") [Value.ref 294, Value.ref _]) _ _ _); k_dflt (refine' Mine.tup_new ?zF ?zX ?zN ?zt ?zs ?z1 ?z2 ?z3 ?z4 ?z5 ?z6 ?_; (case zF => k_asm); (case zX => k_asm); (case zN => k_asm); (case zt => k_mem); (case zs => (show (2 : Nat) ≤ 1000; decide)); (case z1 => k_is); (case z2 => rfl); (case z3 => exact fun h X => Looks.of_peek X (by kernel_rfl)); (case z4 => exact fun h X => Looks.of_peek X (by kernel_rfl)); (case z5 => k_is); (case z6 => k_is)); intro x' dx' h' F' N' l1' l2' X'; (try k_lt l1'); (try k_lt2 l2'); (try k_sweep); walk_say "MINE: tup_new"))
local macro_rules | `(tactic| walk_at "NewBack ok") => `(tactic| (k_here; k_dflt (refine' Mine.NewBack.mem ?zF ?zX ?zN ?zm ?_; (case zF => k_asm); (case zX => k_asm); (case zN => k_asm); (case zm => k_mem)); (try dsimp only); walk_say "MINE: NewBack"))
local macro_rules | `(tactic| walk_at "getMethod type:tuple") => `(tactic| (k_here; k_dflt (refine' method_type (T := "tuple") (v := Value.builtin "tuple.__new__") ?zF ?zX ?zm (by decide +kernel) ?ze ?zh ?_; (case zF => k_asm); (case zX => k_asm); (case zm => exact PyProof.Rows.meta_tuple); (case ze => kernel_rfl); (case zh => k_handed)); walk_say "MINE: tuple.__new__"))
local macro_rules | `(tactic| walk_at "call builtin:list.append") => `(tactic| (k_here; (with_reducible show wpAny _ _ (call (Value.builtin _) [Value.ref _, Value.ref _]) _ _ _); k_dflt (refine' Mine.app_vs ?zF ?zN ?zb ?zU ?_; (case zF => k_asm); (case zN => k_asm); (case zU => k_upd); (case zb => omega)); intro h' F' N'; (try k_sweep); walk_say "MINE: append"))
local macro_rules | `(tactic| walk_at "exec For Name List cons nil") => `(tactic| (k_here; (with_reducible show wpAny _ _ (exec (Stmt.For _ (Expr.List [_, _, _, _] _) _ _ _) _) _ _ _); (rename Fr _ _ _ _ => lF'); (with_unfolding_all refine' For_invVF lF' ?k1 ?k2 ?_; (case k1 => exact rfl); (case k2 => exact rfl); k_whole)))
local macro_rules | `(tactic| walk_at "call ref") => `(tactic| (k_here; (with_reducible show wpAny _ _ (call (Value.ref 304) [Value.int _ _, Value.int _ _]) _ _ _); k_dflt (refine' Mine.RsSpec.use (by assumption) ?zn1 ?zn2 ?zn3 ?zn4 ?zn5 ?zn6 ?_; (case zn1 => k_asm); (case zn2 => k_asm); (case zn3 => omega); (case zn4 => omega); (case zn5 => omega); (case zn6 => omega)); intro h' tk' bl' k' vs' rows' F' N' hB'; have hBl' := Mine.Blks.len hB'; (try simp only [List.cons_append] at N'); walk_say "RS"; (try k_sweep)))
local macro_rules | `(tactic| walk_at "exec Assign cons ListComp") => `(tactic| (k_here; (with_reducible show wpAny _ _ (exec (Stmt.Assign _ (PySem.Expr.ListComp _ [⟨_, PySem.Expr.Name (PySem.Str.ofString "blocks") _, [], _⟩] _ _) _) _) _ _ _); k_dflt (refine LCg.Assign_ListComp_U (F₀ := by k_asm) (by rfl) (by with_unfolding_all rfl) (by with_unfolding_all rfl) (by decide) (by rfl) (by decide) (by rfl) (by rfl) (by rfl) ?_); walk_say "MINE: comp over blocks"))
local macro_rules | `(tactic| walk_at "CompSrc") => `(tactic| (k_here; (with_reducible show LCg.CompSrc _ _ _ _ _ _ _ (PySem.Expr.Attribute _ _ _) _ _ _ _ _ _); k_dflt (refine LCg.CompSrc.ledger (by rfl) (by k_asm) (by k_asm) (by k_mem) (by (rw [List.size_toArray, sizeLine_eq]; omega)) ?_; intro g'; refine' Mine.blk_rest (fun _ d => d) (by assumption) ?zsub ?zS (fun a' dx' t' d' u' v' n' I' oI' C' oC' D' m' ys' h' tk' E' hC' hx' F' N' ne' => ?_) (fun ys' hys' => ?zfin); (case zsub => (intro p hp; repeat (first | exact List.mem_append_right _ hp | apply List.Mem.tail))); (case zS => exact .inr ⟨_, by k_mem, rfl, _, rfl⟩); (case' zfin => (replace hys' := Mine.asDatas hys'))); walk_say "MINE: data"))
local macro_rules | `(tactic| walk_at "CompSrc") => `(tactic| (k_here; (with_reducible show LCg.CompSrc _ _ _ _ _ _ _ (PySem.Expr.BinOp _ _ _ _) _ _ _ _ _ _); k_dflt (refine LCg.CompSrc.ledger (by rfl) (by k_asm) (by k_asm) (by k_mem) (by (rw [List.size_toArray, sizeLine_eq]; omega)) ?_; intro g'; refine' Mine.blk_rest (fun t d => t - d) (by assumption) ?zsub ?zS (fun a' dx' t' d' u' v' n' I' oI' C' oC' D' m' ys' h' tk' E' hC' hx' F' N' ne' => ?_) (fun ys' hys' => ?zfin2); (case zsub => (intro p hp; repeat (first | exact List.mem_append_right _ hp | apply List.Mem.tail))); (case zS => exact .inr ⟨_, by k_mem, rfl, _, rfl⟩); (case' zfin2 => (replace hys' := Mine.asEnds hys'))); walk_say "MINE: ends"))
local macro_rules | `(tactic| walk_at "getAttr ref") => `(tactic| (k_here; k_dflt (refine' Mine.get_tup (C := 294) ?zF ?zX ?zN ?zm ?zd ?z1 ?z2 ?z3 ?z4 ?z5 ?z6 ?z7 (fun tk' => ?_); (case zF => k_asm); (case zX => k_asm); (case zN => k_asm); (case zm => k_mem); (case zd => k_mem); (case z1 => k_is); (case z2 => k_is); (case z3 => kernel_rfl); (case z4 => k_is); (case z5 => k_is); (case z6 => k_is); (case z7 => k_is); k_whole; k_enter); walk_say "MINE: descr"))
local macro_rules | `(tactic| walk_at "DescBack ok") => `(tactic| (k_here; (with_reducible refine Mine.DescBack.int ?_); walk_say "MINE: DescBack"))
local macro_rules | `(tactic| walk_at "call type:type") => `(tactic| (k_here; (with_reducible show wpAny _ _ (call (Value.type "type") [Value.ref _]) _ _ _); k_dflt (refine' Mine.ty_own (C := 294) ?zN ?zm ?zd ?_; (case zN => k_asm); (case zm => k_mem); (case zd => k_mem)); walk_say "MINE: type"))
local macro_rules | `(tactic| walk_at "call builtin:issubclass") => `(tactic| (k_here; k_dflt (refine' Mine.isc_call (C := 294) ?zF ?zX ?z1 ?z2 ?_; (case zF => k_asm); (case zX => k_asm); (case z1 => k_is); (case z2 => k_is)); walk_say "MINE: issubclass"))
local macro_rules | `(tactic| walk_at "getMethod type:tuple") => `(tactic| (k_here; (with_reducible show wpAny _ _ (getMethod _ (PySem.Str.ofString "__getitem__") _) _ _ _); k_dflt (refine' method_type (T := "tuple") (v := Value.builtin "tuple.__getitem__") ?zF ?zX ?zm (by decide +kernel) ?ze ?zh ?_; (case zF => k_asm); (case zX => k_asm); (case zm => exact PyProof.Rows.meta_tuple); (case ze => kernel_rfl); (case zh => k_handed)); walk_say "MINE: tuple.__getitem__"))
local macro_rules | `(tactic| walk_at "call builtin:tuple.__getitem__") => `(tactic| (k_here; k_dflt (first | (refine' Mine.tup_get0 (C := 294) ?zF ?zX ?zN ?zm ?z1 ?_; (case zF => k_asm); (case zX => k_asm); (case zN => k_asm); (case zm => k_mem); (case z1 => k_is)) | (refine' Mine.tup_get1 (C := 294) ?zF ?zX ?zN ?zm ?z1 ?_; (case zF => k_asm); (case zX => k_asm); (case zN => k_asm); (case zm => k_mem); (case z1 => k_is))); walk_say "MINE: item"))
local macro_rules | `(tactic| walk_at "BlkEnd") => `(tactic| (k_dflt (refine' Mine.BlkEnd.of ?zF ?zN; (case zF => k_asm); (case zN => k_asm)); walk_say "MINE: BlkEnd"))
local macro_rules | `(tactic| walk_at "call builtin:sorted") => `(tactic| (k_here; (with_reducible show wpAny _ _ (call (Value.builtin "sorted") [Value.ref _]) _ _ _); k_dflt (refine' Mine.sorted_same ?zF ?zN ?zl ?zi ?zs ?zz ?_; (case zF => k_asm); (case zN => k_asm); (case zl => kmk_list); (case zi => l_ints); (case zs => assumption); (case zz => omega)); intro D' h' e' F' N' l1; (try k_lt l1); walk_say "MINE: sorted"; (try k_sweep)))
local macro_rules | `(tactic| walk_at "subscriptTail") => `(tactic| (k_here; (with_reducible show wpAny _ _ (subscriptTail (Expr.Name (PySem.Str.ofString "BIT_LIMIT_TABLE") _) _ _ _) _ _ _); k_dflt (refine' Mine.topListRef (b := 346) ?zn1 ?zn2 ?zn3 ?zn4 ?zn5 ?zn6 ?zn7 ?_; (case zn1 => k_asm); (case zn2 => k_asm); (case zn3 => k_is); (case zn4 => rfl); (case zn5 => omega); (case zn6 => (simp only [List.length_cons, List.length_nil]; omega)); (case zn7 => decide))))
local macro_rules | `(tactic| walk_at "FinA cons") => `(tactic| (intro D' h' tk' F' N' o'; walk_say "MINE: FinA"))
local macro_rules | `(tactic| walk_at "FinA") => `(tactic| (intro D' h' tk' F' N' o'; walk_say "MINE: FinA"))
local macro_rules | `(tactic| walk_at "MINE one") => `(tactic| (first | (k_unfold; (try dsimp only)) | (k_end; kc_close) | walk1 | (dsimp only; walk1) | (leave1; walk_say "STEP leave1"; (try dsimp only))))
set_option maxRecDepth 100000 in
set_option maxHeartbeats 8000000 in
theorem PySem.Challenge.cw_bj0061_01_holds : PySem.Challenge.rw_bj0061_01.Holds := by
  refine Mine.hd ?_
  k_go0
  rename_i w s₀ s₁ mg mb G Y fa o pm doc ho hg KX X V GL T B TE TW wa wo M cda tda hcd ns hs hlay0 hL1 hr1 hl2 a5 a4 la vs a1 hL ra w1 r0 hI hr hc1 hc2 K0 hD h₁ tk₁ F0 cobj hcell N0 X0
  refine Mine.cutA (fun MM A => Mine.NextSpec s₁ 364 MM A) ?_ (fun nextR => ?_)
  · intro m h tk news st sl i sd ti ts tm n n2 many ws ks Q E F N hi h8 h0 hm0 hm40 hne fin
    (try simp only [Mine.stObj] at N)
    clear F0 N0
    try k_fold
    have hn1 : sl ≠ st := hne _ (.head _)
    have hn2 : ∀ p ∈ news, p.1 ≠ st := fun p hp => hne p (.tail _ hp)
    clear hne
    k_steps
    all_goals (refine fin _ _ _ _ _ _ _ _ _ (by assumption) (by assumption) ?_ ?_ ?_)
    all_goals first | omega | (exact Mine.fm_lo _ hm0) | (exact Mine.fm_hi _ hm0)
  refine Mine.cutA (fun MM A => Mine.PosSpec s₁ 357 MM A) ?_ (fun posR => ?_)
  · intro m h tk news v tv Q E F N h1 h2 fin
    clear F0 N0
    have PA := Mine.pos_hd w
    k_steps
    obtain ⟨p, hp, hk⟩ := Mine.posAll_at PA h1 h2
    obtain ⟨pvs, hl, hi⟩ := Mine.seqIn_list KX hp
    exact fin _ _ _ _ _ (by assumption) (by assumption) hl hi hk
  refine Mine.cutA (fun MM A => Mine.LeftSpec s₁ 371 MM A) ?_ (fun leftR => ?_)
  · intro m h tk news v n tv tn Q E F N h1 h2 h3 h4 fin
    clear F0 N0
    k_steps
    all_goals (refine Mine.leftEnd ?_ (fin _ _ _ (by assumption) (by assumption)); simp only [Mine.leftV]; (repeat' split) <;> omega)
  refine Mine.cutA (fun MM A => Mine.RsSpec (Mine.hd.heap_39 w.params) s₁ 304 294 MM A) ?_ (fun rsR => ?_)
  · intro m h tk news v lev tv tl Q E F N h1 h2 h3 h4 fin
    have htab := Mine.tab_hd w
    clear F0 N0
    iterate 13 walk_at "MINE one"
    refine Mine.joinInt (b := s₁) (PySem.Str.ofString "offset") (Mine.offV lev) (by assumption) (by assumption) (fun Q1 E1 fin1 => ?_) (fun h1 tk1 t1 F1 N1 => ?_)
    · k_steps
      all_goals first | (rw [show Mine.offV lev = 0 by (unfold Mine.offV; (repeat' split) <;> omega)] at fin1; exact fin1 _ _ _ (by assumption) (by assumption)) | (rw [show Mine.offV lev = 1 by (unfold Mine.offV; (repeat' split) <;> omega)] at fin1; exact fin1 _ _ _ (by assumption) (by assumption)) | (rw [show Mine.offV lev = 2 by (unfold Mine.offV; (repeat' split) <;> omega)] at fin1; exact fin1 _ _ _ (by assumption) (by assumption)) | (rw [show Mine.offV lev = 3 by (unfold Mine.offV; (repeat' split) <;> omega)] at fin1; exact fin1 _ _ _ (by assumption) (by assumption))
    have ho1 := Mine.offV_lo lev
    have ho2 := Mine.offV_hi lev
    iterate 24 walk_at "MINE one"
    rename (Mine.hd.heap_39 w.params).In _ => KX'
    rcases Mine.row_case (lev := lev) htab KX' ‹1 ≤ v› ‹v ≤ 40› with hrow | hrow
    · obtain ⟨c, t, d, u1, u2, u3, hT, hc0, hc1, hbl⟩ := hrow
      iterate 18 walk_at "MINE one"
      rename_i _ bl _ blne _ _ _ _ _ _ _ _ hR F2 N2 K2
      refine Mine.range_loopC (n := 1) (fun i m' news' => Mine.RowM bl (66 + ((v - 1) * 4 + Mine.offV lev).toNat) m' ∧ Mine.RowJ 294 bl news (if i = 0 then [] else List.replicate c.toNat (t, d)) news') rfl hR (Mine.rm3 _ _ _) (Mine.rz3 _ _ _) F2 N2 ?zj ?zt ?zd
      case zj => exact ⟨⟨rfl, rfl⟩, 0, [], [], by rw [List.append_nil], .nil, fun p hp => Nat.ne_of_lt (blne p (by rwa [List.append_nil] at hp))⟩
      case zt =>
        rintro i t' m₁ news₁ h tk I oI hi ⟨⟨hm1, hm2⟩, k, vs, rows, rfl, hB, hne⟩ hoff F N
        clear F2 N2 K2
        rw [Mine.m_form hm1, Mine.m_form hm2] at F
        obtain rfl : i = 0 := by omega
        iterate 26 walk_at "MINE one"
        iterate 8 walk_at "MINE one"
        rename_i hR2 F3 N3 K3
        have hIb : I ≠ bl := (hoff _ (.head _)).symm
        refine Mine.range_loopC (n := c.toNat) (news := (I, oI) :: (bl, W.listOf vs.toArray k) :: (news ++ rows)) (fun j m' news' => Mine.BlkM bl (66 + ((v - 1) * 4 + Mine.offV lev).toNat) t d u2 u3 m' ∧ Mine.BlkJ 294 bl I oI news ([] ++ List.replicate j (t, d)) news') rfl hR2 (Mine.rmc hc0 hc1) (Mine.rzc hc0) F3 (Mine.newsSub N3 (fun p hp => by first | exact hp | exact .tail _ hp)) ?zj2 ?zt2 ?zd2
        case zj2 => exact ⟨⟨rfl, rfl, rfl, rfl⟩, k, vs, rows, rfl, by simpa using hB, hne, fun p hp => hoff p (.tail _ hp)⟩
        case zt2 =>
          have hBl := hB.len
          clear F3 N3 K3 hR2
          rintro j t2' m₂ news₂ h tk I2 oI2 hj ⟨⟨hm1, hm2, hm3, hm4⟩, k, vs, rows, rfl, hB, hne, hneI⟩ hoff F N
          have hI2b : I2 ≠ bl := (hoff _ (.tail _ (.head _))).symm
          have hvl : vs.length ≤ 300 := by
            have := hB.len
            simp only [List.length_append, List.length_replicate, List.length_nil] at this
            omega
          rw [Mine.m_form hm1, Mine.m_form hm2, Mine.m_form hm3, Mine.m_form hm4] at F
          iterate 45 walk_at "MINE one"
          exact Mine.blk_turn (by assumption) (by assumption) hB hoff hne hneI (by assumption) (by assumption) ⟨rfl, rfl, rfl, rfl⟩
        case zd2 =>
          rintro m₂ news₂ h tk ⟨⟨hm1, hm2, hm3, hm4⟩, k, vs, rows, rfl, hB, hne, hneI0⟩ F N
          have hneI : ∀ p ∈ (bl, W.listOf vs.toArray k) :: (news ++ rows), p.1 ≠ I := fun p hp => by
            rcases List.mem_cons.mp hp with rfl | hp
            · exact hIb.symm
            · exact hneI0 p hp
          clear F3 N3 K3 hR2
          rw [Mine.m_form hm1, Mine.m_form hm2, Mine.m_form hm3, Mine.m_form hm4] at F
          iterate 1 walk_at "MINE one"
          exact Mine.row_turn (by assumption) (by assumption) hB (by simp) hne hneI ⟨rfl, rfl⟩
      case zd =>
        rintro m₁ news₁ h tk ⟨⟨hm1, hm2⟩, k, vs, rows, rfl, hB, hne⟩ F N
        clear F2 N2 K2
        rw [Mine.m_form hm1, Mine.m_form hm2] at F
        k_steps
        refine fin _ _ _ _ _ _ (by assumption) (by assumption) ?_
        rw [hbl]; exact hB
    · obtain ⟨c, t, d, c2, t2, d2, u1, u2, u3, u4, u5, u6, hT, hc0, hc1, hc20, hc21, hbl⟩ := hrow
      iterate 18 walk_at "MINE one"
      rename_i _ bl _ blne _ _ _ _ _ _ _ _ hR F2 N2 K2
      refine Mine.range_loopC (n := 2) (fun i m' news' => Mine.RowM bl (66 + ((v - 1) * 4 + Mine.offV lev).toNat) m' ∧ Mine.RowJ 294 bl news (if i = 0 then [] else if i = 1 then List.replicate c.toNat (t, d) else List.replicate c.toNat (t, d) ++ List.replicate c2.toNat (t2, d2)) news') rfl hR (Mine.rm6 _ _ _ _ _ _) (Mine.rz6 _ _ _ _ _ _) F2 N2 ?zj ?zt ?zd
      case zj => exact ⟨⟨rfl, rfl⟩, 0, [], [], by rw [List.append_nil], .nil, fun p hp => Nat.ne_of_lt (blne p (by rwa [List.append_nil] at hp))⟩
      case zt =>
        rintro i t' m₁ news₁ h tk I oI hi ⟨⟨hm1, hm2⟩, k, vs, rows, rfl, hB, hne⟩ hoff F N
        clear F2 N2 K2
        rw [Mine.m_form hm1, Mine.m_form hm2] at F
        obtain rfl | rfl : i = 0 ∨ i = 1 := by omega
        · skip
          iterate 26 walk_at "MINE one"
          iterate 8 walk_at "MINE one"
          rename_i hR2 F3 N3 K3
          have hIb : I ≠ bl := (hoff _ (.head _)).symm
          refine Mine.range_loopC (n := c.toNat) (news := (I, oI) :: (bl, W.listOf vs.toArray k) :: (news ++ rows)) (fun j m' news' => Mine.BlkM bl (66 + ((v - 1) * 4 + Mine.offV lev).toNat) t d u2 u3 m' ∧ Mine.BlkJ 294 bl I oI news ([] ++ List.replicate j (t, d)) news') rfl hR2 (Mine.rmc hc0 hc1) (Mine.rzc hc0) F3 (Mine.newsSub N3 (fun p hp => by first | exact hp | exact .tail _ hp)) ?zj2 ?zt2 ?zd2
          case zj2 => exact ⟨⟨rfl, rfl, rfl, rfl⟩, k, vs, rows, rfl, by simpa using hB, hne, fun p hp => hoff p (.tail _ hp)⟩
          case zt2 =>
            have hBl := hB.len
            clear F3 N3 K3 hR2
            rintro j t2' m₂ news₂ h tk I2 oI2 hj ⟨⟨hm1, hm2, hm3, hm4⟩, k, vs, rows, rfl, hB, hne, hneI⟩ hoff F N
            have hI2b : I2 ≠ bl := (hoff _ (.tail _ (.head _))).symm
            have hvl : vs.length ≤ 300 := by
              have := hB.len
              simp only [List.length_append, List.length_replicate, List.length_nil] at this
              omega
            rw [Mine.m_form hm1, Mine.m_form hm2, Mine.m_form hm3, Mine.m_form hm4] at F
            iterate 45 walk_at "MINE one"
            exact Mine.blk_turn (by assumption) (by assumption) hB hoff hne hneI (by assumption) (by assumption) ⟨rfl, rfl, rfl, rfl⟩
          case zd2 =>
            rintro m₂ news₂ h tk ⟨⟨hm1, hm2, hm3, hm4⟩, k, vs, rows, rfl, hB, hne, hneI0⟩ F N
            have hneI : ∀ p ∈ (bl, W.listOf vs.toArray k) :: (news ++ rows), p.1 ≠ I := fun p hp => by
              rcases List.mem_cons.mp hp with rfl | hp
              · exact hIb.symm
              · exact hneI0 p hp
            clear F3 N3 K3 hR2
            rw [Mine.m_form hm1, Mine.m_form hm2, Mine.m_form hm3, Mine.m_form hm4] at F
            iterate 1 walk_at "MINE one"
            exact Mine.row_turn (by assumption) (by assumption) hB (by simp) hne hneI ⟨rfl, rfl⟩
        · skip
          iterate 26 walk_at "MINE one"
          iterate 8 walk_at "MINE one"
          rename_i hR2 F3 N3 K3
          have hIb : I ≠ bl := (hoff _ (.head _)).symm
          refine Mine.range_loopC (n := c2.toNat) (news := (I, oI) :: (bl, W.listOf vs.toArray k) :: (news ++ rows)) (fun j m' news' => Mine.BlkM bl (66 + ((v - 1) * 4 + Mine.offV lev).toNat) t2 d2 u5 u6 m' ∧ Mine.BlkJ 294 bl I oI news (List.replicate c.toNat (t, d) ++ List.replicate j (t2, d2)) news') rfl hR2 (Mine.rmc hc20 hc21) (Mine.rzc hc20) F3 (Mine.newsSub N3 (fun p hp => by first | exact hp | exact .tail _ hp)) ?zj2 ?zt2 ?zd2
          case zj2 => exact ⟨⟨rfl, rfl, rfl, rfl⟩, k, vs, rows, rfl, by simpa using hB, hne, fun p hp => hoff p (.tail _ hp)⟩
          case zt2 =>
            have hBl := hB.len
            clear F3 N3 K3 hR2
            rintro j t2' m₂ news₂ h tk I2 oI2 hj ⟨⟨hm1, hm2, hm3, hm4⟩, k, vs, rows, rfl, hB, hne, hneI⟩ hoff F N
            have hI2b : I2 ≠ bl := (hoff _ (.tail _ (.head _))).symm
            have hvl : vs.length ≤ 300 := by
              have := hB.len
              simp only [List.length_append, List.length_replicate, List.length_nil] at this
              omega
            rw [Mine.m_form hm1, Mine.m_form hm2, Mine.m_form hm3, Mine.m_form hm4] at F
            iterate 45 walk_at "MINE one"
            exact Mine.blk_turn (by assumption) (by assumption) hB hoff hne hneI (by assumption) (by assumption) ⟨rfl, rfl, rfl, rfl⟩
          case zd2 =>
            rintro m₂ news₂ h tk ⟨⟨hm1, hm2, hm3, hm4⟩, k, vs, rows, rfl, hB, hne, hneI0⟩ F N
            have hneI : ∀ p ∈ (bl, W.listOf vs.toArray k) :: (news ++ rows), p.1 ≠ I := fun p hp => by
              rcases List.mem_cons.mp hp with rfl | hp
              · exact hIb.symm
              · exact hneI0 p hp
            clear F3 N3 K3 hR2
            rw [Mine.m_form hm1, Mine.m_form hm2, Mine.m_form hm3, Mine.m_form hm4] at F
            iterate 1 walk_at "MINE one"
            exact Mine.row_turn (by assumption) (by assumption) hB (by simp) hne hneI ⟨rfl, rfl⟩
      case zd =>
        rintro m₁ news₁ h tk ⟨⟨hm1, hm2⟩, k, vs, rows, rfl, hB, hne⟩ F N
        clear F2 N2 K2
        rw [Mine.m_form hm1, Mine.m_form hm2] at F
        k_steps
        refine fin _ _ _ _ _ _ (by assumption) (by assumption) ?_
        rw [hbl]; exact hB
  try k_fold
  iterate 21 walk_at "MINE one"
  rename_i slA wsA h1a hIw hCw hLw l1w stA h2a l2w h3w Fw Nw
  refine Mine.cutFor (fun MM A body env => Mine.TurnSpec s₁ (s₁.heap.objs.size + 1) stA slA wsA MM A body env) ?_ (fun turnR => ?_)
  · intro v tv us h tk I oI l ol i sd ti ts n co u Q hv1 hv40 hi0 hco n1 n2 n3 n4 n5 n6 F N
    clear Fw Nw h3w
    try k_fold
    iterate 50 walk_at "MINE one"
    rename_i h1' tk1' pa pvs p pl pi pk pn hS1 co' dco hS2 tkS tS uS vS IS FS NS kS kl1 kl2 kl3 gS yI yL dS hS tkS' FS' NS' oS
    have yI' : IntsAre ys (Mine.stepsOf p) := yI
    clear yI yL kl1 kl2 kl3 kS NS FS IS
    obtain ⟨q, hq⟩ : ∃ q, q = Mine.stepsOf p := ⟨_, rfl⟩
    rw [← hq] at yI'
    have hql : q.length ≤ 6 := by rw [hq]; exact Mine.stepsOf_le pn
    have hset := Mine.posOk_set pk
    rw [← hq] at hset
    refine Mine.joinS (b := s₁) (by assumption) (by assumption) (fun Q1 E1 fin1 => ?_) (fun h1 tk1 F1 N1 => ?_)
    · have hv : v = 1 ∧ p.length = 0 ∨ v ≠ 1 ∧ (p.length : Int) = Int.fdiv v 7 + 2 := by
        by_cases e : v = 1
        · exact .inl ⟨e, by rw [Mine.posOk_one pk e]; rfl⟩
        · exact .inr ⟨e, Mine.posOk_more pk e⟩
      k_steps
      all_goals (exact fin1 _ _ (by assumption) (Mine.newsSub (by assumption) (by repeat' (first | exact List.forall_mem_nil _ | (refine List.forall_mem_cons.mpr ⟨by k_mem, ?_⟩)))))
    iterate 1 walk_at "MINE one"
    refine Mine.joinS (b := s₁) (by assumption) (by assumption) (fun Q1 E1 fin1 => ?_) (fun h1 tk1 F1 N1 => ?_)
    · have hv : p = [] ∧ p.length = 0 ∨ ¬ p = [] ∧ 2 ≤ p.length := by
        by_cases e : p = []
        · exact .inl ⟨e, by rw [e]; rfl⟩
        · exact .inr ⟨e, Mine.posOk_two pk e⟩
      have h8 : Mine.AllGood q := by rw [hq]; exact Mine.posOk_good pk
      rcases hv with ⟨hp, hpl⟩ | ⟨hp, hpl⟩
      · k_steps
        exact fin1 _ _ (by assumption) (Mine.newsSub (by assumption) (by repeat' (first | exact List.forall_mem_nil _ | (refine List.forall_mem_cons.mpr ⟨by k_mem, ?_⟩))))
      · have h6 := (Mine.posOk_ends pk hp).2.1
        have h7 := (Mine.posOk_ends pk hp).2.2
        k_steps
        exact fin1 _ _ (by assumption) (Mine.newsSub (by assumption) (by repeat' (first | exact List.forall_mem_nil _ | (refine List.forall_mem_cons.mpr ⟨by k_mem, ?_⟩))))
    iterate 1 walk_at "MINE one"
    iterate 33 walk_at "MINE one"
    rename_i tfL DL _ lL1 _ _ _ FL0 NL0
    refine Mine.cutFor (fun MM A body env => Mine.LevSpec (Mine.hd.heap_39 w.params) s₁ MM A body env) ?_ (fun levR => ?_)
    · intro v lf tv tf tl st us h tk led I oI l ol i bv Q E hv1 hv40 hi4 hbv F N hoff hlf
      have hl0 := Mine.levOf_lo i
      have hl3 := Mine.levOf_hi i
      have hlv := Mine.lvOk_at (K := Mine.hd.heap_39 w.params) (Mine.lv_hd w) hv1 hv40 hi4
      rw [← hlf] at hlv
      obtain ⟨hpw, hlim, hdl, hel, hbl, hb0, hs0, hs8, hse, he0, hd0, hdd, hdec⟩ := hlv
      obtain ⟨lvs, lr, hLl, hLi, hLn, hLv⟩ := Mine.lim_at KX hlim
      iterate 142 walk_at "MINE one"
      rcases hbv with ⟨hi0, rfl⟩ | ⟨tb, hi0, rfl⟩
      · iterate 45 walk_at "MINE one"
        refine Mine.lev_close (by assumption) (by assumption) ?_ hoff ⟨rfl, rfl, rfl, rfl⟩
        intro p hp
        simp only [List.mem_cons, List.mem_append] at hp ⊢
        rcases hp with z | z | z <;> simp [z]
      · have hdec' := hdec.resolve_left (by omega)
        iterate 57 walk_at "MINE one"
        refine Mine.lev_close (by assumption) (by assumption) ?_ hoff ⟨rfl, rfl, rfl, rfl⟩
        intro p hp
        simp only [List.mem_cons, List.mem_append] at hp ⊢
        rcases hp with z | z | z <;> simp [z]
      · iterate 107 walk_at "MINE one"
      · iterate 53 walk_at "MINE one"
    · iterate 12 walk_at "MINE one"
      rename_i tL _ _ lL hL' FL NL lLne
      refine Mine.list_loop (its := [_, _, _, _]) (n := 0) (news := [(I, oI), (l, ol), (stA, Mine.stObj slA i sd ti ts n), (slA, W.listOf wsA.toArray 0), (s₁.heap.objs.size + 1, co')])
        (fun j m' n' => (∃ bv, Mine.LevM v (Mine.leftV v p.length) tv tfL stA bv m' ∧ Mine.bvOk (Mine.hd.heap_39 w.params) v j bv) ∧ n' = [(I, oI), (l, ol), (stA, Mine.stObj slA i sd ti ts n), (slA, W.listOf wsA.toArray 0), (s₁.heap.objs.size + 1, co')]) rfl FL
        (Mine.newsSub NL (by repeat' (first | exact List.forall_mem_nil _ | (refine List.forall_mem_cons.mpr ⟨by k_mem, ?_⟩)))) ?zj ?zt ?zd
      case zj => exact ⟨⟨.none, ⟨rfl, rfl, rfl, rfl⟩, .inl ⟨rfl, rfl⟩⟩, rfl⟩
      case zt =>
        rintro j vv m₁ news₁ h tk I2 oI2 ol2 hiv ⟨⟨bv, ⟨hm1, hm2, hm3, hm4⟩, hbv⟩, rfl⟩ hoff F N
        obtain ⟨tl, rfl, hj⟩ : ∃ tl, vv = Value.int (Mine.levOf j) tl ∧ j < 4 := by
          rcases j with _ | _ | _ | _ | j
          · exact ⟨_, (Option.some.inj hiv).symm, by omega⟩
          · exact ⟨_, (Option.some.inj hiv).symm, by omega⟩
          · exact ⟨_, (Option.some.inj hiv).symm, by omega⟩
          · exact ⟨_, (Option.some.inj hiv).symm, by omega⟩
          · cases hiv
        rw [Mine.m_form hm1, Mine.m_form hm2, Mine.m_form hm3, Mine.m_form hm4] at F
        exact levR v (Mine.leftV v p.length) tv tfL tl stA m₁ h tk _ I2 oI2 lL ol2 j bv _ _ hv1 hv40 hj hbv F N hoff (by rw [Mine.posOk_is pk])
      case zd =>
        rintro m₁ news₁ h tk ⟨⟨bv, ⟨hm1, hm2, hm3, hm4⟩, hbv⟩, rfl⟩ F N
        rw [Mine.m_form hm3, Mine.m_form hm4] at F
        clear FL NL
        iterate 1 walk_at "MINE one"
        refine wpAny_Try_except ?_
        iterate 65 walk_at "MINE one"
        have hTR := PySem.W.topRead_of T
        refine Mine.caught_any (outer := []) (Below.stack (by assumption)) rfl (by assumption) (by assumption) (by assumption) hTR rfl rfl rfl rfl (hTR.free _ (by decide +kernel) (by decide +kernel) (by decide +kernel) (by decide +kernel) (by decide +kernel)) (fun h' F' N' => ?_)
        iterate 3 walk_at "MINE one"
        try dsimp only
        skip
        refine ⟨_, _, _, [(stA, Mine.stObj slA _ _ _ _ _), (slA, W.listOf wsA.toArray 0), (s₁.heap.objs.size + 1, co')], rfl, by assumption, by assumption, ?_, rfl, _, _, _, _, _, _, _, ?_, dco, rfl⟩
        · repeat' (first | exact List.forall_mem_nil _ | (refine List.forall_mem_cons.mpr ⟨?_, ?_⟩; exact (Ne.symm (by assumption))))
        · assumption
  · iterate 46 walk_at "MINE one"
    rename_i _ i1 _ _ _ _ _ _ _ r1lo r1hi mn _ mnlt _ _ r2 _ i2 sd2 ti2 ts2 n2 i2lo r2lo r2hi t2 lv hlv Flv Nlv ltlv
    refine Mine.list_loop (its := [_, _]) (n := 0) (news := [(stA, Mine.stObj slA i2 sd2 ti2 ts2 n2), (slA, W.listOf wsA.toArray 0), (s₁.heap.objs.size + 1, cobj)]) (fun _ => Mine.VerJ (s₁.heap.objs.size + 1) stA slA wsA) rfl Flv (Mine.newsSub Nlv (by repeat' (first | exact List.forall_mem_nil _ | (refine List.forall_mem_cons.mpr ⟨by k_mem, ?_⟩)))) ?zj ?zt ?zd
    case zj =>
      exact ⟨rfl, _, _, _, _, _, _, _, by assumption, hcell, rfl⟩
    case zt =>
      rintro i v m₁ news₁ h tk I oI ol hiv ⟨hms, i3, sd3, ti3, ts3, n3, co, u, hi3, hco, rfl⟩ hoff F N
      rw [Mine.m_form hms] at F
      obtain ⟨a, t, rfl, ha⟩ : ∃ a t, v = Value.int a t ∧ 1 ≤ a ∧ a ≤ 40 := by
        rcases i with _ | _ | i
        · exact ⟨_, _, (Option.some.inj hiv).symm, by omega, by omega⟩
        · refine ⟨_, _, (Option.some.inj hiv).symm, ?_⟩
          have hr2 : r2 = 0 ∨ r2 = 1 ∨ r2 = 2 ∨ r2 = 3 ∨ r2 = 4 ∨ r2 = 5 := by omega
          rcases hr2 with rfl | rfl | rfl | rfl | rfl | rfl <;> decide
        · cases hiv
      refine wpAny_mono (turnR a t m₁ h tk I oI lv ol i3 sd3 ti3 ts3 n3 co u _ ha.1 ha.2 hi3 hco (hoff _ (.head _)).symm (hoff _ (.tail _ (.head _))).symm (hoff _ (.tail _ (.tail _ (.head _)))).symm (by k_ne) (by k_ne) (by k_ne) F N) (fun f s₂ z => z) fun _ _ z => z.elim
    case zd =>
      rintro m₁ news₁ h tk ⟨hms, i3, sd3, ti3, ts3, n3, co, u, hi3, hco, rfl⟩ F N
      clear Flv Nlv
      k_steps

import PyProof.Rows.All
import Wide.All
import OpenK.AllK
import Wide.FinOn
import PySem.Challenge.RW_tv0022_01
set_option Elab.async false
set_option maxRecDepth 100000
set_option maxHeartbeats 8000000
set_option linter.all false
set_option compiler.extract_closed false

section
open PySem PySem.W PyProof.Rows
open_top hd1 for PySem.Challenge.rw_tv0022_01
end

section -- P0
namespace Mine
variable {α : Type}
/-- k is the length of a proper border of the first n of w -/
def Bd (w : List α) (n k : Nat) : Prop := k < n ∧ ∀ j, j < k → w[n - k + j]? = w[j]?
/-- the longest one -/
def LB (w : List α) (n k : Nat) : Prop := Bd w n k ∧ ∀ b, Bd w n b → b ≤ k
def IsTab (w : List α) (ts : List Int) : Prop := ts.length = w.length ∧ ∀ i, i < w.length → ∃ k : Nat, ts[i]? = some (k : Int) ∧ LB w (i + 1) k

theorem Bd.zero {w : List α} {n : Nat} (h : 0 < n) : Bd w n 0 := ⟨h, fun _ h => absurd h (Nat.not_lt_zero _)⟩
theorem Bd.up {w : List α} {k b : Nat} (h : Bd w k b) (e : w[k]? = w[b]?) : Bd w (k + 1) (b + 1) := by
  refine ⟨Nat.succ_lt_succ h.1, fun j hj => ?_⟩
  have e1 : k + 1 - (b + 1) + j = k - b + j := by omega
  rw [e1]
  by_cases hb : j < b
  · exact h.2 j hb
  · have : j = b := by omega
    subst this
    have : k - j + j = k := by have := h.1; omega
    rw [this]; exact e
theorem Bd.down {w : List α} {k b : Nat} (h : Bd w (k + 1) (b + 1)) : Bd w k b ∧ w[k]? = w[b]? := by
  have hk : b < k := Nat.lt_of_succ_lt_succ h.1
  refine ⟨⟨hk, fun j hj => ?_⟩, ?_⟩
  · have := h.2 j (by omega)
    have e1 : k + 1 - (b + 1) + j = k - b + j := by omega
    rw [e1] at this; exact this
  · have := h.2 b (by omega)
    have e1 : k + 1 - (b + 1) + b = k := by omega
    rw [e1] at this; exact this
/-- a shorter border of n is one of a longer border -/
theorem Bd.of_lt {w : List α} {n k b : Nat} (h : Bd w n k) (hb : Bd w n b) (hlt : b < k) : Bd w k b := by
  refine ⟨hlt, fun j hj => ?_⟩
  have h1 := h.2 (k - b + j) (by omega)
  have h2 := hb.2 j hj
  have hn := h.1
  have e : n - k + (k - b + j) = n - b + j := by omega
  rw [e, h2] at h1
  exact h1.symm
theorem Bd.trans {w : List α} {n k b : Nat} (h : Bd w n k) (hb : Bd w k b) : Bd w n b := by
  have hn := h.1
  have hk := hb.1
  refine ⟨by omega, fun j hj => ?_⟩
  have h1 := h.2 (k - b + j) (by omega)
  have h2 := hb.2 j hj
  have e : n - k + (k - b + j) = n - b + j := by omega
  rw [e] at h1
  rw [h1, h2]
theorem LB.one {w : List α} : LB w 1 0 := ⟨Bd.zero (by omega), fun b hb => by have := hb.1; omega⟩
theorem lb_start {w : List α} {k t : Nat} (h : LB w k t) : Bd w k t ∧ ∀ b, Bd w k b → w[k]? = w[b]? → b ≤ t := ⟨h.1, fun b hb _ => h.2 b hb⟩
theorem lb_hit {w : List α} {k t : Nat} (h : Bd w k t ∧ ∀ b, Bd w k b → w[k]? = w[b]? → b ≤ t) (e : w[k]? = w[t]?) : LB w (k + 1) (t + 1) := by
  refine ⟨h.1.up e, fun b hb => ?_⟩
  cases b with
  | zero => omega
  | succ b =>
    obtain ⟨h1, h2⟩ := hb.down
    have := h.2 b h1 h2
    omega
theorem lb_zero {w : List α} {k : Nat} (h : Bd w k 0 ∧ ∀ b, Bd w k b → w[k]? = w[b]? → b ≤ 0) (e : ¬ w[k]? = w[0]?) : LB w (k + 1) 0 := by
  refine ⟨Bd.zero (by omega), fun b hb => ?_⟩
  cases b with
  | zero => omega
  | succ b =>
    obtain ⟨h1, h2⟩ := hb.down
    have := h.2 b h1 h2
    have : b = 0 := by omega
    subst this
    exact absurd h2 e
theorem lb_fall {w : List α} {k t t' : Nat} (h : Bd w k t ∧ ∀ b, Bd w k b → w[k]? = w[b]? → b ≤ t) (e : ¬ w[k]? = w[t]?) (h' : LB w t t') : Bd w k t' ∧ ∀ b, Bd w k b → w[k]? = w[b]? → b ≤ t' := by
  refine ⟨h.1.trans h'.1, fun b hb q => ?_⟩
  have h1 := h.2 b hb q
  have h2 : b ≠ t := by rintro rfl; exact e q
  exact h'.2 b (h.1.of_lt hb (by omega))
theorem LB.uniq {w : List α} {n a b : Nat} (h : LB w n a) (h' : LB w n b) : a = b := Nat.le_antisymm (h'.2 a h.1) (h.2 b h'.1)
/-- what the for keeps: the first i entries are told -/
def TabTo (w : List α) (i : Nat) (ts : List Int) : Prop := ts.length = w.length ∧ ∀ j, j < i → ∃ k : Nat, ts[j]? = some (k : Int) ∧ LB w (j + 1) k
theorem TabTo.set {w : List α} {i : Nat} {ts : List Int} {k : Nat} (h : TabTo w i ts) (hi : i < w.length) (hk : LB w (i + 1) k) : TabTo w (i + 1) (ts.set i (k : Int)) := by
  refine ⟨by rw [List.length_set]; exact h.1, fun j hj => ?_⟩
  by_cases e : j = i
  · subst e
    exact ⟨k, by rw [List.getElem?_set_self (by rw [h.1]; exact hi)], hk⟩
  · obtain ⟨k', h1, h2⟩ := h.2 j (by omega)
    exact ⟨k', by rw [List.getElem?_set_ne (Ne.symm e)]; exact h1, h2⟩
theorem TabTo.at {w : List α} {i j : Nat} {ts : List Int} (h : TabTo w i ts) (hj : j < i) : ∃ k : Nat, ts.getD j 0 = (k : Int) ∧ LB w (j + 1) k := by
  obtain ⟨k, h1, h2⟩ := h.2 j hj
  exact ⟨k, by rw [List.getD_eq_getElem?_getD, h1]; rfl, h2⟩
theorem TabTo.start (w : List α) : TabTo w 1 (List.replicate w.length 0) ∨ w = [] := by
  cases w with
  | nil => exact .inr rfl
  | cons a r => exact .inl ⟨by simp, fun j hj => ⟨0, by have : j = 0 := by omega
                                                        subst this; simp, by have : j = 0 := by omega
                                                                             subst this; exact LB.one⟩⟩

/-- the borders of the first n, below m, the longest first -/
def bdB [DecidableEq α] (w : List α) (n k : Nat) : Bool := decide (k < n) && decide (∀ j, j < k → w[n - k + j]? = w[j]?)
theorem bdB_iff [DecidableEq α] {w : List α} {n k : Nat} : bdB w n k = true ↔ Bd w n k := by
  unfold bdB Bd
  rw [Bool.and_eq_true, decide_eq_true_eq, decide_eq_true_eq]
def bds [DecidableEq α] (w : List α) (n m : Nat) : List Nat := (List.range m).reverse.filter (fun k => decide (0 < k) && bdB w n k)
theorem bds_pos [DecidableEq α] {w : List α} {n m : Nat} (h : 0 < m ∧ Bd w n m) : bds w n (m + 1) = m :: bds w n m := by
  unfold bds
  rw [List.range_succ, List.reverse_append, List.reverse_cons, List.reverse_nil, List.nil_append, List.singleton_append, List.filter_cons, if_pos]
  rw [Bool.and_eq_true, decide_eq_true_eq, bdB_iff]
  exact h
theorem bds_neg [DecidableEq α] {w : List α} {n m : Nat} (h : ¬ (0 < m ∧ Bd w n m)) : bds w n (m + 1) = bds w n m := by
  unfold bds
  rw [List.range_succ, List.reverse_append, List.reverse_cons, List.reverse_nil, List.nil_append, List.singleton_append, List.filter_cons, if_neg]
  rw [Bool.and_eq_true, decide_eq_true_eq, bdB_iff]
  exact h
theorem bds_skip [DecidableEq α] {w : List α} {n a : Nat} (h : ∀ k, Bd w n k → k < a ∨ k = 0) : ∀ d, bds w n (a + d) = bds w n a := by
  intro d
  induction d with
  | zero => rfl
  | succ d ih =>
    rw [← Nat.add_assoc, bds_neg, ih]
    rintro ⟨h1, h2⟩
    rcases h _ h2 with h | h <;> omega
/-- the way down the table: what is laid on so far, and the borders from size down -/
def OvlInv [DecidableEq α] (w : List α) (k : Nat) (L : List Nat) : Prop := Bd w w.length k ∧ bds w w.length w.length = L ++ bds w w.length (k + 1)
theorem ovl_start [DecidableEq α] {w : List α} {k : Nat} (h : LB w w.length k) : OvlInv w k [] := by
  refine ⟨h.1, ?_⟩
  have h1 := h.1.1
  have e : w.length = k + 1 + (w.length - (k + 1)) := by omega
  rw [List.nil_append]
  conv => lhs; rw [show bds w w.length w.length = bds w w.length (k + 1 + (w.length - (k + 1))) from by rw [← e]]
  exact bds_skip (fun b hb => .inl (by have := h.2 b hb; omega)) _
theorem ovl_step [DecidableEq α] {w : List α} {k k' : Nat} {L : List Nat} (h : OvlInv w k L) (hk : 0 < k) (h' : LB w k k') : OvlInv w k' (L ++ [k]) := by
  refine ⟨h.1.trans h'.1, ?_⟩
  rw [h.2, bds_pos ⟨hk, h.1⟩, List.append_assoc, List.singleton_append]
  congr 2
  have h1 := h'.1.1
  have e : k = k' + 1 + (k - (k' + 1)) := by omega
  conv => lhs; rw [show bds w w.length k = bds w w.length (k' + 1 + (k - (k' + 1))) from by rw [← e]]
  have key : ∀ d, k' + 1 + d ≤ k → bds w w.length (k' + 1 + d) = bds w w.length (k' + 1) := by
    intro d
    induction d with
    | zero => intro _; rfl
    | succ d ih =>
      intro hd
      rw [← Nat.add_assoc, bds_neg, ih (by omega)]
      rintro ⟨h1, h2⟩
      have := h'.2 _ (h.1.of_lt h2 (by omega))
      omega
  exact key _ (by omega)
theorem ovl_end [DecidableEq α] {w : List α} {L : List Nat} (h : OvlInv w 0 L) : bds w w.length w.length = L := by
  rw [h.2]
  have : bds w w.length (0 + 1) = [] := by rw [bds_neg (by omega)]; rfl
  rw [this, List.append_nil]
theorem IsTab.at {w : List α} {ts : List Int} (h : IsTab w ts) {i : Nat} (hi : i < w.length) : ∃ k : Nat, ts.getD i 0 = (k : Int) ∧ LB w (i + 1) k := by
  obtain ⟨k, h1, h2⟩ := h.2 i hi
  exact ⟨k, by rw [List.getD_eq_getElem?_getD, h1]; rfl, h2⟩
theorem OvlInv.len [DecidableEq α] {w : List α} {k : Nat} {L : List Nat} (h : OvlInv w k L) : L.length ≤ w.length := by
  have h1 : (bds w w.length w.length).length ≤ w.length := by
    unfold bds
    refine Nat.le_trans (List.length_filter_le _ _) ?_
    simp
  rw [h.2, List.length_append] at h1
  omega

/-- the longest border, reckoned -/
def lbF [DecidableEq α] (w : List α) : Nat := (bds w w.length w.length).headD 0
/-- the law's row, sign by sign -/
def growStep (row : List Nat) (c : Nat) : List Nat :=
  (row ++ [c]) ++ (row ++ [c]).reverse.drop (lbF ((row ++ [c]).reverse ++ [32] ++ (row ++ [c])))
def grown (half : List Nat) : List Nat := half.foldl growStep []
end Mine

end -- P0

section -- B0
open PySem PySem.W PyProof.Rows PySem.Spec PySem.Calls
set_option maxRecDepth 100000
set_option maxHeartbeats 8000000
namespace Mine

section
variable {prog : Program} {w : World} {A : Around} {E : Value → Shared → Prop} {Q : Flow → Shared → Prop} {s : Shared} {env : Env} {h₀ : Heap} {L : Addr}

/-- a while with an else, by an invariant over the measure, the frame and the ledger -/
theorem While_else {test : PySem.Expr} {body orelse : List Stmt} {pos : Pos} {m : Str → Option Value} {news : List (Addr × Obj)} (J : Nat → (Str → Option Value) → List (Addr × Obj) → Prop) {n₀ : Nat}
    (F : Fr h₀ L s.heap m) (N : News h₀ L s.heap news) (hJ : J n₀ m news)
    (turn : ∀ n m₁ news₁ h₁ tk₁, Fr h₀ L h₁ m₁ → News h₀ L h₁ news₁ → J n m₁ news₁ →
      wpAny (model prog w) A (isTrue test env (eval test env)) (fun b s₂ =>
        if b = true then wpAny (model prog w) A (execs body env) (WhileStep2 h₀ L s J Q n) E s₂ else wpAny (model prog w) A (execs orelse env) Q E s₂) E { s with heap := h₁, toks := tk₁ })
    (hE : PassesOwn (model prog w) A env E := by passes_own) :
    wpAny (model prog w) A (exec (.While test body orelse pos) env) Q E s := by
  refine wpAny_While (codeAny_whileLoop (fun n s' => ∃ h₁ tk₁ m₁ news₁, s' = { s with heap := h₁, toks := tk₁ } ∧ Fr h₀ L h₁ m₁ ∧ News h₀ L h₁ news₁ ∧ J n m₁ news₁) ?_ n₀ ⟨s.heap, s.toks, m, news, rfl, F, N, hJ⟩)
  rintro n s' ⟨h₁, tk₁, m₁, news₁, rfl, F₁, N₁, J₁⟩
  refine wpAny_mono (turn n m₁ news₁ h₁ tk₁ F₁ N₁ J₁) (fun b s₂ h₂ => ?_) hE
  cases b with
  | false =>
    simp only [Bool.false_eq_true, if_false] at h₂ ⊢
    exact wpAny_mono h₂ (fun _ _ x => x) hE
  | true =>
    simp only [if_true] at h₂ ⊢
    refine wpAny_mono h₂ (fun f s₃ h₃ => ?_) hE
    cases f with
    | next =>
      obtain ⟨h', tk, m₂, news₂, n', rfl, F₂, N₂, hn, J₂⟩ := h₃
      exact ⟨n', hn, h', tk, m₂, news₂, rfl, F₂, N₂, J₂⟩
    | cont =>
      obtain ⟨h', tk, m₂, news₂, n', rfl, F₂, N₂, hn, J₂⟩ := h₃
      exact ⟨n', hn, h', tk, m₂, news₂, rfl, F₂, N₂, J₂⟩
    | brk => exact h₃
    | ret v => exact h₃
end

/-- a contract of a def: at these arguments, over this ledger, it gives back what Out says, the objects tl on top -/
def Cn (prog : Program) (w : World) (K : Frag) (p : Program) (loose : List Str) (mean : ExcName → Option Value) (mg mb : Str → Option Value) (f : Addr) (sz : Nat) (vs : List Value) (news : List (Addr × Obj)) (Out : Value → List (Addr × Obj) → Prop) : Prop :=
  ∀ (dp un : Nat) (gd : Option (List Code)) (cn : Str) (cs : Scope) (a : Addr) (ccd : Value) (cl : List (Str × Addr)) (outer : List Env) (A₀ : Around) (base h₀ : Heap) (L : Addr) (m : Str → Option Value) (s : Shared)
    (Q E : Value → Shared → Prop),
    Below A₀ base outer h₀ → Fr h₀ L s.heap m → K.In h₀ → News h₀ L s.heap news → Top p loose mean mg mb h₀ → cs.kind = .function → dp + sz < recursionLimit → un + 8 * sz < cLine →
    (∀ r tl h' tk', Fr h₀ L h' m → News h₀ L h' (tl ++ news) → (∀ q ∈ news, ∀ p ∈ tl, q.1 < p.1) → Out r tl → Q r { s with heap := h', toks := tk' }) →
    wpAny (model prog w) (ktrTop dp un gd cn cs L a ccd cl outer) (call (.ref f) vs) Q E s


section
variable {prog : Program} {w : World} {A : Around} {E : Value → Shared → Prop} {s : Shared} {env : Env} {h₀ : Heap} {x : Str} {body : List Stmt} {Q : Flow → Shared → Prop}

/-- a turn's end: the list at D is another one, the names besides x and st stand -/
def RlEnd (h₀ : Heap) (L D : Addr) (c : Nat) (rest own : List (Addr × Obj)) (x : Str) (st : List Str) (m₀ : Str → Option Value) (P : List Int → Prop) (s₁ s₂ : Shared) : Prop :=
  ∃ h' tk m' news' vs' ts', s₂ = { s₁ with heap := h', toks := tk } ∧ Fr h₀ L h' m' ∧ News h₀ L h' news' ∧ (∀ p ∈ ((D, listOf vs'.toArray c) :: rest) ++ own, p ∈ news') ∧ IntsAre vs' ts' ∧ P ts' ∧ ∀ z, z ≠ x → st.contains z = false → m' z = m₀ z
def RlPost (h₀ : Heap) (L D : Addr) (c : Nat) (rest own : List (Addr × Obj)) (x : Str) (st : List Str) (m₀ : Str → Option Value) (P : List Int → Prop) (s₁ : Shared) (Q : Flow → Shared → Prop) (f : Flow) (s₂ : Shared) : Prop :=
  match f with
  | .ret v => Q (.ret v) s₂
  | .brk => Q .next s₂
  | _ => RlEnd h₀ L D c rest own x st m₀ P s₁ s₂
theorem RlEnd.intro {L D : Addr} {c : Nat} {rest own news' : List (Addr × Obj)} {st : List Str} {m₀ m' : Str → Option Value} {P : List Int → Prop} {s₁ : Shared} {h' : Heap} {tk : Nat} {vs' : List Value} {ts' : List Int}
    (F : Fr h₀ L h' m') (N : News h₀ L h' news') (hs : ∀ p ∈ ((D, listOf vs'.toArray c) :: rest) ++ own, p ∈ news') (hi : IntsAre vs' ts') (hp : P ts') (hm : ∀ z, z ≠ x → st.contains z = false → m' z = m₀ z) :
    RlEnd h₀ L D c rest own x st m₀ P s₁ { s₁ with heap := h', toks := tk } := ⟨h', tk, m', news', vs', ts', rfl, F, N, hs, hi, hp, hm⟩

/-- a for over a range whose turns change one list of ints and the names st -/
theorem range_L {r D : Addr} {c : Nat} {a₀ b₀ : Int} {t₀ u₀ v₀ : Tok} {n : Nat} {m₀ : Str → Option Value} {rest : List (Addr × Obj)} {vs : List Value} {ts : List Int} (st : List Str) (P : Nat → List Int → Prop)
    (hh : A.handled = none) (hr : IsRange s.heap r a₀ b₀ 1 t₀ u₀ v₀) (hsmall : Builtin.Range.small a₀ b₀ 1 = true) (hn : Builtin.Range.rangeSize a₀ b₀ 1 = (n : Int)) (F : Fr h₀ env.locals s.heap m₀) (N : News h₀ env.locals s.heap ((D, listOf vs.toArray c) :: rest))
    (hi : IntsAre vs ts) (hp : P 0 ts)
    (turn : ∀ (i : Nat) vs ts t (u : Str → Option Value) h tk own, i < n → P i ts → IntsAre vs ts → OwnOff own (D :: rest.map (·.1)) → Fr h₀ env.locals h (fun y => if y = x then some (.int (a₀ + (i : Int)) t) else if st.contains y then u y else m₀ y) → News h₀ env.locals h (((D, listOf vs.toArray c) :: rest) ++ own) →
      wpAny (model prog w) A (execs body env) (RlPost h₀ env.locals D c rest own x st m₀ (P (i + 1)) { s with heap := h, toks := tk } Q) E { s with heap := h, toks := tk })
    (done : ∀ vs ts (u : Str → Option Value) h tk, P n ts → IntsAre vs ts → Fr h₀ env.locals h (fun y => if y = x then u y else if st.contains y then u y else m₀ y) → News h₀ env.locals h ((D, listOf vs.toArray c) :: rest) → Q .next { s with heap := h, toks := tk }) :
    wpAny (model prog w) A (pyIter (.ref r)) (fun it s₂ => LoopAtV prog w A h₀ env x body Q E it s₂) E s := by
  refine kpr_invN (fun i m nx => ∃ vs ts, nx = (D, listOf vs.toArray c) :: rest ∧ IntsAre vs ts ∧ P i ts ∧ ∀ z, z ≠ x → st.contains z = false → m z = m₀ z) hh hr hsmall hn F N ⟨vs, ts, rfl, hi, hp, fun _ _ _ => rfl⟩ ?_ ?_
  · rintro i k t m₁ nx h tk own hk hoff ⟨vs, ts, rfl, hi', hp', hm⟩ F₁ N₁
    have hin : i < n := by
      rcases List.getElem?_eq_some_iff.mp hk with ⟨q, _⟩
      rwa [rangeKs_length] at q
    have hk' : k = a₀ + (i : Int) := by
      have : (rangeKs a₀ n)[i]? = some (a₀ + (i : Int)) := by simp [rangeKs, hin]
      rw [this] at hk
      exact (Option.some.inj hk).symm
    subst hk'
    have em : (fun y => if y = x then some (Value.int (a₀ + (i : Int)) t) else m₁ y) = fun y => if y = x then some (Value.int (a₀ + (i : Int)) t) else if st.contains y then m₁ y else m₀ y := by
      funext y
      by_cases h1 : y = x
      · simp [h1]
      · simp only [if_neg h1]
        cases h2 : st.contains y with
        | true => simp
        | false => simp only [Bool.false_eq_true, if_false]; exact hm y h1 h2
    rw [em] at F₁
    refine wpAny_mono (turn i vs ts t m₁ h tk own hin hp' hi' hoff F₁ N₁) (fun f s₂ q => ?_) fun _ _ e => e
    cases f with
    | ret v => exact q
    | brk => exact q
    | next =>
      obtain ⟨h', tk', m', news', vs', ts', rfl, F', N', hs, hi2, hp2, hm2⟩ := q
      exact ⟨h', tk', m', news', _, rfl, F', N', fun p hp => hs p (List.mem_append_left _ hp), fun p hp => hs p (List.mem_append_right _ hp), rfl, vs', ts', rfl, hi2, hp2, hm2⟩
    | cont =>
      obtain ⟨h', tk', m', news', vs', ts', rfl, F', N', hs, hi2, hp2, hm2⟩ := q
      exact ⟨h', tk', m', news', _, rfl, F', N', fun p hp => hs p (List.mem_append_left _ hp), fun p hp => hs p (List.mem_append_right _ hp), rfl, vs', ts', rfl, hi2, hp2, hm2⟩
  · rintro m₁ nx h tk ⟨vs, ts, rfl, hi', hp', hm⟩ F₁ N₁
    rw [rangeKs_length] at hp'
    refine done vs ts m₁ h tk hp' hi' ?_ N₁
    have em : (fun y => if y = x then m₁ y else if st.contains y then m₁ y else m₀ y) = m₁ := by
      funext y
      by_cases h1 : y = x
      · simp [h1]
      · simp only [if_neg h1]
        cases h2 : st.contains y with
        | true => simp
        | false => simp only [Bool.false_eq_true, if_false]; exact (hm y h1 h2).symm
    rw [em]; exact F₁

def WiEnd (h₀ : Heap) (L : Addr) (news : List (Addr × Obj)) (x : Str) (m₀ : Str → Option Value) (P : Int → Prop) (k : Int) (s : Shared) (s₂ : Shared) : Prop :=
  ∃ k' t' h' tk' m' news', s₂ = { s with heap := h', toks := tk' } ∧ Fr h₀ L h' m' ∧ News h₀ L h' news' ∧ (∀ p ∈ news, p ∈ news') ∧ m' x = some (.int k' t') ∧ (∀ z, z ≠ x → m' z = m₀ z) ∧ P k' ∧ k'.toNat < k.toNat
def WiPost (h₀ : Heap) (L : Addr) (news : List (Addr × Obj)) (x : Str) (m₀ : Str → Option Value) (P : Int → Prop) (k : Int) (s : Shared) (Q : Flow → Shared → Prop) (f : Flow) (s₂ : Shared) : Prop :=
  match f with
  | .ret v => Q (.ret v) s₂
  | .brk => Q .next s₂
  | _ => WiEnd h₀ L news x m₀ P k s s₂
/-- a while (with or without an else) whose turns change one int name, the ledger standing -/
theorem while_I {L : Addr} {test : PySem.Expr} {orelse : List Stmt} {pos : Pos} {m₀ : Str → Option Value} {news : List (Addr × Obj)} {k₀ : Int} {t₀ : Tok} (P : Int → Prop)
    (F : Fr h₀ L s.heap (fun y => if y = x then some (.int k₀ t₀) else m₀ y)) (N : News h₀ L s.heap news) (hp : P k₀)
    (turn : ∀ k t h tk, P k → Fr h₀ L h (fun y => if y = x then some (.int k t) else m₀ y) → News h₀ L h news →
      wpAny (model prog w) A (isTrue test env (eval test env)) (fun b s₂ =>
        if b = true then wpAny (model prog w) A (execs body env) (WiPost h₀ L news x m₀ P k s Q) E s₂ else wpAny (model prog w) A (execs orelse env) Q E s₂) E { s with heap := h, toks := tk })
    (hE : PassesOwn (model prog w) A env E := by passes_own) :
    wpAny (model prog w) A (exec (.While test body orelse pos) env) Q E s := by
  refine While_else (fun n m nx => nx = news ∧ ∃ k t, m = (fun y => if y = x then some (.int k t) else m₀ y) ∧ P k ∧ k.toNat = n) F N ⟨rfl, k₀, t₀, rfl, hp, rfl⟩ ?_ hE
  rintro n m₁ nx h tk F₁ N₁ ⟨rfl, k, t, rfl, hp', rfl⟩
  refine wpAny_mono (turn k t h tk hp' F₁ N₁) (fun b s₂ p => ?_) fun _ _ x => x
  cases b with
  | false => exact p
  | true =>
    simp only [if_true] at p ⊢
    refine wpAny_mono p (fun f s₃ q => ?_) fun _ _ x => x
    have fin : WiEnd h₀ L nx x m₀ P k s s₃ →
        ∃ h' tk m₂ news₂ n', s₃ = { s with heap := h', toks := tk } ∧ Fr h₀ L h' m₂ ∧ News h₀ L h' news₂ ∧ n' < k.toNat ∧ (news₂ = nx ∧ ∃ k t, m₂ = (fun y => if y = x then some (.int k t) else m₀ y) ∧ P k ∧ k.toNat = n') := by
      rintro ⟨k', t', h', tk', m', news', rfl, F', N', hs, hx, hz, hp2, hlt⟩
      refine ⟨h', tk', m', nx, k'.toNat, rfl, F', fun p hp => N' p (hs p hp), hlt, rfl, k', t', ?_, hp2, rfl⟩
      funext y
      by_cases e : y = x
      · simp [e, hx]
      · simp [e, hz y e]
    cases f with
    | ret v => exact q
    | brk => exact q
    | next => exact fin q
    | cont => exact fin q
theorem WiEnd.intro {L : Addr} {news news' : List (Addr × Obj)} {m₀ m' : Str → Option Value} {P : Int → Prop} {k k' : Int} {t' : Tok} {h' : Heap} {tk' : Nat}
    (F : Fr h₀ L h' m') (N : News h₀ L h' news') (hs : ∀ p ∈ news, p ∈ news') (hx : m' x = some (.int k' t')) (hz : ∀ z, z ≠ x → m' z = m₀ z) (hp : P k') (hlt : k'.toNat < k.toNat) :
    WiEnd h₀ L news x m₀ P k s { s with heap := h', toks := tk' } := ⟨k', t', h', tk', m', news', rfl, F, N, hs, hx, hz, hp, hlt⟩
end

section
variable {prog : Program} {w : World} {A : Around} {E : Value → Shared → Prop} {s : Shared} {h₀ : Heap} {L D : Addr} {m : Str → Option Value} {rest : List (Addr × Obj)} {vs : List Value} {ns : List Int} {n : Nat} {k x : Int} {t u : Tok}
/-- xs[k] = x upon the ledger's first object -/
theorem set_hd {Q : Unit → Shared → Prop} (F : Fr h₀ L s.heap m) (N : News h₀ L s.heap ((D, listOf vs.toArray n) :: rest)) (hne : ∀ p ∈ rest, p.1 ≠ D) (hi : IntsAre vs ns) (h0 : 0 ≤ k) (h1 : k < ns.length) (hfit : k < 2 ^ 63)
    (h : ∀ h', Fr h₀ L h' m → News h₀ L h' ((D, listOf (vs.set k.toNat (.int x u)).toArray n) :: rest) → IntsAre (vs.set k.toNat (.int x u)) (ns.set k.toNat x) → Q () { s with heap := h' }) :
    wpAny (model prog w) A (setItem (.ref D) (.int k t) (.int x u)) Q E s :=
  ksa_set F N (Upd.head hne) hi h0 h1 hfit fun h' F' N' hi' _ _ => h h' F' N' hi'
end

theorem item_nat {x : Str} {i : Nat} (h : i < x.length) : Txt.item x (i : Int) = ⟨#[x.cps.getD i 0]⟩ := PySem.W.item_meets (i := (i : Int)) ⟨by omega, by omega⟩
theorem item_ne {x : Str} {i j : Nat} (hi : i < x.length) (hj : j < x.length) : ((Txt.item x (i : Int) != Txt.item x (j : Int)) = false) ↔ x.cps.toList[i]? = x.cps.toList[j]? := by
  rw [item_nat hi, item_nat hj]
  have hi' : i < x.cps.size := hi
  have hj' : j < x.cps.size := hj
  simp [hi', hj', bne, Array.getD]
theorem news_cut {h₀ h : Heap} {L D l : Addr} {o o' : Obj} {news : List (Addr × Obj)} (N : News h₀ L h ((D, o) :: (l, o') :: news)) : News h₀ L h ([(D, o)] ++ news) := fun p hp => N p (by
  rcases List.mem_append.mp hp with hp | hp
  · exact List.mem_cons.mpr (.inl (List.mem_singleton.mp hp))
  · exact .tail _ (.tail _ hp))
theorem ord_one {D : Addr} {o : Obj} {news : List (Addr × Obj)} (h : AllLt D news) : ∀ q ∈ news, ∀ p ∈ [(D, o)], q.1 < p.1 := by
  intro q hq p hp
  rw [List.mem_singleton.mp hp]
  exact kst_ltOf h q hq

section
variable {prog : Program} {w : World} {A : Around} {E : Value → Shared → Prop} {s : Shared} {env : Env} {h₀ : Heap} {x : Str} {body : List Stmt} {Q : Flow → Shared → Prop}
def WlEnd (h₀ : Heap) (L D : Addr) (rest : List (Addr × Obj)) (x : Str) (m₀ : Str → Option Value) (P : Int → List Int → Prop) (k : Int) (s : Shared) (s₂ : Shared) : Prop :=
  ∃ k' t' h' tk' m' news' vs' c' ts', s₂ = { s with heap := h', toks := tk' } ∧ Fr h₀ L h' m' ∧ News h₀ L h' news' ∧ (∀ p ∈ (D, listOf vs' c') :: rest, p ∈ news') ∧ IntsAre vs'.toList ts' ∧ m' x = some (.int k' t') ∧ (∀ z, z ≠ x → m' z = m₀ z) ∧ P k' ts' ∧ k'.toNat < k.toNat
def WlPost (h₀ : Heap) (L D : Addr) (rest : List (Addr × Obj)) (x : Str) (m₀ : Str → Option Value) (P : Int → List Int → Prop) (k : Int) (s : Shared) (Q : Flow → Shared → Prop) (f : Flow) (s₂ : Shared) : Prop :=
  match f with
  | .ret v => Q (.ret v) s₂
  | .brk => Q .next s₂
  | _ => WlEnd h₀ L D rest x m₀ P k s s₂
theorem WlEnd.intro {L D : Addr} {rest news' : List (Addr × Obj)} {m₀ m' : Str → Option Value} {P : Int → List Int → Prop} {k k' : Int} {t' : Tok} {h' : Heap} {tk' c' : Nat} {vs' : Array Value} {ts' : List Int}
    (F : Fr h₀ L h' m') (N : News h₀ L h' news') (hs : ∀ p ∈ (D, listOf vs' c') :: rest, p ∈ news') (hi : IntsAre vs'.toList ts') (hx : m' x = some (.int k' t')) (hz : ∀ z, z ≠ x → m' z = m₀ z) (hp : P k' ts') (hlt : k'.toNat < k.toNat) :
    WlEnd h₀ L D rest x m₀ P k s { s with heap := h', toks := tk' } := ⟨k', t', h', tk', m', news', vs', c', ts', rfl, F, N, hs, hi, hx, hz, hp, hlt⟩
/-- a while whose turns change one int name and the list at the ledger's head -/
theorem while_IL {L D : Addr} {c : Nat} {test : PySem.Expr} {orelse : List Stmt} {pos : Pos} {m₀ : Str → Option Value} {rest : List (Addr × Obj)} {k₀ : Int} {t₀ : Tok} {vs : Array Value} {ts : List Int} (P : Int → List Int → Prop)
    (F : Fr h₀ L s.heap (fun y => if y = x then some (.int k₀ t₀) else m₀ y)) (N : News h₀ L s.heap ((D, listOf vs c) :: rest)) (hi : IntsAre vs.toList ts) (hp : P k₀ ts)
    (turn : ∀ k t vs c ts h tk, P k ts → IntsAre vs.toList ts → Fr h₀ L h (fun y => if y = x then some (.int k t) else m₀ y) → News h₀ L h ((D, listOf vs c) :: rest) →
      wpAny (model prog w) A (isTrue test env (eval test env)) (fun b s₂ =>
        if b = true then wpAny (model prog w) A (execs body env) (WlPost h₀ L D rest x m₀ P k s Q) E s₂ else wpAny (model prog w) A (execs orelse env) Q E s₂) E { s with heap := h, toks := tk })
    (hE : PassesOwn (model prog w) A env E := by passes_own) :
    wpAny (model prog w) A (exec (.While test body orelse pos) env) Q E s := by
  refine While_else (fun n m nx => ∃ vs c ts k t, nx = (D, listOf vs c) :: rest ∧ IntsAre vs.toList ts ∧ m = (fun y => if y = x then some (.int k t) else m₀ y) ∧ P k ts ∧ k.toNat = n) F N ⟨vs, c, ts, k₀, t₀, rfl, hi, rfl, hp, rfl⟩ ?_ hE
  rintro n m₁ nx h tk F₁ N₁ ⟨vs, c, ts, k, t, rfl, hi', rfl, hp', rfl⟩
  refine wpAny_mono (turn k t vs c ts h tk hp' hi' F₁ N₁) (fun b s₂ p => ?_) fun _ _ x => x
  cases b with
  | false => exact p
  | true =>
    simp only [if_true] at p ⊢
    refine wpAny_mono p (fun f s₃ q => ?_) fun _ _ x => x
    have fin : WlEnd h₀ L D rest x m₀ P k s s₃ →
        ∃ h' tk m₂ news₂ n', s₃ = { s with heap := h', toks := tk } ∧ Fr h₀ L h' m₂ ∧ News h₀ L h' news₂ ∧ n' < k.toNat ∧ (∃ vs c ts k t, news₂ = (D, listOf vs c) :: rest ∧ IntsAre vs.toList ts ∧ m₂ = (fun y => if y = x then some (.int k t) else m₀ y) ∧ P k ts ∧ k.toNat = n') := by
      rintro ⟨k', t', h', tk', m', news', vs', c', ts', rfl, F', N', hs, hi2, hx, hz, hp2, hlt⟩
      refine ⟨h', tk', m', _, k'.toNat, rfl, F', fun p hp => N' p (hs p hp), hlt, vs', c', ts', k', t', rfl, hi2, ?_, hp2, rfl⟩
      funext y
      by_cases e : y = x
      · simp [e, hx]
      · simp [e, hz y e]
    cases f with
    | ret v => exact q
    | brk => exact q
    | next => exact fin q
    | cont => exact fin q
end
theorem ints_push {vs : Array Value} {ts : List Int} {k : Int} {t : Tok} (h : IntsAre vs.toList ts) : IntsAre (vs.push (.int k t)).toList (ts ++ [k]) := by
  rw [Array.toList_push]
  have key : ∀ {vs : List Value} {ts : List Int}, IntsAre vs ts → IntsAre (vs ++ [.int k t]) (ts ++ [k]) := by
    intro vs ts h
    induction h with
    | nil => exact .cons _ _ .nil
    | cons i t _ ih => exact .cons _ _ ih
  exact key h

theorem ints_at : ∀ {vs : List Value} {ns : List Int}, IntsAre vs ns → ∀ {j : Nat}, j < ns.length → ∃ t, vs[j]? = some (.int (ns.getD j 0) t)
  | _, _, .nil, _, h => absurd h (Nat.not_lt_zero _)
  | _, _, .cons i t _, 0, _ => ⟨t, rfl⟩
  | _, _, .cons _ _ r, j + 1, h => ints_at r (Nat.lt_of_succ_lt_succ h)
section
variable {prog : Program} {w : World} {A : Around} {E : Value → Shared → Prop} {s : Shared} {h₀ : Heap} {L D : Addr} {news : List (Addr × Obj)} {vs : List Value} {ns : List Int} {n : Nat} {u : Tok} {value slice : PySem.Expr} {Q : Value → Shared → Prop}
/-- xs[-1] of a list of ints of the ledger -/
theorem sub_last (N : News h₀ L s.heap news) (hm : (D, listOf vs.toArray n) ∈ news) (hi : IntsAre vs ns) (h0 : 0 < ns.length) (hfit : ns.length < 2 ^ 62) (h : ∀ t, Q (.int (ns.getD (ns.length - 1) 0) t) s)
    (hs : subscripted slice false (.ref D) (.int (-1) u) = operate [.ref D, .int (-1) u] (getItem (.ref D) (.int (-1) u)) := by with_unfolding_all rfl) (hg : ∀ r, letTemporaryGo value (.ref D) r = pure () := by intro _; with_unfolding_all rfl) :
    wpAny (model prog w) A (subscriptTail value slice (.ref D) (.int (-1) u)) Q E s := by
  have hl := hi.length
  obtain ⟨t, ht⟩ := ints_at hi (j := ns.length - 1) (by omega)
  refine kim_back N hm rfl rfl (by omega) (by omega) (by omega) (x := .int (ns.getD (ns.length - 1) 0) t) ?_ (h t) hs hg
  have e : (-1 + (vs.length : Int)).toNat = ns.length - 1 := by omega
  rw [e]; exact ht
end

section
variable {prog : Program} {w : World} {A : Around} {E : Value → Shared → Prop} {s : Shared} {h₀ : Heap} {L D : Addr} {m : Str → Option Value} {rest : List (Addr × Obj)} {its : Array Value} {n : Nat} {x : Value} {Q : Value → Shared → Prop}
theorem append_hd (F : Fr h₀ L s.heap m) (N : News h₀ L s.heap ((D, listOf its n) :: rest)) (hne : ∀ p ∈ rest, p.1 ≠ D) (hsz : its.size ≤ 100000) (h : ∀ h', Fr h₀ L h' m → News h₀ L h' ((D, listOf (its.push x) (n + 1)) :: rest) → Q .none { s with heap := h' }) :
    wpAny (model prog w) A (call (.builtin "list.append") [.ref D, x]) Q E s := append_K F N (Upd.head hne) h (by rw [PySem.sizeLine_eq]; omega)
end
theorem ne_lt {D : Addr} {news : List (Addr × Obj)} (h : AllLt D news) : ∀ p ∈ news, p.1 ≠ D := fun p hp => Nat.ne_of_lt (kst_ltOf h p hp)
theorem ord_one' {D : Addr} {o : Obj} {news : List (Addr × Obj)} (h : ∀ p ∈ news, p.1 < D) : ∀ q ∈ news, ∀ p ∈ [(D, o)], q.1 < p.1 := by
  intro q hq p hp
  rw [List.mem_singleton.mp hp]
  exact h q hq

section
variable {prog : Program} {w : World} {A : Around} {E : Value → Shared → Prop} {s : Shared} {env : Env} {h₀ : Heap} {x y : Str} {body : List Stmt} {Q : Flow → Shared → Prop}
def TsEnd (h₀ : Heap) (L : Addr) (led : List (Addr × Obj)) (x y : Str) (st : List Str) (m₀ : Str → Option Value) (P : Str → Prop) (s₁ s₂ : Shared) : Prop :=
  ∃ h' tk m' news' r' t', s₂ = { s₁ with heap := h', toks := tk } ∧ Fr h₀ L h' m' ∧ News h₀ L h' news' ∧ (∀ p ∈ led, p ∈ news') ∧ m' y = some (.str r' t') ∧ P r' ∧ ∀ z, z ≠ x → z ≠ y → st.contains z = false → m' z = m₀ z
theorem TsEnd.intro {L : Addr} {led news' : List (Addr × Obj)} {st : List Str} {m₀ m' : Str → Option Value} {P : Str → Prop} {s₁ : Shared} {h' : Heap} {tk : Nat} {r' : Str} {t' : Tok}
    (F : Fr h₀ L h' m') (N : News h₀ L h' news') (hs : ∀ p ∈ led, p ∈ news') (hy : m' y = some (.str r' t')) (hp : P r') (hm : ∀ z, z ≠ x → z ≠ y → st.contains z = false → m' z = m₀ z) :
    TsEnd h₀ L led x y st m₀ P s₁ { s₁ with heap := h', toks := tk } := ⟨h', tk, m', news', r', t', rfl, F, N, hs, hy, hp, hm⟩
end
section
variable {prog : Program} {w : World} {K : Frag} {p : Program} {loose : List Str} {mean : ExcName → Option Value} {mg mb : Str → Option Value} {f : Addr} {sz : Nat} {vs : List Value} {news : List (Addr × Obj)} {Out : Value → List (Addr × Obj) → Prop}
theorem Cn.use {dp un : Nat} {gd : Option (List Code)} {cn : Str} {cs : Scope} {a : Addr} {ccd : Value} {cl : List (Str × Addr)} {outer : List Env} {A₀ : Around} {base h₀ : Heap} {L : Addr} {m : Str → Option Value} {s : Shared} {Q E : Value → Shared → Prop}
    (C : Cn prog w K p loose mean mg mb f sz vs news Out) (B : Below A₀ base outer h₀) (F : Fr h₀ L s.heap m) (X : K.In h₀) (N : News h₀ L s.heap news) (T : Top p loose mean mg mb h₀) (hk : cs.kind = .function) (hd : dp + sz < recursionLimit) (hu : un + 8 * sz < cLine)
    (ret : ∀ r tl h' tk', Fr h₀ L h' m → News h₀ L h' (tl ++ news) → (∀ q ∈ news, ∀ p ∈ tl, q.1 < p.1) → Out r tl → Q r { s with heap := h', toks := tk' }) :
    wpAny (model prog w) (ktrTop dp un gd cn cs L a ccd cl outer) (call (.ref f) vs) Q E s := C dp un gd cn cs a ccd cl outer A₀ base h₀ L m s Q E B F X N T hk hd hu ret
end

section
variable {prog : Program} {w : World} {A : Around} {E : Value → Shared → Prop} {s : Shared} {h₀ : Heap} {L D : Addr} {news : List (Addr × Obj)} {vs : List Value} {ns : List Int} {n : Nat} {u : Tok} {value slice : PySem.Expr} {Q : Value → Shared → Prop}
theorem sub_atE {j k : Int} (N : News h₀ L s.heap news) (hm : (D, listOf vs.toArray n) ∈ news) (hi : IntsAre vs ns) (hk : ns.getD j.toNat 0 = k) (h0 : 0 ≤ j) (h1 : j < ns.length) (hfit : j < 2 ^ 63) (h : ∀ t, Q (.int k t) s)
    (hs : subscripted slice false (.ref D) (.int j u) = operate [.ref D, .int j u] (getItem (.ref D) (.int j u)) := by with_unfolding_all rfl) :
    wpAny (model prog w) A (subscriptTail value slice (.ref D) (.int j u)) Q E s := ksa_sub N hm hi h0 h1 hfit (fun t => hk ▸ h t) hs
end
/-- two numbers are not the same, hidden from omega -/
def NeQ (a b : Nat) : Prop := a ≠ b
theorem NeQ.out {a b : Nat} (h : NeQ a b) : a ≠ b := h
theorem neq_fold (a b : Nat) : (a ≠ b) = NeQ a b := rfl
def OffQ (D : Addr) : List (Addr × Obj) → Prop
  | [] => True
  | p :: r => NeQ p.1 D ∧ OffQ D r
theorem offq_of {D : Addr} : ∀ {l : List (Addr × Obj)}, (∀ q ∈ l, q.1 ≠ D) → OffQ D l
  | [], _ => trivial
  | _ :: _, h => ⟨h _ (.head _), offq_of fun q hq => h q (.tail _ hq)⟩
theorem offq_off1 {D : Addr} : ∀ {l : List (Addr × Obj)}, LCg.Off1 D l → OffQ D l
  | [], _ => trivial
  | _ :: _, h => ⟨h.1, offq_off1 h.2⟩
theorem nk1 (b : Nat) : b + 1 ≠ b := Nat.ne_of_gt (Nat.lt_add_of_pos_right (n := b) (k := 1) (by decide))
theorem nk2 (b : Nat) : b + 1 + 1 ≠ b := Nat.ne_of_gt (Nat.lt_add_of_pos_right (n := b) (k := 2) (by decide))
theorem nk3 (b : Nat) : b + 1 + 1 + 1 ≠ b := Nat.ne_of_gt (Nat.lt_add_of_pos_right (n := b) (k := 3) (by decide))
theorem nk4 (b : Nat) : b + 1 + 1 + 1 + 1 ≠ b := Nat.ne_of_gt (Nat.lt_add_of_pos_right (n := b) (k := 4) (by decide))
theorem nk5 (b : Nat) : b + 1 + 1 + 1 + 1 + 1 ≠ b := Nat.ne_of_gt (Nat.lt_add_of_pos_right (n := b) (k := 5) (by decide))
theorem nk6 (b : Nat) : b + 1 + 1 + 1 + 1 + 1 + 1 ≠ b := Nat.ne_of_gt (Nat.lt_add_of_pos_right (n := b) (k := 6) (by decide))
theorem n1 (i : Nat) : (1 + (i : Int) - 1).toNat = i := by omega
theorem n2 (i : Nat) : (1 + (i : Int)).toNat = i + 1 := by omega
theorem n3 (n : Nat) : ((n : Int) - 1).toNat = n - 1 := by omega
theorem n4 {n : Nat} (h : (n : Int) ≠ 0) : n - 1 + 1 = n := by omega
theorem n5 (i : Nat) : 1 + (i : Int) = ((i + 1 : Nat) : Int) := by omega
theorem n6 {a b : Nat} (h : a < b) : ((a : Int)).toNat < ((b : Int)).toNat := by omega
theorem n7 {a b : Nat} (h : b = a) : ((((a : Int) - 1).toNat : Nat) : Int) = ((b - 1 : Nat) : Int) := by omega
theorem n8 {n : Nat} (h : (n : Int) = 0) : n = 0 := by omega
theorem n9 {i n : Nat} (h : i < n - 1) : i + 1 < n := by omega
theorem n10 {n : Nat} : n ≤ n - 1 + 1 := by omega
end Mine

end -- B0

section -- B1
open PySem PySem.W PyProof.Rows PySem.Spec PySem.Calls
open Sem (wp)
open AutoSeq1 (wpAny_loadPart')
set_option maxRecDepth 100000
set_option maxHeartbeats 8000000
namespace Mine
section
variable {prog : Program} {w : World} {A : Around} {E : Value → Shared → Prop} {s : Shared}

/-- the next item of a tuple's iterator, asked by a built-in -/
theorem nextOf_tup {it t : Addr} {i : Nat} {items : Array Value} {x : Value} {Q : Value → Shared → Prop} (hit : s.heap.IsTupleIter it t i)
    (ht : s.heap.IsTuple t items) (hx : items[i]? = some x)
    (hQ : ∀ h', h'.IsTupleIter it t (i + 1) → Heap.SameBut it s.heap h' → Q x { s with heap := h' }) :
    wpAny (model prog w) A (Builtin.SmallTypes.nextOf (.ref it)) Q E s := by
  obtain ⟨o, ho, hc, hd⟩ := id hit
  obtain ⟨ol, hol, _, nl, hdl⟩ := ht
  unfold Builtin.SmallTypes.nextOf
  refine wpAny_bind (wpAny_callSpecial?_slot (name := Str.ofString "__next__") hit.typeIs F.slot_tuple_iterator_next
    (wpAny_call_entry F.slot_tuple_iterator_next hit.typeIs F.entry_tuple_iterator_next ?_ (F.args_tuple_iterator_next_1 _)))
  show wpAny _ _ (field (.ref it) 0 >>= _) _ _ s
  refine wpAny_bind (wpAny_field ho hd (x := .ref t) rfl ?_)
  show wpAny _ _ (if (Value.ref t == Value.none) = true then _ else _) _ _ s
  rw [if_neg (show ¬ ((Value.ref t == Value.none) = true) from Bool.false_ne_true)]
  show wpAny _ _ (field (.ref it) 1 >>= _) _ _ s
  refine wpAny_bind (wpAny_field ho hd (x := .int i 0) rfl ?_)
  show wpAny _ _ (seqItems? (.ref t) >>= _) _ _ s
  refine wpAny_bind (wpAny_seqItems hol hdl ?_)
  simp only [Int.toNat_natCast, hx]
  refine wpAny_bind (wpAny_setField ho hd (by simp) (wpAny_pure ⟨x, rfl, wpAny_pure (hQ _ ?_ (Heap.SameBut.update ..))⟩))
  exact ⟨_, Heap.get?_update_self _ ho (Obj.isFreed_of_fields (Obj.data_mapFields hd _)), (Obj.cls_mapFields ..).trans hc, by
    rw [Obj.data_mapFields hd]; simp [rawInt]⟩

theorem nextOf_tup_end {it t : Addr} {i : Nat} {items : Array Value} {Q : Value → Shared → Prop} (hh : A.handled = none)
    (hit : s.heap.IsTupleIter it t i) (ht : s.heap.IsTuple t items) (hx : items[i]? = none)
    (hE : ∀ h' e, Heap.ExtBut it s.heap h' → (∃ o, h'.get? e = some o ∧ o.cls = .type "StopIteration") → E (.ref e) { s with heap := h' }) :
    wpAny (model prog w) A (Builtin.SmallTypes.nextOf (.ref it)) Q E s := by
  obtain ⟨o, ho, hc, hd⟩ := id hit
  obtain ⟨ol, hol, _, nl, hdl⟩ := ht
  unfold Builtin.SmallTypes.nextOf
  refine wpAny_bind (wpAny_callSpecial?_slot (name := Str.ofString "__next__") hit.typeIs F.slot_tuple_iterator_next
    (wpAny_call_entry F.slot_tuple_iterator_next hit.typeIs F.entry_tuple_iterator_next ?_ (F.args_tuple_iterator_next_1 _)))
  show wpAny _ _ (field (.ref it) 0 >>= _) _ _ s
  refine wpAny_bind (wpAny_field ho hd (x := .ref t) rfl ?_)
  show wpAny _ _ (if (Value.ref t == Value.none) = true then _ else _) _ _ s
  rw [if_neg (show ¬ ((Value.ref t == Value.none) = true) from Bool.false_ne_true)]
  show wpAny _ _ (field (.ref it) 1 >>= _) _ _ s
  refine wpAny_bind (wpAny_field ho hd (x := .int i 0) rfl ?_)
  show wpAny _ _ (seqItems? (.ref t) >>= _) _ _ s
  refine wpAny_bind (wpAny_seqItems hol hdl ?_)
  simp only [Int.toNat_natCast, hx]
  refine wpAny_bind (wpAny_rule (wpAny_bind (wpAny_setField ho hd (by simp) ?_)))
  show wpAny _ _ (newExc (.type "StopIteration") [] >>= _) _ _ _
  refine wpAny_bind ?_
  simp only [newExc, newTuple]
  refine wpAny_bind (wpAny_newObj_type ?_ (by size_fits))
  refine wpAny_bind (m := firstArgMember _ _) (wpAny_of_eq (a := Value.none) (by first | rfl | (simp only [firstArgMember]; rfl)) ?_)
  refine wpAny_newObj_type ?_ (by size_fits)
  simp only [raiseNew]
  refine wpAny_bind (wpAny_handled ?_)
  first | rw [show A.in1.handled = none from hh] | rw [hh]
  refine wpAny_bind (wpAny_pure (wpAny_throw ?_))
  exact hE _ _ (((Heap.SameBut.update ..).extBut.push _).push _) ⟨_, Heap.get?_push_size _ rfl, rfl⟩

theorem draws_tup (hh : A.handled = none) (it t : Addr) (hne : t ≠ it) (items : Array Value) :
    Draws prog w A it [it, t] items.size (fun i v => items[i]? = some v) (fun i h => h.IsTupleIter it t i ∧ h.IsTuple t items) where
  live := fun _ _ st => let ⟨o, ho, _⟩ := st.1; ⟨o, ho⟩
  frame := fun _ _ _ st hk => ⟨st.1.at fun o e => hk it (by simp) o e, st.2.at fun o e => hk t (by simp) o e⟩
  item := fun i s Q E hi st hQ => by
    refine nextOf_tup st.1 st.2 (x := items[i]) (by simp [hi]) fun h' hit' hs' => ?_
    exact hQ _ h' s.toks (by simp [hi]) ⟨hit', st.2.extBut hs'.extBut hne⟩ hs'
  done := fun s Q E st hE => nextOf_tup_end hh st.1 st.2 (by simp) hE

theorem enum_newT (l : Addr) (items : Array Value) (n : Nat) (dct : Option Addr) (sl : Array (Option Value)) :
    Meets (Builtin.«enumerate.__new__» ⟨[.type "enumerate", .ref l], []⟩) (fun _ R s => s.heap.get? l = some { cls := .type "tuple", dict := dct, data := .seq items n, slots := sl } ∧
      R (.ok (.ret (.ref (s.heap.push { cls := .type "tuple_iterator", data := .fields #[.ref l, .int 0 0] }).objs.size)))
        { s with heap := (s.heap.push { cls := .type "tuple_iterator", data := .fields #[.ref l, .int 0 0] }).push { cls := .type "enumerate", data := .fields #[.none, .bool false, .ref s.heap.objs.size, rawInt 0, .none, .none] } }) :=
  .of_wp fun prog w A R s h => by
    obtain ⟨hp, g, d, tk, os⟩ := s; obtain ⟨hl, h⟩ := h
    have hsub := sub_enumerate
    have hL : Heap.IsTuple (Shared.heap ⟨hp, g, d, tk, os⟩) l items := ⟨_, hl, rfl, n, rfl⟩
    wp_walk using wpAny_loadPart' hl
    refine wpAny_stack_any fun st => wpAny_pure ?_
    split
    · rename_i c _ _ _ _ _
      cases (c == Value.type "enumerate")
      · wp_walk using wpAny_loadPart' hl, wpAny_pyIter_tuple hL
        exact ⟨_, rfl, h⟩
      · wp_walk using wpAny_loadPart' hl, wpAny_pyIter_tuple hL
        exact ⟨_, rfl, h⟩
    · wp_walk using wpAny_loadPart' hl, wpAny_pyIter_tuple hL
      exact ⟨_, rfl, h⟩

/-- enumerate(t) of a tuple -/
theorem call_enumT {l : Addr} {items : Array Value} {Q : Value → Shared → Prop} (hL : s.heap.IsTuple l items)
    (h : ∀ h', IsEnum h' (s.heap.objs.size + 1) s.heap.objs.size 0 .none → h'.IsTupleIter s.heap.objs.size l 0 → h'.objs.size = s.heap.objs.size + 2 →
      (∀ b o, s.heap.get? b = some o → h'.get? b = some o) → Q (.ref (s.heap.objs.size + 1)) { s with heap := h' }) :
    wpAny (model prog w) A (call (.type "enumerate") [.ref l]) Q E s := by
  obtain ⟨⟨c, dct, dt, sl⟩, hl, hc, n, hd⟩ := hL
  replace hc : c = .type "tuple" := hc
  replace hd : dt = .seq items n := hd
  subst hc hd
  refine callType_new F.called_enumerate (by decide) (F.typeCall_enumerate_1 _) (F.newCall_enumerate_1 _) (fun obj => F.args_object_init_2 obj _) F.entry_enumerate_new
    (enum_newT l items n dct sl) ⟨hl, ?_⟩
  have hz : (s.heap.push { cls := .type "tuple_iterator", data := .fields #[.ref l, .int 0 0] }).objs.size = s.heap.objs.size + 1 := Heap.size_push ..
  show _ ∧ _
  rw [hz]
  have he : IsEnum ((s.heap.push { cls := .type "tuple_iterator", data := .fields #[.ref l, .int 0 0] }).push
      { cls := .type "enumerate", data := .fields #[.none, .bool false, .ref s.heap.objs.size, rawInt 0, .none, .none] }) (s.heap.objs.size + 1) s.heap.objs.size 0 .none := by
    have := Heap.get?_push_size (s.heap.push { cls := .type "tuple_iterator", data := .fields #[.ref l, .int 0 0] })
      (o := { cls := .type "enumerate", data := .fields #[.none, .bool false, .ref s.heap.objs.size, rawInt 0, .none, .none] }) rfl
    rw [hz] at this; exact this
  refine ⟨⟨_, he, rfl⟩, h _ he ⟨_, Heap.get?_push_of_some _ (Heap.get?_push_size _ rfl), rfl, rfl⟩ (by rw [Heap.size_push, hz]) fun b o x => Heap.get?_push_of_some _ (Heap.get?_push_of_some _ x)⟩
end
end Mine

end -- B1

section -- B2
open PySem PySem.W PyProof.Rows PySem.Spec PySem.Calls
set_option maxRecDepth 100000
set_option maxHeartbeats 8000000
namespace Mine
section
variable {prog : Program} {w : World} {A : Around} {E : Value → Shared → Prop} {s : Shared} {env : Env} {h₀ : Heap} {target : PySem.Expr} {body orelse : List Stmt} {Q : Flow → Shared → Prop}

/-- a turn's end of a for over whatever gives items -/
def TjEnd (h₀ : Heap) (L : Addr) (own : List (Addr × Obj)) (adr : List Addr) (J : (Str → Option Value) → List (Addr × Obj) → Prop) (s s₃ : Shared) : Prop :=
  ∃ h' tk m' nx news', s₃ = { s with heap := h', toks := tk } ∧ Fr h₀ L h' m' ∧ News h₀ L h' news' ∧ (∀ p ∈ nx, p ∈ news') ∧ (∀ p ∈ own, p ∈ news') ∧ nx.map (·.1) = adr ∧ J m' nx
def TjPost (h₀ : Heap) (L : Addr) (own : List (Addr × Obj)) (adr : List Addr) (J : (Str → Option Value) → List (Addr × Obj) → Prop) (s : Shared) (Q : Flow → Shared → Prop) (f : Flow) (s₃ : Shared) : Prop :=
  match f with
  | .ret v => Q (.ret v) s₃
  | .brk => Q .next s₃
  | _ => TjEnd h₀ L own adr J s s₃
theorem TjEnd.intro {L : Addr} {own : List (Addr × Obj)} {adr : List Addr} {J : (Str → Option Value) → List (Addr × Obj) → Prop} {h' : Heap} {tk : Nat} {m' : Str → Option Value} {nx news' : List (Addr × Obj)}
    (F : Fr h₀ L h' m') (N : News h₀ L h' news') (hn : ∀ p ∈ nx, p ∈ news') (ho : ∀ p ∈ own, p ∈ news') (ha : nx.map (·.1) = adr) (hj : J m' nx) : TjEnd h₀ L own adr J s { s with heap := h', toks := tk } := ⟨h', tk, m', nx, news', rfl, F, N, hn, ho, ha, hj⟩
def TjAt (prog : Program) (w : World) (A : Around) (h₀ : Heap) (env : Env) (target : PySem.Expr) (body orelse : List Stmt) (Q : Flow → Shared → Prop) (E : Value → Shared → Prop) (it : Value) (s : Shared) : Prop :=
  ∃ (I : Addr) (fp wr : List Addr) (n : Nat) (P Md : Nat → Value → Heap → Prop) (St : Nat → Heap → Prop) (m : Str → Option Value) (news : List (Addr × Obj)) (J : Nat → (Str → Option Value) → List (Addr × Obj) → Prop),
    it = .ref I ∧ KTurns prog w A target I fp wr n P Md St ∧ env.locals ∉ fp ∧ (∀ b ∈ wr, h₀.get? b = none) ∧ (∀ p ∈ news, p.1 ∉ fp) ∧ St 0 s.heap ∧ Fr h₀ env.locals s.heap m ∧ News h₀ env.locals s.heap news ∧ J 0 m news ∧
    (∀ i v m₁ nx h₁ tk₁ own, i < n → P i v h₁ → J i m₁ nx → nx.map (·.1) = news.map (·.1) → OwnOff own (news.map (·.1)) → Fr h₀ env.locals h₁ m₁ → News h₀ env.locals h₁ (nx ++ own) →
      wpAny (model prog w) A (assign target env v) (fun _ s₂ => wpAny (model prog w) A (execs body env) (TjPost h₀ env.locals own (news.map (·.1)) (J (i + 1)) s Q) E s₂) E { s with heap := h₁, toks := tk₁ }) ∧
    ∀ h' tk m' nx, Fr h₀ env.locals h' m' → News h₀ env.locals h' nx → J n m' nx → wpAny (model prog w) A (execs orelse env) Q E { s with heap := h', toks := tk }

theorem for_tj {iter : PySem.Expr} {pos : Pos} {m₀ : Str → Option Value} (_F : Fr h₀ env.locals s.heap m₀)
    (h : wpAny (model prog w) A (eval iter env) (fun xv s₁ => wpAny (model prog w) A (pyIter xv) (fun it s₂ => TjAt prog w A h₀ env target body orelse Q E it s₂) E s₁) E s)
    (hs : ∀ x, foldedSetIterable iter env x = pure x := by intro _; rfl)
    (hE : PassesOwn (model prog w) A env E := by passes_own) :
    wpAny (model prog w) A (exec (.For target iter body orelse pos) env) Q E s := by
  refine wpAny_For (wpAny_mono h (fun xv s₁ h₁ => wpAny_mono h₁ (fun it s₂ h₂ => ?_) fun _ _ e => e) fun _ _ e => e) hs
  obtain ⟨I, fp, wr, n, P, Md, St, m, news, J, rfl, W, hLf, hwr, hnf, hst, F, N, h0, step, done⟩ := h₂
  have hLw : env.locals ∉ wr := fun h => hLf (W.sub _ h)
  have old : ∀ b o, h₀.get? b = some o → b ∉ wr := fun b o e hb => by rw [hwr b hb] at e; cases e
  refine codeAny_forLoop_any (R := fun r s' => match r with | .ok f => Q f s' | .error e => cameBackBy (model prog w) A env E e s')
    (fun k s' => ∃ h' tk m' nx i, s' = { s₂ with heap := h', toks := tk } ∧ St i h' ∧ Fr h₀ env.locals h' m' ∧ News h₀ env.locals h' nx ∧ nx.map (·.1) = news.map (·.1) ∧ J i m' nx ∧ i ≤ n ∧ k = n + 1 - i) ?_ (n + 1)
    ⟨s₂.heap, s₂.toks, m, news, 0, rfl, hst, F, N, rfl, h0, Nat.zero_le _, rfl⟩
  rintro k s' ⟨h', tk, m', nx, i, rfl, hst', F', N', hadr, hJ, hi, rfl⟩
  have hoff : ∀ p ∈ nx, p.1 ∉ fp := fun p hp => by
    have h1 : p.1 ∈ nx.map (·.1) := List.mem_map.mpr ⟨p, hp, rfl⟩
    rw [hadr] at h1
    obtain ⟨q, hq, e⟩ := List.mem_map.mp h1
    rw [← e]; exact hnf q hq
  have next : ∀ h₁ : Heap, (∀ b o, b ∉ wr → h'.get? b = some o → h₁.get? b = some o) → Fr h₀ env.locals h₁ m' ∧ News h₀ env.locals h₁ nx := fun h₁ hk₁ =>
    ⟨⟨F'.ns.at' fun o e => hk₁ _ o hLw e, fun b o e => hk₁ b o (old b o e) (F'.keep b o e), F'.above⟩, fun p hp => ⟨hk₁ _ _ (fun hb => hoff p hp (W.sub _ hb)) (N' p hp).1, (N' p hp).2⟩⟩
  by_cases hlt : i < n
  · refine W.item i _ _ _ hlt hst' fun v h₁ tk₁ hMd hk₁ => ?_
    refine W.go i v _ _ _ hMd fun h₂ hP hst₂ hk₂ => ?_
    obtain ⟨F₂, N₂⟩ := next h₂ fun b o hb x => hk₂ b o hb (hk₁ b o hb x)
    have Nown : News h₀ env.locals h₂ (PyProof.Rows.ownOf h₀ fp h₂) := news_ownOf hLf
    have N₃ : News h₀ env.locals h₂ (nx ++ PyProof.Rows.ownOf h₀ fp h₂) := fun p hp => (List.mem_append.mp hp).elim (N₂ p) (Nown p)
    have hsep : OwnOff (PyProof.Rows.ownOf h₀ fp h₂) (news.map (·.1)) := by
      intro p hp b hb e
      obtain ⟨q, hq, rfl⟩ := List.mem_map.mp hb
      exact hnf q hq (e ▸ ownOf_sub p hp)
    refine wpAny_mono (wpAny_passesOwn hE (wpAny_mono (step i v m' nx h₂ tk₁ (PyProof.Rows.ownOf h₀ fp h₂) hlt hP hJ hadr hsep F₂ N₃) (fun _ s₂' h₂' => wpAny_passesOwn hE h₂') fun _ _ e => e)) (fun _ s₂' h₂' => wpAny_mono h₂' (fun f s₃ h₃ => ?_) fun _ _ e => e) fun _ _ e => e
    have fin : TjEnd h₀ env.locals (PyProof.Rows.ownOf h₀ fp h₂) (news.map (·.1)) (J (i + 1)) s₂ s₃ → ∃ m, m < n + 1 - i ∧ ∃ h' tk m' nx i, s₃ = { s₂ with heap := h', toks := tk } ∧ St i h' ∧ Fr h₀ env.locals h' m' ∧ News h₀ env.locals h' nx ∧ nx.map (·.1) = news.map (·.1) ∧ J i m' nx ∧ i ≤ n ∧ m = n + 1 - i := by
      rintro ⟨h₃', tk₃, m₃, nx₃, news₃, rfl, F₃, N₃', hn₃, ho₃, ha₃, hJ₃⟩
      refine ⟨n + 1 - (i + 1), by omega, h₃', tk₃, m₃, nx₃, i + 1, rfl, ?_, F₃, fun p hp => N₃' p (hn₃ p hp), ha₃, hJ₃, hlt, rfl⟩
      refine W.frame _ _ _ hst₂ fun b hb o e => ?_
      cases hn : h₀.get? b with
      | some o₀ =>
        have : o₀ = o := by have q := F₂.keep b o₀ hn; rw [e] at q; exact (Option.some.inj q).symm
        exact this ▸ F₃.keep b o₀ hn
      | none => exact (N₃' _ (ho₃ _ (mem_ownOf hb hn e))).1
    cases f with
    | ret v => exact h₃
    | brk => exact h₃
    | cont => exact fin h₃
    | next => exact fin h₃
  · have hin : i = n := by omega
    subst hin
    refine W.done _ _ _ hst' fun h₁ tk₁ hk₁ => ?_
    obtain ⟨F₁, N₁⟩ := next h₁ hk₁
    exact wpAny_mono (wpAny_passesOwn hE (done h₁ tk₁ m' nx F₁ N₁ hJ)) (fun _ _ x => x) fun _ _ e => e

/-- over enumerate of a tuple of the top -/
theorem tj_enumT {elts : List PySem.Expr} {kk : Nat} {tpos : Pos} {l : Addr} {items : Array Value} {m₀ : Str → Option Value} {news : List (Addr × Obj)} (J : Nat → (Str → Option Value) → List (Addr × Obj) → Prop)
    (hh : A.handled = none) (hl : h₀.IsTuple l items) (F : Fr h₀ env.locals s.heap m₀) (N : News h₀ env.locals s.heap news) (hj : J 0 m₀ news)
    (turn : ∀ (i : Nat) T t x m nx h tk own, i < items.size → items[i]? = some x → h.IsTuple T #[.int (i : Int) t, x] → J i m nx → nx.map (·.1) = news.map (·.1) → OwnOff own (news.map (·.1)) → Fr h₀ env.locals h m → News h₀ env.locals h (nx ++ own) →
      wpAny (model prog w) A (assign (.Tuple elts kk tpos) env (.ref T)) (fun _ s₂ => wpAny (model prog w) A (execs body env) (TjPost h₀ env.locals own (news.map (·.1)) (J (i + 1)) s Q) E s₂) E { s with heap := h, toks := tk })
    (done : ∀ h tk m nx, Fr h₀ env.locals h m → News h₀ env.locals h nx → J items.size m nx → wpAny (model prog w) A (execs orelse env) Q E { s with heap := h, toks := tk }) :
    wpAny (model prog w) A (call (.type "enumerate") [.ref l]) (fun xv s₁ => wpAny (model prog w) A (pyIter xv) (fun it s₂ => TjAt prog w A h₀ env (.Tuple elts kk tpos) body orelse Q E it s₂) E s₁) E s := by
  have hls : s.heap.IsTuple l items := let ⟨o, ho, r⟩ := hl; ⟨o, F.keep _ _ ho, r⟩
  have hlt : l < h₀.objs.size := let ⟨_, ho, _⟩ := hl; Heap.lt_size ho
  have hLs : env.locals < s.heap.objs.size := F.ns.lt
  have hls' : l < s.heap.objs.size := let ⟨_, ho, _⟩ := hls; Heap.lt_size ho
  have hlL : l ≠ env.locals := Nat.ne_of_lt (Nat.lt_of_lt_of_le hlt F.above)
  refine call_enumT hls fun h' hE hI hsz hk => ?_
  refine wpAny_pyIter_enum hE ?_
  have D := draws_tup (prog := prog) (w := w) (A := A.in1) hh s.heap.objs.size l (Nat.ne_of_lt hls') items
  have W := KTurns.ofWalksU (elts := elts) (k := kk) (pos := tpos) (WalksT.enumerateD D (s.heap.objs.size + 1) (Nat.succ_ne_self _) (by
    intro hm
    rcases List.mem_cons.mp hm with e | hm
    · exact Nat.succ_ne_self _ e
    · have e := List.mem_singleton.mp hm
      rw [← e] at hls'
      exact Nat.lt_irrefl _ (Nat.lt_trans (Nat.lt_succ_self _) hls')) (by simp)).toU
  refine ⟨_, _, _, items.size, _, _, _, m₀, news, J, rfl, W, ?_, ?_, ?_, ⟨⟨_, hE⟩, hI, let ⟨o, ho, r⟩ := hls; ⟨o, hk _ _ ho, r⟩⟩, F.keeps hk, N.grown hk, hj, ?_, ?_⟩
  · intro hm
    simp only [List.mem_cons, List.not_mem_nil, or_false] at hm
    rcases hm with e | e | e
    · rw [e] at hLs; exact Nat.lt_irrefl _ (Nat.lt_trans (Nat.lt_succ_self _) hLs)
    · rw [e] at hLs; exact Nat.lt_irrefl _ hLs
    · exact hlL e.symm
  · intro b hb
    simp only [List.mem_cons, List.not_mem_nil, or_false] at hb
    rcases hb with rfl | rfl
    · exact ktu_new F (Nat.le_add_right _ _)
    · exact ktu_new F (Nat.le_refl _)
  · intro p hp hm
    have hlp := Heap.lt_size (N p hp).1
    simp only [List.mem_cons, List.not_mem_nil, or_false] at hm
    rcases hm with e | e | e
    · rw [e] at hlp; exact Nat.lt_irrefl _ (Nat.lt_trans (Nat.lt_succ_self _) hlp)
    · rw [e] at hlp; exact Nat.lt_irrefl _ hlp
    · obtain ⟨o, ho, _⟩ := hl
      have := (N p hp).2.2
      rw [e, ho] at this; cases this
  · rintro i v m₁ nx h₁ tk₁ own hin ⟨T, vals, rfl, ⟨t, x, hx, rfl⟩, hT⟩ hJ ha ho F₁ N₁
    exact turn i T t x m₁ nx h₁ tk₁ own hin hx hT hJ ha ho F₁ N₁
  · intro h₁ tk₁ m₁ nx F₁ N₁ hJ
    exact done h₁ tk₁ m₁ nx F₁ N₁ hJ

/-- over a tuple of the top -/
theorem tj_tup {l : Addr} {items : Array Value} {m₀ : Str → Option Value} {news : List (Addr × Obj)} (J : Nat → (Str → Option Value) → List (Addr × Obj) → Prop)
    (hh : A.handled = none) (hl : h₀.IsTuple l items) (F : Fr h₀ env.locals s.heap m₀) (N : News h₀ env.locals s.heap news) (hj : J 0 m₀ news)
    (turn : ∀ (i : Nat) x m nx h tk own, i < items.size → items[i]? = some x → J i m nx → nx.map (·.1) = news.map (·.1) → OwnOff own (news.map (·.1)) → Fr h₀ env.locals h m → News h₀ env.locals h (nx ++ own) →
      wpAny (model prog w) A (assign target env x) (fun _ s₂ => wpAny (model prog w) A (execs body env) (TjPost h₀ env.locals own (news.map (·.1)) (J (i + 1)) s Q) E s₂) E { s with heap := h, toks := tk })
    (done : ∀ h tk m nx, Fr h₀ env.locals h m → News h₀ env.locals h nx → J items.size m nx → wpAny (model prog w) A (execs orelse env) Q E { s with heap := h, toks := tk }) :
    wpAny (model prog w) A (pyIter (.ref l)) (fun it s₂ => TjAt prog w A h₀ env target body orelse Q E it s₂) E s := by
  have hls : s.heap.IsTuple l items := let ⟨o, ho, r⟩ := hl; ⟨o, F.keep _ _ ho, r⟩
  have hlt : l < h₀.objs.size := let ⟨_, ho, _⟩ := hl; Heap.lt_size ho
  have hLs : env.locals < s.heap.objs.size := F.ns.lt
  have hls' : l < s.heap.objs.size := let ⟨_, ho, _⟩ := hls; Heap.lt_size ho
  have hlL : l ≠ env.locals := Nat.ne_of_lt (Nat.lt_of_lt_of_le hlt F.above)
  refine wpAny_pyIter_tuple hls ?_
  refine ⟨_, _, _, items.size, _, _, _, m₀, news, J, rfl, KTurns.ofWalks (Walks.tuple hh s.heap.objs.size l (Nat.ne_of_lt hls') items) (fun i v s Q E st q => letGo_tupleiter st.1 q), ?_, ?_, ?_, ⟨⟨_, Heap.get?_push_size _ rfl, rfl, rfl⟩, hls.push _⟩, F.push _, (fun p hp => ⟨Heap.get?_push_of_some _ (N p hp).1, (N p hp).2⟩), hj, ?_, ?_⟩
  · intro hm
    simp only [List.mem_cons, List.not_mem_nil, or_false] at hm
    rcases hm with e | e
    · rw [e] at hLs; exact Nat.lt_irrefl _ hLs
    · exact hlL e.symm
  · intro b hb
    rw [List.mem_singleton.mp hb]
    exact ktu_new F (Nat.le_refl _)
  · intro p hp hm
    have hlp := Heap.lt_size (N p hp).1
    simp only [List.mem_cons, List.not_mem_nil, or_false] at hm
    rcases hm with e | e
    · rw [e] at hlp; exact Nat.lt_irrefl _ hlp
    · obtain ⟨o, ho, _⟩ := hl
      have := (N p hp).2.2
      rw [e, ho] at this; cases this
  · intro i v m₁ nx h₁ tk₁ own hin hx hJ ha ho F₁ N₁
    exact turn i v m₁ nx h₁ tk₁ own hin hx hJ ha ho F₁ N₁
  · intro h₁ tk₁ m₁ nx F₁ N₁ hJ
    exact done h₁ tk₁ m₁ nx F₁ N₁ hJ

end
end Mine

end -- B2

section -- B3
open PySem PySem.W PyProof.Rows PySem.Spec PySem.Calls
set_option maxRecDepth 100000
set_option maxHeartbeats 8000000
namespace Mine
theorem toArr_cps (l : List Nat) : (Str.mk l.toArray).cps.toList = l := rfl
theorem cps_len (x : Str) : x.cps.toList.length = x.length := by simp [Str.length]
theorem slice_from_list {x : Str} {i : Int} (h0 : 0 ≤ i) : (Txt.slice x (some i) none).cps.toList = x.cps.toList.drop i.toNat := by
  by_cases h : i ≤ x.length
  · rw [slice_from_eq h0 h rfl, toArr_cps, List.take_of_length_le]
    rw [List.length_drop, cps_len]; omega
  · rw [slice_from_beyond (by omega), List.drop_of_length_le (by rw [cps_len]; omega)]
theorem slice_to_list {x : Str} {j : Int} (h0 : 0 ≤ j) : (Txt.slice x none (some j)).cps.toList = x.cps.toList.take j.toNat := by
  by_cases h : j ≤ x.length
  · rw [eq_of_beq (slice_closes_toL h0 h), toArr_cps]
    simp
  · rw [slice_to_beyond (by omega), eq_of_beq (slice_closes_toL (by omega) (Int.le_refl _)), toArr_cps]
    have e : ((x.length : Int) - 0).toNat = x.cps.toList.length := by rw [cps_len]; omega
    rw [e, show (0 : Int).toNat = 0 from rfl, List.drop_zero, List.take_length, List.take_of_length_le (by rw [cps_len]; omega)]
theorem slice_ft_list {x : Str} {i j : Int} (h0 : 0 ≤ i) (h1 : i ≤ j) (h2 : j ≤ x.length) : (Txt.slice x (some i) (some j)).cps.toList = (x.cps.toList.drop i.toNat).take (j - i).toNat := by
  rw [eq_of_beq (slice_closesL h0 h1 h2), toArr_cps]
section
variable {prog : Program} {w : World} {A : Around} {E : Value → Shared → Prop} {s : Shared} {value slice : PySem.Expr} {x y : Str} {t u : Tok} {h₀ : Heap} {L : Addr} {m : Str → Option Value} {news : List (Addr × Obj)} {Q : Value → Shared → Prop}
theorem str_add (hs : x.length + y.length ≤ 100000) (h : ∀ (z : Str) t' k, z.cps.toList = x.cps.toList ++ y.cps.toList → z.length = x.length + y.length → Q (.str z t') { s with toks := k }) :
    wpAny (model prog w) A (binaryOp .Add (.str x t) (.str y u)) Q E s :=
  PyProof.Rows.add_str (fun t' tk => h (x ++ y) t' tk (by rw [Str.cps_append, Array.toList_append]) (Str.length_append x y)) (by rw [PySem.sizeLine_eq]; omega)
theorem str_from {i : Int} {ui : Tok} (hF : Fr h₀ L s.heap m) (hN : News h₀ L s.heap news) (hi : 0 ≤ i) (hsz : x.length ≤ 100000) (h : ∀ (z : Str) h' t' c, z.cps.toList = x.cps.toList.drop i.toNat → z.length = x.length - i.toNat → Fr h₀ L h' m → News h₀ L h' news → Q (.str z t') { s with heap := h', toks := c })
    (hs : subscripted slice false (.str x t) (.ref s.heap.objs.size) = operate [.ref s.heap.objs.size, .str x t] (getItem (.str x t) (.ref s.heap.objs.size)) := by with_unfolding_all rfl)
    (ht : ∀ r, letTemporaryGo value (.str x t) r = pure () := by intro _; with_unfolding_all rfl) :
    wpAny (model prog w) A (subscriptTail value slice (.str x t) (.ref s.heap.objs.size)) Q E { s with heap := s.heap.push { cls := .type "slice", data := .fields #[.int i ui, .none, .none] } } :=
  slice_strN_sn hF hN (fun h' t' c F N => h _ h' t' c (slice_from_list hi) (by rw [← cps_len, slice_from_list hi, List.length_drop, cps_len]) F N) hs ht (by rw [PySem.sizeLine_eq]; omega)
theorem str_to {j : Int} {uj : Tok} (hF : Fr h₀ L s.heap m) (hN : News h₀ L s.heap news) (hj : 0 ≤ j) (hsz : x.length ≤ 100000) (h : ∀ (z : Str) h' t' c, z.cps.toList = x.cps.toList.take j.toNat → z.length = min j.toNat x.length → Fr h₀ L h' m → News h₀ L h' news → Q (.str z t') { s with heap := h', toks := c })
    (hs : subscripted slice false (.str x t) (.ref s.heap.objs.size) = operate [.ref s.heap.objs.size, .str x t] (getItem (.str x t) (.ref s.heap.objs.size)) := by with_unfolding_all rfl)
    (ht : ∀ r, letTemporaryGo value (.str x t) r = pure () := by intro _; with_unfolding_all rfl) :
    wpAny (model prog w) A (subscriptTail value slice (.str x t) (.ref s.heap.objs.size)) Q E { s with heap := s.heap.push { cls := .type "slice", data := .fields #[.none, .int j uj, .none] } } :=
  slice_strN_ns hF hN (fun h' t' c F N => h _ h' t' c (slice_to_list hj) (by rw [← cps_len, slice_to_list hj, List.length_take, cps_len]) F N) hs ht (by rw [PySem.sizeLine_eq]; omega)
theorem str_ft {i j : Int} {ui uj : Tok} (hF : Fr h₀ L s.heap m) (hN : News h₀ L s.heap news) (hi : 0 ≤ i) (hij : i ≤ j) (hj : j ≤ x.length) (hsz : x.length ≤ 100000) (h : ∀ (z : Str) h' t' c, z.cps.toList = (x.cps.toList.drop i.toNat).take (j - i).toNat → z.length = (j - i).toNat → Fr h₀ L h' m → News h₀ L h' news → Q (.str z t') { s with heap := h', toks := c })
    (hs : subscripted slice false (.str x t) (.ref s.heap.objs.size) = operate [.ref s.heap.objs.size, .str x t] (getItem (.str x t) (.ref s.heap.objs.size)) := by with_unfolding_all rfl)
    (ht : ∀ r, letTemporaryGo value (.str x t) r = pure () := by intro _; with_unfolding_all rfl) :
    wpAny (model prog w) A (subscriptTail value slice (.str x t) (.ref s.heap.objs.size)) Q E { s with heap := s.heap.push { cls := .type "slice", data := .fields #[.int i ui, .int j uj, .none] } } :=
  slice_strN_ss hF hN (fun h' t' c F N => h _ h' t' c (slice_ft_list hi hij hj) (by rw [← cps_len, slice_ft_list hi hij hj, List.length_take, List.length_drop, cps_len]; omega) F N) hs ht (by rw [PySem.sizeLine_eq]; omega)
end
end Mine

end -- B3

section -- B4
open PySem PySem.W PyProof.Rows PySem.Spec PySem.Calls
set_option maxRecDepth 100000
set_option maxHeartbeats 8000000
namespace Mine
theorem ints_any : ∀ {ys : List Value}, (∀ v ∈ ys, ∃ k t, v = Value.int k t) → ∃ ns, IntsAre ys ns
  | [], _ => ⟨[], .nil⟩
  | v :: r, h => by
    obtain ⟨k, t, e⟩ := h v List.mem_cons_self
    obtain ⟨ns, hns⟩ := ints_any fun v hv => h v (.tail _ hv)
    exact ⟨k :: ns, e ▸ .cons k t hns⟩
theorem pick_ints {vs : List Value} {ns : List Int} {lo hi st : Option Int} (h : IntsAre vs ns) : ∃ ms, IntsAre (slicePick vs.toArray lo hi st).toList ms := by
  refine ints_any fun v hv => ?_
  unfold slicePick at hv
  rw [List.mem_filterMap] at hv
  obtain ⟨i, _, hi⟩ := hv
  have hi' : vs[i]? = some v := by simpa using hi
  obtain ⟨n, t, e, _⟩ := h.at i v hi'
  exact ⟨n, t, e⟩
section
variable {prog : Program} {w : World} {A : Around} {E : Value → Shared → Prop} {s : Shared} {h₀ : Heap} {L D : Addr} {m : Str → Option Value} {news : List (Addr × Obj)} {vs : List Value} {ns : List Int} {n : Nat} {Q : Value → Shared → Prop}
theorem sum_pick {lo hi st : Option Int} (hh : A.handled = none) (F : Fr h₀ L s.heap m) (N : News h₀ L s.heap ((D, ({ cls := .type "list", data := .seq (slicePick vs.toArray lo hi st) n } : Obj)) :: news)) (hi' : IntsAre vs ns)
    (h : ∀ (k : Int) h' tk t', Fr h₀ L h' m → News h₀ L h' news → Q (.int k t') { s with heap := h', toks := tk }) :
    wpAny (model prog w) A (call (.builtin "sum") [.ref D]) Q E s := by
  obtain ⟨ms, hms⟩ := pick_ints (lo := lo) (hi := hi) (st := st) hi'
  have hL : s.heap.IsList D (slicePick vs.toArray lo hi st).toList.toArray := ⟨_, (N _ List.mem_cons_self).1, rfl, n, rfl⟩
  exact sumK hh F N hL hms fun h' tk t' F' N' => h _ h' tk t' F' fun p hp => N' p (.tail _ hp)
end
section
variable {prog : Program} {w : World} {A : Around} {E : Value → Shared → Prop} {s : Shared} {env : Env} {h₀ : Heap} {target : PySem.Expr} {body orelse : List Stmt} {Q : Flow → Shared → Prop}
end
section
variable {prog : Program} {w : World} {A : Around} {E : Value → Shared → Prop} {s : Shared} {Q : Value → Shared → Prop}
theorem cmp_same {x : Str} {t u : Tok} (h : Q (.bool false) s) : wpAny (model prog w) A (compareOp .NotEq (.str x t) (.str x u)) Q E s := ne_str (by rw [bne_self_eq_false]; exact h)
end
end Mine

end -- B4

section -- P1
open PySem PySem.W PyProof.Rows
set_option maxRecDepth 100000
namespace Mine
theorem filt_fold (p : Int → Bool) : ∀ (l acc : List Int), l.foldl (fun l j => if p j = true then l ++ [j] else l) acc = acc ++ l.filter p
  | [], acc => by simp
  | a :: l, acc => by
    rw [List.foldl_cons, filt_fold p l]
    by_cases h : p a = true
    · simp [h]
    · simp [h]
end Mine

end -- P1

local macro_rules | `(tactic| k_mem) => `(tactic| first | exact List.mem_cons_self | with_reducible assumption | (refine List.mem_cons_of_mem _ ?_; k_mem))
local macro_rules | `(tactic| walk_at "TjPost") => `(tactic| (dsimp only [Mine.TjPost]))
section -- U3a
open PySem PySem.W PyProof.Rows PySem.Spec PySem.Calls
set_option maxRecDepth 100000
set_option maxHeartbeats 8000000
set_option pp.deepTerms false
set_option pp.deepTerms.threshold 8
set_option pp.proofs.threshold 2
namespace Mine
/-- walk until a loop -/
local macro_rules | `(tactic| k_room) => `(tactic| ktr_room)

def pick (idx mode : Int) : List (Int × Str) → Str
  | [] => if idx = 0 then Str.ofString "?" else Str.ofString "-"
  | (b, c) :: r => if (if idx = 0 then Builtin.bitAnd mode 61440 = b else Builtin.bitAnd mode b = b) then c else pick idx mode r
def ftab : Nat → List (Int × Str)
  | 0 => [(40960, Str.ofString "l"), (49152, Str.ofString "s"), (32768, Str.ofString "-"), (24576, Str.ofString "b"), (16384, Str.ofString "d"), (8192, Str.ofString "c"), (4096, Str.ofString "p")]
  | 1 => [(256, Str.ofString "r")]
  | 2 => [(128, Str.ofString "w")]
  | 3 => [(2112, Str.ofString "s"), (2048, Str.ofString "S"), (64, Str.ofString "x")]
  | 4 => [(32, Str.ofString "r")]
  | 5 => [(16, Str.ofString "w")]
  | 6 => [(1032, Str.ofString "s"), (1024, Str.ofString "S"), (8, Str.ofString "x")]
  | 7 => [(4, Str.ofString "r")]
  | 8 => [(2, Str.ofString "w")]
  | _ => [(513, Str.ofString "t"), (512, Str.ofString "T"), (1, Str.ofString "x")]
def fmSign (mode : Int) (i : Nat) : Str := pick (i : Int) mode (ftab i)
def fmSigns (mode : Int) (i : Nat) : List Str := (List.range i).map (fmSign mode)
def fmStored : List Str := [Str.ofString "index", Str.ofString "table", Str.ofString "bit", Str.ofString "char"]
def FmRow (g : Heap) (i : Nat) (x : Value) : Prop := ∃ (a : Addr) (its : Array Value), x = Value.ref a ∧ g.IsTuple a its ∧ its.size = (ftab i).length ∧
  ∀ (k : Nat) (v : Value), its[k]? = some v → ∃ b bt ch ct q, v = Value.ref q ∧ g.IsTuple q #[.int b bt, .str ch ct] ∧ (ftab i)[k]? = some (b, ch)
def fmItems : Array Value := #[Value.ref 36, Value.ref 38, Value.ref 40, Value.ref 44, Value.ref 46, Value.ref 48, Value.ref 52, Value.ref 54, Value.ref 56, Value.ref 60]
theorem fm_rows {w : World} {g : Heap} (hrow : PySem.Challenge.rw_tv0022_01.prog = PySem.Challenge.rw_tv0022_01.prog) (X : (hd1.heap_39 w.params).In g) {i : Nat} {x : Value} (hx : fmItems[i]? = some x) : FmRow g i x := by
  revert hrow X
  k_fill
  intro hrow X
  have hin : i < 10 := by
    rcases Array.getElem?_eq_some_iff.mp hx with ⟨q, _⟩
    exact q
  have hex : x = fmItems.getD i .none := by
    rw [Array.getD_eq_getD_getElem?, hx]; rfl
  clear hx
  subst hex
  have hc : i = 0 ∨ i = 1 ∨ i = 2 ∨ i = 3 ∨ i = 4 ∨ i = 5 ∨ i = 6 ∨ i = 7 ∨ i = 8 ∨ i = 9 := by omega
  rcases hc with rfl | rfl | rfl | rfl | rfl | rfl | rfl | rfl | rfl | rfl
  · have ho := X 36 _ (by k_is)
    have h29 := X 29 _ (by k_is)
    have h30 := X 30 _ (by k_is)
    have h31 := X 31 _ (by k_is)
    have h32 := X 32 _ (by k_is)
    have h33 := X 33 _ (by k_is)
    have h34 := X 34 _ (by k_is)
    have h35 := X 35 _ (by k_is)
    refine ⟨_, _, rfl, ⟨_, ho, rfl, _, rfl⟩, rfl, fun k v hv => ?_⟩
    have hk : k < 7 := (Array.getElem?_eq_some_iff.mp hv).1
    have hc : k = 0 ∨ k = 1 ∨ k = 2 ∨ k = 3 ∨ k = 4 ∨ k = 5 ∨ k = 6 := by omega
    rcases hc with rfl | rfl | rfl | rfl | rfl | rfl | rfl
    · obtain rfl := Option.some.inj hv
      exact ⟨_, _, _, _, _, rfl, ⟨_, h29, rfl, _, rfl⟩, rfl⟩
    · obtain rfl := Option.some.inj hv
      exact ⟨_, _, _, _, _, rfl, ⟨_, h30, rfl, _, rfl⟩, rfl⟩
    · obtain rfl := Option.some.inj hv
      exact ⟨_, _, _, _, _, rfl, ⟨_, h31, rfl, _, rfl⟩, rfl⟩
    · obtain rfl := Option.some.inj hv
      exact ⟨_, _, _, _, _, rfl, ⟨_, h32, rfl, _, rfl⟩, rfl⟩
    · obtain rfl := Option.some.inj hv
      exact ⟨_, _, _, _, _, rfl, ⟨_, h33, rfl, _, rfl⟩, rfl⟩
    · obtain rfl := Option.some.inj hv
      exact ⟨_, _, _, _, _, rfl, ⟨_, h34, rfl, _, rfl⟩, rfl⟩
    · obtain rfl := Option.some.inj hv
      exact ⟨_, _, _, _, _, rfl, ⟨_, h35, rfl, _, rfl⟩, rfl⟩
  · have ho := X 38 _ (by k_is)
    have h37 := X 37 _ (by k_is)
    refine ⟨_, _, rfl, ⟨_, ho, rfl, _, rfl⟩, rfl, fun k v hv => ?_⟩
    have hk : k < 1 := (Array.getElem?_eq_some_iff.mp hv).1
    obtain rfl : k = 0 := by omega
    obtain rfl := Option.some.inj hv
    exact ⟨_, _, _, _, _, rfl, ⟨_, h37, rfl, _, rfl⟩, rfl⟩
  · have ho := X 40 _ (by k_is)
    have h39 := X 39 _ (by k_is)
    refine ⟨_, _, rfl, ⟨_, ho, rfl, _, rfl⟩, rfl, fun k v hv => ?_⟩
    have hk : k < 1 := (Array.getElem?_eq_some_iff.mp hv).1
    obtain rfl : k = 0 := by omega
    obtain rfl := Option.some.inj hv
    exact ⟨_, _, _, _, _, rfl, ⟨_, h39, rfl, _, rfl⟩, rfl⟩
  · have ho := X 44 _ (by k_is)
    have h41 := X 41 _ (by k_is)
    have h42 := X 42 _ (by k_is)
    have h43 := X 43 _ (by k_is)
    refine ⟨_, _, rfl, ⟨_, ho, rfl, _, rfl⟩, rfl, fun k v hv => ?_⟩
    have hk : k < 3 := (Array.getElem?_eq_some_iff.mp hv).1
    have hc : k = 0 ∨ k = 1 ∨ k = 2 := by omega
    rcases hc with rfl | rfl | rfl
    · obtain rfl := Option.some.inj hv
      exact ⟨_, _, _, _, _, rfl, ⟨_, h41, rfl, _, rfl⟩, rfl⟩
    · obtain rfl := Option.some.inj hv
      exact ⟨_, _, _, _, _, rfl, ⟨_, h42, rfl, _, rfl⟩, rfl⟩
    · obtain rfl := Option.some.inj hv
      exact ⟨_, _, _, _, _, rfl, ⟨_, h43, rfl, _, rfl⟩, rfl⟩
  · have ho := X 46 _ (by k_is)
    have h45 := X 45 _ (by k_is)
    refine ⟨_, _, rfl, ⟨_, ho, rfl, _, rfl⟩, rfl, fun k v hv => ?_⟩
    have hk : k < 1 := (Array.getElem?_eq_some_iff.mp hv).1
    obtain rfl : k = 0 := by omega
    obtain rfl := Option.some.inj hv
    exact ⟨_, _, _, _, _, rfl, ⟨_, h45, rfl, _, rfl⟩, rfl⟩
  · have ho := X 48 _ (by k_is)
    have h47 := X 47 _ (by k_is)
    refine ⟨_, _, rfl, ⟨_, ho, rfl, _, rfl⟩, rfl, fun k v hv => ?_⟩
    have hk : k < 1 := (Array.getElem?_eq_some_iff.mp hv).1
    obtain rfl : k = 0 := by omega
    obtain rfl := Option.some.inj hv
    exact ⟨_, _, _, _, _, rfl, ⟨_, h47, rfl, _, rfl⟩, rfl⟩
  · have ho := X 52 _ (by k_is)
    have h49 := X 49 _ (by k_is)
    have h50 := X 50 _ (by k_is)
    have h51 := X 51 _ (by k_is)
    refine ⟨_, _, rfl, ⟨_, ho, rfl, _, rfl⟩, rfl, fun k v hv => ?_⟩
    have hk : k < 3 := (Array.getElem?_eq_some_iff.mp hv).1
    have hc : k = 0 ∨ k = 1 ∨ k = 2 := by omega
    rcases hc with rfl | rfl | rfl
    · obtain rfl := Option.some.inj hv
      exact ⟨_, _, _, _, _, rfl, ⟨_, h49, rfl, _, rfl⟩, rfl⟩
    · obtain rfl := Option.some.inj hv
      exact ⟨_, _, _, _, _, rfl, ⟨_, h50, rfl, _, rfl⟩, rfl⟩
    · obtain rfl := Option.some.inj hv
      exact ⟨_, _, _, _, _, rfl, ⟨_, h51, rfl, _, rfl⟩, rfl⟩
  · have ho := X 54 _ (by k_is)
    have h53 := X 53 _ (by k_is)
    refine ⟨_, _, rfl, ⟨_, ho, rfl, _, rfl⟩, rfl, fun k v hv => ?_⟩
    have hk : k < 1 := (Array.getElem?_eq_some_iff.mp hv).1
    obtain rfl : k = 0 := by omega
    obtain rfl := Option.some.inj hv
    exact ⟨_, _, _, _, _, rfl, ⟨_, h53, rfl, _, rfl⟩, rfl⟩
  · have ho := X 56 _ (by k_is)
    have h55 := X 55 _ (by k_is)
    refine ⟨_, _, rfl, ⟨_, ho, rfl, _, rfl⟩, rfl, fun k v hv => ?_⟩
    have hk : k < 1 := (Array.getElem?_eq_some_iff.mp hv).1
    obtain rfl : k = 0 := by omega
    obtain rfl := Option.some.inj hv
    exact ⟨_, _, _, _, _, rfl, ⟨_, h55, rfl, _, rfl⟩, rfl⟩
  · have ho := X 60 _ (by k_is)
    have h57 := X 57 _ (by k_is)
    have h58 := X 58 _ (by k_is)
    have h59 := X 59 _ (by k_is)
    refine ⟨_, _, rfl, ⟨_, ho, rfl, _, rfl⟩, rfl, fun k v hv => ?_⟩
    have hk : k < 3 := (Array.getElem?_eq_some_iff.mp hv).1
    have hc : k = 0 ∨ k = 1 ∨ k = 2 := by omega
    rcases hc with rfl | rfl | rfl
    · obtain rfl := Option.some.inj hv
      exact ⟨_, _, _, _, _, rfl, ⟨_, h57, rfl, _, rfl⟩, rfl⟩
    · obtain rfl := Option.some.inj hv
      exact ⟨_, _, _, _, _, rfl, ⟨_, h58, rfl, _, rfl⟩, rfl⟩
    · obtain rfl := Option.some.inj hv
      exact ⟨_, _, _, _, _, rfl, ⟨_, h59, rfl, _, rfl⟩, rfl⟩
theorem stored_eq {st : List Str} {m' base : Str → Option Value} (h : ∀ y, st.contains y = false → m' y = base y) : m' = fun y => if st.contains y then m' y else base y := by
  funext y
  cases e : st.contains y with
  | true => simp
  | false => simp only [Bool.false_eq_true, if_false]; exact h y e

theorem pick_hit {idx mode b : Int} {c : Str} {r : List (Int × Str)} (h : if idx = 0 then Builtin.bitAnd mode 61440 = b else Builtin.bitAnd mode b = b) : pick idx mode ((b, c) :: r) = c := by
  unfold pick; rw [if_pos h]
theorem pick_miss {idx mode b : Int} {c : Str} {r : List (Int × Str)} (h : ¬ if idx = 0 then Builtin.bitAnd mode 61440 = b else Builtin.bitAnd mode b = b) : pick idx mode ((b, c) :: r) = pick idx mode r := by
  conv => lhs; unfold pick
  rw [if_neg h]
theorem fmSigns_succ {mode : Int} {i : Nat} : fmSigns mode (i + 1) = fmSigns mode i ++ [fmSign mode i] := by
  unfold fmSigns; rw [List.range_succ, List.map_append]; rfl
theorem strs_push {vs : Array Value} {ys : List Str} {x : Str} {t : Tok} (h : StrsAre vs.toList ys) : StrsAre (vs.push (.str x t)).toList (ys ++ [x]) := by
  rw [Array.toList_push]
  have key : ∀ {vs : List Value} {ys : List Str}, StrsAre vs ys → StrsAre (vs ++ [.str x t]) (ys ++ [x]) := by
    intro vs ys h
    induction h with
    | nil => exact .cons _ _ .nil
    | cons i t _ ih => exact .cons _ _ ih
  exact key h
theorem strs_len : ∀ {vs : List Value} {ys : List Str}, StrsAre vs ys → vs.length = ys.length
  | _, _, .nil => rfl
  | _, _, .cons _ _ h => congrArg (· + 1) (strs_len h)

theorem foldl_cps : ∀ (ys : List Str) (acc : Array Nat), (ys.foldl (fun acc p => acc ++ (Str.ofString "").cps ++ p.cps) acc).toList = acc.toList ++ (ys.map (fun y => y.cps.toList)).flatten
  | [], acc => by simp
  | y :: r, acc => by
    rw [List.foldl_cons, foldl_cps r]
    have e : (Str.ofString "").cps = #[] := by decide +kernel
    rw [e]
    simp
theorem join_cps (ys : List Str) : (Txt.join (Str.ofString "") ys).cps.toList = (ys.map (fun y => y.cps.toList)).flatten := by
  show (Builtin.Str.glued (Str.ofString "") ys).cps.toList = _
  unfold Builtin.Str.glued
  rw [foldl_cps]
  cases ys with
  | nil => rfl
  | cons y r => simp
theorem pick_one {idx mode : Int} : ∀ {l : List (Int × Str)}, (∀ p ∈ l, p.2.cps.size = 1) → (pick idx mode l).cps.size = 1
  | [], _ => by unfold pick; split <;> decide +kernel
  | (b, c) :: r, h => by
    by_cases hc : (if idx = 0 then Builtin.bitAnd mode 61440 = b else Builtin.bitAnd mode b = b)
    · rw [pick_hit hc]; exact h _ (.head _)
    · rw [pick_miss hc]; exact pick_one fun p hp => h p (.tail _ hp)
theorem ftab_one : ∀ i, ∀ p ∈ ftab i, p.2.cps.size = 1
  | 0 => by decide +kernel
  | 1 => by decide +kernel
  | 2 => by decide +kernel
  | 3 => by decide +kernel
  | 4 => by decide +kernel
  | 5 => by decide +kernel
  | 6 => by decide +kernel
  | 7 => by decide +kernel
  | 8 => by decide +kernel
  | n + 9 => by show ∀ p ∈ [(513, Str.ofString "t"), (512, Str.ofString "T"), (1, Str.ofString "x")], (p : Int × Str).2.cps.size = 1; decide +kernel
theorem fmSign_one (mode : Int) (i : Nat) : (fmSign mode i).cps.size = 1 := pick_one (ftab_one i)
def fmCode (mode : Int) (i : Nat) : Nat := (fmSign mode i).cps.getD 0 0
def fmCodes (mode : Int) : List Nat := (List.range 10).map (fmCode mode)
theorem one_list {a : Array Nat} (h : a.size = 1) : a.toList = [a.getD 0 0] := by
  obtain ⟨l⟩ := a
  cases l with
  | nil => simp at h
  | cons x r =>
    cases r with
    | nil => rfl
    | cons y q => simp at h
theorem fm_flat (mode : Int) (n : Nat) : ((fmSigns mode n).map (fun y => y.cps.toList)).flatten = (List.range n).map (fmCode mode) := by
  unfold fmSigns
  rw [List.map_map]
  induction (List.range n) with
  | nil => rfl
  | cons i r ih =>
    rw [List.map_cons, List.flatten_cons, ih, List.map_cons]
    show (fmSign mode i).cps.toList ++ _ = _
    rw [one_list (fmSign_one mode i)]
    rfl
theorem fm_weight (mode : Int) (n : Nat) : ((fmSigns mode n).map (·.length)).sum = n := by
  unfold fmSigns
  rw [List.map_map]
  have : ∀ l : List Nat, (l.map ((·.length) ∘ fmSign mode)).sum = l.length := by
    intro l
    induction l with
    | nil => rfl
    | cons i r ih =>
      rw [List.map_cons, List.sum_cons, ih, List.length_cons]
      show (fmSign mode i).cps.size + _ = _
      rw [fmSign_one]; omega
  rw [this, List.length_range]
end Mine

end -- U3a

local macro_rules | `(tactic| walk_at "WiPost") => `(tactic| (dsimp only [Mine.WiPost]))
local macro_rules | `(tactic| walk_at "RlPost") => `(tactic| (dsimp only [Mine.RlPost]))
local macro_rules | `(tactic| k_ne) => `(tactic| (refine PySem.W.neN ?_; (try dsimp only); with_reducible first | exact Mine.NeQ.out (by assumption) | exact Ne.symm (Mine.NeQ.out (by assumption)) | exact Nat.ne_of_lt (by assumption) | exact Nat.ne_of_gt (by assumption) | exact Mine.nk1 _ | exact Ne.symm (Mine.nk1 _) | exact Mine.nk2 _ | exact Ne.symm (Mine.nk2 _) | exact Mine.nk3 _ | exact Ne.symm (Mine.nk3 _) | exact Mine.nk4 _ | exact Ne.symm (Mine.nk4 _) | exact Mine.nk5 _ | exact Ne.symm (Mine.nk5 _) | exact Mine.nk6 _ | exact Ne.symm (Mine.nk6 _) | (exact Nat.ne_of_lt (And.left (by assumption))) | omega))
section -- U1
open PySem PySem.W PyProof.Rows PySem.Spec PySem.Calls
set_option maxRecDepth 100000
set_option maxHeartbeats 8000000
set_option pp.deepTerms false
set_option pp.deepTerms.threshold 8
set_option pp.proofs.threshold 2
namespace Mine
/-- walk until a loop -/



theorem rep_flat {α : Type} (n : Nat) (a : α) : (List.replicate n [a]).flatten = List.replicate n a := by
  induction n with
  | zero => rfl
  | succ n ih => rw [List.replicate_succ, List.flatten_cons, ih, List.replicate_succ]; rfl

theorem ne_rest {l D : Addr} {news own : List (Addr × Obj)} {o : Obj} (lD : l < D ∧ AllLt D news) (hoff : OwnOff own (D :: ((l, o) :: news).map (·.1))) : ∀ p ∈ (l, o) :: (news ++ own), p.1 ≠ D := by
  intro p hp
  rcases List.mem_cons.mp hp with rfl | hp
  · exact Nat.ne_of_lt lD.1
  · rcases List.mem_append.mp hp with hp | hp
    · exact Nat.ne_of_lt (kst_ltOf lD.2 p hp)
    · exact hoff p hp D (.head _)
def TabOut (ws : List Nat) (r : Value) (tl : List (Addr × Obj)) : Prop := ∃ a vs n ts, r = .ref a ∧ tl = [(a, listOf vs.toArray n)] ∧ IntsAre vs ts ∧ IsTab ws ts
theorem TabTo.whole {α : Type} {w : List α} {ts : List Int} {n : Nat} (h : TabTo w n ts) (hn : w.length ≤ n) : IsTab w ts := ⟨h.1, fun i hi => h.2 i (by omega)⟩
theorem tab_str (w : World) (loose : List Str) (mean : ExcName → Option Value) (mg mb : Str → Option Value) (x : Str) (t : Tok) (hx : x.length ≤ 1000) (news : List (Addr × Obj)) :
    Cn PySem.Challenge.rw_tv0022_01.row.prog w (hd1.heap_39 w.params) hd1.view_39 loose mean mg mb 21 5 [.str x t] news
      (TabOut x.cps.toList) := by
  k_fill
  w_top off
  intro dp un gd cn cs a ccd cl outer A₀ base h₀ L m s Q E B F X N T hk hd hu hret
  refine wpAny_call ?_
  k_dflt ktr_enter
  (repeat' (first | (k_unfold; (try dsimp only)) | (k_end; wrow_close) | ((fail_if_success (with_reducible show wpAny _ _ (exec (Stmt.For _ _ _ _ _) _) _ _ _)); (fail_if_success (with_reducible show wpAny _ _ (exec (Stmt.While _ _ _ _) _) _ _ _)); (fail_if_success (with_reducible show wpAny _ _ (pyIter _) _ _ _)); first | (k_here; (with_reducible show wpAny _ _ (setItem (Value.ref _) (Value.int _ _) (Value.int _ _)) _ _ _); refine set_hd (by k_asm) (by k_asm) (by assumption) (by assumption) (by omega) (by omega) (by omega) ?_; intro m_h' m_F' m_N' m_hi') | walk1 | (dsimp only; walk1) | (leave1; walk_say "STEP leave1"; try dsimp only)) | fail "no step"))
  rename Fr _ _ _ _ => F1
  rename News _ _ _ _ => N1
  rename IntsAre _ _ => hi
  rename _ ∧ AllLt _ _ => lD
  simp only [rep_flat] at hi N1
  have hn : (x.length : Int).toNat = x.cps.toList.length := by simp [Str.length]
  rw [hn] at hi N1
  generalize hvs : List.replicate x.cps.toList.length (Value.int 0 _) = vs0 at hi N1
  refine For_invVF F1 (by rfl) (by rfl) ?_
  (repeat' (first | (k_unfold; (try dsimp only)) | (k_end; wrow_close) | ((fail_if_success (with_reducible show wpAny _ _ (exec (Stmt.For _ _ _ _ _) _) _ _ _)); (fail_if_success (with_reducible show wpAny _ _ (exec (Stmt.While _ _ _ _) _) _ _ _)); (fail_if_success (with_reducible show wpAny _ _ (pyIter _) _ _ _)); first | (k_here; (with_reducible show wpAny _ _ (setItem (Value.ref _) (Value.int _ _) (Value.int _ _)) _ _ _); refine set_hd (by k_asm) (by k_asm) (by assumption) (by assumption) (by omega) (by omega) (by omega) ?_; intro m_h' m_F' m_N' m_hi') | walk1 | (dsimp only; walk1) | (leave1; walk_say "STEP leave1"; try dsimp only)) | fail "no step"))
  (try clear F1); (try clear N1)
  rename Fr _ _ _ _ => F1
  rename News _ _ _ _ => N1
  rename IsRange _ _ _ _ _ _ _ _ => R1
  rename IntsAre _ _ => hi
  have hxl : x.cps.toList.length = x.length := by simp [Str.length]
  refine range_L (n := x.cps.toList.length - 1) [Str.ofString "idx"] (fun i ts => ts.length = x.cps.toList.length ∧ (TabTo x.cps.toList (i + 1) ts ∨ x.cps.toList = [])) (by rfl) R1 ?_ ?_ F1 N1 hi ⟨List.length_replicate, TabTo.start _⟩ ?_ ?_
  · exact small_one (by omega) (by omega) (by omega) (by omega)
  · rw [rangeSize_nat]; exact n7 hxl
  · intro i vs ts t1 u h tk own hin hP hi1 hoff F2 N2
    have hP := hP.2.resolve_right (by intro e; rw [e] at hin; simp at hin)
    have hlen := hP.1
    have hlen2 := hi1.length
    simp only [List.cons_append] at N2
    have hne : ∀ p ∈ (_, _) :: (news ++ own), p.1 ≠ _ := ne_rest lD hoff
    (repeat' (first | (k_unfold; (try dsimp only)) | (k_end; wrow_close) | ((fail_if_success (with_reducible show wpAny _ _ (exec (Stmt.For _ _ _ _ _) _) _ _ _)); (fail_if_success (with_reducible show wpAny _ _ (exec (Stmt.While _ _ _ _) _) _ _ _)); (fail_if_success (with_reducible show wpAny _ _ (pyIter _) _ _ _)); first | (k_here; (with_reducible show wpAny _ _ (setItem (Value.ref _) (Value.int _ _) (Value.int _ _)) _ _ _); refine set_hd (by k_asm) (by k_asm) (by assumption) (by assumption) (by omega) (by omega) (by omega) ?_; intro m_h' m_F' m_N' m_hi') | walk1 | (dsimp only; walk1) | (leave1; walk_say "STEP leave1"; try dsimp only)) | fail "no step"))
    rename Fr _ _ _ _ => F3
    rename News _ _ _ _ => N3
    obtain ⟨k1, hk1, hk2⟩ := hP.at (j := i) (by omega)
    have ei := n1 i
    rw [ei, hk1] at F3
    refine while_I (fun k => ∃ n : Nat, k = (n : Int) ∧ Bd x.cps.toList (i + 1) n ∧ ∀ b, Bd x.cps.toList (i + 1) b → x.cps.toList[i + 1]? = x.cps.toList[b]? → b ≤ n) F3 N3 ⟨k1, rfl, lb_start hk2⟩ ?_
    rintro k tk2 h2 tk3 ⟨n, rfl, hb1, hb2⟩ F4 N4
    have hnlt := hb1.1
    have hil := n9 hin
    have hset : ∀ v : Nat, LB x.cps.toList (i + 1 + 1) v → ∀ y : Int, y = (v : Int) → (ts.set (1 + (i : Int)).toNat y).length = x.cps.toList.length ∧ (TabTo x.cps.toList (i + 1 + 1) (ts.set (1 + (i : Int)).toNat y) ∨ x.cps.toList = []) := fun v hv y hy => by
      rw [n2, hy]
      exact ⟨by rw [List.length_set]; exact hlen, .inl (hP.set hil hv)⟩
    have hne1 := n5 i
    (repeat' (first | (k_unfold; (try dsimp only)) | (k_end; wrow_close) | ((fail_if_success (with_reducible show wpAny _ _ (exec (Stmt.For _ _ _ _ _) _) _ _ _)); (fail_if_success (with_reducible show wpAny _ _ (exec (Stmt.While _ _ _ _) _) _ _ _)); (fail_if_success (with_reducible show wpAny _ _ (pyIter _) _ _ _)); first | (k_here; (with_reducible show wpAny _ _ (setItem (Value.ref _) (Value.int _ _) (Value.int _ _)) _ _ _); refine set_hd (by k_asm) (by k_asm) (by assumption) (by assumption) (by omega) (by omega) (by omega) ?_; intro m_h' m_F' m_N' m_hi') | walk1 | (dsimp only; walk1) | (leave1; walk_say "STEP leave1"; try dsimp only)) | fail "no step"))
    · rename (_ != _) = true => hd1
      rename _ = 0 => hd2
      refine RlEnd.intro (by k_asm) (by k_asm) (by intro p hp; simpa using hp) (by k_asm) (hset 0 (lb_zero ?_ ?_) _ rfl) (by intro z h1 h2; (simp only [List.contains_cons, List.contains_nil, Bool.or_false, beq_eq_false_iff_ne, ne_eq] at h2); simp [h1, h2])
      · have := n8 hd2
        subst this
        exact ⟨hb1, hb2⟩
      · have := n8 hd2
        subst this
        rw [hne1] at hd1
        intro e
        have := (item_ne (x := x) (by omega) (by omega)).mpr e
        rw [this] at hd1
        cases hd1
    · rename (_ != _) = true => hd1
      rename _ ≠ 0 => hd2
      obtain ⟨k', hk', hL'⟩ := hP.at (j := n - 1) (by omega)
      have e1 := n3 n
      have e2 := n4 hd2
      rw [e2] at hL'
      have hlt' := hL'.1.1
      rw [hne1] at hd1
      refine WiEnd.intro (k' := (k' : Int)) (by k_asm) (by k_asm) (by intro p hp; exact hp) (by show some (Value.int (ts.getD ((n : Int) - 1).toNat 0) _) = _; rw [e1, hk']) (by intro z h1; simp [h1]) ⟨k', rfl, lb_fall ⟨hb1, hb2⟩ ?_ hL'⟩ (n6 hlt')
      intro e
      have := (item_ne (x := x) (by omega) (by omega)).mpr e
      rw [this] at hd1
      cases hd1
    · rename (_ != _) = false => hd1
      rw [hne1] at hd1
      refine RlEnd.intro (by k_asm) (by k_asm) (by intro p hp; simpa using hp) (by k_asm) (hset (n + 1) (lb_hit ⟨hb1, hb2⟩ ?_) _ (by omega)) (by intro z h1 h2; (simp only [List.contains_cons, List.contains_nil, Bool.or_false, beq_eq_false_iff_ne, ne_eq] at h2); simp [h1, h2])
      exact (item_ne (x := x) (by omega) (by omega)).mp hd1
  · intro vs ts u h tk hP hi1 F2 N2
    (repeat' (first | (k_unfold; (try dsimp only)) | (k_end; wrow_close) | ((fail_if_success (with_reducible show wpAny _ _ (exec (Stmt.For _ _ _ _ _) _) _ _ _)); (fail_if_success (with_reducible show wpAny _ _ (exec (Stmt.While _ _ _ _) _) _ _ _)); (fail_if_success (with_reducible show wpAny _ _ (pyIter _) _ _ _)); first | (k_here; (with_reducible show wpAny _ _ (setItem (Value.ref _) (Value.int _ _) (Value.int _ _)) _ _ _); refine set_hd (by k_asm) (by k_asm) (by assumption) (by assumption) (by omega) (by omega) (by omega) ?_; intro m_h' m_F' m_N' m_hi') | walk1 | (dsimp only; walk1) | (leave1; walk_say "STEP leave1"; try dsimp only)) | fail "no step"))
    rename News _ _ _ _ => N3
    refine hret _ _ _ _ (by k_asm) (news_cut N3) (ord_one lD.2) ⟨_, _, _, _, rfl, rfl, hi1, ?_⟩
    · rcases hP.2 with hP2 | hP2
      · exact hP2.whole n10
      · exact ⟨hP.1, fun i hi => by rw [hP2] at hi; exact absurd hi (Nat.not_lt_zero _)⟩
end Mine

end -- U1

local macro_rules | `(tactic| walk_at "WlPost") => `(tactic| (dsimp only [Mine.WlPost]))
section -- U2
open PySem PySem.W PyProof.Rows PySem.Spec PySem.Calls
set_option maxRecDepth 100000
set_option maxHeartbeats 8000000
set_option pp.deepTerms false
set_option pp.deepTerms.threshold 8
set_option pp.proofs.threshold 2
namespace Mine
/-- walk until a loop -/

def OvlOut {α : Type} [DecidableEq α] (ws : List α) (r : Value) (tl : List (Addr × Obj)) : Prop := ∃ a vs n, r = .ref a ∧ tl = [(a, listOf vs n)] ∧ IntsAre vs.toList ((bds ws ws.length ws.length).map Int.ofNat)
theorem ovl_tells (w : World) (loose : List Str) (mean : ExcName → Option Value) (mg mb : Str → Option Value) (l : Addr) (vs : List Value) (c : Nat) (ts : List Int) {α : Type} [DecidableEq α] (ws : List α) (hi : IntsAre vs ts) (ht : IsTab ws ts) (hw0 : 0 < ws.length) (hw1 : ws.length ≤ 1000) (news : List (Addr × Obj)) (hm : (l, listOf vs.toArray c) ∈ news) :
    Cn PySem.Challenge.rw_tv0022_01.row.prog w (hd1.heap_39 w.params) hd1.view_39 loose mean mg mb 87 5 [.ref l] news (OvlOut ws) := by
  k_fill
  w_top off
  intro dp un gd cn cs a ccd cl outer A₀ base h₀ L m s Q E B F X N T hk hd hu hret
  have hl1 := ht.1
  have hl2 := hi.length
  refine wpAny_call ?_
  k_dflt ktr_enter
  (repeat' (first | (k_unfold; (try dsimp only)) | (k_end; wrow_close) | ((fail_if_success (with_reducible show wpAny _ _ (exec (Stmt.For _ _ _ _ _) _) _ _ _)); (fail_if_success (with_reducible show wpAny _ _ (exec (Stmt.While _ _ _ _) _) _ _ _)); (fail_if_success (with_reducible show wpAny _ _ (pyIter _) _ _ _)); first | (k_here; (try dsimp only [List.cons_append, List.nil_append]); (with_reducible show wpAny _ _ (call (Value.builtin _) [Value.ref _, _]) _ _ _); refine append_hd (by k_asm) (by k_asm) (by assumption) (by omega) ?_; intro m_h' m_F' m_N') | (k_here; (with_reducible show wpAny _ _ (subscriptTail _ _ (Value.ref _) (Value.int (-1) _)) _ _ _); k_dflt (refine' sub_last ?k1 ?k2 ?k3 ?k4 ?k5 ?_ ?k6 ?k7; (case k1 => k_asm); (case k2 => k_mem); (case k3 => with_reducible assumption); (case k4 => omega); (case k5 => omega); (case k6 => with_unfolding_all rfl); (case k7 => (intro _; with_unfolding_all rfl)); k_whole); intro _) | walk1 | (dsimp only; walk1) | (leave1; walk_say "STEP leave1"; try dsimp only)) | fail "no step"))
  rename Fr _ _ _ _ => F1
  rename News _ _ _ _ => N1
  rename (∀ p : Addr × Obj, p ∈ news → p.1 < _) => l1
  obtain ⟨k1, hk1, hk2⟩ := ht.at (i := ts.length - 1) (by omega)
  rw [hk1] at F1
  have e1 : ts.length - 1 + 1 = ws.length := by omega
  rw [e1] at hk2
  refine while_IL (fun k os => ∃ (n : Nat) (L : List Nat), k = (n : Int) ∧ os = L.map Int.ofNat ∧ OvlInv ws n L) F1 N1 .nil ⟨k1, [], rfl, rfl, ovl_start hk2⟩ ?_
  rintro k t vs2 c2 ts2 h2 tk2 ⟨n, Ls, rfl, rfl, hI⟩ hi2 F2 N2
  have hnlt := hI.1.1
  have hlen := hI.len
  have hl3 := hi2.length
  rw [Array.length_toList, List.length_map] at hl3
  have hne : ∀ p ∈ news, p.1 ≠ _ := fun p hp => Nat.ne_of_lt (l1 p hp)
  (repeat' (first | (k_unfold; (try dsimp only)) | (k_end; wrow_close) | ((fail_if_success (with_reducible show wpAny _ _ (exec (Stmt.For _ _ _ _ _) _) _ _ _)); (fail_if_success (with_reducible show wpAny _ _ (exec (Stmt.While _ _ _ _) _) _ _ _)); (fail_if_success (with_reducible show wpAny _ _ (pyIter _) _ _ _)); first | (k_here; (try dsimp only [List.cons_append, List.nil_append]); (with_reducible show wpAny _ _ (call (Value.builtin _) [Value.ref _, _]) _ _ _); refine append_hd (by k_asm) (by k_asm) (by assumption) (by omega) ?_; intro m_h' m_F' m_N') | (k_here; (with_reducible show wpAny _ _ (subscriptTail _ _ (Value.ref _) (Value.int (-1) _)) _ _ _); k_dflt (refine' sub_last ?k1 ?k2 ?k3 ?k4 ?k5 ?_ ?k6 ?k7; (case k1 => k_asm); (case k2 => k_mem); (case k3 => with_reducible assumption); (case k4 => omega); (case k5 => omega); (case k6 => with_unfolding_all rfl); (case k7 => (intro _; with_unfolding_all rfl)); k_whole); intro _) | walk1 | (dsimp only; walk1) | (leave1; walk_say "STEP leave1"; try dsimp only)) | fail "no step"))
  · rename 0 < _ => hpos
    obtain ⟨k', hk', hL'⟩ := ht.at (i := n - 1) (by omega)
    have e1 : ((n : Int) - 1).toNat = n - 1 := by omega
    have e2 : n - 1 + 1 = n := by omega
    rw [e2] at hL'
    have hlt' := hL'.1.1
    refine WlEnd.intro (k' := (k' : Int)) (by k_asm) (by k_asm) (by intro p hp; exact hp) (ints_push hi2) (by show some (Value.int (ts.getD ((n : Int) - 1).toNat 0) _) = _; rw [e1, hk']) (by intro z h1; simp [h1]) ⟨k', Ls ++ [n], rfl, by simp, ovl_step hI (by omega) hL'⟩ (by omega)
  · rename ¬ _ => hpos
    have : n = 0 := by omega
    subst this
    rw [← ovl_end hI] at hi2
    rename News _ _ _ _ => N3
    exact hret _ [_] _ _ (by k_asm) N3 (ord_one' l1) ⟨_, _, _, rfl, rfl, hi2⟩
end Mine

end -- U2

section -- U3
open PySem PySem.W PyProof.Rows PySem.Spec PySem.Calls
set_option maxRecDepth 100000
set_option maxHeartbeats 8000000
set_option pp.deepTerms false
set_option pp.deepTerms.threshold 8
set_option pp.proofs.threshold 2
namespace Mine
/-- walk until a loop -/
local macro_rules | `(tactic| k_room) => `(tactic| ktr_room)

def FmOut (mode : Int) (r : Value) (tl : List (Addr × Obj)) : Prop := ∃ x t, r = .str x t ∧ tl = [] ∧ x.cps.toList = fmCodes mode
def bcStored : List Str := [Str.ofString "bit", Str.ofString "char"]
theorem ne_rest2 {D : Addr} {o : Obj} {news own : List (Addr × Obj)} (l1 : ∀ p ∈ news, p.1 < D) (hoff : OwnOff own (((D, o) :: news).map (·.1))) : ∀ p ∈ news ++ own, p.1 ≠ D := by
  intro p hp
  rcases List.mem_append.mp hp with hp | hp
  · exact Nat.ne_of_lt (l1 p hp)
  · exact hoff p hp D (.head _)
section
variable {D : Addr} {o : Obj} {news own own3 : List (Addr × Obj)}
theorem fm_sub1 : ∀ p ∈ (D, o) :: news, p ∈ (D, o) :: (news ++ own ++ own3) := by
  intro p hp; simp only [List.mem_cons, List.mem_append] at hp ⊢; rcases hp with h | h <;> simp [h]
theorem fm_sub2 : ∀ p ∈ own, p ∈ (D, o) :: (news ++ own ++ own3) := by
  intro p hp; simp only [List.mem_cons, List.mem_append] at hp ⊢; simp [hp]
theorem fm_sub3 : ∀ p ∈ (D, o) :: (news ++ own), p ∈ (D, o) :: (news ++ own ++ own3) := by
  intro p hp; simp only [List.mem_cons, List.mem_append] at hp ⊢; rcases hp with h | h | h <;> simp [h]
theorem fm_sub4 : ∀ p ∈ own3, p ∈ (D, o) :: (news ++ own ++ own3) := by
  intro p hp; simp only [List.mem_cons, List.mem_append] at hp ⊢; simp [hp]
theorem fm_sub5 : ∀ p ∈ (D, o) :: news, p ∈ (D, o) :: (news ++ own) := by
  intro p hp; simp only [List.mem_cons, List.mem_append] at hp ⊢; rcases hp with h | h <;> simp [h]
theorem fm_sub6 : ∀ p ∈ own, p ∈ (D, o) :: (news ++ own) := by
  intro p hp; simp only [List.mem_cons, List.mem_append] at hp ⊢; simp [hp]
end
theorem drop_at {α : Type} : ∀ {l : List α} {k : Nat} {x : α}, l[k]? = some x → l.drop k = x :: l.drop (k + 1)
  | [], _, _, h => by simp at h
  | a :: r, 0, x, h => by simp at h; subst h; rfl
  | a :: r, k + 1, x, h => by
    have h' : r[k]? = some x := by simpa using h
    exact drop_at (l := r) h'
theorem bc_unstored {y : Str} (h : bcStored.contains y = false) : y ≠ Str.ofString "char" ∧ y ≠ Str.ofString "bit" := by
  simp only [bcStored, List.contains_cons, List.contains_nil, Bool.or_false, Bool.or_eq_false_iff, beq_eq_false_iff_ne, ne_eq] at h
  exact ⟨h.2, h.1⟩
theorem fm_unstored {y : Str} (h : fmStored.contains y = false) : y ≠ Str.ofString "char" ∧ y ≠ Str.ofString "bit" ∧ y ≠ Str.ofString "table" ∧ y ≠ Str.ofString "index" ∧ bcStored.contains y = false := by
  simp only [fmStored, List.contains_cons, List.contains_nil, Bool.or_false, Bool.or_eq_false_iff, beq_eq_false_iff_ne, ne_eq] at h
  refine ⟨h.2.2.2, h.2.2.1, h.2.1, h.1, ?_⟩
  simp only [bcStored, List.contains_cons, List.contains_nil, Bool.or_false, Bool.or_eq_false_iff, beq_eq_false_iff_ne, ne_eq]
  exact ⟨h.2.2.1, h.2.2.2⟩
theorem fm_tells (w : World) (loose : List Str) (mean : ExcName → Option Value) (mg mb : Str → Option Value) (mode : Int) (t : Tok) (h0 : 0 ≤ mode) (h1 : mode < 2 ^ 40) (news : List (Addr × Obj)) :
    Cn PySem.Challenge.rw_tv0022_01.row.prog w (hd1.heap_39 w.params) hd1.view_39 loose mean mg mb 68 5 [.int mode t] news (FmOut mode) := by
  k_fill
  w_top off
  intro dp un gd cn cs a ccd cl outer A₀ base h₀ L m s Q E B F X N T hk hd hu hret
  refine wpAny_call ?_
  k_dflt ktr_enter
  (repeat' (first | (k_unfold; (try dsimp only)) | (k_end; wrow_close) | ((fail_if_success (with_reducible show wpAny _ _ (exec (Stmt.For _ _ _ _ _) _) _ _ _)); (fail_if_success (with_reducible show wpAny _ _ (exec (Stmt.While _ _ _ _) _) _ _ _)); (fail_if_success (with_reducible show wpAny _ _ (call (Value.type "enumerate") _) _ _ _)); (fail_if_success (with_reducible show wpAny _ _ (pyIter _) _ _ _)); first | (k_here; (with_reducible show wpAny _ _ (call (Value.builtin "str.join") [Value.str _ _, Value.ref _]) _ _ _); refine join_listW (by assumption) (by assumption) (by decide +kernel) (by assumption) ?_; intro _ _) | (k_here; (with_reducible show wpAny _ _ (call (Value.builtin _) [Value.ref _, _]) _ _ _); refine append_hd (by k_asm) (by k_asm) (by assumption) (by omega) ?_; intro m_h' m_F' m_N') | walk1 | (dsimp only; walk1) | (leave1; walk_say "STEP leave1"; try dsimp only)) | fail "no step"))
  rename Fr _ _ _ _ => F1
  rename News _ _ _ _ => N1
  rename (∀ p : Addr × Obj, p ∈ news → p.1 < _) => l1
  refine for_tj F1 ?_
  (repeat' (first | (k_unfold; (try dsimp only)) | (k_end; wrow_close) | ((fail_if_success (with_reducible show wpAny _ _ (exec (Stmt.For _ _ _ _ _) _) _ _ _)); (fail_if_success (with_reducible show wpAny _ _ (exec (Stmt.While _ _ _ _) _) _ _ _)); (fail_if_success (with_reducible show wpAny _ _ (call (Value.type "enumerate") _) _ _ _)); (fail_if_success (with_reducible show wpAny _ _ (pyIter _) _ _ _)); first | (k_here; (with_reducible show wpAny _ _ (call (Value.builtin "str.join") [Value.str _ _, Value.ref _]) _ _ _); refine join_listW (by assumption) (by assumption) (by decide +kernel) (by assumption) ?_; intro _ _) | (k_here; (with_reducible show wpAny _ _ (call (Value.builtin _) [Value.ref _, _]) _ _ _); refine append_hd (by k_asm) (by k_asm) (by assumption) (by omega) ?_; intro m_h' m_F' m_N') | walk1 | (dsimp only; walk1) | (leave1; walk_say "STEP leave1"; try dsimp only)) | fail "no step"))
  rename Frag.In _ _ => X1
  have hT61 : Heap.IsTuple _ 61 _ := ⟨_, X1 61 _ (by k_is), rfl, _, rfl⟩
  refine tj_enumT (fun i m nx => ∃ (D : Addr) (vs : Array Value) (c : Nat) (u : Str → Option Value), nx = (D, listOf vs c) :: news ∧ StrsAre vs.toList (fmSigns mode i) ∧ m = fun y => if fmStored.contains y then u y else (fun y => if y = Str.ofString "perm" then some (Value.ref D) else List.lookup y [(Str.ofString "mode", Value.int mode t)]) y) (by rfl) hT61 F1 N1 ?_ ?_ ?_
  · exact ⟨_, _, _, _, rfl, .nil, stored_eq (fun y hy => rfl)⟩
  · rintro i T t2 x m2 nx h2 tk2 own hin hx hT ⟨D, vs, c, u, rfl, hs, rfl⟩ hadr hoff F2 N2
    simp only [List.cons_append] at N2
    (repeat' (first | (k_unfold; (try dsimp only)) | (k_end; wrow_close) | ((fail_if_success (with_reducible show wpAny _ _ (exec (Stmt.For _ _ _ _ _) _) _ _ _)); (fail_if_success (with_reducible show wpAny _ _ (exec (Stmt.While _ _ _ _) _) _ _ _)); (fail_if_success (with_reducible show wpAny _ _ (call (Value.type "enumerate") _) _ _ _)); (fail_if_success (with_reducible show wpAny _ _ (pyIter _) _ _ _)); first | (k_here; (with_reducible show wpAny _ _ (call (Value.builtin "str.join") [Value.str _ _, Value.ref _]) _ _ _); refine join_listW (by assumption) (by assumption) (by decide +kernel) (by assumption) ?_; intro _ _) | (k_here; (with_reducible show wpAny _ _ (call (Value.builtin _) [Value.ref _, _]) _ _ _); refine append_hd (by k_asm) (by k_asm) (by assumption) (by omega) ?_; intro m_h' m_F' m_N') | walk1 | (dsimp only; walk1) | (leave1; walk_say "STEP leave1"; try dsimp only)) | fail "no step"))
    obtain ⟨a2, its, rfl, hta, hsz, hrow⟩ := fm_rows rfl X1 hx
    rename Fr _ _ _ _ => F3
    rename News _ _ _ _ => N3
    have hDe : D = _ := (List.cons.inj hadr).1
    have hne : ∀ p ∈ news ++ own, p.1 ≠ D := by
      rw [hDe]
      exact ne_rest2 l1 hoff
    have hvl := strs_len hs
    have hi10 : i < 10 := hin
    rw [Array.length_toList, fmSigns, List.length_map, List.length_range] at hvl
    refine for_tj F3 ?_
    (repeat' (first | (k_unfold; (try dsimp only)) | (k_end; wrow_close) | ((fail_if_success (with_reducible show wpAny _ _ (exec (Stmt.For _ _ _ _ _) _) _ _ _)); (fail_if_success (with_reducible show wpAny _ _ (exec (Stmt.While _ _ _ _) _) _ _ _)); (fail_if_success (with_reducible show wpAny _ _ (call (Value.type "enumerate") _) _ _ _)); (fail_if_success (with_reducible show wpAny _ _ (pyIter _) _ _ _)); first | (k_here; (with_reducible show wpAny _ _ (call (Value.builtin "str.join") [Value.str _ _, Value.ref _]) _ _ _); refine join_listW (by assumption) (by assumption) (by decide +kernel) (by assumption) ?_; intro _ _) | (k_here; (with_reducible show wpAny _ _ (call (Value.builtin _) [Value.ref _, _]) _ _ _); refine append_hd (by k_asm) (by k_asm) (by assumption) (by omega) ?_; intro m_h' m_F' m_N') | walk1 | (dsimp only; walk1) | (leave1; walk_say "STEP leave1"; try dsimp only)) | fail "no step"))
    refine tj_tup (fun k m nx => ∃ (u2 : Str → Option Value), nx = (D, listOf vs c) :: (news ++ own) ∧ fmSign mode i = pick (i : Int) mode ((ftab i).drop k) ∧ m = fun y => if bcStored.contains y then u2 y else (fun y => if y = Str.ofString "table" then some (Value.ref a2) else if y = Str.ofString "index" then some (Value.int (i : Int) t2) else if fmStored.contains y then u y else (fun y => if y = Str.ofString "perm" then some (Value.ref D) else List.lookup y [(Str.ofString "mode", Value.int mode t)]) y) y) (by rfl) hta F3 N3 ?_ ?_ ?_
    · refine ⟨_, rfl, rfl, stored_eq (fun y hy => rfl)⟩
    · rintro k x3 m3 nx3 h3 tk3 own3 hkin hkx ⟨u2, rfl, hpk, rfl⟩ hadr3 hoff3 F4 N4
      obtain ⟨b, bt, ch, ct, q, rfl, htq, hfk⟩ := hrow k _ hkx
      obtain ⟨oq, hoq, hoq2⟩ := htq
      have htq2 : IsTup h3 q #[.int b bt, .str ch ct] := ⟨oq, F4.keep _ _ hoq, hoq2⟩
      have hdr : (ftab i).drop k = (b, ch) :: (ftab i).drop (k + 1) := drop_at hfk
      rw [hdr] at hpk
      have hne3 : ∀ p ∈ news ++ own ++ own3, p.1 ≠ D := fun p hp => (List.mem_append.mp hp).elim (hne p) (fun h => hoff3 p h D (.head _))
      simp only [List.cons_append] at N4
      (repeat' (first | (k_unfold; (try dsimp only)) | (k_end; wrow_close) | ((fail_if_success (with_reducible show wpAny _ _ (exec (Stmt.For _ _ _ _ _) _) _ _ _)); (fail_if_success (with_reducible show wpAny _ _ (exec (Stmt.While _ _ _ _) _) _ _ _)); (fail_if_success (with_reducible show wpAny _ _ (call (Value.type "enumerate") _) _ _ _)); (fail_if_success (with_reducible show wpAny _ _ (pyIter _) _ _ _)); first | (k_here; (with_reducible show wpAny _ _ (call (Value.builtin "str.join") [Value.str _ _, Value.ref _]) _ _ _); refine join_listW (by assumption) (by assumption) (by decide +kernel) (by assumption) ?_; intro _ _) | (k_here; (with_reducible show wpAny _ _ (call (Value.builtin _) [Value.ref _, _]) _ _ _); refine append_hd (by k_asm) (by k_asm) (by assumption) (by omega) ?_; intro m_h' m_F' m_N') | walk1 | (dsimp only; walk1) | (leave1; walk_say "STEP leave1"; try dsimp only)) | fail "no step"))
      · rename Builtin.bitAnd _ _ = _ => hd1
        rename (i : Int) = 0 => hd2
        rw [pick_hit (by rw [if_pos hd2]; exact hd1)] at hpk
        exact TjEnd.intro (nx := (D, listOf (vs.push (.str _ _)) (c + 1)) :: news) (by k_asm) (by k_asm) fm_sub1 fm_sub2 hadr ⟨D, _, _, _, rfl, by rw [fmSigns_succ, hpk]; exact strs_push hs, stored_eq fun y hy => by obtain ⟨e1, e2, e3, e4, e5⟩ := fm_unstored hy; simp only [if_neg e1, if_neg e2, if_neg e3, if_neg e4, e5, hy, Bool.false_eq_true, if_false]⟩
      · rename Builtin.bitAnd _ _ ≠ _ => hd1
        rename (i : Int) = 0 => hd2
        rw [pick_miss (by rw [if_pos hd2]; exact hd1)] at hpk
        exact TjEnd.intro (nx := (D, listOf vs c) :: (news ++ own)) (by k_asm) (by k_asm) fm_sub3 fm_sub4 rfl ⟨_, rfl, hpk, stored_eq fun y hy => by obtain ⟨e1, e2⟩ := bc_unstored hy; simp only [if_neg e1, if_neg e2, hy, Bool.false_eq_true, if_false]⟩
      · rename Builtin.bitAnd _ _ = _ => hd1
        rename (i : Int) ≠ 0 => hd2
        rw [pick_hit (by rw [if_neg hd2]; exact hd1)] at hpk
        exact TjEnd.intro (nx := (D, listOf (vs.push (.str _ _)) (c + 1)) :: news) (by k_asm) (by k_asm) fm_sub1 fm_sub2 hadr ⟨D, _, _, _, rfl, by rw [fmSigns_succ, hpk]; exact strs_push hs, stored_eq fun y hy => by obtain ⟨e1, e2, e3, e4, e5⟩ := fm_unstored hy; simp only [if_neg e1, if_neg e2, if_neg e3, if_neg e4, e5, hy, Bool.false_eq_true, if_false]⟩
      · rename Builtin.bitAnd _ _ ≠ _ => hd1
        rename (i : Int) ≠ 0 => hd2
        rw [pick_miss (by rw [if_neg hd2]; exact hd1)] at hpk
        exact TjEnd.intro (nx := (D, listOf vs c) :: (news ++ own)) (by k_asm) (by k_asm) fm_sub3 fm_sub4 rfl ⟨_, rfl, hpk, stored_eq fun y hy => by obtain ⟨e1, e2⟩ := bc_unstored hy; simp only [if_neg e1, if_neg e2, hy, Bool.false_eq_true, if_false]⟩
    · rintro h3 tk3 m3 nx3 F4 N4 ⟨u2, rfl, hpk, rfl⟩
      have hdr : (ftab i).drop its.size = [] := by rw [hsz]; exact List.drop_length
      rw [hdr] at hpk
      (repeat' (first | (k_unfold; (try dsimp only)) | (k_end; wrow_close) | ((fail_if_success (with_reducible show wpAny _ _ (exec (Stmt.For _ _ _ _ _) _) _ _ _)); (fail_if_success (with_reducible show wpAny _ _ (exec (Stmt.While _ _ _ _) _) _ _ _)); (fail_if_success (with_reducible show wpAny _ _ (call (Value.type "enumerate") _) _ _ _)); (fail_if_success (with_reducible show wpAny _ _ (pyIter _) _ _ _)); first | (k_here; (with_reducible show wpAny _ _ (call (Value.builtin "str.join") [Value.str _ _, Value.ref _]) _ _ _); refine join_listW (by assumption) (by assumption) (by decide +kernel) (by assumption) ?_; intro _ _) | (k_here; (with_reducible show wpAny _ _ (call (Value.builtin _) [Value.ref _, _]) _ _ _); refine append_hd (by k_asm) (by k_asm) (by assumption) (by omega) ?_; intro m_h' m_F' m_N') | walk1 | (dsimp only; walk1) | (leave1; walk_say "STEP leave1"; try dsimp only)) | fail "no step"))
      · rename (i : Int) = 0 => hd2
        rw [pick, if_pos hd2] at hpk
        exact TjEnd.intro (nx := (D, listOf (vs.push (.str _ _)) (c + 1)) :: news) (by k_asm) (by k_asm) fm_sub5 fm_sub6 hadr ⟨D, _, _, _, rfl, by rw [fmSigns_succ, hpk]; exact strs_push hs, stored_eq fun y hy => by obtain ⟨e1, e2, e3, e4, e5⟩ := fm_unstored hy; simp only [if_neg e1, if_neg e2, if_neg e3, if_neg e4, e5, hy, Bool.false_eq_true, if_false]⟩
      · rename (i : Int) ≠ 0 => hd2
        rw [pick, if_neg hd2] at hpk
        exact TjEnd.intro (nx := (D, listOf (vs.push (.str _ _)) (c + 1)) :: news) (by k_asm) (by k_asm) fm_sub5 fm_sub6 hadr ⟨D, _, _, _, rfl, by rw [fmSigns_succ, hpk]; exact strs_push hs, stored_eq fun y hy => by obtain ⟨e1, e2, e3, e4, e5⟩ := fm_unstored hy; simp only [if_neg e1, if_neg e2, if_neg e3, if_neg e4, e5, hy, Bool.false_eq_true, if_false]⟩
  · rintro h2 tk2 m2 nx F2 N2 ⟨D, vs, c, u, rfl, hs, rfl⟩
    have hs' : StrsAre vs.toList (fmSigns mode 10) := hs
    have hw : ((fmSigns mode 10).map (·.length)).sum + (fmSigns mode 10).length ≤ 1048576 := by
      rw [fm_weight, fmSigns, List.length_map, List.length_range]; decide
    have hl : Heap.IsList h2 D vs := ⟨_, (N2 _ (.head _)).1, rfl, _, rfl⟩
    (repeat' (first | (k_unfold; (try dsimp only)) | (k_end; wrow_close) | ((fail_if_success (with_reducible show wpAny _ _ (exec (Stmt.For _ _ _ _ _) _) _ _ _)); (fail_if_success (with_reducible show wpAny _ _ (exec (Stmt.While _ _ _ _) _) _ _ _)); (fail_if_success (with_reducible show wpAny _ _ (call (Value.type "enumerate") _) _ _ _)); (fail_if_success (with_reducible show wpAny _ _ (pyIter _) _ _ _)); first | (k_here; (with_reducible show wpAny _ _ (call (Value.builtin "str.join") [Value.str _ _, Value.ref _]) _ _ _); refine join_listW (by assumption) (by assumption) (by decide +kernel) (by assumption) ?_; intro _ _) | (k_here; (with_reducible show wpAny _ _ (call (Value.builtin _) [Value.ref _, _]) _ _ _); refine append_hd (by k_asm) (by k_asm) (by assumption) (by omega) ?_; intro m_h' m_F' m_N') | walk1 | (dsimp only; walk1) | (leave1; walk_say "STEP leave1"; try dsimp only)) | fail "no step"))
    rename News _ _ _ _ => N3
    exact hret _ [] _ _ (by k_asm) (fun p hp => N3 p (.tail _ hp)) (fun _ _ _ h => nomatch h) ⟨_, _, rfl, rfl, by rw [join_cps, fm_flat]; rfl⟩
end Mine

end -- U3

section -- U4
open PySem PySem.W PyProof.Rows PySem.Spec PySem.Calls
set_option maxRecDepth 100000
set_option maxHeartbeats 8000000
set_option pp.deepTerms false
set_option pp.deepTerms.threshold 8
set_option pp.proofs.threshold 2
namespace Mine
/-- a contract of a def that makes a text and leaves every object as it stood -/
def CnK (prog : Program) (w : World) (K : Frag) (p : Program) (loose : List Str) (mean : ExcName → Option Value) (mg mb : Str → Option Value) (f : Addr) (sz : Nat) (vs : List Value) (x : Str) : Prop :=
  ∀ (dp un : Nat) (gd : Option (List Code)) (cn : Str) (cs : Scope) (a : Addr) (ccd : Value) (cl : List (Str × Addr)) (outer : List Env) (A₀ : Around) (base h₀ : Heap) (L : Addr) (m : Str → Option Value) (news : List (Addr × Obj)) (s : Shared)
    (Q E : Value → Shared → Prop),
    Below A₀ base outer h₀ → Fr h₀ L s.heap m → K.In h₀ → News h₀ L s.heap news → Top p loose mean mg mb h₀ → cs.kind = .function → dp + sz < recursionLimit → un + 8 * sz < cLine →
    (∀ t h' tk', Fr h₀ L h' m → News h₀ L h' news → (∀ b o, s.heap.get? b = some o → h'.get? b = some o) → Q (.str x t) { s with heap := h', toks := tk' }) →
    wpAny (model prog w) (ktrTop dp un gd cn cs L a ccd cl outer) (call (.ref f) vs) Q E s

def lsText (mode p : Int) : Str :=
  if p = 0 then Txt.item (Str.ofString "?pc?d?b?-?l?s???") ((mode.fdiv 4096).fmod 16)
  else if p.fmod 3 = 1 then Txt.item (Str.ofString "-r") ((mode.fdiv (2 ^ (9 - p).toNat)).fmod 2)
  else if p.fmod 3 = 2 then Txt.item (Str.ofString "-w") ((mode.fdiv (2 ^ (9 - p).toNat)).fmod 2)
  else if p = 9 then Txt.item (Str.ofString "-xTt") ((mode.fdiv (2 ^ (9 - p).toNat)).fmod 2 + 2 * (mode.fdiv (2 ^ (12 - p.fdiv 3).toNat)).fmod 2)
  else Txt.item (Str.ofString "-xSs") ((mode.fdiv (2 ^ (9 - p).toNat)).fmod 2 + 2 * (mode.fdiv (2 ^ (12 - p.fdiv 3).toNat)).fmod 2)
theorem ls_tells (w : World) (loose : List Str) (mean : ExcName → Option Value) (mg mb : Str → Option Value) (mode : Int) (t t2 : Tok) (h0 : 0 ≤ mode) (h1 : mode < 2 ^ 40) (p : Int) (hp0 : 0 ≤ p) (hp1 : p < 10) :
    CnK PySem.Challenge.rw_tv0022_01.row.prog w (hd1.heap_39 w.params) hd1.view_39 loose mean mg mb 75 5 [.int mode t, .int p t2] (lsText mode p) := by
  k_fill
  w_top off
  intro dp un gd cn cs a ccd cl outer A₀ base h₀ L m news s Q E B F X N T hk hd hu hret
  refine wpAny_call ?_
  k_dflt (refine' code_defG ?k1 ?k2 ?k3 ?k4 ?k5 ?kA ?kF ?kK ?k6 ?k7 ?k8 ?k9 ?kB ?_ ?c2 ?c3 ?c4 ?c5; (case kA => exact rfl); (case kF => exact rfl); (case kK => assumption); (case k1 => k_asm); (case k2 => k_asm); (case k3 => k_asm); (case k4 => k_asm); (case k5 => k_asm); (case k6 => k_is); (case k7 => k_is); (case k8 => ktr_room); (case k9 => exact BindsTo.of_eq rfl); (case c5 => decide); (case kB => exact locs rfl); (case c2 => exact rfl); (case c3 => exact rfl); (case c4 => exact rfl); k_whole; intro g' L' h' FG' F' N' B' X' T' kG'; (try dsimp only); (try k_fold))
  (repeat' (first | (k_unfold; (try dsimp only)) | (k_end; wrow_close) | ((fail_if_success (with_reducible show wpAny _ _ (exec (Stmt.For _ _ _ _ _) _) _ _ _)); (fail_if_success (with_reducible show wpAny _ _ (exec (Stmt.While _ _ _ _) _) _ _ _)); (fail_if_success (with_reducible show wpAny _ _ (pyIter _) _ _ _)); first | walk1 | (dsimp only; walk1) | (leave1; walk_say "STEP leave1"; try dsimp only)) | fail "no step"))
  · rename p = 0 => e1
    rename News g' _ _ _ => N9
    rw [lsText, if_pos e1] at hret
    exact hret _ _ _ (by k_asm) (by k_asm) (elt_after (InElt.start _) kG' N (by k_asm) N9 (fun _ h => h))
  · rename p ≠ 0 => e1
    rename p.fmod 3 = 1 => e2
    rename News g' _ _ _ => N9
    rw [lsText, if_neg e1, if_pos e2] at hret
    exact hret _ _ _ (by k_asm) (by k_asm) (elt_after (InElt.start _) kG' N (by k_asm) N9 (fun _ h => h))
  · rename p ≠ 0 => e1
    rename p.fmod 3 ≠ 1 => e2
    rename p.fmod 3 = 2 => e3
    rename News g' _ _ _ => N9
    rw [lsText, if_neg e1, if_neg e2, if_pos e3] at hret
    exact hret _ _ _ (by k_asm) (by k_asm) (elt_after (InElt.start _) kG' N (by k_asm) N9 (fun _ h => h))
  · rename p ≠ 0 => e1
    rename p.fmod 3 ≠ 1 => e2
    rename p.fmod 3 ≠ 2 => e3
    rename p = 9 => e4
    rename News g' _ _ _ => N9
    rw [lsText, if_neg e1, if_neg e2, if_neg e3, if_pos e4] at hret
    exact hret _ _ _ (by k_asm) (by k_asm) (elt_after (InElt.start _) kG' N (by k_asm) N9 (fun _ h => h))
  · rename p ≠ 0 => e1
    rename p.fmod 3 ≠ 1 => e2
    rename p.fmod 3 ≠ 2 => e3
    rename p ≠ 9 => e4
    rename News g' _ _ _ => N9
    rw [lsText, if_neg e1, if_neg e2, if_neg e3, if_neg e4] at hret
    exact hret _ _ _ (by k_asm) (by k_asm) (elt_after (InElt.start _) kG' N (by k_asm) N9 (fun _ h => h))
end Mine

end -- U4

section -- V3
open PySem PySem.W PyProof.Rows
set_option maxRecDepth 100000
namespace Mine
theorem fdm (m k r : Nat) : ((m : Int).fdiv (k : Int)).fmod (r : Int) = ((m / k % r : Nat) : Int) := by
  rw [Int.fdiv_eq_ediv_of_nonneg _ (by omega), Int.fmod_eq_emod_of_nonneg _ (by omega)]
  norm_cast
theorem band_nat (m b : Nat) : Builtin.bitAnd (m : Int) (b : Int) = ((m &&& b : Nat) : Int) := by
  unfold Builtin.bitAnd
  have h1 : decide ((0 : Int) ≤ (m : Int)) = true := by simp
  have h2 : decide ((0 : Int) ≤ (b : Int)) = true := by simp
  rw [h1, h2]
  simp
theorem and_pow (m k : Nat) : m &&& 2 ^ k = m / 2 ^ k % 2 * 2 ^ k := by
  have hb := @Nat.testBit_eq_decide_div_mod_eq k m
  apply Nat.eq_of_testBit_eq
  intro i
  rw [Nat.testBit_and, Nat.testBit_two_pow]
  rcases Nat.mod_two_eq_zero_or_one (m / 2 ^ k) with h | h
  · rw [h, Nat.zero_mul, Nat.zero_testBit]
    by_cases e : k = i
    · subst e; rw [hb, h]; simp
    · simp [e]
  · rw [h, Nat.one_mul, Nat.testBit_two_pow]
    by_cases e : k = i
    · subst e; rw [hb, h]; simp
    · simp [e]
theorem hit1 {m : Nat} {i b : Int} {c : Str} {r : List (Int × Str)} (hi : ¬ i = 0) (h : Builtin.bitAnd m b = b) : pick i m ((b, c) :: r) = c := pick_hit (by rw [if_neg hi]; exact h)
theorem miss1 {m : Nat} {i b : Int} {c : Str} {r : List (Int × Str)} (hi : ¬ i = 0) (h : ¬ Builtin.bitAnd m b = b) : pick i m ((b, c) :: r) = pick i m r := pick_miss (by rw [if_neg hi]; exact h)
theorem end1 {m : Nat} {i : Int} (hi : ¬ i = 0) : pick i m [] = Str.ofString "-" := by
  unfold pick
  rw [if_neg hi]
theorem and_two (m j k : Nat) : m &&& (2 ^ j ||| 2 ^ k) = (m / 2 ^ j % 2 * 2 ^ j) ||| (m / 2 ^ k % 2 * 2 ^ k) := by
  rw [Nat.and_or_distrib_left, and_pow, and_pow]
theorem m2 (n : Nat) : n % 2 = 0 ∨ n % 2 = 1 := Nat.mod_two_eq_zero_or_one n
theorem yes_bit {m k : Nat} (h : m / 2 ^ k % 2 = 1) : Builtin.bitAnd (m : Int) ((2 ^ k : Nat) : Int) = ((2 ^ k : Nat) : Int) := by rw [band_nat, and_pow, h, Nat.one_mul]
theorem no_bit {m k : Nat} (h : m / 2 ^ k % 2 = 0) : ¬ Builtin.bitAnd (m : Int) ((2 ^ k : Nat) : Int) = ((2 ^ k : Nat) : Int) := by
  rw [band_nat, and_pow, h, Nat.zero_mul]
  have hp : 0 < 2 ^ k := Nat.pos_of_ne_zero (by simp)
  omega
/-- one bit -/
theorem sign_one (m : Nat) (i : Int) (k : Nat) (c : Str) (S : Str) (hi : ¬ i = 0) (h0 : Txt.item S 0 = Str.ofString "-") (h1 : Txt.item S 1 = c) :
    Txt.item S (((m : Int).fdiv ((2 ^ k : Nat) : Int)).fmod 2) = pick i m [(((2 ^ k : Nat) : Int), c)] := by
  have e := fdm m (2 ^ k) 2
  rw [show ((2 : Nat) : Int) = 2 from rfl] at e
  rw [e]
  rcases m2 (m / 2 ^ k) with h | h
  · rw [miss1 hi (no_bit h), end1 hi, h]; exact h0
  · rw [hit1 hi (yes_bit h), h]; exact h1
theorem sign_two (m : Nat) (i : Int) (j k : Nat) (b : Nat) (cb cj ck : Str) (S : Str) (hi : ¬ i = 0) (hjk : b = (2 ^ j ||| 2 ^ k)) (hb : b ≠ 2 ^ j ∧ b ≠ 2 ^ k ∧ b ≠ 0) (h0 : Txt.item S 0 = Str.ofString "-") (h1 : Txt.item S 1 = ck) (h2 : Txt.item S 2 = cj) (h3 : Txt.item S 3 = cb) :
    Txt.item S (((m : Int).fdiv ((2 ^ k : Nat) : Int)).fmod 2 + 2 * ((m : Int).fdiv ((2 ^ j : Nat) : Int)).fmod 2) = pick i m [((b : Int), cb), (((2 ^ j : Nat) : Int), cj), (((2 ^ k : Nat) : Int), ck)] := by
  have e := fdm m (2 ^ k) 2
  have e' := fdm m (2 ^ j) 2
  rw [show ((2 : Nat) : Int) = 2 from rfl] at e e'
  rw [e, e']
  have ha : m &&& b = (m / 2 ^ j % 2 * 2 ^ j) ||| (m / 2 ^ k % 2 * 2 ^ k) := by rw [hjk, and_two]
  have hB : Builtin.bitAnd (m : Int) (b : Int) = (((m / 2 ^ j % 2 * 2 ^ j) ||| (m / 2 ^ k % 2 * 2 ^ k) : Nat) : Int) := by rw [band_nat, ha]
  rcases m2 (m / 2 ^ k) with hk | hk <;> rcases m2 (m / 2 ^ j) with hj | hj
  · rw [miss1 hi (by rw [hB, hk, hj, Nat.zero_mul, Nat.zero_mul]; simp; omega), miss1 hi (no_bit hj), miss1 hi (no_bit hk), end1 hi, hk, hj]; exact h0
  · rw [miss1 hi (by rw [hB, hk, hj, Nat.zero_mul, Nat.one_mul, Nat.or_zero]; omega), hit1 hi (yes_bit hj), hk, hj]; exact h2
  · rw [miss1 hi (by rw [hB, hk, hj, Nat.zero_mul, Nat.one_mul, Nat.zero_or]; omega), miss1 hi (no_bit hj), hit1 hi (yes_bit hk), hk, hj]; exact h1
  · rw [hit1 hi (by rw [hB, hk, hj, Nat.one_mul, Nat.one_mul, hjk]), hk, hj]; exact h3
theorem and_kind (m : Nat) : m &&& 61440 = m / 4096 % 16 * 4096 := by
  have e : 61440 = ((2 ^ 15 ||| 2 ^ 14) ||| (2 ^ 13 ||| 2 ^ 12)) := by decide
  rw [e, Nat.and_or_distrib_left, and_two, and_two]
  have h : m / 4096 % 16 = m / 2 ^ 12 % 2 + 2 * (m / 2 ^ 13 % 2) + 4 * (m / 2 ^ 14 % 2) + 8 * (m / 2 ^ 15 % 2) := by omega
  rw [h]
  rcases m2 (m / 2 ^ 12) with h1 | h1 <;> rcases m2 (m / 2 ^ 13) with h2 | h2 <;> rcases m2 (m / 2 ^ 14) with h3 | h3 <;> rcases m2 (m / 2 ^ 15) with h4 | h4 <;> rw [h1, h2, h3, h4] <;> rfl
def pickK (v : Int) : List (Int × Str) → Str
  | [] => Str.ofString "?"
  | (b, c) :: r => if v = b then c else pickK v r
theorem pickK_eq (m : Nat) : ∀ l, pick 0 m l = pickK ((m / 4096 % 16 * 4096 : Nat) : Int) l
  | [] => by unfold pick pickK; rfl
  | (b, c) :: r => by
    have e := band_nat m 61440
    rw [show ((61440 : Nat) : Int) = 61440 from rfl, and_kind] at e
    unfold pickK
    by_cases h : ((m / 4096 % 16 * 4096 : Nat) : Int) = b
    · rw [if_pos h, pick_hit (by rw [if_pos rfl, e]; exact h)]
    · rw [if_neg h, pick_miss (by rw [if_pos rfl, e]; exact h)]
      exact pickK_eq m r
theorem kinds : ∀ v, v < 16 → Txt.item (Str.ofString "?pc?d?b?-?l?s???") ((v : Nat) : Int) = pickK ((v * 4096 : Nat) : Int) (ftab 0) := by decide +kernel
theorem ls_is (m i : Nat) (hi : i < 10) : lsText m i = fmSign m i := by
  have hc : i = 0 ∨ i = 1 ∨ i = 2 ∨ i = 3 ∨ i = 4 ∨ i = 5 ∨ i = 6 ∨ i = 7 ∨ i = 8 ∨ i = 9 := by omega
  rcases hc with rfl | rfl | rfl | rfl | rfl | rfl | rfl | rfl | rfl | rfl
  · show Txt.item (Str.ofString "?pc?d?b?-?l?s???") (((m : Int).fdiv ((4096 : Nat) : Int)).fmod ((16 : Nat) : Int)) = pick 0 m (ftab 0)
    rw [fdm, pickK_eq]
    exact kinds _ (Nat.mod_lt _ (by decide))
  · exact sign_one m 1 8 (Str.ofString "r") (Str.ofString "-r") (by decide) (by decide +kernel) (by decide +kernel)
  · exact sign_one m 2 7 (Str.ofString "w") (Str.ofString "-w") (by decide) (by decide +kernel) (by decide +kernel)
  · exact sign_two m 3 11 6 2112 (Str.ofString "s") (Str.ofString "S") (Str.ofString "x") (Str.ofString "-xSs") (by decide) (by decide) (by decide) (by decide +kernel) (by decide +kernel) (by decide +kernel) (by decide +kernel)
  · exact sign_one m 4 5 (Str.ofString "r") (Str.ofString "-r") (by decide) (by decide +kernel) (by decide +kernel)
  · exact sign_one m 5 4 (Str.ofString "w") (Str.ofString "-w") (by decide) (by decide +kernel) (by decide +kernel)
  · exact sign_two m 6 10 3 1032 (Str.ofString "s") (Str.ofString "S") (Str.ofString "x") (Str.ofString "-xSs") (by decide) (by decide) (by decide) (by decide +kernel) (by decide +kernel) (by decide +kernel) (by decide +kernel)
  · exact sign_one m 7 2 (Str.ofString "r") (Str.ofString "-r") (by decide) (by decide +kernel) (by decide +kernel)
  · exact sign_one m 8 1 (Str.ofString "w") (Str.ofString "-w") (by decide) (by decide +kernel) (by decide +kernel)
  · exact sign_two m 9 9 0 513 (Str.ofString "t") (Str.ofString "T") (Str.ofString "x") (Str.ofString "-xTt") (by decide) (by decide) (by decide) (by decide +kernel) (by decide +kernel) (by decide +kernel) (by decide +kernel)
end Mine

end -- V3

section -- W1
open PySem PySem.W PyProof.Rows PySem.Spec PySem.Calls
set_option maxRecDepth 100000
set_option maxHeartbeats 8000000
set_option pp.deepTerms false
set_option pp.deepTerms.threshold 8
set_option pp.proofs.threshold 2
namespace Mine
/-- walk until a loop -/



theorem int_eq {ws : List Int} {i n : Nat} (hi : i + 1 < ws.length) (hn : n < i + 1) : (ws.getD (1 + (i : Int)).toNat 0 = ws.getD (n : Int).toNat 0) ↔ ws[i + 1]? = ws[n]? := by
  have e : (1 + (i : Int)).toNat = i + 1 := by omega
  have h2 : n < ws.length := by omega
  rw [e, Int.toNat_natCast]
  simp [List.getD_eq_getElem?_getD, hi, h2]
def TabOutI (ws : List Int) (r : Value) (tl : List (Addr × Obj)) : Prop := ∃ a vs n ts, r = .ref a ∧ tl = [(a, listOf vs.toArray n)] ∧ IntsAre vs ts ∧ IsTab ws ts
theorem tab_ints (w : World) (loose : List Str) (mean : ExcName → Option Value) (mg mb : Str → Option Value) (l : Addr) (vs : List Value) (c : Nat) (ws : List Int) (hiW : IntsAre vs ws) (hx : ws.length ≤ 1000) (news : List (Addr × Obj)) (hm : (l, listOf vs.toArray c) ∈ news) :
    Cn PySem.Challenge.rw_tv0022_01.row.prog w (hd1.heap_39 w.params) hd1.view_39 loose mean mg mb 21 5 [.ref l] news
      (TabOutI ws) := by
  k_fill
  w_top off
  intro dp un gd cn cs a ccd cl outer A₀ base h₀ L m s Q E B F X N T hk hd hu hret
  refine wpAny_call ?_
  have hlW := hiW.length
  have hsW : vs.toArray.size = ws.length := by rw [List.size_toArray]; exact hlW
  k_dflt ktr_enter
  (repeat' (first | (k_unfold; (try dsimp only)) | (k_end; wrow_close) | ((fail_if_success (with_reducible show wpAny _ _ (exec (Stmt.For _ _ _ _ _) _) _ _ _)); (fail_if_success (with_reducible show wpAny _ _ (exec (Stmt.While _ _ _ _) _) _ _ _)); (fail_if_success (with_reducible show wpAny _ _ (pyIter _) _ _ _)); first | (k_here; (with_reducible show wpAny _ _ (setItem (Value.ref _) (Value.int _ _) (Value.int _ _)) _ _ _); refine set_hd (by k_asm) (by k_asm) (by assumption) (by assumption) (by omega) (by omega) (by omega) ?_; intro m_h' m_F' m_N' m_hi') | ((with_reducible show wpAny _ _ (subscriptTail _ _ (Value.ref _) (Value.int _ _)) _ _ _); k_dflt (refine' ksa_sub ?k1 ?k2 ?k3 ?k4 ?k5 ?k7 ?_ ?k6; (case k1 => k_asm); (case k2 => k_mem); (case k3 => with_reducible assumption); (case k4 => omega); (case k5 => omega); (case k7 => omega); (case k6 => with_unfolding_all rfl); k_whole); intro _) | (k_here; (with_reducible show wpAny _ _ (call (Value.builtin "len") [Value.ref _]) _ _ _); (refine KM.len_K (by k_asm) (by k_dflt k_mem) (by with_reducible assumption) (by omega) ?_)) | (k_here; (with_reducible show wpAny _ _ (setItem (Value.ref _) (Value.int _ _) (Value.int _ _)) _ _ _); refine set_hd (by k_asm) (by k_asm) (by assumption) (by assumption) (by omega) (by omega) (by omega) ?_; intro m_h' m_F' m_N' m_hi') | walk1 | (dsimp only; walk1) | (leave1; walk_say "STEP leave1"; try dsimp only)) | fail "no step"))
  rename Fr _ _ _ _ => F1
  rename News _ _ _ _ => N1
  rename IntsAre _ _ => hi
  rename _ ∧ AllLt _ _ => lD
  simp only [rep_flat] at hi N1
  have hn : ((ws.length : Nat) : Int).toNat = ws.length := Int.toNat_natCast _
  rw [hn] at hi N1
  generalize hvs : List.replicate ws.length (Value.int 0 _) = vs0 at hi N1
  refine For_invVF F1 (by rfl) (by rfl) ?_
  (repeat' (first | (k_unfold; (try dsimp only)) | (k_end; wrow_close) | ((fail_if_success (with_reducible show wpAny _ _ (exec (Stmt.For _ _ _ _ _) _) _ _ _)); (fail_if_success (with_reducible show wpAny _ _ (exec (Stmt.While _ _ _ _) _) _ _ _)); (fail_if_success (with_reducible show wpAny _ _ (pyIter _) _ _ _)); first | (k_here; (with_reducible show wpAny _ _ (setItem (Value.ref _) (Value.int _ _) (Value.int _ _)) _ _ _); refine set_hd (by k_asm) (by k_asm) (by assumption) (by assumption) (by omega) (by omega) (by omega) ?_; intro m_h' m_F' m_N' m_hi') | ((with_reducible show wpAny _ _ (subscriptTail _ _ (Value.ref _) (Value.int _ _)) _ _ _); k_dflt (refine' ksa_sub ?k1 ?k2 ?k3 ?k4 ?k5 ?k7 ?_ ?k6; (case k1 => k_asm); (case k2 => k_mem); (case k3 => with_reducible assumption); (case k4 => omega); (case k5 => omega); (case k7 => omega); (case k6 => with_unfolding_all rfl); k_whole); intro _) | (k_here; (with_reducible show wpAny _ _ (call (Value.builtin "len") [Value.ref _]) _ _ _); (refine KM.len_K (by k_asm) (by k_dflt k_mem) (by with_reducible assumption) (by omega) ?_)) | (k_here; (with_reducible show wpAny _ _ (setItem (Value.ref _) (Value.int _ _) (Value.int _ _)) _ _ _); refine set_hd (by k_asm) (by k_asm) (by assumption) (by assumption) (by omega) (by omega) (by omega) ?_; intro m_h' m_F' m_N' m_hi') | walk1 | (dsimp only; walk1) | (leave1; walk_say "STEP leave1"; try dsimp only)) | fail "no step"))
  (try clear F1); (try clear N1)
  rename Fr _ _ _ _ => F1
  rename News _ _ _ _ => N1
  rename IsRange _ _ _ _ _ _ _ _ => R1
  rename IntsAre _ _ => hi
  refine range_L (n := ws.length - 1) [Str.ofString "idx"] (fun i ts => ts.length = ws.length ∧ (TabTo ws (i + 1) ts ∨ ws = [])) (by rfl) R1 ?_ ?_ F1 N1 hi ⟨List.length_replicate, TabTo.start _⟩ ?_ ?_
  · exact small_one (by omega) (by omega) (by omega) (by omega)
  · rw [rangeSize_nat]; exact n7 rfl
  · intro i vs ts t1 u h tk own hin hP hi1 hoff F2 N2
    have hP := hP.2.resolve_right (by intro e; rw [e] at hin; simp at hin)
    have hlen := hP.1
    have hlen2 := hi1.length
    simp only [List.cons_append] at N2
    have hne : ∀ p ∈ (_, _) :: (news ++ own), p.1 ≠ _ := ne_rest lD hoff
    (repeat' (first | (k_unfold; (try dsimp only)) | (k_end; wrow_close) | ((fail_if_success (with_reducible show wpAny _ _ (exec (Stmt.For _ _ _ _ _) _) _ _ _)); (fail_if_success (with_reducible show wpAny _ _ (exec (Stmt.While _ _ _ _) _) _ _ _)); (fail_if_success (with_reducible show wpAny _ _ (pyIter _) _ _ _)); first | (k_here; (with_reducible show wpAny _ _ (setItem (Value.ref _) (Value.int _ _) (Value.int _ _)) _ _ _); refine set_hd (by k_asm) (by k_asm) (by assumption) (by assumption) (by omega) (by omega) (by omega) ?_; intro m_h' m_F' m_N' m_hi') | ((with_reducible show wpAny _ _ (subscriptTail _ _ (Value.ref _) (Value.int _ _)) _ _ _); k_dflt (refine' ksa_sub ?k1 ?k2 ?k3 ?k4 ?k5 ?k7 ?_ ?k6; (case k1 => k_asm); (case k2 => k_mem); (case k3 => with_reducible assumption); (case k4 => omega); (case k5 => omega); (case k7 => omega); (case k6 => with_unfolding_all rfl); k_whole); intro _) | (k_here; (with_reducible show wpAny _ _ (call (Value.builtin "len") [Value.ref _]) _ _ _); (refine KM.len_K (by k_asm) (by k_dflt k_mem) (by with_reducible assumption) (by omega) ?_)) | (k_here; (with_reducible show wpAny _ _ (setItem (Value.ref _) (Value.int _ _) (Value.int _ _)) _ _ _); refine set_hd (by k_asm) (by k_asm) (by assumption) (by assumption) (by omega) (by omega) (by omega) ?_; intro m_h' m_F' m_N' m_hi') | walk1 | (dsimp only; walk1) | (leave1; walk_say "STEP leave1"; try dsimp only)) | fail "no step"))
    rename Fr _ _ _ _ => F3
    rename News _ _ _ _ => N3
    obtain ⟨k1, hk1, hk2⟩ := hP.at (j := i) (by omega)
    have ei := n1 i
    rw [ei, hk1] at F3
    refine while_I (fun k => ∃ n : Nat, k = (n : Int) ∧ Bd ws (i + 1) n ∧ ∀ b, Bd ws (i + 1) b → ws[i + 1]? = ws[b]? → b ≤ n) F3 N3 ⟨k1, rfl, lb_start hk2⟩ ?_
    rintro k tk2 h2 tk3 ⟨n, rfl, hb1, hb2⟩ F4 N4
    have hnlt := hb1.1
    have hil := n9 hin
    have hset : ∀ v : Nat, LB ws (i + 1 + 1) v → ∀ y : Int, y = (v : Int) → (ts.set (1 + (i : Int)).toNat y).length = ws.length ∧ (TabTo ws (i + 1 + 1) (ts.set (1 + (i : Int)).toNat y) ∨ ws = []) := fun v hv y hy => by
      rw [n2, hy]
      exact ⟨by rw [List.length_set]; exact hlen, .inl (hP.set hil hv)⟩
    have hkey : ∀ n : Nat, n < i + 1 → ((ws.getD (1 + (i : Int)).toNat 0 = ws.getD (n : Int).toNat 0) ↔ ws[i + 1]? = ws[n]?) := fun n h => int_eq hil h
    have hkey1 := hkey n hnlt
    (repeat' (first | (k_unfold; (try dsimp only)) | (k_end; wrow_close) | ((fail_if_success (with_reducible show wpAny _ _ (exec (Stmt.For _ _ _ _ _) _) _ _ _)); (fail_if_success (with_reducible show wpAny _ _ (exec (Stmt.While _ _ _ _) _) _ _ _)); (fail_if_success (with_reducible show wpAny _ _ (pyIter _) _ _ _)); first | (k_here; (with_reducible show wpAny _ _ (setItem (Value.ref _) (Value.int _ _) (Value.int _ _)) _ _ _); refine set_hd (by k_asm) (by k_asm) (by assumption) (by assumption) (by omega) (by omega) (by omega) ?_; intro m_h' m_F' m_N' m_hi') | ((with_reducible show wpAny _ _ (subscriptTail _ _ (Value.ref _) (Value.int _ _)) _ _ _); k_dflt (refine' ksa_sub ?k1 ?k2 ?k3 ?k4 ?k5 ?k7 ?_ ?k6; (case k1 => k_asm); (case k2 => k_mem); (case k3 => with_reducible assumption); (case k4 => omega); (case k5 => omega); (case k7 => omega); (case k6 => with_unfolding_all rfl); k_whole); intro _) | (k_here; (with_reducible show wpAny _ _ (call (Value.builtin "len") [Value.ref _]) _ _ _); (refine KM.len_K (by k_asm) (by k_dflt k_mem) (by with_reducible assumption) (by omega) ?_)) | (k_here; (with_reducible show wpAny _ _ (setItem (Value.ref _) (Value.int _ _) (Value.int _ _)) _ _ _); refine set_hd (by k_asm) (by k_asm) (by assumption) (by assumption) (by omega) (by omega) (by omega) ?_; intro m_h' m_F' m_N' m_hi') | walk1 | (dsimp only; walk1) | (leave1; walk_say "STEP leave1"; try dsimp only)) | fail "no step"))
    · rename ws.getD _ _ ≠ ws.getD _ _ => hd1
      rename (n : Int) = 0 => hd2
      refine RlEnd.intro (by k_asm) (by k_asm) (by intro p hp; simpa using hp) (by k_asm) (hset 0 (lb_zero ?_ ?_) _ rfl) (by intro z h1 h2; (simp only [List.contains_cons, List.contains_nil, Bool.or_false, beq_eq_false_iff_ne, ne_eq] at h2); simp [h1, h2])
      · have := n8 hd2
        subst this
        exact ⟨hb1, hb2⟩
      · have := n8 hd2
        subst this
        intro e
        exact hd1 (hkey1.mpr e)
    · rename ws.getD _ _ ≠ ws.getD _ _ => hd1
      rename (n : Int) ≠ 0 => hd2
      obtain ⟨k', hk', hL'⟩ := hP.at (j := n - 1) (by omega)
      have e1 := n3 n
      have e2 := n4 hd2
      rw [e2] at hL'
      have hlt' := hL'.1.1
      refine WiEnd.intro (k' := (k' : Int)) (by k_asm) (by k_asm) (by intro p hp; exact hp) (by show some (Value.int (ts.getD ((n : Int) - 1).toNat 0) _) = _; rw [e1, hk']) (by intro z h1; simp [h1]) ⟨k', rfl, lb_fall ⟨hb1, hb2⟩ ?_ hL'⟩ (n6 hlt')
      intro e
      exact hd1 (hkey1.mpr e)
    · rename ws.getD _ _ = ws.getD _ _ => hd1
      refine RlEnd.intro (by k_asm) (by k_asm) (by intro p hp; simpa using hp) (by k_asm) (hset (n + 1) (lb_hit ⟨hb1, hb2⟩ ?_) _ (by omega)) (by intro z h1 h2; (simp only [List.contains_cons, List.contains_nil, Bool.or_false, beq_eq_false_iff_ne, ne_eq] at h2); simp [h1, h2])
      exact hkey1.mp hd1
  · intro vs ts u h tk hP hi1 F2 N2
    (repeat' (first | (k_unfold; (try dsimp only)) | (k_end; wrow_close) | ((fail_if_success (with_reducible show wpAny _ _ (exec (Stmt.For _ _ _ _ _) _) _ _ _)); (fail_if_success (with_reducible show wpAny _ _ (exec (Stmt.While _ _ _ _) _) _ _ _)); (fail_if_success (with_reducible show wpAny _ _ (pyIter _) _ _ _)); first | (k_here; (with_reducible show wpAny _ _ (setItem (Value.ref _) (Value.int _ _) (Value.int _ _)) _ _ _); refine set_hd (by k_asm) (by k_asm) (by assumption) (by assumption) (by omega) (by omega) (by omega) ?_; intro m_h' m_F' m_N' m_hi') | ((with_reducible show wpAny _ _ (subscriptTail _ _ (Value.ref _) (Value.int _ _)) _ _ _); k_dflt (refine' ksa_sub ?k1 ?k2 ?k3 ?k4 ?k5 ?k7 ?_ ?k6; (case k1 => k_asm); (case k2 => k_mem); (case k3 => with_reducible assumption); (case k4 => omega); (case k5 => omega); (case k7 => omega); (case k6 => with_unfolding_all rfl); k_whole); intro _) | (k_here; (with_reducible show wpAny _ _ (call (Value.builtin "len") [Value.ref _]) _ _ _); (refine KM.len_K (by k_asm) (by k_dflt k_mem) (by with_reducible assumption) (by omega) ?_)) | (k_here; (with_reducible show wpAny _ _ (setItem (Value.ref _) (Value.int _ _) (Value.int _ _)) _ _ _); refine set_hd (by k_asm) (by k_asm) (by assumption) (by assumption) (by omega) (by omega) (by omega) ?_; intro m_h' m_F' m_N' m_hi') | walk1 | (dsimp only; walk1) | (leave1; walk_say "STEP leave1"; try dsimp only)) | fail "no step"))
    rename News _ _ _ _ => N3
    refine hret _ _ _ _ (by k_asm) (news_cut N3) (ord_one lD.2) ⟨_, _, _, _, rfl, rfl, hi1, ?_⟩
    · rcases hP.2 with hP2 | hP2
      · exact hP2.whole n10
      · exact ⟨hP.1, fun i hi => by rw [hP2] at hi; exact absurd hi (Nat.not_lt_zero _)⟩
end Mine

end -- W1

section -- B5
open PySem PySem.W PyProof.Rows PySem.Spec PySem.Calls
set_option maxRecDepth 100000
set_option maxHeartbeats 8000000
namespace Mine
section
variable {prog : Program} {w : World} {A : Around} {E : Value → Shared → Prop} {s : Shared} {h₀ : Heap} {L l b : Addr} {m : Str → Option Value} {news : List (Addr × Obj)} {vs us : List Value} {ns ms : List Int} {c d : Nat} {x : Int} {u : Tok} {Q : Value → Shared → Prop}
theorem mul_L (Fm : Fr h₀ L s.heap m) (N : News h₀ L s.heap news) (hm : (l, listOf vs.toArray c) ∈ news) (hi : IntsAre vs ns) (h1 : ns.length ≤ 1000) (h2 : 0 ≤ x) (h3 : x ≤ 1000)
    (h : ∀ D h' ws, Fr h₀ L h' m → News h₀ L h' ((D, listOf ws.toArray 0) :: news) → (∀ p ∈ news, p.1 < D) → IntsAre ws (List.replicate x.toNat ns).flatten → ws.length = ns.length * x.toNat → ((List.replicate x.toNat ns).flatten).length = ns.length * x.toNat → Q (.ref D) { s with heap := h' }) :
    wpAny (model prog w) A (binaryOp .Mult (.ref l) (.int x u)) Q E s := by
  have hl := hi.length
  have hq : vs.length * x.toNat ≤ 2 ^ 24 := by
    have h4 : x.toNat ≤ 1000 := by omega
    exact Nat.le_trans (Nat.mul_le_mul (by omega : vs.length ≤ 1000) h4) (by decide)
  refine KM.mul Fm N (News.isList N hm) hi (by omega) (by omega) hq fun D h' F' N' l1 i1 n1 s1 e1 e2 e3 => ?_
  have e : (n1 : Int) = ns.length * x := e3 h2
  have e' : n1 = ns.length * x.toNat := by
    have : (x.toNat : Int) = x := Int.toNat_of_nonneg h2
    rw [← this] at e
    exact_mod_cast e
  refine h D h' _ F' N' l1 i1 ?_ ?_
  · rw [← e', ← s1, List.size_toArray]
  · rw [← e', ← e1]
theorem eq_L (N : News h₀ L s.heap news) (hm : (l, listOf vs.toArray c) ∈ news) (hb : (b, listOf us.toArray d) ∈ news) (hi : IntsAre vs ns) (hj : IntsAre us ms) (hu : A.units + 64 < cLine) (h : Q (.bool (decide (ns = ms))) s) :
    wpAny (model prog w) A (compareOp .Eq (.ref l) (.ref b)) Q E s := ke_eq_ints (News.isList N hm) (News.isList N hb) hi hj hu h
theorem ne_L (N : News h₀ L s.heap news) (hm : (l, listOf vs.toArray c) ∈ news) (hb : (b, listOf us.toArray d) ∈ news) (hi : IntsAre vs ns) (hj : IntsAre us ms) (hu : A.units + 64 < cLine) (h : Q (.bool (!decide (ns = ms))) s) :
    wpAny (model prog w) A (compareOp .NotEq (.ref l) (.ref b)) Q E s := ke_ne_ints (News.isList N hm) (News.isList N hb) hi hj hu h
end
theorem cut1 {h₀ h : Heap} {L : Addr} {x a : Addr × Obj} {l : List (Addr × Obj)} (N : News h₀ L h (x :: a :: l)) : News h₀ L h (x :: l) := fun p hp => N p (by
  rcases List.mem_cons.mp hp with e | e
  · exact e ▸ .head _
  · exact .tail _ (.tail _ e))
theorem off1_mem {D : Addr} : ∀ {l : List (Addr × Obj)}, LCg.Off1 D l → ∀ q ∈ l, q.1 ≠ D
  | [], _, _, h => nomatch h
  | _ :: _, x, p, h => by
    rcases List.mem_cons.mp h with e | e
    · exact e ▸ x.1
    · exact off1_mem x.2 p e
/-- a contract as Cn, the objects given back being off those before -/
def Ck (prog : Program) (w : World) (K : Frag) (p : Program) (loose : List Str) (mean : ExcName → Option Value) (mg mb : Str → Option Value) (f : Addr) (sz : Nat) (vs : List Value) (news : List (Addr × Obj)) (Out : Value → List (Addr × Obj) → Prop) : Prop :=
  ∀ (dp un : Nat) (gd : Option (List Code)) (cn : Str) (cs : Scope) (a : Addr) (ccd : Value) (cl : List (Str × Addr)) (outer : List Env) (A₀ : Around) (base h₀ : Heap) (L : Addr) (m : Str → Option Value) (s : Shared)
    (Q E : Value → Shared → Prop),
    Below A₀ base outer h₀ → Fr h₀ L s.heap m → K.In h₀ → News h₀ L s.heap news → Top p loose mean mg mb h₀ → cs.kind = .function → dp + sz < recursionLimit → un + 8 * sz < cLine →
    (∀ r tl h' tk', Fr h₀ L h' m → News h₀ L h' (tl ++ news) → (∀ q ∈ news, ∀ p ∈ tl, q.1 ≠ p.1) → Out r tl → Q r { s with heap := h', toks := tk' }) →
    wpAny (model prog w) (ktrTop dp un gd cn cs L a ccd cl outer) (call (.ref f) vs) Q E s
section
variable {prog : Program} {w : World} {K : Frag} {p : Program} {loose : List Str} {mean : ExcName → Option Value} {mg mb : Str → Option Value} {f : Addr} {sz : Nat} {vs : List Value} {news : List (Addr × Obj)} {Out : Value → List (Addr × Obj) → Prop}
theorem Ck.use {dp un : Nat} {gd : Option (List Code)} {cn : Str} {cs : Scope} {a : Addr} {ccd : Value} {cl : List (Str × Addr)} {outer : List Env} {A₀ : Around} {base h₀ : Heap} {L : Addr} {m : Str → Option Value} {s : Shared} {Q E : Value → Shared → Prop}
    (C : Ck prog w K p loose mean mg mb f sz vs news Out) (B : Below A₀ base outer h₀) (F : Fr h₀ L s.heap m) (X : K.In h₀) (N : News h₀ L s.heap news) (T : Top p loose mean mg mb h₀) (hk : cs.kind = .function) (hd : dp + sz < recursionLimit) (hu : un + 8 * sz < cLine)
    (ret : ∀ r tl h' tk', Fr h₀ L h' m → News h₀ L h' (tl ++ news) → (∀ q ∈ news, ∀ p ∈ tl, q.1 ≠ p.1) → Out r tl → Q r { s with heap := h', toks := tk' }) :
    wpAny (model prog w) (ktrTop dp un gd cn cs L a ccd cl outer) (call (.ref f) vs) Q E s := C dp un gd cn cs a ccd cl outer A₀ base h₀ L m s Q E B F X N T hk hd hu ret
end
end Mine

end -- B5

section -- W2
open PySem PySem.W PyProof.Rows PySem.Spec PySem.Calls
set_option maxRecDepth 100000
set_option maxHeartbeats 8000000
set_option pp.deepTerms false
set_option pp.deepTerms.threshold 8
set_option pp.proofs.threshold 2
namespace Mine
/-- walk until a loop -/


abbrev powP (ws : List Int) (d : Int) : Prop := (List.replicate ((ws.length : Int).fdiv d).toNat (ws.take d.toNat)).flatten = ws
def powG (ws : List Int) (l : List Int) (d : Int) : List Int := if decide (powP ws d) = true then l ++ [d] else l
theorem powG_grows (ws : List Int) : KPfGrows (powG ws) := by
  intro l k
  unfold powG
  split
  · simp
  · omega
theorem powG_yes {ws l : List Int} {k : Int} (h : (List.replicate ((ws.length : Int).fdiv k).toNat (ws.take k.toNat)).flatten = ws) : powG ws l k = l ++ [k] := if_pos (decide_eq_true (p := powP ws k) h)
theorem powG_no {ws l : List Int} {k : Int} (h : ¬ (List.replicate ((ws.length : Int).fdiv k).toNat (ws.take k.toNat)).flatten = ws) : powG ws l k = l := if_neg (by rw [decide_eq_true_eq]; exact h)
def powB (ws : List Int) : Bool := !decide ((rangeKs 1 (ws.length - 1)).foldl (powG ws) [] = [])
theorem pow_tells (w : World) (loose : List Str) (mean : ExcName → Option Value) (mg mb : Str → Option Value) (l : Addr) (vs : List Value) (c : Nat) (ws : List Int) (hiW : IntsAre vs ws) (hx : ws.length ≤ 1000) (news : List (Addr × Obj)) (hm : (l, listOf vs.toArray c) ∈ news) :
    Cn PySem.Challenge.rw_tv0022_01.row.prog w (hd1.heap_39 w.params) hd1.view_39 loose mean mg mb 92 15 [.ref l] news
      (fun r tl => r = .bool (powB ws) ∧ tl = []) := by
  k_fill
  w_top off
  intro dp un gd cn cs a ccd cl outer A₀ base h₀ L m s Q E B F X N T hk hd hu hret
  refine wpAny_call ?_
  have hlW := hiW.length
  have hsW : vs.toArray.size = ws.length := by rw [List.size_toArray]; exact hlW
  k_dflt (refine' code_defC ?k1 ?k2 ?k3 ?k4 ?k5 ?kA ?kF ?kK ?k6 ?k7 ?k8 ?k9 ?kB ?kD ?_ ?c2 ?c3 ?c4; (case kA => exact rfl); (case kF => exact rfl); (case kK => assumption); (case k1 => k_asm); (case k2 => k_asm); (case k3 => k_asm); (case k4 => k_asm); (case k5 => k_asm); (case k6 => k_is); (case k7 => k_is); (case k8 => ktr_room); (case k9 => exact BindsTo.of_eq rfl); (case kB => exact rfl); (case kD => decide +kernel); (case c2 => exact rfl); (case c3 => exact rfl); (case c4 => exact rfl); k_whole; intro g' L' h' tk' cells' FG' F' N' Y' B' X' T' l1; (try k_lt l1); k_cells Y'; (try simp only [List.cons_append, List.nil_append] at N'); (try dsimp only); (try k_lift B'); (try k_fold))
  (repeat' (first | (k_unfold; (try dsimp only)) | (k_end; wrow_close) | ((fail_if_success (with_reducible show wpAny _ _ (exec (Stmt.For _ _ _ _ _) _) _ _ _)); (fail_if_success (with_reducible show wpAny _ _ (exec (Stmt.While _ _ _ _) _) _ _ _)); (fail_if_success (with_reducible show wpAny _ _ (pyIter _) _ _ _)); (fail_if_success (with_reducible show LCt.CompSrcT _ _ _ _ _ _ _ _ _ _ _ _ _ _ _)); (fail_if_success (with_reducible show LCg.CompEnd _ _ _ _ _ _ _ _ _ _ _ _ _ _)); first | ((with_reducible show wpAny _ _ (compareOp CmpOp.NotEq (Value.ref _) (Value.ref _)) _ _ _); k_dflt (refine' ne_L ?k1 ?k2 ?k3 ?k4 ?k5 ?k6 ?_; (case k1 => k_asm); (case k2 => k_mem); (case k3 => k_mem); (case k4 => with_reducible assumption); (case k5 => first | with_reducible assumption | exact .nil); (case k6 => ktr_units); k_whole)) | ((with_reducible show wpAny _ _ (compareOp CmpOp.Eq (Value.ref _) (Value.ref _)) _ _ _); k_dflt (refine' eq_L ?k1 ?k2 ?k3 ?k4 ?k5 ?k6 ?_; (case k1 => k_asm); (case k2 => k_mem); (case k3 => k_mem); (case k4 => with_reducible assumption); (case k5 => with_reducible assumption); (case k6 => ktr_units); k_whole)) | ((with_reducible show wpAny _ _ (binaryOp Operator.Mult (Value.ref _) (Value.int _ _)) _ _ _); k_dflt (refine' mul_L ?k1 ?k2 ?k3 ?k4 ?k5 ?k6 ?k7 ?_; (case k1 => k_asm); (case k2 => k_asm); (case k3 => k_mem); (case k4 => with_reducible assumption); (case k5 => omega); (case k6 => omega); (case k7 => omega); k_whole); intro m_D9 m_h9 m_ws9 m_F9 m_N9 m_l9 m_i9 m_e9 m_f9; k_lt m_l9) | ((with_reducible show wpAny _ _ (eval (Expr.ListComp _ _ _ _) _) _ _ _); k_dflt (refine LCt.ListComp_T (F₀ := by k_asm) (by with_unfolding_all rfl) (by decide) (by rfl) (by decide) (by rfl) ?_)) | (k_here; (with_reducible show wpAny _ _ (call (Value.builtin "len") [Value.ref _]) _ _ _); (refine KM.len_K (by k_asm) (by k_dflt k_mem) (by with_reducible assumption) (by omega) ?_)) | walk1 | (dsimp only; walk1) | (leave1; walk_say "STEP leave1"; try dsimp only)) | fail "no step"))
  rename Obj => oR
  rename oR.data = _ => dR
  have dR' : oR.data = Data.cell (some (.ref l)) := dR
  clear dR
  refine LCt.CompSrcT.range (n := ws.length - 1) (by rfl) (by k_asm) (by k_asm) (by assumption) (small_one (by omega) (by omega) (by omega) (by omega)) (by rw [rangeSize_nat]; omega) (by rw [PySem.sizeLine_eq]; omega) ?_
  intro g9
  refine kci_range (powG ws) (fun k9 t9 I9 oI9 C9 oC9 D9 m9 ys9 l9 h9 tk9 E9 hlo9 hhi9 hI9 hC9 hx9 F9 N9 off9 ne9 hm9 => ?_) ?_ (powG_grows ws)
  · have hk1 : 1 ≤ k9 := hlo9
    have hk2 : k9 < (ws.length : Int) := by omega
    have hq0 : 0 ≤ (ws.length : Int).fdiv k9 := Int.fdiv_nonneg (by omega) (by omega)
    have hq1 : (ws.length : Int).fdiv k9 ≤ ws.length := by
      rw [Int.fdiv_eq_ediv_of_nonneg _ (by omega)]
      exact Int.ediv_le_self _ (by omega)
    (repeat' (first | (k_unfold; (try dsimp only)) | (k_end; wrow_close) | ((fail_if_success (with_reducible show wpAny _ _ (exec (Stmt.For _ _ _ _ _) _) _ _ _)); (fail_if_success (with_reducible show wpAny _ _ (exec (Stmt.While _ _ _ _) _) _ _ _)); (fail_if_success (with_reducible show wpAny _ _ (pyIter _) _ _ _)); (fail_if_success (with_reducible show LCt.CompSrcT _ _ _ _ _ _ _ _ _ _ _ _ _ _ _)); (fail_if_success (with_reducible show LCg.CompEnd _ _ _ _ _ _ _ _ _ _ _ _ _ _)); first | ((with_reducible show wpAny _ _ (compareOp CmpOp.NotEq (Value.ref _) (Value.ref _)) _ _ _); k_dflt (refine' ne_L ?k1 ?k2 ?k3 ?k4 ?k5 ?k6 ?_; (case k1 => k_asm); (case k2 => k_mem); (case k3 => k_mem); (case k4 => with_reducible assumption); (case k5 => first | with_reducible assumption | exact .nil); (case k6 => ktr_units); k_whole)) | ((with_reducible show wpAny _ _ (compareOp CmpOp.Eq (Value.ref _) (Value.ref _)) _ _ _); k_dflt (refine' eq_L ?k1 ?k2 ?k3 ?k4 ?k5 ?k6 ?_; (case k1 => k_asm); (case k2 => k_mem); (case k3 => k_mem); (case k4 => with_reducible assumption); (case k5 => with_reducible assumption); (case k6 => ktr_units); k_whole)) | ((with_reducible show wpAny _ _ (binaryOp Operator.Mult (Value.ref _) (Value.int _ _)) _ _ _); k_dflt (refine' mul_L ?k1 ?k2 ?k3 ?k4 ?k5 ?k6 ?k7 ?_; (case k1 => k_asm); (case k2 => k_asm); (case k3 => k_mem); (case k4 => with_reducible assumption); (case k5 => omega); (case k6 => omega); (case k7 => omega); k_whole); intro m_D9 m_h9 m_ws9 m_F9 m_N9 m_l9 m_i9 m_e9 m_f9; k_lt m_l9) | ((with_reducible show wpAny _ _ (eval (Expr.ListComp _ _ _ _) _) _ _ _); k_dflt (refine LCt.ListComp_T (F₀ := by k_asm) (by with_unfolding_all rfl) (by decide) (by rfl) (by decide) (by rfl) ?_)) | (k_here; (with_reducible show wpAny _ _ (call (Value.builtin "len") [Value.ref _]) _ _ _); (refine KM.len_K (by k_asm) (by k_dflt k_mem) (by with_reducible assumption) (by omega) ?_)) | walk1 | (dsimp only; walk1) | (leave1; walk_say "STEP leave1"; try dsimp only)) | fail "no step"))
    · rename _ = ws => hE
      exact LCg.CompEnd.intro (by k_asm) (by k_asm) _ (fun p hp => .tail _ (.tail _ hp)) off9 trivial (kci_el (powG_yes hE) rfl rfl)
    · rename ¬ _ = ws => hE
      exact LCg.CompEnd.intro (by k_asm) (by k_asm) _ (fun p hp => .tail _ (.tail _ hp)) off9 trivial (kci_no (powG_no hE) rfl)
  · unfold KPfDone
    intro ys9 hys9 hyl9
    (repeat' (first | (k_unfold; (try dsimp only)) | (k_end; wrow_close) | ((fail_if_success (with_reducible show wpAny _ _ (exec (Stmt.For _ _ _ _ _) _) _ _ _)); (fail_if_success (with_reducible show wpAny _ _ (exec (Stmt.While _ _ _ _) _) _ _ _)); (fail_if_success (with_reducible show wpAny _ _ (pyIter _) _ _ _)); (fail_if_success (with_reducible show LCt.CompSrcT _ _ _ _ _ _ _ _ _ _ _ _ _ _ _)); (fail_if_success (with_reducible show LCg.CompEnd _ _ _ _ _ _ _ _ _ _ _ _ _ _)); first | ((with_reducible show wpAny _ _ (compareOp CmpOp.NotEq (Value.ref _) (Value.ref _)) _ _ _); k_dflt (refine' ne_L ?k1 ?k2 ?k3 ?k4 ?k5 ?k6 ?_; (case k1 => k_asm); (case k2 => k_mem); (case k3 => k_mem); (case k4 => with_reducible assumption); (case k5 => first | with_reducible assumption | exact .nil); (case k6 => ktr_units); k_whole)) | ((with_reducible show wpAny _ _ (compareOp CmpOp.Eq (Value.ref _) (Value.ref _)) _ _ _); k_dflt (refine' eq_L ?k1 ?k2 ?k3 ?k4 ?k5 ?k6 ?_; (case k1 => k_asm); (case k2 => k_mem); (case k3 => k_mem); (case k4 => with_reducible assumption); (case k5 => with_reducible assumption); (case k6 => ktr_units); k_whole)) | ((with_reducible show wpAny _ _ (binaryOp Operator.Mult (Value.ref _) (Value.int _ _)) _ _ _); k_dflt (refine' mul_L ?k1 ?k2 ?k3 ?k4 ?k5 ?k6 ?k7 ?_; (case k1 => k_asm); (case k2 => k_asm); (case k3 => k_mem); (case k4 => with_reducible assumption); (case k5 => omega); (case k6 => omega); (case k7 => omega); k_whole); intro m_D9 m_h9 m_ws9 m_F9 m_N9 m_l9 m_i9 m_e9 m_f9; k_lt m_l9) | ((with_reducible show wpAny _ _ (eval (Expr.ListComp _ _ _ _) _) _ _ _); k_dflt (refine LCt.ListComp_T (F₀ := by k_asm) (by with_unfolding_all rfl) (by decide) (by rfl) (by decide) (by rfl) ?_)) | (k_here; (with_reducible show wpAny _ _ (call (Value.builtin "len") [Value.ref _]) _ _ _); (refine KM.len_K (by k_asm) (by k_dflt k_mem) (by with_reducible assumption) (by omega) ?_)) | walk1 | (dsimp only; walk1) | (leave1; walk_say "STEP leave1"; try dsimp only)) | fail "no step"))
    rename News h₀ _ _ _ => N9
    refine hret _ [] _ _ (by k_asm) (fun p hp => N9 p (.tail _ (.tail _ (.tail _ hp)))) (fun _ _ _ h => nomatch h) ⟨rfl, rfl⟩
end Mine

end -- W2

section -- P5
set_option maxRecDepth 100000
namespace Mine
/-- w has the period d up to n -/
def Per {α : Type} (f : Nat → α) (n d : Nat) : Prop := ∀ i, i + d < n → f i = f (i + d)
theorem bd_per {α : Type} {w : List α} {n k : Nat} (hk : k < n) : Bd w n k ↔ Per (fun i => w[i]?) n (n - k) := by
  constructor
  · intro h i hi
    have := h.2 i (by omega)
    show w[i]? = w[i + (n - k)]?
    rw [← this]; congr 1; omega
  · intro h
    refine ⟨hk, fun j hj => ?_⟩
    have : w[j]? = w[j + (n - k)]? := h j (by omega)
    rw [this]; congr 1; omega
theorem per_sub {α : Type} {f : Nat → α} {n p q : Nat} (hp : Per f n p) (hq : Per f n q) (hlt : p < q) (hle : p + q ≤ n) : Per f n (q - p) := by
  intro i hi
  by_cases h : p ≤ i
  · have h1 := hp (i - p) (by omega)
    have h2 := hq (i - p) (by omega)
    rw [show i - p + p = i by omega] at h1
    rw [show i - p + q = i + (q - p) by omega] at h2
    rw [← h1, h2]
  · have h1 := hq i (by omega)
    have h2 := hp (i + (q - p)) (by omega)
    rw [show i + (q - p) + p = i + q by omega] at h2
    rw [h1, h2]
/-- weak Fine and Wilf -/
theorem per_gcd {α : Type} {f : Nat → α} {n : Nat} : ∀ (t p q : Nat), p + q ≤ t → 0 < p → 0 < q → Per f n p → Per f n q → p + q ≤ n → Per f n (Nat.gcd p q) := by
  intro t
  induction t with
  | zero => intro p q h hp; omega
  | succ t ih =>
    intro p q h hp hq h1 h2 hle
    rcases Nat.lt_trichotomy p q with hlt | heq | hgt
    · have := ih p (q - p) (by omega) hp (by omega) h1 (per_sub h1 h2 hlt hle) (by omega)
      rwa [Nat.gcd_sub_self_right (Nat.le_of_lt hlt)] at this
    · subst heq; rwa [Nat.gcd_self]
    · have := ih (p - q) q (by omega) (by omega) hq (per_sub h2 h1 hgt (by omega)) h2 (by omega)
      rwa [Nat.gcd_sub_self_left (Nat.le_of_lt hgt)] at this
theorem per_mul {α : Type} {f : Nat → α} {n d : Nat} (h : Per f n d) : ∀ k, Per f n (k * d) := by
  intro k
  induction k with
  | zero => intro i _; simp
  | succ k ih =>
    intro i hi
    rw [Nat.succ_mul] at hi ⊢
    have h1 := ih i (by omega)
    have h2 := h (i + k * d) (by omega)
    rw [h1, h2, Nat.add_assoc]
theorem per_of_dvd {α : Type} {f : Nat → α} {n d e : Nat} (h : Per f n d) (hd : d ∣ e) : Per f n e := by
  obtain ⟨k, rfl⟩ := hd
  rw [Nat.mul_comm]; exact per_mul h k
/-- equal places of a word with a period -/
theorem per_mod {α : Type} {f : Nat → α} {n d : Nat} (hd : 0 < d) (h : Per f n d) {i : Nat} (hi : i < n) : f (i % d) = f i := by
  have h1 := per_mul h (i / d) (i % d) (by have := Nat.div_add_mod i d; rw [Nat.mul_comm] at this; omega)
  rw [h1]; congr 1
  have := Nat.div_add_mod i d
  rw [Nat.mul_comm] at this; omega
/-- a period of the first period that divides it is one of the whole -/
theorem per_up {α : Type} {f : Nat → α} {n p g : Nat} (hp : 0 < p) (h : Per f n p) (hg : Per f p g) (hd : g ∣ p) : Per f n g := by
  intro i hi
  have hgp : g ≤ p := Nat.le_of_dvd hp hd
  have g0 : 0 < g := Nat.pos_of_dvd_of_pos hd hp
  obtain ⟨c, hc⟩ := hd
  rw [← per_mod hp h (by omega : i < n), ← per_mod hp h hi]
  by_cases hlt : i % p + g < p
  · have e : (i + g) % p = i % p + g := by
      rw [Nat.add_mod, Nat.mod_eq_of_lt (a := g) (by omega), Nat.mod_eq_of_lt hlt]
    rw [e]; exact hg _ hlt
  · -- i % p + g ≥ p: equal by the residue mod g
    have hr : i % p < p := Nat.mod_lt _ hp
    have e : (i + g) % p = i % p + g - p := by
      by_cases hgp' : g = p
      · subst hgp'; simp [Nat.add_mod_right]
      · rw [Nat.add_mod, Nat.mod_eq_of_lt (a := g) (by omega), Nat.mod_eq_sub_mod (by omega), Nat.mod_eq_of_lt (by omega)]
    rw [e]
    have h1 := per_mod g0 hg hr
    have h2 := per_mod g0 hg (i := i % p + g - p) (by omega)
    rw [← h1, ← h2]
    congr 1
    have h3 : i % p + g = (i % p + g - p) + g * c := by rw [← hc]; omega
    have h4 : (i % p + g) % g = ((i % p + g - p) + g * c) % g := congrArg (· % g) h3
    rw [Nat.add_mod_right, Nat.add_mul_mod_self_left] at h4
    exact h4
theorem per_mono {α : Type} {f : Nat → α} {n q d : Nat} (h : Per f n d) (hq : q ≤ n) : Per f q d := fun i hi => h i (by omega)
theorem per_congr {α : Type} {f g : Nat → α} {n d : Nat} (h : Per f n d) (e : ∀ i, i < n → f i = g i) : Per g n d := fun i hi => by rw [← e i (by omega), ← e _ hi]; exact h i hi
theorem bd_congr {α : Type} {w t : List α} {n j : Nat} (e : ∀ i, i < n → w[i]? = t[i]?) : Bd w n j ↔ Bd t n j := by
  unfold Bd
  constructor
  · rintro ⟨h1, h2⟩; exact ⟨h1, fun i hi => by rw [← e _ (by omega), ← e i (by omega)]; exact h2 i hi⟩
  · rintro ⟨h1, h2⟩; exact ⟨h1, fun i hi => by rw [e _ (by omega), e i (by omega)]; exact h2 i hi⟩
/-- a short border of a word with the period p is one of its first p + n % p -/
theorem bd_short {α : Type} {w : List α} {n p j : Nat} (hp : 0 < p) (hpn : p ≤ n) (h : Per (fun i => w[i]?) n p) (hj : j < p + n % p) : Bd w n j ↔ Bd w (p + n % p) j := by
  have hd := Nat.div_add_mod n p
  have h1 : 1 ≤ n / p := (Nat.one_le_div_iff hp).mpr hpn
  obtain ⟨c, hc⟩ : ∃ c, n / p = c + 1 := ⟨n / p - 1, by omega⟩
  rw [hc, Nat.mul_add, Nat.mul_one] at hd
  have hq : p + n % p + c * p = n := by rw [Nat.mul_comm c p]; omega
  have key : ∀ i, i < j → w[n - j + i]? = w[p + n % p - j + i]? := by
    intro i hi
    have := per_mul h c (p + n % p - j + i) (by omega)
    show w[n - j + i]? = _
    have e : w[p + n % p - j + i]? = w[p + n % p - j + i + c * p]? := this
    rw [e]; congr 1; omega
  unfold Bd
  constructor
  · rintro ⟨a, b⟩; exact ⟨hj, fun i hi => by rw [← key i hi]; exact b i hi⟩
  · rintro ⟨a, b⟩; exact ⟨by omega, fun i hi => by rw [key i hi]; exact b i hi⟩
def Same (ws : List Nat) (n : Nat) (r : List Int) : Prop := r.length = n ∧ (∀ x ∈ r, x = 0 ∨ x = 1) ∧ r[0]? = some 0 ∧ ∀ j, Bd ws n j ↔ Bd r n j
theorem two_base {ws : List Nat} {n : Nat} (hn : 0 < n) (h : LB ws n 0) : Same ws n ([0] ++ List.replicate (n - 1) 1) := by
  refine ⟨by simp; omega, ?_, by simp, fun j => ?_⟩
  · intro x hx
    rcases List.mem_append.mp hx with hx | hx
    · exact .inl (List.mem_singleton.mp hx)
    · exact .inr (List.eq_of_mem_replicate hx)
  · constructor
    · intro hb
      have : j = 0 := by have := h.2 j hb; omega
      subst this; exact Bd.zero hn
    · intro hb
      by_cases hj : j = 0
      · subst hj; exact Bd.zero hn
      · exfalso
        have h1 := hb.2 0 (by omega)
        have h2 := hb.1
        rw [Nat.add_zero, List.getElem?_append_right (by simp; omega)] at h1
        simp only [List.length_singleton] at h1
        rw [List.getElem?_replicate, if_pos (by omega)] at h1
        simp at h1
theorem two_per {ws : List Nat} {n k : Nat} {sh : List Int} (h : LB ws n k) (h2 : 2 * (n - k) ≤ n) (hs : Same ws (n - k + n % (n - k)) sh) : Same ws n ((List.range n).map fun i => sh.getD (i % (n - k)) 0) := by
  have hkn := h.1.1
  generalize hp : n - k = p at *
  have p0 : 0 < p := by omega
  have hr : n % p < p := Nat.mod_lt _ p0
  have hpf : Per (fun i => ws[i]?) n p := by have := (bd_per hkn).mp h.1; rwa [hp] at this
  have hmin : ∀ d, 0 < d → d < p → ¬ Per (fun i => ws[i]?) n d := by
    intro d d0 dp hd
    have hb : Bd ws n (n - d) := (bd_per (by omega)).mpr (by rwa [show n - (n - d) = d by omega])
    have := h.2 _ hb
    omega
  obtain ⟨s1, s2, s3, s4⟩ := hs
  have hqn : p + n % p ≤ n := by
    have := Nat.div_add_mod n p
    have h1 : 1 ≤ n / p := (Nat.one_le_div_iff p0).mpr (by omega)
    have h3 : p * 1 ≤ p * (n / p) := Nat.mul_le_mul_left p h1
    omega
  generalize hq : p + n % p = q at *
  have hg : ∀ i, i < n → ((List.range n).map fun i => sh.getD (i % p) 0)[i]? = sh[i % p]? := by
    intro i hi
    have hi2 : i % p < p := Nat.mod_lt _ p0
    have hi3 : i % p < sh.length := by omega
    rw [List.getElem?_map, List.getElem?_range hi, Option.map_some, List.getD_eq_getElem?_getD, List.getElem?_eq_getElem hi3]
    rfl
  generalize ht : ((List.range n).map fun i => sh.getD (i % p) 0) = t at *
  have htp : Per (fun i => t[i]?) n p := by
    intro i hi
    show t[i]? = t[i + p]?
    rw [hg i (by omega), hg _ hi, Nat.add_mod_right]
  have hsp : Per (fun i => sh[i]?) q p := by
    have hb : Bd ws q (q - p) := (bd_per (by omega)).mpr (by rw [show q - (q - p) = p by omega]; exact per_mono hpf hqn)
    have := (bd_per (by omega)).mp ((s4 _).mp hb)
    rwa [show q - (q - p) = p by omega] at this
  have hts : ∀ i, i < q → t[i]? = sh[i]? := by
    intro i hi
    rw [hg i (by omega)]
    exact per_mod p0 hsp hi
  have tl : t.length = n := by rw [← ht]; simp
  refine ⟨tl, ?_, ?_, fun j => ?_⟩
  · intro x hx
    rw [← ht] at hx
    obtain ⟨i, hi, rfl⟩ := List.mem_map.mp hx
    have hi2 : i % p < sh.length := by have := Nat.mod_lt i p0; omega
    rw [List.getD_eq_getElem?_getD, List.getElem?_eq_getElem hi2]
    exact s2 _ (List.getElem_mem hi2)
  · rw [hts 0 (by omega)]; exact s3
  · by_cases hjq : j < q
    · have e1 : Bd ws n j ↔ Bd ws q j := by have := bd_short (j := j) p0 (by omega) hpf (by omega); rwa [hq] at this
      have e2 : Bd t n j ↔ Bd t q j := by have := bd_short (j := j) p0 (by omega) htp (by omega); rwa [hq] at this
      rw [e1, s4, e2]
      exact (bd_congr hts).symm
    · by_cases hjn : j < n
      · rw [bd_per hjn, bd_per hjn]
        generalize hd : n - j = d
        have d0 : 0 < d := by omega
        have hle : p + d ≤ n := by omega
        have gp : 0 < Nat.gcd p d := Nat.gcd_pos_of_pos_left _ p0
        have gle : Nat.gcd p d ≤ p := Nat.gcd_le_left _ p0
        have fin : (¬ Nat.gcd p d < p) → p ∣ d := by
          intro hh
          have : Nat.gcd p d = p := by omega
          rw [← this]; exact Nat.gcd_dvd_right p d
        constructor
        · intro hf
          have h1 := per_gcd _ p d (Nat.le_refl _) p0 d0 hpf hf hle
          exact per_of_dvd htp (fin fun hlt => hmin _ gp hlt h1)
        · intro hf
          have h1 := per_gcd _ p d (Nat.le_refl _) p0 d0 htp hf hle
          refine per_of_dvd hpf (fin fun hlt => ?_)
          have h3 : Per (fun i => sh[i]?) q (Nat.gcd p d) := per_congr (per_mono h1 hqn) hts
          have hb : Bd sh q (q - Nat.gcd p d) := (bd_per (by omega)).mpr (by rwa [show q - (q - Nat.gcd p d) = Nat.gcd p d by omega])
          have h4 := (bd_per (by omega)).mp ((s4 _).mpr hb)
          rw [show q - (q - Nat.gcd p d) = Nat.gcd p d by omega] at h4
          exact hmin _ gp hlt (per_up p0 hpf (per_mono h4 (by omega)) (Nat.gcd_dvd_left p d))
      · constructor
        · intro hb; exact absurd hb.1 hjn
        · intro hb; exact absurd hb.1 hjn
def Prim (x : List Int) : Prop := ∀ d, 0 < d → d < x.length → d ∣ x.length → ¬ Per (fun i => x[i]?) x.length d
/-- of u1 and u0 one is no power -/
theorem prim_or {u : List Int} {a b : Nat} (ha0 : 0 < a) (ha1 : a < u.length + 1) (ha : a ∣ u.length + 1) (hb0 : 0 < b) (hb1 : b < u.length + 1) (hb : b ∣ u.length + 1)
    (hx : Per (fun i => (u ++ [1])[i]?) (u.length + 1) a) (hy : Per (fun i => (u ++ [(0 : Int)])[i]?) (u.length + 1) b) : False := by
  have agr : ∀ (c : Int) i, i < u.length → (u ++ [c])[i]? = u[i]? := fun c i hi => List.getElem?_append_left hi
  have lst : ∀ (c : Int), (u ++ [c])[u.length]? = some c := fun c => by rw [List.getElem?_append_right (Nat.le_refl _)]; simp
  have x1 : (u ++ [(1 : Int)])[u.length - a + 0]? = (u ++ [(1 : Int)])[u.length - a + 0 + a]? := hx (u.length - a + 0) (by omega)
  have y1 : (u ++ [(0 : Int)])[u.length - b + 0]? = (u ++ [(0 : Int)])[u.length - b + 0 + b]? := hy (u.length - b + 0) (by omega)
  rw [show u.length - a + 0 + a = u.length by omega, lst, agr _ _ (by omega)] at x1
  rw [show u.length - b + 0 + b = u.length by omega, lst, agr _ _ (by omega)] at y1
  have px : Per (fun i => u[i]?) u.length a := per_congr (per_mono hx (Nat.le_succ _)) fun i hi => agr _ i hi
  have py : Per (fun i => u[i]?) u.length b := per_congr (per_mono hy (Nat.le_succ _)) fun i hi => agr _ i hi
  have two : ∀ {c}, c ∣ u.length + 1 → c < u.length + 1 → 0 < c → 2 * c ≤ u.length + 1 := by
    intro c hc hlt h0
    obtain ⟨e, he⟩ := hc
    have : 2 ≤ e := by
      rcases Nat.lt_or_ge e 2 with h | h
      · have : e = 0 ∨ e = 1 := by omega
        rcases this with rfl | rfl
        · omega
        · omega
      · exact h
    rw [he, Nat.mul_comm 2 c]
    exact Nat.mul_le_mul_left c this
  have t1 := two ha ha1 ha0
  have t2 := two hb hb1 hb0
  have key : u[u.length - a + 0]? = u[u.length - b + 0]? := by
    by_cases e : a = b
    · rw [e]
    · have hle : a + b ≤ u.length := by omega
      have hg := per_gcd _ a b (Nat.le_refl _) ha0 hb0 px py hle
      have g0 : 0 < Nat.gcd a b := Nat.gcd_pos_of_pos_left _ ha0
      have q1 : u[(u.length - a + 0) % Nat.gcd a b]? = u[u.length - a + 0]? := per_mod g0 hg (i := u.length - a + 0) (by omega)
      have q2 : u[(u.length - b + 0) % Nat.gcd a b]? = u[u.length - b + 0]? := per_mod g0 hg (i := u.length - b + 0) (by omega)
      rw [← q1, ← q2]
      congr 1
      have e1 : u.length - a + 0 + a = u.length - b + 0 + b := by omega
      have e2 : (u.length - a + 0 + a) % Nat.gcd a b = (u.length - b + 0 + b) % Nat.gcd a b := congrArg (· % Nat.gcd a b) e1
      obtain ⟨a', ha'⟩ := Nat.gcd_dvd_left a b
      obtain ⟨b', hb'⟩ := Nat.gcd_dvd_right a b
      have e3 : (u.length - a + 0 + a) % Nat.gcd a b = (u.length - a + 0) % Nat.gcd a b := by
        conv => lhs; rw [show u.length - a + 0 + a = u.length - a + 0 + Nat.gcd a b * a' by rw [← ha']]
        exact Nat.add_mul_mod_self_left _ _ _
      have e4 : (u.length - b + 0 + b) % Nat.gcd a b = (u.length - b + 0) % Nat.gcd a b := by
        conv => lhs; rw [show u.length - b + 0 + b = u.length - b + 0 + Nat.gcd a b * b' by rw [← hb']]
        exact Nat.add_mul_mod_self_left _ _ _
      rw [e3, e4] at e2
      exact e2
  rw [x1, y1] at key
  simp at key
theorem two_edge {ws : List Nat} {n k : Nat} {e hd : List Int} {c : Int} (h : LB ws n k) (k0 : 0 < k) (h2 : ¬ 2 * (n - k) ≤ n) (hs : Same ws k e) (hc : c = 0 ∨ c = 1)
    (hh : hd = e ++ List.replicate (2 * (n - k) - n - 1) 1 ++ [c]) (hprim : Prim hd) (hone : c = 0 → ¬ Prim (e ++ List.replicate (2 * (n - k) - n - 1) 1 ++ [1])) : Same ws n (hd ++ e) := by
  have hkn := h.1.1
  obtain ⟨s1, s2, s3, s4⟩ := hs
  generalize hp : n - k = p at *
  generalize hm : 2 * p - n - 1 = m1 at *
  have hpk : p = k + m1 + 1 := by omega
  have hn : n = p + k := by omega
  clear h2 hm
  have hl : hd.length = p := by rw [hh]; simp only [List.length_append, List.length_replicate, List.length_singleton]; rw [s1, hpk]
  have tE : ∀ i, i < k → (hd ++ e)[i]? = e[i]? := by
    intro i hi
    rw [List.getElem?_append_left (by omega), hh, List.append_assoc, List.getElem?_append_left (by omega)]
  have tM : ∀ i, k ≤ i → i < k + m1 → (hd ++ e)[i]? = some 1 := by
    intro i h1 h2
    rw [List.getElem?_append_left (by omega), hh, List.append_assoc, List.getElem?_append_right (by omega), List.getElem?_append_left (by simp; omega), List.getElem?_replicate, if_pos (by omega)]
  have tC : (hd ++ e)[k + m1]? = some c := by
    rw [List.getElem?_append_left (by omega), hh, List.getElem?_append_right (by simp; omega)]
    simp [s1]
  have tT : ∀ i, i < k → (hd ++ e)[p + i]? = e[i]? := by
    intro i hi
    rw [List.getElem?_append_right (by omega)]
    congr 1; omega
  have hbk : Bd (hd ++ e) n k := ⟨hkn, fun j hj => by rw [hp, tT j hj, tE j hj]⟩
  have htp : Per (fun i => (hd ++ e)[i]?) n p := by have := (bd_per hkn).mp hbk; rwa [hp] at this
  clear hp
  refine ⟨by rw [List.length_append]; omega, ?_, by rw [tE 0 k0]; exact s3, fun j => ?_⟩
  · intro x hx
    rcases List.mem_append.mp hx with hx | hx
    · rw [hh] at hx
      rcases List.mem_append.mp hx with hx | hx
      · rcases List.mem_append.mp hx with hx | hx
        · exact s2 x hx
        · exact .inr (List.eq_of_mem_replicate hx)
      · rw [List.mem_singleton.mp hx]; exact hc
    · exact s2 x hx
  · rcases Nat.lt_trichotomy j k with hj | hj | hj
    · have a1 : Bd ws n j ↔ Bd ws k j := ⟨fun hb => h.1.of_lt hb hj, fun hb => h.1.trans hb⟩
      have a2 : Bd (hd ++ e) n j ↔ Bd (hd ++ e) k j := ⟨fun hb => hbk.of_lt hb hj, fun hb => hbk.trans hb⟩
      rw [a1, s4, a2]
      exact (bd_congr tE).symm
    · subst hj; exact ⟨fun _ => hbk, fun _ => h.1⟩
    · constructor
      · intro hb; have := h.2 j hb; omega
      · intro hb
        exfalso
        have hjn := hb.1
        have hper := (bd_per hjn).mp hb
        generalize hdd : n - j = d at *
        have d0 : 0 < d := by omega
        have dp : d < p := by omega
        by_cases hle : p + d ≤ n
        · have g1 := per_gcd _ p d (Nat.le_refl _) (by omega) d0 htp hper hle
          have g0 : 0 < Nat.gcd p d := Nat.gcd_pos_of_pos_left _ (by omega)
          have gd : Nat.gcd p d ≤ d := Nat.gcd_le_right _ d0
          refine hprim (Nat.gcd p d) g0 (by omega) (by rw [hl]; exact Nat.gcd_dvd_left p d) ?_
          rw [hl]
          exact per_congr (per_mono g1 (by omega)) fun i hi => List.getElem?_append_left (by omega)
        · have z := hb.2 0 (by omega)
          rw [hdd, Nat.add_zero, tE 0 k0, s3] at z
          by_cases hdm : d < k + m1
          · rw [tM d (by omega) hdm] at z
            simp at z
          · have ed : d = k + m1 := by omega
            rw [ed, tC] at z
            have c0 : c = 0 := by simpa using z
            have step : ∀ i, i < k → (hd ++ e)[i + 1]? = (hd ++ e)[i]? := by
              intro i hi
              have := hb.2 (i + 1) (by omega)
              rw [hdd, show d + (i + 1) = p + i by omega, tT i hi] at this
              rw [tE i hi]; exact this.symm
            have all : ∀ i, i ≤ k → (hd ++ e)[i]? = some 0 := by
              intro i
              induction i with
              | zero => intro _; rw [tE 0 k0]; exact s3
              | succ i ih => intro hi; rw [step i (by omega)]; exact ih (by omega)
            by_cases hm0 : 0 < m1
            · have := all k (Nat.le_refl _)
              rw [tM k (Nat.le_refl _) (by omega)] at this
              simp at this
            · have m0 : m1 = 0 := by omega
              refine hone c0 ?_
              rw [m0]
              intro d' d0' d1' _ hper'
              have el : (e ++ List.replicate 0 (1 : Int) ++ [1]).length = k + 1 := by simp [s1]
              rw [el] at d1' hper'
              have q : (e ++ List.replicate 0 (1 : Int) ++ [1])[k - d' + 0]? = (e ++ List.replicate 0 (1 : Int) ++ [1])[k - d' + 0 + d']? := hper' (k - d' + 0) (by omega)
              rw [show k - d' + 0 + d' = k by omega] at q
              simp only [List.replicate_zero, List.append_nil] at q
              rw [List.getElem?_append_left (by omega), List.getElem?_append_right (by omega), ← tE _ (by omega), all _ (by omega)] at q
              simp [s1] at q
end Mine

end -- P5

section -- P6
open PySem PySem.W PyProof.Rows
set_option maxRecDepth 100000
namespace Mine
theorem flat_get {α : Type} {l : List α} : ∀ (c i : Nat), i < c * l.length → ((List.replicate c l).flatten)[i]? = l[i % l.length]?
  | 0, i, h => by omega
  | c + 1, i, h => by
    rw [List.replicate_succ, List.flatten_cons]
    by_cases hi : i < l.length
    · rw [List.getElem?_append_left hi, Nat.mod_eq_of_lt hi]
    · rw [List.getElem?_append_right (by omega), flat_get c (i - l.length) (by rw [Nat.succ_mul] at h; omega)]
      congr 1
      rw [Nat.mod_eq_sub_mod (a := i) (by omega)]
theorem flat_len {α : Type} {l : List α} (c : Nat) : ((List.replicate c l).flatten).length = c * l.length := by
  rw [List.length_flatten]
  simp
theorem pow_per {ws : List Int} {d : Nat} (d0 : 0 < d) (dl : d < ws.length) : powP ws (d : Int) ↔ d ∣ ws.length ∧ Per (fun i => ws[i]?) ws.length d := by
  have e : ((ws.length : Int).fdiv (d : Int)).toNat = ws.length / d := by
    rw [Int.fdiv_eq_ediv_of_nonneg _ (by omega)]
    have : (ws.length : Int) / (d : Int) = ((ws.length / d : Nat) : Int) := rfl
    rw [this]; exact Int.toNat_natCast _
  have tl : (ws.take d).length = d := by rw [List.length_take]; omega
  unfold powP
  rw [e, Int.toNat_natCast]
  constructor
  · intro h
    have h1 := congrArg List.length h
    rw [flat_len, tl] at h1
    refine ⟨⟨ws.length / d, by rw [Nat.mul_comm]; exact h1.symm⟩, fun i hi => ?_⟩
    have g : ∀ i, i < ws.length → ws[i]? = (ws.take d)[i % d]? := by
      intro i hi
      conv => lhs; rw [← h]
      rw [flat_get _ _ (by rw [tl]; omega), tl]
    show ws[i]? = ws[i + d]?
    rw [g i (by omega), g _ hi, Nat.add_mod_right]
  · rintro ⟨⟨c, hc⟩, hp⟩
    have h1 : ws.length / d = c := by rw [hc]; exact Nat.mul_div_cancel_left c d0
    apply List.ext_getElem?
    intro i
    by_cases hi : i < ws.length
    · have hi' := hi
      rw [h1, flat_get _ _ (by rw [tl, Nat.mul_comm]; omega), tl, List.getElem?_take, if_pos (Nat.mod_lt _ d0)]
      exact per_mod d0 hp hi
    · rw [List.getElem?_eq_none (by rw [flat_len, tl, h1, Nat.mul_comm]; omega), List.getElem?_eq_none (by omega)]
theorem pow_fold (ws : List Int) (n : Nat) : (rangeKs 1 n).foldl (powG ws) [] = (rangeKs 1 n).filter (fun d => decide (powP ws d)) := by
  unfold powG
  rw [filt_fold (fun d => decide (powP ws d)), List.nil_append]
theorem pow_iff {ws : List Int} : powB ws = true ↔ ¬ Prim ws := by
  unfold powB
  rw [pow_fold, Bool.not_eq_true', decide_eq_false_iff_not, List.filter_eq_nil_iff]
  unfold Prim
  constructor
  · intro h hP
    refine h fun a ha => ?_
    have h1 := mem_rangeKs ha
    obtain ⟨d, rfl⟩ := Int.eq_ofNat_of_zero_le (a := a) (by omega)
    rw [decide_eq_true_eq]
    intro hp
    obtain ⟨x, y⟩ := (pow_per (by omega) (by omega)).mp hp
    exact hP d (by omega) (by omega) x y
  · intro h hP
    refine h fun d d0 dl hd hper => ?_
    have hm : (d : Int) ∈ rangeKs 1 (ws.length - 1) := by
      unfold rangeKs
      exact List.mem_map.mpr ⟨d - 1, List.mem_range.mpr (by omega), by omega⟩
    exact hP _ hm (decide_eq_true ((pow_per d0 dl).mpr ⟨hd, hper⟩))
theorem pow_no {ws : List Int} (h : powB ws = false) : Prim ws := by
  by_cases hP : Prim ws
  · exact hP
  · rw [pow_iff.mpr hP] at h; cases h
theorem pow_yes {ws : List Int} (h : powB ws = true) : ¬ Prim ws := pow_iff.mp h
theorem rep_f (n : Nat) (a : Int) : (List.replicate n [a]).flatten = List.replicate n a := by
  induction n with
  | zero => rfl
  | succ n ih => rw [List.replicate_succ, List.flatten_cons, ih, List.replicate_succ]; rfl
theorem same_base {ws : List Nat} {z k : Int} (hz : 0 < z) (hE : z - k = z) (hL : LB ws z.toNat k.toNat) : Same ws z.toNat ([0] ++ (List.replicate (z - 1).toNat [1]).flatten) := by
  have : k.toNat = 0 := by omega
  rw [this] at hL
  have := two_base (by omega) hL
  rw [rep_f]
  rwa [show (z - 1).toNat = z.toNat - 1 by omega]
theorem same_per {ws : List Nat} {z : Int} {k : Nat} {sh : List Int} (hz : 0 < z) (h2 : 2 * (z - k) ≤ z) (hL : LB ws z.toNat k) (hS : Same ws (z - k + z.fmod (z - k)).toNat sh) : Same ws z.toNat ((rangeKs 0 z.toNat).map fun i => sh.getD (i.fmod (z - (k : Int))).toNat 0) := by
  obtain ⟨n, rfl⟩ := Int.eq_ofNat_of_zero_le (a := z) (by omega)
  rw [Int.toNat_natCast] at *
  have hk := hL.1.1
  have e1 : (n : Int) - (k : Int) = ((n - k : Nat) : Int) := by omega
  have e2 : (n : Int).fmod ((n - k : Nat) : Int) = ((n % (n - k) : Nat) : Int) := by rw [Int.fmod_eq_emod_of_nonneg _ (by omega)]; rfl
  rw [e1, e2] at hS
  have e3 : (((n - k : Nat) : Int) + ((n % (n - k) : Nat) : Int)).toNat = n - k + n % (n - k) := by omega
  rw [e3] at hS
  have := two_per hL (by omega) hS
  have e4 : ((rangeKs 0 n).map fun i => sh.getD (i.fmod ((n : Int) - (k : Int))).toNat 0) = (List.range n).map fun i => sh.getD (i % (n - k)) 0 := by
    unfold rangeKs
    rw [List.map_map]
    refine List.map_congr_left fun i _ => ?_
    show sh.getD (((0 : Int) + (i : Int)).fmod ((n : Int) - (k : Int))).toNat 0 = _
    rw [Int.zero_add, e1, Int.fmod_eq_emod_of_nonneg _ (by omega)]
    rfl
  rw [e4]; exact this
theorem same_one {ws : List Nat} {z : Int} {k : Nat} {e : List Int} (hz : 0 < z) (h0 : z - k ≠ z) (h2 : ¬ 2 * (z - k) ≤ z) (hL : LB ws z.toNat k) (hS : Same ws (z - (z - k)).toNat e) (hP : powB (e ++ (List.replicate (2 * (z - k) - z).toNat [1]).flatten) = false) :
    Same ws z.toNat (e ++ (List.replicate (2 * (z - k) - z).toNat [1]).flatten ++ e) := by
  obtain ⟨n, rfl⟩ := Int.eq_ofNat_of_zero_le (a := z) (by omega)
  rw [Int.toNat_natCast] at *
  have hk := hL.1.1
  rw [show ((n : Int) - ((n : Int) - (k : Int))).toNat = k by omega] at hS
  rw [rep_f] at hP ⊢
  have hm : (2 * ((n : Int) - (k : Int)) - n).toNat = 2 * (n - k) - n - 1 + 1 := by omega
  rw [hm, List.replicate_succ', ← List.append_assoc] at hP ⊢
  exact two_edge hL (by omega) (by omega) hS (.inr rfl) rfl (pow_no hP) (fun h => absurd h (by decide))
theorem same_zero {ws : List Nat} {z : Int} {k : Nat} {e : List Int} (hz : 0 < z) (h0 : z - k ≠ z) (h2 : ¬ 2 * (z - k) ≤ z) (hL : LB ws z.toNat k) (hS : Same ws (z - (z - k)).toNat e) (hP : powB (e ++ (List.replicate (2 * (z - k) - z).toNat [1]).flatten) = true) :
    Same ws z.toNat (e ++ (List.replicate (2 * (z - k) - z - 1).toNat [1]).flatten ++ [0] ++ e) := by
  obtain ⟨n, rfl⟩ := Int.eq_ofNat_of_zero_le (a := z) (by omega)
  rw [Int.toNat_natCast] at *
  have hk := hL.1.1
  rw [show ((n : Int) - ((n : Int) - (k : Int))).toNat = k by omega] at hS
  rw [rep_f] at hP ⊢
  have hm : (2 * ((n : Int) - (k : Int)) - n).toNat = 2 * (n - k) - n - 1 + 1 := by omega
  have hm2 : (2 * ((n : Int) - (k : Int)) - n - 1).toNat = 2 * (n - k) - n - 1 := by omega
  rw [hm, List.replicate_succ', ← List.append_assoc] at hP
  rw [hm2]
  have hnp := pow_yes hP
  refine two_edge hL (by omega) (by omega) hS (.inl rfl) rfl ?_ (fun _ => hnp)
  intro d d0 dl hd hper
  apply hnp
  intro a a0 al ha haper
  simp only [List.length_append, List.length_singleton] at dl hd hper al ha haper
  generalize hu : e ++ List.replicate (2 * (n - k) - n - 1) (1 : Int) = u at *
  have eu : e.length + (List.replicate (2 * (n - k) - n - 1) (1 : Int)).length = u.length := by rw [← hu, List.length_append]
  rw [eu] at dl hd hper al ha haper
  exact prim_or a0 al ha d0 dl hd haper hper
end Mine

end -- P6

section -- W4
open PySem PySem.W PyProof.Rows PySem.Spec PySem.Calls
set_option maxRecDepth 100000
set_option maxHeartbeats 8000000
set_option pp.deepTerms false
set_option pp.deepTerms.threshold 8
set_option pp.proofs.threshold 2
namespace Mine
/-- walk until a loop -/
def TwoOut (ws : List Nat) (n : Nat) (r : Value) (tl : List (Addr × Obj)) : Prop := ∃ a vs c ts, r = .ref a ∧ tl = [(a, listOf vs.toArray c)] ∧ IntsAre vs ts ∧ Same ws n ts
section
variable {w : World} {loose : List Str} {mean : ExcName → Option Value} {mg mb : Str → Option Value} {dp un : Nat} {gd : Option (List Code)} {cn : Str} {cs : Scope} {a : Addr} {ccd : Value} {cl : List (Str × Addr)} {outer : List Env} {A₀ : Around} {base h₀ : Heap} {L : Addr} {m : Str → Option Value} {s : Shared} {Q E : Value → Shared → Prop} {news : List (Addr × Obj)}
theorem use_same {vs₀ : List Value} {sz n : Nat} {ws : List Nat} (C : Ck PySem.Challenge.rw_tv0022_01.row.prog w (hd1.heap_39 w.params) hd1.view_39 loose mean mg mb 97 sz vs₀ news (TwoOut ws n)) (B : Below A₀ base outer h₀) (F : Fr h₀ L s.heap m) (X : (hd1.heap_39 w.params).In h₀) (N : News h₀ L s.heap news) (T : Top hd1.view_39 loose mean mg mb h₀) (hk : cs.kind = .function) (hd : dp + sz < recursionLimit) (hu : un + 8 * sz < cLine)
    (ret : ∀ a' vs' n' ts' h' tk', Fr h₀ L h' m → News h₀ L h' ((a', listOf vs'.toArray n') :: news) → OffQ a' news → IntsAre vs' ts' → Same ws n ts' → Q (.ref a') { s with heap := h', toks := tk' }) : wpAny (model PySem.Challenge.rw_tv0022_01.row.prog w) (ktrTop dp un gd cn cs L a ccd cl outer) (call (.ref 97) vs₀) Q E s :=
  Ck.use C B F X N T hk hd hu fun r tl h' tk' F' N' l' o' => by
    obtain ⟨a', vs', n', ts', rfl, rfl, hi, ht⟩ := o'
    exact ret a' vs' n' ts' h' tk' F' N' (offq_of fun q hq => l' q hq _ (List.mem_singleton.mpr rfl)) hi ht
theorem use_pow {l : Addr} {vs : List Value} {c : Nat} {ws : List Int} (hiW : IntsAre vs ws) (hx : ws.length ≤ 1000) (hm : (l, listOf vs.toArray c) ∈ news) (B : Below A₀ base outer h₀) (F : Fr h₀ L s.heap m) (X : (hd1.heap_39 w.params).In h₀) (N : News h₀ L s.heap news) (T : Top hd1.view_39 loose mean mg mb h₀) (hk : cs.kind = .function) (hd : dp + 15 < recursionLimit) (hu : un + 8 * 15 < cLine)
    (ret : ∀ h' tk', Fr h₀ L h' m → News h₀ L h' news → Q (.bool (powB ws)) { s with heap := h', toks := tk' }) : wpAny (model PySem.Challenge.rw_tv0022_01.row.prog w) (ktrTop dp un gd cn cs L a ccd cl outer) (call (.ref 92) [.ref l]) Q E s :=
  Cn.use (pow_tells w loose mean mg mb l vs c ws hiW hx news hm) B F X N T hk hd hu fun r tl h' tk' F' N' l' o' => by
    obtain ⟨rfl, rfl⟩ := o'
    exact ret h' tk' F' N'
theorem mul_1 {prog : Program} {A : Around} {l : Addr} {vs : List Value} {c : Nat} {x : Int} {u : Tok} (Fm : Fr h₀ L s.heap m) (N : News h₀ L s.heap news) (hm : (l, listOf vs.toArray c) ∈ news) (hi : IntsAre vs [1]) (h2 : 0 ≤ x) (h3 : x ≤ 1000)
    (h : ∀ D h' ws, Fr h₀ L h' m → News h₀ L h' ((D, listOf ws.toArray 0) :: news) → AllLt D news → IntsAre ws (List.replicate x.toNat [1]).flatten → ((List.replicate x.toNat [(1 : Int)]).flatten).length ≤ 1000 → Q (.ref D) { s with heap := h' }) :
    wpAny (model prog w) A (binaryOp .Mult (.ref l) (.int x u)) Q E s :=
  mul_L Fm N hm hi (by decide) h2 h3 fun D h' ws F' N' l1 i1 _ e2 => h D h' ws F' N' (allLt_of l1) i1 (by rw [e2]; show 1 * x.toNat ≤ 1000; omega)
end
theorem w4_a {z : Int} (h : 0 < z) : (z - 1).toNat = z.toNat - 1 := by omega
theorem w4_b {z : Int} (h : 0 < z) : z.toNat - 1 + 1 = z.toNat := by omega
theorem w4_c {z : Int} {n : Nat} (h : 0 < z) (h1 : z ≤ n) : z.toNat - 1 < n := by omega
theorem w4_d {z : Int} {k : Nat} (h : k < z.toNat) : (k : Int) < z := by omega
theorem w4_e {z k f : Int} (h : k < z) (hf : 0 ≤ f) : 0 < z - k + f := by omega
theorem w4_f {z k f : Int} (h : 2 * (z - k) ≤ z) (hf : f < z - k) : z - k + f < z := by omega
theorem w4_g {z : Int} {k : Nat} (h : z - k ≠ z) : 0 < z - (z - (k : Int)) := by omega
theorem w4_h {z k : Int} (h : k < z) : z - (z - k) < z := by omega
theorem w4_i {d y z : Int} {dp : Nat} (hd : dp + (20 + 10 * z.toNat) < recursionLimit) (h0 : 0 < y) (h : y < z) : dp + 1 + (20 + 10 * y.toNat) < recursionLimit := by omega
theorem w4_j {y z : Int} {un : Nat} (hu : un + 8 * (20 + 10 * z.toNat) < cLine) (h0 : 0 < y) (h : y < z) : un + 3 + 8 * (20 + 10 * y.toNat) < cLine := by omega
theorem w4_k {a : Nat} {p f q : Int} (h : a = (p + f).toNat) (h0 : 0 ≤ f) (hp : 0 < p) (hq : q < p) : q < (a : Int) := by omega
theorem w4_l {a b : Nat} {z k : Int} {n : Nat} (ha : a = (z - (z - k)).toNat) (hb : b = (2 * (z - k) - z).toNat) (h : ¬ 2 * (z - k) ≤ z) (h0 : 0 < z - (z - k)) (hz : z ≤ n) (hn : n ≤ 1000) : a + b ≤ 1000 := by omega
theorem w4_m {z k : Int} {a n : Nat} (ha : a = (z - k).toNat) (h0 : 0 ≤ k) (hz : z ≤ n) (hn : n ≤ 1000) : a ≤ 1000 := by omega
theorem rep1_len (n : Nat) : ((List.replicate n [(1 : Int)]).flatten).length = n := by simp
local macro_rules | `(tactic| k_all) => `(tactic| first | with_reducible assumption | (refine List.forall_mem_cons.mpr ⟨?_, ?_⟩; k_ne; k_all))
theorem two_step (w : World) (loose : List Str) (mean : ExcName → Option Value) (mg mb : Str → Option Value) (l : Addr) (vs : List Value) (c : Nat) (ts : List Int) (ws : List Nat) (hiW : IntsAre vs ts) (ht : IsTab ws ts) (hx : ws.length ≤ 1000)
    (z : Int) (t : Tok) (hz0 : 0 < z) (hz1 : z ≤ ws.length) (news : List (Addr × Obj)) (hm : (l, listOf vs.toArray c) ∈ news)
    (hIH : ∀ (y : Int) (u : Tok), 0 < y → y < z → ∀ (nw : List (Addr × Obj)), (l, listOf vs.toArray c) ∈ nw → Ck PySem.Challenge.rw_tv0022_01.row.prog w (hd1.heap_39 w.params) hd1.view_39 loose mean mg mb 97 (20 + 10 * y.toNat) [.ref l, .int y u] nw (TwoOut ws y.toNat)) :
    Ck PySem.Challenge.rw_tv0022_01.row.prog w (hd1.heap_39 w.params) hd1.view_39 loose mean mg mb 97 (20 + 10 * z.toNat) [.ref l, .int z t] news (TwoOut ws z.toNat) := by
  k_fill
  w_top off
  intro dp un gd cn cs a ccd cl outer A₀ base h₀ L m s Q E B F X N T hk hd hu hret
  refine wpAny_call ?_
  have hlW := hiW.length
  have hl1 := ht.1
  obtain ⟨k, hk1, hkL⟩ := ht.at (i := z.toNat - 1) (w4_c hz0 hz1)
  rw [← w4_a hz0] at hk1
  rw [w4_b hz0] at hkL
  have hkz : (k : Int) < z := w4_d hkL.1.1
  k_dflt (refine' code_defC ?k1 ?k2 ?k3 ?k4 ?k5 ?kA ?kF ?kK ?k6 ?k7 ?k8 ?k9 ?kB ?kD ?_ ?c2 ?c3 ?c4; (case kA => exact rfl); (case kF => exact rfl); (case kK => assumption); (case k1 => k_asm); (case k2 => k_asm); (case k3 => k_asm); (case k4 => k_asm); (case k5 => k_asm); (case k6 => k_is); (case k7 => k_is); (case k8 => ktr_room); (case k9 => exact BindsTo.of_eq rfl); (case kB => exact rfl); (case kD => decide +kernel); (case c2 => exact rfl); (case c3 => exact rfl); (case c4 => exact rfl); k_whole; intro g' L' h' tk' cells' FG' F' N' Y' B' X' T' l1; (try k_lt l1); k_cells Y'; (try simp only [List.cons_append, List.nil_append] at N'); (try dsimp only); (try k_lift B'); (try k_fold))
  rename_i o1 o2 d1 d2
  have dk : o1.data = Data.cell none := d1
  have dh : o2.data = Data.cell none := d2
  clear d1 d2
  have fin : ∀ (D : Addr) (us : List Value) (cc : Nat) (rs : List Int) (h9 : Heap) (tk9 : Nat), Fr h₀ L h9 m → News h₀ L h9 ((D, listOf us.toArray cc) :: news) → (∀ q ∈ news, q.1 ≠ D) → IntsAre us rs → Same ws z.toNat rs → Q (.ref D) { s with heap := h9, toks := tk9 } :=
    fun D us cc rs h9 tk9 F9 N9 l9 i9 S9 => hret _ [(D, listOf us.toArray cc)] _ _ F9 N9 (fun q hq p hp => by rw [List.mem_singleton.mp hp]; exact l9 q hq) ⟨_, _, _, _, rfl, rfl, i9, S9⟩
  clear hret
  have hn1 : ∀ p ∈ news, p.1 ≠ L' + 1 := fun p hp => Nat.ne_of_lt (Nat.lt_of_lt_of_le (l1 p hp) (by omega))
  have hn2 : ∀ p ∈ news, p.1 ≠ L' + 1 + 1 := fun p hp => Nat.ne_of_lt (Nat.lt_of_lt_of_le (l1 p hp) (by omega))
  (repeat' (first | (k_unfold; (try dsimp only)) | (k_end; wrow_close) | ((fail_if_success (with_reducible show wpAny _ _ (exec (Stmt.For _ _ _ _ _) _) _ _ _)); (fail_if_success (with_reducible show wpAny _ _ (exec (Stmt.While _ _ _ _) _) _ _ _)); (fail_if_success (with_reducible show wpAny _ _ (pyIter _) _ _ _)); (fail_if_success (with_reducible show LCg.CompSrc _ _ _ _ _ _ _ _ _ _ _ _ _ _)); (fail_if_success (with_reducible show wpAny _ _ (eval (Expr.ListComp _ _ _ _) _) _ _ _)); (fail_if_success (with_reducible show wpAny _ _ (call (Value.ref _) _) _ _ _)); (fail_if_success (with_reducible show LCg.CompEnd _ _ _ _ _ _ _ _ _ _ _ _ _ _)); first | ((with_reducible show wpAny _ _ (subscriptTail _ _ (Value.ref _) (Value.int _ _)) _ _ _); k_dflt (refine' sub_atE ?k1 ?k2 ?k3 ?kk ?k4 ?k5 ?k7 ?_ ?k6; (case k1 => k_asm); (case k2 => k_mem); (case k3 => with_reducible assumption); (case kk => first | with_reducible assumption | exact rfl); (case k4 => first | with_reducible assumption | omega); (case k5 => first | with_reducible assumption | omega); (case k7 => omega); (case k6 => with_unfolding_all rfl); k_whole); intro _) | ((with_reducible show wpAny _ _ (binaryOp Operator.Mult (Value.ref _) (Value.int _ _)) _ _ _); k_dflt (refine' mul_1 ?k1 ?k2 ?k3 ?k4 ?k6 ?k7 ?_; (case k1 => k_asm); (case k2 => k_asm); (case k3 => k_mem); (case k4 => first | with_reducible assumption | exact .cons _ _ .nil); (case k6 => omega); (case k7 => omega); k_whole); intro m_D9 m_h9 m_ws9 m_F9 m_N9 m_l9 m_i9 m_f9; k_lt m_l9) | walk1 | (dsimp only; walk1) | (leave1; walk_say "STEP leave1"; try dsimp only)) | fail "no step"))
  · rename z - (k : Int) = z => hE
    rename News h₀ _ _ _ => N9
    rename _ ∧ _ ∧ _ ∧ _ ∧ _ ∧ AllLt _ news => l9
    refine fin _ _ _ _ _ _ (by k_asm) (cut1 (cut1 (cut1 (cut1 (cut1 N9))))) (ne_lt l9.2.2.2.2.2) (by with_reducible assumption) (same_base hz0 hE (by rwa [Int.toNat_natCast]))
  · rename 2 * (z - (k : Int)) ≤ z => hE2
    rename z - (k : Int) ≠ z => hE
    clear hE
    have hp0 : 0 < z - (k : Int) := by omega
    have hf0 : 0 ≤ z.fmod (z - k) := Int.fmod_nonneg_of_pos _ hp0
    have hf1 : z.fmod (z - k) < z - k := Int.fmod_lt_of_pos _ hp0
    k_dflt (refine' use_same (hIH _ _ (w4_e hkz hf0) (w4_f hE2 hf1) _ ?kma) ?k1a ?k2a ?k3a ?k4a ?k5a ?kka ?kda ?kua ?_; (case k4a => k_asm); (case kma => k_mem); (case k1a => k_asm); (case k2a => k_asm); (case k3a => k_asm); (case k5a => k_asm); (case kka => exact rfl); (case kda => exact w4_i (d := 0) hd (w4_e hkz hf0) (w4_f hE2 hf1)); (case kua => exact w4_j hu (w4_e hkz hf0) (w4_f hE2 hf1)))
    intro a9 vs9 n9 sh h9 tk9 F9 N9 l8 i9 hS
    dsimp only [OffQ] at l8
    repeat (have := And.left l8; replace l8 := And.right l8)
    clear hIH
    (repeat' (first | (k_unfold; (try dsimp only)) | (k_end; wrow_close) | ((fail_if_success (with_reducible show wpAny _ _ (exec (Stmt.For _ _ _ _ _) _) _ _ _)); (fail_if_success (with_reducible show wpAny _ _ (exec (Stmt.While _ _ _ _) _) _ _ _)); (fail_if_success (with_reducible show wpAny _ _ (pyIter _) _ _ _)); (fail_if_success (with_reducible show LCg.CompSrc _ _ _ _ _ _ _ _ _ _ _ _ _ _)); (fail_if_success (with_reducible show wpAny _ _ (eval (Expr.ListComp _ _ _ _) _) _ _ _)); (fail_if_success (with_reducible show wpAny _ _ (call (Value.ref _) _) _ _ _)); (fail_if_success (with_reducible show LCg.CompEnd _ _ _ _ _ _ _ _ _ _ _ _ _ _)); first | ((with_reducible show wpAny _ _ (subscriptTail _ _ (Value.ref _) (Value.int _ _)) _ _ _); k_dflt (refine' sub_atE ?k1 ?k2 ?k3 ?kk ?k4 ?k5 ?k7 ?_ ?k6; (case k1 => k_asm); (case k2 => k_mem); (case k3 => with_reducible assumption); (case kk => first | with_reducible assumption | exact rfl); (case k4 => first | with_reducible assumption | omega); (case k5 => first | with_reducible assumption | omega); (case k7 => omega); (case k6 => with_unfolding_all rfl); k_whole); intro _) | ((with_reducible show wpAny _ _ (binaryOp Operator.Mult (Value.ref _) (Value.int _ _)) _ _ _); k_dflt (refine' mul_1 ?k1 ?k2 ?k3 ?k4 ?k6 ?k7 ?_; (case k1 => k_asm); (case k2 => k_asm); (case k3 => k_mem); (case k4 => first | with_reducible assumption | exact .cons _ _ .nil); (case k6 => omega); (case k7 => omega); k_whole); intro m_D9 m_h9 m_ws9 m_F9 m_N9 m_l9 m_i9 m_f9; k_lt m_l9) | walk1 | (dsimp only; walk1) | (leave1; walk_say "STEP leave1"; try dsimp only)) | fail "no step"))
    refine LCg.ListComp_U (F₀ := by k_asm) (by with_unfolding_all rfl) (by decide) (by rfl) (by decide) (by rfl) ?_
    (repeat' (first | (k_unfold; (try dsimp only)) | (k_end; wrow_close) | ((fail_if_success (with_reducible show wpAny _ _ (exec (Stmt.For _ _ _ _ _) _) _ _ _)); (fail_if_success (with_reducible show wpAny _ _ (exec (Stmt.While _ _ _ _) _) _ _ _)); (fail_if_success (with_reducible show wpAny _ _ (pyIter _) _ _ _)); (fail_if_success (with_reducible show LCg.CompSrc _ _ _ _ _ _ _ _ _ _ _ _ _ _)); (fail_if_success (with_reducible show wpAny _ _ (eval (Expr.ListComp _ _ _ _) _) _ _ _)); (fail_if_success (with_reducible show wpAny _ _ (call (Value.ref _) _) _ _ _)); (fail_if_success (with_reducible show LCg.CompEnd _ _ _ _ _ _ _ _ _ _ _ _ _ _)); first | ((with_reducible show wpAny _ _ (subscriptTail _ _ (Value.ref _) (Value.int _ _)) _ _ _); k_dflt (refine' sub_atE ?k1 ?k2 ?k3 ?kk ?k4 ?k5 ?k7 ?_ ?k6; (case k1 => k_asm); (case k2 => k_mem); (case k3 => with_reducible assumption); (case kk => first | with_reducible assumption | exact rfl); (case k4 => first | with_reducible assumption | omega); (case k5 => first | with_reducible assumption | omega); (case k7 => omega); (case k6 => with_unfolding_all rfl); k_whole); intro _) | ((with_reducible show wpAny _ _ (binaryOp Operator.Mult (Value.ref _) (Value.int _ _)) _ _ _); k_dflt (refine' mul_1 ?k1 ?k2 ?k3 ?k4 ?k6 ?k7 ?_; (case k1 => k_asm); (case k2 => k_asm); (case k3 => k_mem); (case k4 => first | with_reducible assumption | exact .cons _ _ .nil); (case k6 => omega); (case k7 => omega); k_whole); intro m_D9 m_h9 m_ws9 m_F9 m_N9 m_l9 m_i9 m_f9; k_lt m_l9) | walk1 | (dsimp only; walk1) | (leave1; walk_say "STEP leave1"; try dsimp only)) | fail "no step"))
    have hsl := hS.1
    refine LCg.CompSrc.range (n := z.toNat) (by rfl) (by k_asm) (by k_asm) (by assumption) (small_one (by omega) (by omega) (by omega) (by omega)) (by rw [rangeSize_nat]; omega) (by rw [PySem.sizeLine_eq]; omega) ?_
    intro g9
    refine kcf_range (fun i => sh.getD (i.fmod (z - (k : Int))).toNat 0) (fun k9 t9 I9 oI9 C9 oC9 D9 m9 ys9 h9 tk9 E9 hlo9 hhi9 hC9 hx9 F9 N9 off9 ne9 hm9 => ?_) ?_
    · have hq0 : 0 ≤ k9.fmod (z - k) := Int.fmod_nonneg_of_pos _ hp0
      have hq1 : k9.fmod (z - k) < z - k := Int.fmod_lt_of_pos _ hp0
      have hq2 : k9.fmod (z - k) < (sh.length : Int) := w4_k hsl hf0 hp0 hq1
      (repeat' (first | (k_unfold; (try dsimp only)) | (k_end; wrow_close) | ((fail_if_success (with_reducible show wpAny _ _ (exec (Stmt.For _ _ _ _ _) _) _ _ _)); (fail_if_success (with_reducible show wpAny _ _ (exec (Stmt.While _ _ _ _) _) _ _ _)); (fail_if_success (with_reducible show wpAny _ _ (pyIter _) _ _ _)); (fail_if_success (with_reducible show LCg.CompSrc _ _ _ _ _ _ _ _ _ _ _ _ _ _)); (fail_if_success (with_reducible show wpAny _ _ (eval (Expr.ListComp _ _ _ _) _) _ _ _)); (fail_if_success (with_reducible show wpAny _ _ (call (Value.ref _) _) _ _ _)); (fail_if_success (with_reducible show LCg.CompEnd _ _ _ _ _ _ _ _ _ _ _ _ _ _)); first | ((with_reducible show wpAny _ _ (subscriptTail _ _ (Value.ref _) (Value.int _ _)) _ _ _); k_dflt (refine' sub_atE ?k1 ?k2 ?k3 ?kk ?k4 ?k5 ?k7 ?_ ?k6; (case k1 => k_asm); (case k2 => k_mem); (case k3 => with_reducible assumption); (case kk => first | with_reducible assumption | exact rfl); (case k4 => first | with_reducible assumption | omega); (case k5 => first | with_reducible assumption | omega); (case k7 => omega); (case k6 => with_unfolding_all rfl); k_whole); intro _) | ((with_reducible show wpAny _ _ (binaryOp Operator.Mult (Value.ref _) (Value.int _ _)) _ _ _); k_dflt (refine' mul_1 ?k1 ?k2 ?k3 ?k4 ?k6 ?k7 ?_; (case k1 => k_asm); (case k2 => k_asm); (case k3 => k_mem); (case k4 => first | with_reducible assumption | exact .cons _ _ .nil); (case k6 => omega); (case k7 => omega); k_whole); intro m_D9 m_h9 m_ws9 m_F9 m_N9 m_l9 m_i9 m_f9; k_lt m_l9) | walk1 | (dsimp only; walk1) | (leave1; walk_say "STEP leave1"; try dsimp only)) | fail "no step"))
      exact LCg.CompEnd.intro (by k_asm) (by k_asm) _ (fun p hp => hp) off9 trivial (kcf_el rfl rfl rfl)
    · unfold KPfDone
      intro ys9 hys9
      (repeat' (first | (k_unfold; (try dsimp only)) | (k_end; wrow_close) | ((fail_if_success (with_reducible show wpAny _ _ (exec (Stmt.For _ _ _ _ _) _) _ _ _)); (fail_if_success (with_reducible show wpAny _ _ (exec (Stmt.While _ _ _ _) _) _ _ _)); (fail_if_success (with_reducible show wpAny _ _ (pyIter _) _ _ _)); (fail_if_success (with_reducible show LCg.CompSrc _ _ _ _ _ _ _ _ _ _ _ _ _ _)); (fail_if_success (with_reducible show wpAny _ _ (eval (Expr.ListComp _ _ _ _) _) _ _ _)); (fail_if_success (with_reducible show wpAny _ _ (call (Value.ref _) _) _ _ _)); (fail_if_success (with_reducible show LCg.CompEnd _ _ _ _ _ _ _ _ _ _ _ _ _ _)); first | ((with_reducible show wpAny _ _ (subscriptTail _ _ (Value.ref _) (Value.int _ _)) _ _ _); k_dflt (refine' sub_atE ?k1 ?k2 ?k3 ?kk ?k4 ?k5 ?k7 ?_ ?k6; (case k1 => k_asm); (case k2 => k_mem); (case k3 => with_reducible assumption); (case kk => first | with_reducible assumption | exact rfl); (case k4 => first | with_reducible assumption | omega); (case k5 => first | with_reducible assumption | omega); (case k7 => omega); (case k6 => with_unfolding_all rfl); k_whole); intro _) | ((with_reducible show wpAny _ _ (binaryOp Operator.Mult (Value.ref _) (Value.int _ _)) _ _ _); k_dflt (refine' mul_1 ?k1 ?k2 ?k3 ?k4 ?k6 ?k7 ?_; (case k1 => k_asm); (case k2 => k_asm); (case k3 => k_mem); (case k4 => first | with_reducible assumption | exact .cons _ _ .nil); (case k6 => omega); (case k7 => omega); k_whole); intro m_D9 m_h9 m_ws9 m_F9 m_N9 m_l9 m_i9 m_f9; k_lt m_l9) | walk1 | (dsimp only; walk1) | (leave1; walk_say "STEP leave1"; try dsimp only)) | fail "no step"))
      rename News h₀ _ _ _ => N9
      rename _ ∧ _ ∧ _ ∧ LCg.Off1 _ news => l9
      refine fin _ _ _ _ _ _ (by k_asm) (cut1 (cut1 (cut1 N9))) (off1_mem l9.2.2.2) (by with_reducible assumption) (same_per hz0 hE2 hkL hS)
  · rename ¬ 2 * (z - (k : Int)) ≤ z => hE2
    rename z - (k : Int) ≠ z => hE0
    have hk0 := w4_g hE0
    have hE : z - (k : Int) ≠ z ∨ False := .inl hE0
    clear hE0
    k_dflt (refine' use_same (hIH _ _ hk0 (w4_h hkz) _ ?kmb) ?k1b ?k2b ?k3b ?k4b ?k5b ?kkb ?kdb ?kub ?_; (case k4b => k_asm); (case kmb => k_mem); (case k1b => k_asm); (case k2b => k_asm); (case k3b => k_asm); (case k5b => k_asm); (case kkb => exact rfl); (case kdb => exact w4_i (d := 0) hd hk0 (w4_h hkz)); (case kub => exact w4_j hu hk0 (w4_h hkz)))
    intro a9 vs9 n9 sh h9 tk9 F9 N9 l8 i9 hS
    dsimp only [OffQ] at l8
    repeat (have := And.left l8; replace l8 := And.right l8)
    clear hIH
    have hsl := w4_m hS.1 (by omega) hz1 hx
    (repeat' (first | (k_unfold; (try dsimp only)) | (k_end; wrow_close) | ((fail_if_success (with_reducible show wpAny _ _ (exec (Stmt.For _ _ _ _ _) _) _ _ _)); (fail_if_success (with_reducible show wpAny _ _ (exec (Stmt.While _ _ _ _) _) _ _ _)); (fail_if_success (with_reducible show wpAny _ _ (pyIter _) _ _ _)); (fail_if_success (with_reducible show LCg.CompSrc _ _ _ _ _ _ _ _ _ _ _ _ _ _)); (fail_if_success (with_reducible show wpAny _ _ (eval (Expr.ListComp _ _ _ _) _) _ _ _)); (fail_if_success (with_reducible show wpAny _ _ (call (Value.ref _) _) _ _ _)); (fail_if_success (with_reducible show LCg.CompEnd _ _ _ _ _ _ _ _ _ _ _ _ _ _)); first | ((with_reducible show wpAny _ _ (subscriptTail _ _ (Value.ref _) (Value.int _ _)) _ _ _); k_dflt (refine' sub_atE ?k1 ?k2 ?k3 ?kk ?k4 ?k5 ?k7 ?_ ?k6; (case k1 => k_asm); (case k2 => k_mem); (case k3 => with_reducible assumption); (case kk => first | with_reducible assumption | exact rfl); (case k4 => first | with_reducible assumption | omega); (case k5 => first | with_reducible assumption | omega); (case k7 => omega); (case k6 => with_unfolding_all rfl); k_whole); intro _) | ((with_reducible show wpAny _ _ (binaryOp Operator.Mult (Value.ref _) (Value.int _ _)) _ _ _); k_dflt (refine' mul_1 ?k1 ?k2 ?k3 ?k4 ?k6 ?k7 ?_; (case k1 => k_asm); (case k2 => k_asm); (case k3 => k_mem); (case k4 => first | with_reducible assumption | exact .cons _ _ .nil); (case k6 => omega); (case k7 => omega); k_whole); intro m_D9 m_h9 m_ws9 m_F9 m_N9 m_l9 m_i9 m_f9; k_lt m_l9) | walk1 | (dsimp only; walk1) | (leave1; walk_say "STEP leave1"; try dsimp only)) | fail "no step"))
    k_dflt (refine' use_pow ?kap ?kbp ?kmp ?k1p ?k2p ?k3p ?k4p ?k5p ?kkp ?kdp ?kup ?_; (case k4p => k_asm); (case kmp => k_mem); (case kap => with_reducible assumption); (case kbp => rw [List.length_append, rep1_len]; exact w4_l hS.1 rfl hE2 hk0 hz1 hx); (case k1p => k_asm); (case k2p => k_asm); (case k3p => k_asm); (case k5p => k_asm); (case kkp => exact rfl); (case kdp => first | ktr_room | omega); (case kup => first | ktr_units | omega))
    intro h9 tk9 F9 N9
    (repeat' (first | (k_unfold; (try dsimp only)) | (k_end; wrow_close) | ((fail_if_success (with_reducible show wpAny _ _ (exec (Stmt.For _ _ _ _ _) _) _ _ _)); (fail_if_success (with_reducible show wpAny _ _ (exec (Stmt.While _ _ _ _) _) _ _ _)); (fail_if_success (with_reducible show wpAny _ _ (pyIter _) _ _ _)); (fail_if_success (with_reducible show LCg.CompSrc _ _ _ _ _ _ _ _ _ _ _ _ _ _)); (fail_if_success (with_reducible show wpAny _ _ (eval (Expr.ListComp _ _ _ _) _) _ _ _)); (fail_if_success (with_reducible show wpAny _ _ (call (Value.ref _) _) _ _ _)); (fail_if_success (with_reducible show LCg.CompEnd _ _ _ _ _ _ _ _ _ _ _ _ _ _)); first | ((with_reducible show wpAny _ _ (subscriptTail _ _ (Value.ref _) (Value.int _ _)) _ _ _); k_dflt (refine' sub_atE ?k1 ?k2 ?k3 ?kk ?k4 ?k5 ?k7 ?_ ?k6; (case k1 => k_asm); (case k2 => k_mem); (case k3 => with_reducible assumption); (case kk => first | with_reducible assumption | exact rfl); (case k4 => first | with_reducible assumption | omega); (case k5 => first | with_reducible assumption | omega); (case k7 => omega); (case k6 => with_unfolding_all rfl); k_whole); intro _) | ((with_reducible show wpAny _ _ (binaryOp Operator.Mult (Value.ref _) (Value.int _ _)) _ _ _); k_dflt (refine' mul_1 ?k1 ?k2 ?k3 ?k4 ?k6 ?k7 ?_; (case k1 => k_asm); (case k2 => k_asm); (case k3 => k_mem); (case k4 => first | with_reducible assumption | exact .cons _ _ .nil); (case k6 => omega); (case k7 => omega); k_whole); intro m_D9 m_h9 m_ws9 m_F9 m_N9 m_l9 m_i9 m_f9; k_lt m_l9) | walk1 | (dsimp only; walk1) | (leave1; walk_say "STEP leave1"; try dsimp only)) | fail "no step"))
    · rename powB _ = true => hP
      (repeat' (first | (k_unfold; (try dsimp only)) | (k_end; wrow_close) | ((fail_if_success (with_reducible show wpAny _ _ (exec (Stmt.For _ _ _ _ _) _) _ _ _)); (fail_if_success (with_reducible show wpAny _ _ (exec (Stmt.While _ _ _ _) _) _ _ _)); (fail_if_success (with_reducible show wpAny _ _ (pyIter _) _ _ _)); (fail_if_success (with_reducible show LCg.CompSrc _ _ _ _ _ _ _ _ _ _ _ _ _ _)); (fail_if_success (with_reducible show wpAny _ _ (eval (Expr.ListComp _ _ _ _) _) _ _ _)); (fail_if_success (with_reducible show wpAny _ _ (call (Value.ref _) _) _ _ _)); (fail_if_success (with_reducible show LCg.CompEnd _ _ _ _ _ _ _ _ _ _ _ _ _ _)); first | ((with_reducible show wpAny _ _ (subscriptTail _ _ (Value.ref _) (Value.int _ _)) _ _ _); k_dflt (refine' sub_atE ?k1 ?k2 ?k3 ?kk ?k4 ?k5 ?k7 ?_ ?k6; (case k1 => k_asm); (case k2 => k_mem); (case k3 => with_reducible assumption); (case kk => first | with_reducible assumption | exact rfl); (case k4 => first | with_reducible assumption | omega); (case k5 => first | with_reducible assumption | omega); (case k7 => omega); (case k6 => with_unfolding_all rfl); k_whole); intro _) | ((with_reducible show wpAny _ _ (binaryOp Operator.Mult (Value.ref _) (Value.int _ _)) _ _ _); k_dflt (refine' mul_1 ?k1 ?k2 ?k3 ?k4 ?k6 ?k7 ?_; (case k1 => k_asm); (case k2 => k_asm); (case k3 => k_mem); (case k4 => first | with_reducible assumption | exact .cons _ _ .nil); (case k6 => omega); (case k7 => omega); k_whole); intro m_D9 m_h9 m_ws9 m_F9 m_N9 m_l9 m_i9 m_f9; k_lt m_l9) | walk1 | (dsimp only; walk1) | (leave1; walk_say "STEP leave1"; try dsimp only)) | fail "no step"))
      rename News h₀ _ _ _ => N9
      rename _ ∧ _ ∧ _ ∧ _ ∧ _ ∧ _ ∧ _ ∧ _ ∧ _ ∧ _ ∧ _ ∧ AllLt _ news => l9
      refine fin _ _ _ _ _ _ (by k_asm) (cut1 (cut1 (cut1 (cut1 (cut1 (cut1 (cut1 (cut1 (cut1 (cut1 (cut1 (N9)))))))))))) (ne_lt l9.2.2.2.2.2.2.2.2.2.2.2) (by with_reducible assumption) (same_zero hz0 (hE.resolve_right id) hE2 hkL hS hP)
    · rename powB _ = false => hP
      (repeat' (first | (k_unfold; (try dsimp only)) | (k_end; wrow_close) | ((fail_if_success (with_reducible show wpAny _ _ (exec (Stmt.For _ _ _ _ _) _) _ _ _)); (fail_if_success (with_reducible show wpAny _ _ (exec (Stmt.While _ _ _ _) _) _ _ _)); (fail_if_success (with_reducible show wpAny _ _ (pyIter _) _ _ _)); (fail_if_success (with_reducible show LCg.CompSrc _ _ _ _ _ _ _ _ _ _ _ _ _ _)); (fail_if_success (with_reducible show wpAny _ _ (eval (Expr.ListComp _ _ _ _) _) _ _ _)); (fail_if_success (with_reducible show wpAny _ _ (call (Value.ref _) _) _ _ _)); (fail_if_success (with_reducible show LCg.CompEnd _ _ _ _ _ _ _ _ _ _ _ _ _ _)); first | ((with_reducible show wpAny _ _ (subscriptTail _ _ (Value.ref _) (Value.int _ _)) _ _ _); k_dflt (refine' sub_atE ?k1 ?k2 ?k3 ?kk ?k4 ?k5 ?k7 ?_ ?k6; (case k1 => k_asm); (case k2 => k_mem); (case k3 => with_reducible assumption); (case kk => first | with_reducible assumption | exact rfl); (case k4 => first | with_reducible assumption | omega); (case k5 => first | with_reducible assumption | omega); (case k7 => omega); (case k6 => with_unfolding_all rfl); k_whole); intro _) | ((with_reducible show wpAny _ _ (binaryOp Operator.Mult (Value.ref _) (Value.int _ _)) _ _ _); k_dflt (refine' mul_1 ?k1 ?k2 ?k3 ?k4 ?k6 ?k7 ?_; (case k1 => k_asm); (case k2 => k_asm); (case k3 => k_mem); (case k4 => first | with_reducible assumption | exact .cons _ _ .nil); (case k6 => omega); (case k7 => omega); k_whole); intro m_D9 m_h9 m_ws9 m_F9 m_N9 m_l9 m_i9 m_f9; k_lt m_l9) | walk1 | (dsimp only; walk1) | (leave1; walk_say "STEP leave1"; try dsimp only)) | fail "no step"))
      rename News h₀ _ _ _ => N9
      rename _ ∧ _ ∧ _ ∧ _ ∧ _ ∧ _ ∧ AllLt _ news => l9
      refine fin _ _ _ _ _ _ (by k_asm) (cut1 (cut1 (cut1 (cut1 (cut1 (cut1 N9)))))) (ne_lt l9.2.2.2.2.2.2) (by with_reducible assumption) (same_one hz0 (hE.resolve_right id) hE2 hkL hS hP)
theorem two_tells (w : World) (loose : List Str) (mean : ExcName → Option Value) (mg mb : Str → Option Value) (l : Addr) (vs : List Value) (c : Nat) (ts : List Int) (ws : List Nat) (hiW : IntsAre vs ts) (ht : IsTab ws ts) (hx : ws.length ≤ 1000) :
    ∀ (n : Nat) (z : Int) (t : Tok), z.toNat ≤ n → 0 < z → z ≤ ws.length → ∀ (news : List (Addr × Obj)), (l, listOf vs.toArray c) ∈ news →
    Ck PySem.Challenge.rw_tv0022_01.row.prog w (hd1.heap_39 w.params) hd1.view_39 loose mean mg mb 97 (20 + 10 * z.toNat) [.ref l, .int z t] news (TwoOut ws z.toNat)
  | 0, z, _, h, h0, _, _, _ => absurd h (by omega)
  | n + 1, z, t, h, h0, h1, news, hm => two_step w loose mean mg mb l vs c ts ws hiW ht hx z t h0 h1 news hm fun y u y0 y1 nw hn => two_tells w loose mean mg mb l vs c ts ws hiW ht hx n y u (by omega) y0 (by omega) nw hn
end Mine

end -- W4

section -- P4
open PySem PySem.W PyProof.Rows
set_option maxRecDepth 100000
namespace Mine
theorem take_bd {α : Type} {w : List α} {n k : Nat} (hk : k < n) (hn : n ≤ w.length) : (w.take k = (w.drop (n - k)).take k) ↔ Bd w n k := by
  constructor
  · intro h
    refine ⟨hk, fun j hj => ?_⟩
    have h1 := congrArg (fun l => l[j]?) h
    simp only [List.getElem?_take, hj, if_true, List.getElem?_drop] at h1
    exact h1.symm
  · intro h
    apply List.ext_getElem?
    intro j
    rw [List.getElem?_take, List.getElem?_take, List.getElem?_drop]
    by_cases hj : j < k
    · rw [if_pos hj, if_pos hj]; exact (h.2 j hj).symm
    · rw [if_neg hj, if_neg hj]
def lonG (w : List Nat) (i : Nat) (l : List Int) (k : Int) : List Int := if bdB w (i + 1) k.toNat = true then l ++ [k] else l
theorem lonG_grows (w : List Nat) (i : Nat) : KPfGrows (lonG w i) := by
  intro l k
  unfold lonG
  split
  · simp
  · omega
theorem lonG_fold (w : List Nat) (i n : Nat) : (rangeKs 0 n).foldl (lonG w i) [] = ((List.range n).filter (fun k => bdB w (i + 1) k)).map Int.ofNat := by
  unfold lonG
  rw [filt_fold (fun j => bdB w (i + 1) j.toNat)]
  unfold rangeKs
  rw [List.nil_append, List.filter_map]
  have e : (fun (j : Nat) => (0 : Int) + (j : Int)) = Int.ofNat := by funext j; simp
  rw [e]
  rfl
/-- the longest border of the first n, reckoned -/
def lbA (w : List Nat) (n : Nat) : Nat := (bds w n n).headD 0
theorem bds_low {w : List Nat} {n k : Nat} (h : LB w n k) : ∀ d, k + 1 + d ≤ n → bds w n (k + 1 + d) = bds w n (k + 1) := by
  intro d
  induction d with
  | zero => intro _; rfl
  | succ d ih =>
    intro hd
    rw [← Nat.add_assoc, bds_neg, ih (by omega)]
    rintro ⟨h1, h2⟩
    have := h.2 _ h2
    omega
theorem lbA_eq {w : List Nat} {n k : Nat} (h : LB w n k) : k = lbA w n := by
  have h1 := h.1.1
  have h2 := bds_low h (n - (k + 1)) (by omega)
  rw [show k + 1 + (n - (k + 1)) = n by omega] at h2
  unfold lbA
  rw [h2]
  by_cases hk : 0 < k
  · rw [bds_pos ⟨hk, h.1⟩]; rfl
  · have : k = 0 := by omega
    subst this
    rw [bds_neg (by omega)]; rfl
theorem lon_max {w : List Nat} {i : Nat} {M : Int} (h1 : M ∈ ((List.range (i + 1)).filter (fun k => bdB w (i + 1) k)).map Int.ofNat) (h2 : ∀ a, a ∈ ((List.range (i + 1)).filter (fun k => bdB w (i + 1) k)).map Int.ofNat → a ≤ M) : LB w (i + 1) M.toNat ∧ M = (M.toNat : Int) := by
  obtain ⟨m, hm, rfl⟩ := List.mem_map.mp h1
  obtain ⟨hm1, hm2⟩ := List.mem_filter.mp hm
  refine ⟨⟨bdB_iff.mp hm2, fun b hb => ?_⟩, rfl⟩
  have := h2 (Int.ofNat b) (List.mem_map.mpr ⟨b, List.mem_filter.mpr ⟨List.mem_range.mpr hb.1, bdB_iff.mpr hb⟩, rfl⟩)
  exact Int.ofNat_le.mp this
theorem lon_pos (w : List Nat) (i : Nat) : 0 < (((List.range (i + 1)).filter (fun k => bdB w (i + 1) k)).map Int.ofNat).length := by
  rw [List.length_map]
  apply List.length_pos_of_mem (a := 0)
  exact List.mem_filter.mpr ⟨List.mem_range.mpr (Nat.succ_pos _), bdB_iff.mpr (Bd.zero (Nat.succ_pos _))⟩
theorem lb_ex (w : List Nat) (n : Nat) (hn : 0 < n) : ∃ k, LB w n k := by
  have : ∀ m, m < n → (∃ k, k ≤ m ∧ Bd w n k ∧ ∀ b, b ≤ m → Bd w n b → b ≤ k) := by
    intro m
    induction m with
    | zero => exact fun _ => ⟨0, Nat.le_refl _, Bd.zero hn, fun b hb _ => hb⟩
    | succ m ih =>
      intro hm
      by_cases h : Bd w n (m + 1)
      · exact ⟨m + 1, Nat.le_refl _, h, fun b hb _ => hb⟩
      · obtain ⟨k, h1, h2, h3⟩ := ih (by omega)
        refine ⟨k, by omega, h2, fun b hb hB => ?_⟩
        by_cases e : b = m + 1
        · subst e; exact absurd hB h
        · exact h3 b (by omega) hB
  obtain ⟨k, _, h2, h3⟩ := this (n - 1) (by omega)
  exact ⟨k, h2, fun b hb => h3 b (by have := hb.1; omega) hb⟩
theorem tab_of {w : List Nat} : IsTab w ((List.range w.length).map fun (i : Nat) => ((lbA w ((i : Int).toNat + 1) : Nat) : Int)) := by
  refine ⟨by simp, fun i hi => ?_⟩
  obtain ⟨k, hk⟩ := lb_ex w (i + 1) (Nat.succ_pos _)
  refine ⟨k, ?_, hk⟩
  rw [List.getElem?_map, List.getElem?_range hi, Option.map_some, Int.toNat_natCast, ← lbA_eq hk]
theorem tab_uniq {α : Type} {w : List α} {a b : List Int} (ha : IsTab w a) (hb : IsTab w b) : a = b := by
  apply List.ext_getElem?
  intro i
  by_cases hi : i < w.length
  · obtain ⟨k, h1, h2⟩ := ha.2 i hi
    obtain ⟨k', h3, h4⟩ := hb.2 i hi
    rw [h1, h3, h2.uniq h4]
  · rw [List.getElem?_eq_none (by rw [ha.1]; omega), List.getElem?_eq_none (by rw [hb.1]; omega)]
end Mine

end -- P4

section -- B6
open PySem PySem.W PyProof.Rows PySem.Spec PySem.Calls
set_option maxRecDepth 100000
set_option maxHeartbeats 8000000
namespace Mine
/-- an element's end: the same objects, an int -/
def KcEnd (h₀ : Heap) (L : Addr) (m : Str → Option Value) (s : Shared) (led : List (Addr × Obj)) (r : Int) (y : Value) (s₂ : Shared) : Prop :=
  ∃ h' tk t, s₂ = { s with heap := h', toks := tk } ∧ Fr h₀ L h' m ∧ News h₀ L h' led ∧ y = .int r t
theorem KcEnd.intro {h₀ h' : Heap} {L : Addr} {m : Str → Option Value} {s : Shared} {led all : List (Addr × Obj)} {r : Int} {t : Tok} {tk : Nat} (F : Fr h₀ L h' m) (N : News h₀ L h' all) (hs : ∀ p ∈ led, p ∈ all) : KcEnd h₀ L m s led r (.int r t) { s with heap := h', toks := tk } :=
  ⟨h', tk, t, rfl, F, fun p hp => N p (hs p hp), rfl⟩
section
variable {prog : Program} {w : World} {A : Around} {E : Value → Shared → Prop} {s : Shared} {env : Env} {h₀ : Heap} {L : Addr} {m : Str → Option Value}
theorem news_swap {h h' : Heap} {a : Addr} {o o' : Obj} {news : List (Addr × Obj)} (N : News h₀ L h ((a, o) :: news)) (hs : Heap.SameBut a h h') (ho : h'.get? a = some o') (hne : ∀ p ∈ news, p.1 ≠ a) : News h₀ L h' ((a, o') :: news) := by
  intro p hp
  rcases List.mem_cons.mp hp with rfl | hp
  · exact ⟨ho, (N _ (.head _)).2⟩
  · exact ⟨(hs.2 _ (hne p hp)).trans (N p (.tail _ hp)).1, (N p (.tail _ hp)).2⟩
theorem news_keep {h h' : Heap} {I : Addr} {news : List (Addr × Obj)} (N : News h₀ L h news) (hk : ∀ b o, b ∉ [I] → h.get? b = some o → h'.get? b = some o) (hne : ∀ p ∈ news, p.1 ≠ I) : News h₀ L h' news :=
  fun p hp => ⟨hk _ _ (by simpa using hne p hp) (N p hp).1, (N p hp).2⟩

theorem mem_out3 {α : Type} {p a b c d : α} {l : List α} (h : p ∈ a :: b :: c :: l) : p ∈ a :: b :: c :: d :: l := by
  rcases List.mem_cons.mp h with h | h
  · exact h ▸ .head _
  rcases List.mem_cons.mp h with h | h
  · exact h ▸ .tail _ (.head _)
  rcases List.mem_cons.mp h with h | h
  · exact h ▸ .tail _ (.tail _ (.head _))
  · exact .tail _ (.tail _ (.tail _ (.tail _ h)))
theorem news_in3 {h : Heap} {a b c d : Addr × Obj} {news : List (Addr × Obj)} (N : News h₀ L h (a :: b :: c :: news)) (hd : h.get? d.1 = some d.2 ∧ d.1 ≠ L ∧ h₀.get? d.1 = none) : News h₀ L h (a :: b :: c :: d :: news) := by
  intro p hp
  rcases List.mem_cons.mp hp with h | hp
  · exact N p (h ▸ .head _)
  rcases List.mem_cons.mp hp with h | hp
  · exact N p (h ▸ .tail _ (.head _))
  rcases List.mem_cons.mp hp with h | hp
  · exact N p (h ▸ .tail _ (.tail _ (.head _)))
  rcases List.mem_cons.mp hp with h | hp
  · exact h ▸ hd
  · exact N p (.tail _ (.tail _ (.tail _ hp)))
theorem news_put2 {h h' : Heap} {a b : Addr × Obj} {D : Addr} {o o' : Obj} {news : List (Addr × Obj)} (N : News h₀ L h (a :: b :: (D, o) :: news)) (hs : Heap.SameBut D h h') (ho : h'.get? D = some o') (ha : a.1 ≠ D) (hb : b.1 ≠ D) (hn : ∀ p ∈ news, p.1 ≠ D) : News h₀ L h' (a :: b :: (D, o') :: news) := by
  intro p hp
  rcases List.mem_cons.mp hp with h | hp
  · subst h; exact ⟨(hs.2 _ ha).trans (N p (.head _)).1, (N p (.head _)).2⟩
  rcases List.mem_cons.mp hp with h | hp
  · subst h; exact ⟨(hs.2 _ hb).trans (N p (.tail _ (.head _))).1, (N p (.tail _ (.head _))).2⟩
  rcases List.mem_cons.mp hp with h | hp
  · subst h; exact ⟨ho, (N (D, o) (.tail _ (.tail _ (.head _)))).2⟩
  · exact ⟨(hs.2 _ (hn p hp)).trans (N p (.tail _ (.tail _ (.tail _ hp)))).1, (N p (.tail _ (.tail _ (.tail _ hp)))).2⟩
theorem offs3 {a b c : Addr × Obj} {news : List (Addr × Obj)} {I : Addr} (ha : a.1 ≠ I) (hb : b.1 ≠ I) (hc : c.1 ≠ I) (hn : ∀ p ∈ news, p.1 ≠ I) : ∀ p ∈ a :: b :: c :: news, p.1 ≠ I :=
  List.forall_mem_cons.mpr ⟨ha, List.forall_mem_cons.mpr ⟨hb, List.forall_mem_cons.mpr ⟨hc, hn⟩⟩⟩
theorem offs2 {a b : Addr × Obj} {news : List (Addr × Obj)} {I : Addr} (ha : a.1 ≠ I) (hb : b.1 ≠ I) (hn : ∀ p ∈ news, p.1 ≠ I) : ∀ p ∈ a :: b :: news, p.1 ≠ I :=
  List.forall_mem_cons.mpr ⟨ha, List.forall_mem_cons.mpr ⟨hb, hn⟩⟩
theorem up1 (I : Nat) : I + 1 ≠ I := by omega
theorem up2 (I : Nat) : I + 1 + 1 ≠ I := by omega
theorem up3 (I : Nat) : I + 1 + 1 + 1 ≠ I := by omega
theorem lt_up {a I : Nat} (k : Nat) (h : a < I) : a ≠ I + k := by omega
def CcSrc (prog : Program) (w : World) (A : Around) (h₀ : Heap) (L : Addr) (m : Str → Option Value) (env : Env) (elt : PySem.Expr) (x : Str) (scope : Scope) (cl : List (Str × Addr)) (g : Int → Int) (news : List (Addr × Obj)) (n : Nat) (Q : Value → Shared → Prop) (xv : Value) (s₁ : Shared) : Prop :=
  ∃ r t u v, xv = .ref r ∧ A.handled = none ∧ Fr h₀ L s₁.heap m ∧ News h₀ L s₁.heap news ∧ IsRange s₁.heap r 0 (n : Int) 1 t u v ∧ Builtin.Range.small 0 (n : Int) 1 = true ∧ n ≤ sizeLine ∧
      (∀ (i : Nat) (ti : Tok) I oI C oC c o D ys h tk (E' : Value → Shared → Prop), i < n → o.data = .cell (some (.int (i : Int) ti)) → Fr h₀ L h m → News h₀ L h ((c, o) :: (C, oC) :: (D, LCg.lst ys) :: (I, oI) :: news) →
        (∀ p ∈ news, p.1 < I) → (I < D ∧ D < C ∧ C < c) →
        wpAny (model prog w) A (eval elt (compEnvC scope ((x, c) :: cl) C env)) (KcEnd h₀ L m { s₁ with heap := h, toks := tk } ((c, o) :: (C, oC) :: (D, LCg.lst ys) :: (I, oI) :: news) (g (i : Int))) E' { s₁ with heap := h, toks := tk }) ∧
      (∀ ys D h tk, IntsAre ys ((List.range n).map fun (i : Nat) => g (i : Int)) → Fr h₀ L h m → News h₀ L h ((D, LCg.lst ys) :: news) → (∀ p ∈ news, p.1 < D) → Q (.ref D) { s₁ with heap := h, toks := tk })
theorem CcLoop {elt iter : PySem.Expr} {x : Str} {px : Pos} {scope : Scope} {cl : List (Str × Addr)} {pos : Pos} {Q : Value → Shared → Prop} (g : Int → Int) (news : List (Addr × Obj)) (n : Nat)
    (hkind : scope.kind = .function) (hxk : ∀ C cl', (compEnvC scope cl' C env).kindOf x = some .cell) {H : Heap} {I : Nat} {oC o₁ oI₁ : Obj} {ov₁ : Option Value}
    {m₂ : Str → Option Value} (hsz : n ≤ sizeLine) (hoC : LCg.NsObj oC m₂) (hnew : ∀ p ∈ news, p.1 < I) (hLlt : L < I) (fresh₀ : ∀ a, I ≤ a → h₀.get? a = none)
    (W : Walks prog w A I [I] [I] n (fun i v => ∃ t, v = .int (0 + (i : Int)) t) (fun i h => IsRangeIter h I (0 + (i : Nat) * 1) ((n : Int) - (i : Nat)) 1))
    (hst0 : IsRangeIter H I (0 + (0 : Nat) * 1) ((n : Int) - (0 : Nat)) 1) (F4 : Fr h₀ L H m)
    (N4 : News h₀ L H ((I + 1 + 1 + 1, o₁) :: (I + 1 + 1, oC) :: (I + 1, LCg.lst []) :: (I, oI₁) :: news)) (hov₁ : o₁.data = .cell ov₁)
    (turn : ∀ (i : Nat) (ti : Tok) I oI C oC c o D ys h tk (E' : Value → Shared → Prop), i < n → o.data = .cell (some (.int (i : Int) ti)) → Fr h₀ L h m → News h₀ L h ((c, o) :: (C, oC) :: (D, LCg.lst ys) :: (I, oI) :: news) →
        (∀ p ∈ news, p.1 < I) → (I < D ∧ D < C ∧ C < c) →
        wpAny (model prog w) A (eval elt (compEnvC scope ((x, c) :: cl) C env)) (KcEnd h₀ L m { s with heap := h, toks := tk } ((c, o) :: (C, oC) :: (D, LCg.lst ys) :: (I, oI) :: news) (g (i : Int))) E' { s with heap := h, toks := tk })
    (fin : ∀ ys D h tk, IntsAre ys ((List.range n).map fun (i : Nat) => g (i : Int)) → Fr h₀ L h m → News h₀ L h ((D, LCg.lst ys) :: news) → (∀ p ∈ news, p.1 < D) → Q (.ref D) { s with heap := h, toks := tk }) :
    codeAny (model prog w) A (.compLoop (.ListComp elt [⟨.Name x px, iter, [], 0⟩] scope pos) 0 (.ref I) (.ref (I + 1)) (compEnvC scope ((x, I + 1 + 1 + 1) :: cl) (I + 1 + 1) env)) (compPost (model prog w) A E none Q (.ref (I + 1)) (I + 1 + 1)) { s with heap := H } := by
  have hI₀ := fresh₀ _ (Nat.le_refl _)
  have hL1 : (I + 1 : Nat) ≠ L := Nat.ne_of_gt (Nat.lt_of_lt_of_le hLlt (Nat.le_add_right I 1))
  have hL2 : (I + 1 + 1 : Nat) ≠ L := Nat.ne_of_gt (Nat.lt_of_lt_of_le hLlt (Nat.le_add_right I 2))
  have hL3 : (I + 1 + 1 + 1 : Nat) ≠ L := Nat.ne_of_gt (Nat.lt_of_lt_of_le hLlt (Nat.le_add_right I 3))
  refine codeAny_compLoop_tests (fun k s' => ∃ h' tk i ys oc oI ov, s' = { s with heap := h', toks := tk } ∧ i ≤ n ∧ k = n + 1 - i ∧ IsRangeIter h' I (0 + (i : Nat) * 1) ((n : Int) - (i : Nat)) 1 ∧ Fr h₀ L h' m ∧
    News h₀ L h' ((I + 1 + 1 + 1, oc) :: (I + 1 + 1, oC) :: (I + 1, LCg.lst ys) :: (I, oI) :: news) ∧ oc.data = .cell ov ∧ IntsAre ys ((List.range i).map fun (i : Nat) => g (i : Int))) ?_ (n + 1)
    ⟨H, _, 0, [], _, _, _, rfl, Nat.zero_le _, rfl, hst0, F4, N4, hov₁, .nil⟩
  rintro k s' ⟨h', tk, i, ys, oc, oI, ov, rfl, hi, rfl, hst', F', N', hov, hys⟩
  have hyl : ys.length = i := by rw [hys.length, List.length_map, List.length_range]
  have N'' : News h₀ L h' ((I + 1 + 1 + 1, oc) :: (I + 1 + 1, oC) :: (I + 1, LCg.lst ys) :: news) := fun p hp => N' p (mem_out3 hp)
  have offI : ∀ p ∈ (I + 1 + 1 + 1, oc) :: (I + 1 + 1, oC) :: (I + 1, LCg.lst ys) :: news, p.1 ≠ I := offs3 (up3 I) (up2 I) (up1 I) fun p h => Nat.ne_of_lt (hnew p h)
  by_cases hlt : i < n
  · refine W.item i _ _ _ hlt hst' fun v h₂ tk₂ hPv hst₂ hk₂ => ?_
    obtain ⟨ti, rfl⟩ := hPv
    have F₂ := LCg.fr_but F' hk₂ (Nat.ne_of_lt hLlt) hI₀
    have N₂ := news_keep N'' hk₂ offI
    refine wpAny_assign_Name (wpAny_storeName_cell (c := I + 1 + 1 + 1) hkind (hxk _ _) (by simp [compEnvC]) ⟨oc, (N₂ _ (.head _)).1, hov⟩ fun h₃ hv₃ hs₃ => ?_)
    obtain ⟨oc', hoc', hd'⟩ := hv₃
    have hst₃ : IsRangeIter h₃ I (0 + ((i + 1 : Nat) : Nat) * 1) ((n : Int) - ((i + 1 : Nat) : Nat)) 1 := W.frame _ _ _ hst₂ fun b hb o e => (hs₃.2 b (by rw [List.mem_singleton.mp hb]; exact Nat.ne_of_lt (by omega))).trans e
    obtain ⟨oI', heI, hoI⟩ : ∃ oI', h₃.get? I = some oI' ∧ ∀ h : Heap, h.get? I = some oI' → IsRangeIter h I (0 + ((i + 1 : Nat) : Nat) * 1) ((n : Int) - ((i + 1 : Nat) : Nat)) 1 := ⟨_, hst₃, fun _ e => e⟩
    have F₃ : Fr h₀ L h₃ m := F₂.change hs₃ hL3 (fresh₀ _ (by omega))
    have hnc : ∀ p ∈ (I + 1 + 1, oC) :: (I + 1, LCg.lst ys) :: news, p.1 ≠ I + 1 + 1 + 1 := offs2 (Ne.symm (up1 (I + 1 + 1))) (Ne.symm (up2 (I + 1))) fun p h => lt_up 3 (hnew p h)
    have N₃ := news_swap N₂ hs₃ hoc' hnc
    have N₃' : News h₀ L h₃ ((I + 1 + 1 + 1, oc') :: (I + 1 + 1, oC) :: (I + 1, LCg.lst ys) :: (I, oI') :: news) := news_in3 N₃ ⟨heI, Nat.ne_of_gt hLlt, hI₀⟩
    refine wpAny_tests_nil ?_
    simp only [if_true]
    refine wpAny_mono (turn i ti I oI' _ oC _ oc' _ ys h₃ tk₂ _ hlt (by rw [hd']; simp) F₃ N₃' hnew ⟨Nat.lt_succ_self _, Nat.lt_succ_self _, Nat.lt_succ_self _⟩) (fun y s₄ h₄ => ?_) fun _ _ e => e
    obtain ⟨h₄, tk₄, t₄, rfl, F₄, N₄, rfl⟩ := h₄
    have zD := (N₄ (I + 1, LCg.lst ys) (.tail _ (.tail _ (.head _)))).1
    refine append_at (hsz := by show ys.toArray.size ≤ sizeLine; rw [List.size_toArray, hyl]; exact Nat.le_trans hi hsz) zD fun h₅ hs₅ hD₅ => ?_
    have hD₅' : h₅.get? (I + 1) = some (LCg.lst (ys ++ [Value.int (g (i : Int)) t₄])) := hD₅.trans (congrArg some (LCg.lst_snoc ys _))
    have F₅ : Fr h₀ L h₅ m := F₄.change hs₅ hL1 (fresh₀ _ (by omega))
    have N₅ : News h₀ L h₅ ((I + 1 + 1 + 1, oc') :: (I + 1 + 1, oC) :: (I + 1, LCg.lst (ys ++ [Value.int (g (i : Int)) t₄])) :: (I, oI') :: news) := news_put2 N₄ hs₅ hD₅' (up2 (I + 1)) (up1 (I + 1)) (List.forall_mem_cons.mpr ⟨Ne.symm (up1 I), fun p h => lt_up 1 (hnew p h)⟩)
    refine ⟨n + 1 - (i + 1), by omega, h₅, tk₄, i + 1, ys ++ [Value.int (g (i : Int)) t₄], oc', oI', _, rfl, hlt, rfl, hoI h₅ (N₅ (I, oI') (.tail _ (.tail _ (.tail _ (.head _))))).1, F₅, N₅, hd', ?_⟩
    rw [List.range_succ, List.map_append]
    exact IntsAre.append hys (.cons _ _ .nil)
  · obtain rfl : i = n := Nat.le_antisymm hi (Nat.not_lt.mp hlt)
    refine W.done _ _ _ hst' fun h₂ tk₂ hk₂ => ?_
    have F₂ := LCg.fr_but F' hk₂ (Nat.ne_of_lt hLlt) hI₀
    have N₂ := news_keep N'' hk₂ offI
    show ∃ m', h₂.Ns (I + 1 + 1) m' ∧ _
    refine ⟨_, hoC.ns (N₂ (I + 1 + 1, oC) (.tail _ (.head _))).1, fun h₃ hs₃ => ?_⟩
    refine fin ys (I + 1) h₃ tk₂ hys (F₂.change hs₃ hL2 (fresh₀ _ (by omega))) ?_ (fun p hp => Nat.lt_of_lt_of_le (hnew p hp) (by omega))
    exact fun p hp => ⟨(hs₃.2 _ (offs2 (b := (I + 1, LCg.lst ys)) (a := (I + 1, LCg.lst ys)) (Ne.symm (up1 (I + 1))) (Ne.symm (up1 (I + 1))) (fun p h => lt_up 2 (hnew p h)) p (.tail _ hp))).trans (N₂ p (.tail _ (.tail _ hp))).1, (N₂ p (.tail _ (.tail _ hp))).2⟩
/-- a comprehension over a range whose target is a cell of its own -/
theorem ListComp_C {elt iter : PySem.Expr} {x : Str} {px : Pos} {scope : Scope} {cl : List (Str × Addr)} {pos : Pos} {Q : Value → Shared → Prop} (g : Int → Int) (news : List (Addr × Obj)) (n : Nat) (F₀ : Fr h₀ L s.heap m)
    (hclos : closureFor scope env = pure cl) (hkind : scope.kind = .function)
    (hnames : ∀ y ∈ scope.names, y.2 = .local → scope.names.lookup y.1 = some .local)
    (hcf : ∀ a : Nat, cellsFrom a scope.names cl = (x, a) :: cl) (hpc : ∀ h : Heap, pushCells h scope.names = h.push { cls := .type "cell", data := .cell none })
    (hxk : ∀ C cl', (compEnvC scope cl' C env).kindOf x = some .cell)
    (h : wpAny (model prog w) A (eval iter env) (fun xv s₁ => CcSrc prog w A h₀ L m env elt x scope cl g news n Q xv s₁) E s)
    (hs : ∀ x, foldedSetIterable iter env x = pure x := by intro _; rfl) :
    wpAny (model prog w) A (eval (.ListComp elt [⟨.Name x px, iter, [], 0⟩] scope pos) env) Q E s := by
  rw [eval_ListComp]
  refine wpAny_comprehension_free (use := none) rfl hs hclos hkind hnames (wpAny_mono h (fun xv s₁ h₁ => ?_) fun _ _ e => e)
  obtain ⟨r, t, u, v, rfl, hh, F, N, hr, hsm, hsz, turn, fin⟩ := h₁
  have hn : Builtin.Range.rangeSize 0 (n : Int) 1 = ((n : Nat) : Int) := by rw [rangeSize_nat]; omega
  refine wpAny_pyIter_range hr hsm ?_
  rw [hn]
  generalize hob : ({ cls := .type "range_iterator", data := _ } : Obj) = oIt
  have hnew : ∀ p ∈ news, p.1 < s₁.heap.objs.size := fun p hp => Heap.lt_size (N p hp).1
  have hLlt : L < s₁.heap.objs.size := F.ns.lt
  have fresh₀ : ∀ a, s₁.heap.objs.size ≤ a → h₀.get? a = none := fun a ha => by
    cases e : h₀.get? a with
    | none => rfl
    | some o' => exact absurd (Heap.lt_size (F.keep a o' e)) (Nat.not_lt.mpr ha)
  have hI₀ := fresh₀ _ (Nat.le_refl _)
  have W := LCg.range_walks (prog := prog) (w := w) (A := A) (I := s₁.heap.objs.size) hh 0 n
  refine wpAny_newObj_type ?_
  unfold newFunctionEnv
  simp only [Option.isSome_some, if_true]
  refine wpAny_bind (wpAny_alloc (wpAny_bind (wpAny_layCells _ (fun _ _ _ => rfl) _ _ _ _ ?_)))
  rw [hcf, hpc]
  refine wpAny_bind (wpAny_pure (wpAny_pure ?_))
  dsimp only
  have hfI : oIt.isFreed = false := by subst hob; rfl
  have N1 := News.push F N oIt hfI
  have F1 := F.push oIt
  have N2 := News.push F1 N1 { cls := .type "list", data := .seq #[] }
  have F2 := F1.push { cls := .type "list", data := .seq #[] }
  have N3 := News.push F2 N2 { cls := .type "dict", data := .dict #[] }
  have F3 := F2.push { cls := .type "dict", data := .dict #[] }
  have N4 := News.push F3 N3 { cls := .type "cell", data := .cell none }
  have F4 := F3.push { cls := .type "cell", data := .cell none }
  have hNs := LCg.ns_obj (Heap.Ns.new ((s₁.heap.push oIt).push { cls := .type "list", data := .seq #[] }) (.type "dict"))
  have hst0 : IsRangeIter (s₁.heap.push oIt) s₁.heap.objs.size (0 + (0 : Nat) * 1) ((n : Int) - (0 : Nat)) 1 := by
    subst hob
    simpa using Heap.get?_push_size s₁.heap rfl
  replace hst0 : IsRangeIter ((((s₁.heap.push oIt).push { cls := .type "list", data := .seq #[] }).push { cls := .type "dict", data := .dict #[] }).push { cls := .type "cell", data := .cell none }) s₁.heap.objs.size (0 + (0 : Nat) * 1) ((n : Int) - (0 : Nat)) 1 :=
    W.frame _ _ _ hst0 fun b _ o e => Heap.get?_push_of_some _ (Heap.get?_push_of_some _ (Heap.get?_push_of_some _ e))
  obtain ⟨oC, heC, hoC⟩ := hNs
  have eC : oC = { cls := .type "dict", data := .dict #[] } := by
    rw [Heap.get?_push_size _ rfl] at heC
    exact (Option.some.inj heC).symm
  rw [← eC] at N4 F4 hst0 ⊢
  simp only [Heap.size_push] at N4 ⊢
  generalize ((((s₁.heap.push oIt).push { cls := .type "list", data := .seq #[] }).push oC).push { cls := .type "cell", data := .cell none }) = H at N4 F4 hst0 ⊢
  clear N1 N2 N3 F1 F2 F3 heC eC
  generalize hI : s₁.heap.objs.size = I at *
  have loop := CcLoop (s := s₁) (E := E) (Q := Q) (elt := elt) (iter := iter) (px := px) (pos := pos) (x := x) (cl := cl) g news n hkind hxk hsz hoC hnew hLlt fresh₀ W hst0 F4 N4 rfl turn fin
  exact codeAny_compStart_list loop (W.self 0 _ _ _ hst0 loop)
end
end Mine

end -- B6

section -- W3
open PySem PySem.W PyProof.Rows PySem.Spec PySem.Calls
set_option maxRecDepth 100000
set_option maxHeartbeats 8000000
set_option pp.deepTerms false
set_option pp.deepTerms.threshold 8
set_option pp.proofs.threshold 2
namespace Mine
/-- walk until a loop -/


theorem lon_eq {x z1 z2 : Str} {i : Nat} {k : Int} (h0 : 0 ≤ k) (h1 : k < (i : Int) + 1) (hx : i < x.length) (e1 : z1.cps.toList = x.cps.toList.take k.toNat) (e2 : z2.cps.toList = (x.cps.toList.drop ((i : Int) + 1 - k).toNat).take ((i : Int) + 1 - ((i : Int) + 1 - k)).toNat) : (z1 == z2) = bdB x.cps.toList (i + 1) k.toNat := by
  have hk : k.toNat < i + 1 := by omega
  have hl : i + 1 ≤ x.cps.toList.length := by rw [cps_len]; omega
  have a1 : ((i : Int) + 1 - k).toNat = i + 1 - k.toNat := by omega
  have a2 : ((i : Int) + 1 - ((i : Int) + 1 - k)).toNat = k.toNat := by omega
  rw [a1, a2] at e2
  have key := take_bd hk hl
  rw [← e1, ← e2, ← bdB_iff] at key
  have h2 : (z1 == z2) = true ↔ z1.cps.toList = z2.cps.toList := by
    rw [beq_iff_eq]
    constructor
    · rintro rfl; rfl
    · intro h
      cases z1; cases z2
      simp only [Str.mk.injEq]
      exact Array.ext' h
  rw [Bool.eq_iff_iff, h2, key]
theorem lon_tells (w : World) (loose : List Str) (mean : ExcName → Option Value) (mg mb : Str → Option Value) (x : Str) (t : Tok) (hx : x.length ≤ 1000) (news : List (Addr × Obj)) :
    Cn PySem.Challenge.rw_tv0022_01.row.prog w (hd1.heap_39 w.params) hd1.view_39 loose mean mg mb 80 15 [.str x t] news
      (TabOut x.cps.toList) := by
  k_fill
  w_top off
  intro dp un gd cn cs a ccd cl outer A₀ base h₀ L m s Q E B F X N T hk hd hu hret
  refine wpAny_call ?_
  k_dflt (refine' code_defC ?k1 ?k2 ?k3 ?k4 ?k5 ?kA ?kF ?kK ?k6 ?k7 ?k8 ?k9 ?kB ?kD ?_ ?c2 ?c3 ?c4; (case kA => exact rfl); (case kF => exact rfl); (case kK => assumption); (case k1 => k_asm); (case k2 => k_asm); (case k3 => k_asm); (case k4 => k_asm); (case k5 => k_asm); (case k6 => k_is); (case k7 => k_is); (case k8 => ktr_room); (case k9 => exact BindsTo.of_eq rfl); (case kB => exact rfl); (case kD => decide +kernel); (case c2 => exact rfl); (case c3 => exact rfl); (case c4 => exact rfl); k_whole; intro g' L' h' tk' cells' FG' F' N' Y' B' X' T' l1; (try k_lt l1); k_cells Y'; (try simp only [List.cons_append, List.nil_append] at N'); (try dsimp only); (try k_lift B'); (try k_fold))
  rename Obj => oR
  rename oR.data = _ => dR
  have dR' : oR.data = Data.cell (some (.str x t)) := dR
  clear dR
  (repeat' (first | (k_unfold; (try dsimp only)) | (k_end; wrow_close) | ((fail_if_success (with_reducible show wpAny _ _ (exec (Stmt.For _ _ _ _ _) _) _ _ _)); (fail_if_success (with_reducible show wpAny _ _ (exec (Stmt.While _ _ _ _) _) _ _ _)); (fail_if_success (with_reducible show wpAny _ _ (pyIter _) _ _ _)); (fail_if_success (with_reducible show LCg.CompSrc _ _ _ _ _ _ _ _ _ _ _ _ _ _)); (fail_if_success (with_reducible show LCt.CompSrcT _ _ _ _ _ _ _ _ _ _ _ _ _ _ _)); (fail_if_success (with_reducible show wpAny _ _ (call (Value.builtin "max") _) _ _ _)); (fail_if_success (with_reducible show KcEnd _ _ _ _ _ _ _ _)); (fail_if_success (with_reducible show CcSrc _ _ _ _ _ _ _ _ _ _ _ _ _ _ _ _ _)); (fail_if_success (with_reducible show wpAny _ _ (eval (Expr.ListComp _ _ _ _) _) _ _ _)); (fail_if_success (with_reducible show LCg.CompEnd _ _ _ _ _ _ _ _ _ _ _ _ _ _)); first | ((with_reducible show wpAny _ _ (subscriptTail _ (Expr.Slice (some _) (some _) none _) (Value.str _ _) _) _ _ _); (with_reducible rename Fr _ _ _ _ => m_F'); (with_reducible rename News _ _ _ _ => m_N'); refine str_ft (s := ⟨_, _, _, _, _⟩) m_F' m_N' (by omega) (by omega) (by omega) (by omega) ?_; intro m_z' m_h' m_t' m_c' m_hz' m_hzl' m_F' m_N') | ((with_reducible show wpAny _ _ (subscriptTail _ (Expr.Slice none (some _) none _) (Value.str _ _) _) _ _ _); (with_reducible rename Fr _ _ _ _ => m_F'); (with_reducible rename News _ _ _ _ => m_N'); refine str_to (s := ⟨_, _, _, _, _⟩) m_F' m_N' (by omega) (by omega) ?_; intro m_z' m_h' m_t' m_c' m_hz' m_hzl' m_F' m_N') | walk1 | (dsimp only; walk1) | (leave1; walk_say "STEP leave1"; try dsimp only)) | fail "no step"))
  refine ListComp_C (h₀ := g') (L := L') (g := fun i => ((lbA x.cps.toList (i.toNat + 1) : Nat) : Int)) (news := (L' + 1, oR) :: news) (n := x.length) (by k_asm) (by with_unfolding_all rfl) (by rfl) (by decide) (fun _ => rfl) (fun _ => rfl) (fun _ _ => by rfl) ?_
  (repeat' (first | (k_unfold; (try dsimp only)) | (k_end; wrow_close) | ((fail_if_success (with_reducible show wpAny _ _ (exec (Stmt.For _ _ _ _ _) _) _ _ _)); (fail_if_success (with_reducible show wpAny _ _ (exec (Stmt.While _ _ _ _) _) _ _ _)); (fail_if_success (with_reducible show wpAny _ _ (pyIter _) _ _ _)); (fail_if_success (with_reducible show LCg.CompSrc _ _ _ _ _ _ _ _ _ _ _ _ _ _)); (fail_if_success (with_reducible show LCt.CompSrcT _ _ _ _ _ _ _ _ _ _ _ _ _ _ _)); (fail_if_success (with_reducible show wpAny _ _ (call (Value.builtin "max") _) _ _ _)); (fail_if_success (with_reducible show KcEnd _ _ _ _ _ _ _ _)); (fail_if_success (with_reducible show CcSrc _ _ _ _ _ _ _ _ _ _ _ _ _ _ _ _ _)); (fail_if_success (with_reducible show wpAny _ _ (eval (Expr.ListComp _ _ _ _) _) _ _ _)); (fail_if_success (with_reducible show LCg.CompEnd _ _ _ _ _ _ _ _ _ _ _ _ _ _)); first | ((with_reducible show wpAny _ _ (subscriptTail _ (Expr.Slice (some _) (some _) none _) (Value.str _ _) _) _ _ _); (with_reducible rename Fr _ _ _ _ => m_F'); (with_reducible rename News _ _ _ _ => m_N'); refine str_ft (s := ⟨_, _, _, _, _⟩) m_F' m_N' (by omega) (by omega) (by omega) (by omega) ?_; intro m_z' m_h' m_t' m_c' m_hz' m_hzl' m_F' m_N') | ((with_reducible show wpAny _ _ (subscriptTail _ (Expr.Slice none (some _) none _) (Value.str _ _) _) _ _ _); (with_reducible rename Fr _ _ _ _ => m_F'); (with_reducible rename News _ _ _ _ => m_N'); refine str_to (s := ⟨_, _, _, _, _⟩) m_F' m_N' (by omega) (by omega) ?_; intro m_z' m_h' m_t' m_c' m_hz' m_hzl' m_F' m_N') | walk1 | (dsimp only; walk1) | (leave1; walk_say "STEP leave1"; try dsimp only)) | fail "no step"))
  rename IsRange _ _ _ _ _ _ _ _ => R1
  refine ⟨_, _, _, _, rfl, by rfl, by k_asm, by k_asm, R1, small_one (by omega) (by omega) (by omega) (by omega), by rw [PySem.sizeLine_eq]; omega, ?_, ?_⟩
  · intro i ti I oI C oC c o D ys h9 tk9 E9 hin ho F9 N9 l9 o9
    (repeat' (first | (k_unfold; (try dsimp only)) | (k_end; wrow_close) | ((fail_if_success (with_reducible show wpAny _ _ (exec (Stmt.For _ _ _ _ _) _) _ _ _)); (fail_if_success (with_reducible show wpAny _ _ (exec (Stmt.While _ _ _ _) _) _ _ _)); (fail_if_success (with_reducible show wpAny _ _ (pyIter _) _ _ _)); (fail_if_success (with_reducible show LCg.CompSrc _ _ _ _ _ _ _ _ _ _ _ _ _ _)); (fail_if_success (with_reducible show LCt.CompSrcT _ _ _ _ _ _ _ _ _ _ _ _ _ _ _)); (fail_if_success (with_reducible show wpAny _ _ (call (Value.builtin "max") _) _ _ _)); (fail_if_success (with_reducible show KcEnd _ _ _ _ _ _ _ _)); (fail_if_success (with_reducible show CcSrc _ _ _ _ _ _ _ _ _ _ _ _ _ _ _ _ _)); (fail_if_success (with_reducible show wpAny _ _ (eval (Expr.ListComp _ _ _ _) _) _ _ _)); (fail_if_success (with_reducible show LCg.CompEnd _ _ _ _ _ _ _ _ _ _ _ _ _ _)); first | ((with_reducible show wpAny _ _ (subscriptTail _ (Expr.Slice (some _) (some _) none _) (Value.str _ _) _) _ _ _); (with_reducible rename Fr _ _ _ _ => m_F'); (with_reducible rename News _ _ _ _ => m_N'); refine str_ft (s := ⟨_, _, _, _, _⟩) m_F' m_N' (by omega) (by omega) (by omega) (by omega) ?_; intro m_z' m_h' m_t' m_c' m_hz' m_hzl' m_F' m_N') | ((with_reducible show wpAny _ _ (subscriptTail _ (Expr.Slice none (some _) none _) (Value.str _ _) _) _ _ _); (with_reducible rename Fr _ _ _ _ => m_F'); (with_reducible rename News _ _ _ _ => m_N'); refine str_to (s := ⟨_, _, _, _, _⟩) m_F' m_N' (by omega) (by omega) ?_; intro m_z' m_h' m_t' m_c' m_hz' m_hzl' m_F' m_N') | walk1 | (dsimp only; walk1) | (leave1; walk_say "STEP leave1"; try dsimp only)) | fail "no step"))
    refine LCt.ListComp_T (F₀ := by k_asm) (by with_unfolding_all rfl) (by decide) (by rfl) (by decide) (by rfl) ?_
    (repeat' (first | (k_unfold; (try dsimp only)) | (k_end; wrow_close) | ((fail_if_success (with_reducible show wpAny _ _ (exec (Stmt.For _ _ _ _ _) _) _ _ _)); (fail_if_success (with_reducible show wpAny _ _ (exec (Stmt.While _ _ _ _) _) _ _ _)); (fail_if_success (with_reducible show wpAny _ _ (pyIter _) _ _ _)); (fail_if_success (with_reducible show LCg.CompSrc _ _ _ _ _ _ _ _ _ _ _ _ _ _)); (fail_if_success (with_reducible show LCt.CompSrcT _ _ _ _ _ _ _ _ _ _ _ _ _ _ _)); (fail_if_success (with_reducible show wpAny _ _ (call (Value.builtin "max") _) _ _ _)); (fail_if_success (with_reducible show KcEnd _ _ _ _ _ _ _ _)); (fail_if_success (with_reducible show CcSrc _ _ _ _ _ _ _ _ _ _ _ _ _ _ _ _ _)); (fail_if_success (with_reducible show wpAny _ _ (eval (Expr.ListComp _ _ _ _) _) _ _ _)); (fail_if_success (with_reducible show LCg.CompEnd _ _ _ _ _ _ _ _ _ _ _ _ _ _)); first | ((with_reducible show wpAny _ _ (subscriptTail _ (Expr.Slice (some _) (some _) none _) (Value.str _ _) _) _ _ _); (with_reducible rename Fr _ _ _ _ => m_F'); (with_reducible rename News _ _ _ _ => m_N'); refine str_ft (s := ⟨_, _, _, _, _⟩) m_F' m_N' (by omega) (by omega) (by omega) (by omega) ?_; intro m_z' m_h' m_t' m_c' m_hz' m_hzl' m_F' m_N') | ((with_reducible show wpAny _ _ (subscriptTail _ (Expr.Slice none (some _) none _) (Value.str _ _) _) _ _ _); (with_reducible rename Fr _ _ _ _ => m_F'); (with_reducible rename News _ _ _ _ => m_N'); refine str_to (s := ⟨_, _, _, _, _⟩) m_F' m_N' (by omega) (by omega) ?_; intro m_z' m_h' m_t' m_c' m_hz' m_hzl' m_F' m_N') | walk1 | (dsimp only; walk1) | (leave1; walk_say "STEP leave1"; try dsimp only)) | fail "no step"))
    have hl8 : ∀ (z : Str), x.length = x.length := fun _ => rfl
    refine LCt.CompSrcT.range (n := i + 1) (by rfl) (by k_asm) (by k_asm) (by assumption) (small_one (by omega) (by omega) (by omega) (by omega)) (by rw [rangeSize_nat]; omega) (by rw [PySem.sizeLine_eq]; omega) ?_
    intro g9
    refine kci_range (lonG x.cps.toList i) (fun k9 t9 I9 oI9 C9 oC9 D9 m9 ys9 li9 h9 tk9 E9 hlo9 hhi9 hI9 hC9 hx9 F9 N9 off9 ne9 hm9 => ?_) ?_ (lonG_grows _ _)
    · (repeat' (first | (k_unfold; (try dsimp only)) | (k_end; wrow_close) | ((fail_if_success (with_reducible show wpAny _ _ (exec (Stmt.For _ _ _ _ _) _) _ _ _)); (fail_if_success (with_reducible show wpAny _ _ (exec (Stmt.While _ _ _ _) _) _ _ _)); (fail_if_success (with_reducible show wpAny _ _ (pyIter _) _ _ _)); (fail_if_success (with_reducible show LCg.CompSrc _ _ _ _ _ _ _ _ _ _ _ _ _ _)); (fail_if_success (with_reducible show LCt.CompSrcT _ _ _ _ _ _ _ _ _ _ _ _ _ _ _)); (fail_if_success (with_reducible show wpAny _ _ (call (Value.builtin "max") _) _ _ _)); (fail_if_success (with_reducible show KcEnd _ _ _ _ _ _ _ _)); (fail_if_success (with_reducible show CcSrc _ _ _ _ _ _ _ _ _ _ _ _ _ _ _ _ _)); (fail_if_success (with_reducible show wpAny _ _ (eval (Expr.ListComp _ _ _ _) _) _ _ _)); (fail_if_success (with_reducible show LCg.CompEnd _ _ _ _ _ _ _ _ _ _ _ _ _ _)); first | ((with_reducible show wpAny _ _ (subscriptTail _ (Expr.Slice (some _) (some _) none _) (Value.str _ _) _) _ _ _); (with_reducible rename Fr _ _ _ _ => m_F'); (with_reducible rename News _ _ _ _ => m_N'); refine str_ft (s := ⟨_, _, _, _, _⟩) m_F' m_N' (by omega) (by omega) (by omega) (by omega) ?_; intro m_z' m_h' m_t' m_c' m_hz' m_hzl' m_F' m_N') | ((with_reducible show wpAny _ _ (subscriptTail _ (Expr.Slice none (some _) none _) (Value.str _ _) _) _ _ _); (with_reducible rename Fr _ _ _ _ => m_F'); (with_reducible rename News _ _ _ _ => m_N'); refine str_to (s := ⟨_, _, _, _, _⟩) m_F' m_N' (by omega) (by omega) ?_; intro m_z' m_h' m_t' m_c' m_hz' m_hzl' m_F' m_N') | walk1 | (dsimp only; walk1) | (leave1; walk_say "STEP leave1"; try dsimp only)) | fail "no step"))
      · rename (_ == _) = true => hE
        rw [lon_eq (i := i) (k := k9) hlo9 (by omega) hin (by assumption) (by assumption)] at hE
        exact LCg.CompEnd.intro (by k_asm) (by k_asm) _ (fun p hp => hp) off9 trivial (kci_el (if_pos hE) rfl rfl)
      · rename (_ == _) = false => hE
        rw [lon_eq (i := i) (k := k9) hlo9 (by omega) hin (by assumption) (by assumption)] at hE
        exact LCg.CompEnd.intro (by k_asm) (by k_asm) _ (fun p hp => hp) off9 trivial (kci_no (if_neg (by rw [hE]; decide)) rfl)
    · unfold KPfDone
      intro ys9 hys9 hyl9
      rw [lonG_fold] at hys9
      (repeat' (first | (k_unfold; (try dsimp only)) | (k_end; wrow_close) | ((fail_if_success (with_reducible show wpAny _ _ (exec (Stmt.For _ _ _ _ _) _) _ _ _)); (fail_if_success (with_reducible show wpAny _ _ (exec (Stmt.While _ _ _ _) _) _ _ _)); (fail_if_success (with_reducible show wpAny _ _ (pyIter _) _ _ _)); (fail_if_success (with_reducible show LCg.CompSrc _ _ _ _ _ _ _ _ _ _ _ _ _ _)); (fail_if_success (with_reducible show LCt.CompSrcT _ _ _ _ _ _ _ _ _ _ _ _ _ _ _)); (fail_if_success (with_reducible show wpAny _ _ (call (Value.builtin "max") _) _ _ _)); (fail_if_success (with_reducible show KcEnd _ _ _ _ _ _ _ _)); (fail_if_success (with_reducible show CcSrc _ _ _ _ _ _ _ _ _ _ _ _ _ _ _ _ _)); (fail_if_success (with_reducible show wpAny _ _ (eval (Expr.ListComp _ _ _ _) _) _ _ _)); (fail_if_success (with_reducible show LCg.CompEnd _ _ _ _ _ _ _ _ _ _ _ _ _ _)); first | ((with_reducible show wpAny _ _ (subscriptTail _ (Expr.Slice (some _) (some _) none _) (Value.str _ _) _) _ _ _); (with_reducible rename Fr _ _ _ _ => m_F'); (with_reducible rename News _ _ _ _ => m_N'); refine str_ft (s := ⟨_, _, _, _, _⟩) m_F' m_N' (by omega) (by omega) (by omega) (by omega) ?_; intro m_z' m_h' m_t' m_c' m_hz' m_hzl' m_F' m_N') | ((with_reducible show wpAny _ _ (subscriptTail _ (Expr.Slice none (some _) none _) (Value.str _ _) _) _ _ _); (with_reducible rename Fr _ _ _ _ => m_F'); (with_reducible rename News _ _ _ _ => m_N'); refine str_to (s := ⟨_, _, _, _, _⟩) m_F' m_N' (by omega) (by omega) ?_; intro m_z' m_h' m_t' m_c' m_hz' m_hzl' m_F' m_N') | walk1 | (dsimp only; walk1) | (leave1; walk_say "STEP leave1"; try dsimp only)) | fail "no step"))
      rename News g' _ _ _ => N8
      refine kso_max (by k_asm) N8 (News.isList N8 (.head _)) hys9 (lon_pos _ _) (by rfl) fun h7 M t7 tk7 F7 N7 hM1 hM2 => ?_
      obtain ⟨hM3, hM4⟩ := lon_max hM1 hM2
      have hM5 := lbA_eq hM3
      rw [hM4, hM5]
      exact KcEnd.intro F7 N7 (fun p hp => .tail _ hp)
  · intro ys D h9 tk9 hys F9 N9 l9
    (repeat' (first | (k_unfold; (try dsimp only)) | (k_end; wrow_close) | ((fail_if_success (with_reducible show wpAny _ _ (exec (Stmt.For _ _ _ _ _) _) _ _ _)); (fail_if_success (with_reducible show wpAny _ _ (exec (Stmt.While _ _ _ _) _) _ _ _)); (fail_if_success (with_reducible show wpAny _ _ (pyIter _) _ _ _)); (fail_if_success (with_reducible show LCg.CompSrc _ _ _ _ _ _ _ _ _ _ _ _ _ _)); (fail_if_success (with_reducible show LCt.CompSrcT _ _ _ _ _ _ _ _ _ _ _ _ _ _ _)); (fail_if_success (with_reducible show wpAny _ _ (call (Value.builtin "max") _) _ _ _)); (fail_if_success (with_reducible show KcEnd _ _ _ _ _ _ _ _)); (fail_if_success (with_reducible show CcSrc _ _ _ _ _ _ _ _ _ _ _ _ _ _ _ _ _)); (fail_if_success (with_reducible show wpAny _ _ (eval (Expr.ListComp _ _ _ _) _) _ _ _)); (fail_if_success (with_reducible show LCg.CompEnd _ _ _ _ _ _ _ _ _ _ _ _ _ _)); first | ((with_reducible show wpAny _ _ (subscriptTail _ (Expr.Slice (some _) (some _) none _) (Value.str _ _) _) _ _ _); (with_reducible rename Fr _ _ _ _ => m_F'); (with_reducible rename News _ _ _ _ => m_N'); refine str_ft (s := ⟨_, _, _, _, _⟩) m_F' m_N' (by omega) (by omega) (by omega) (by omega) ?_; intro m_z' m_h' m_t' m_c' m_hz' m_hzl' m_F' m_N') | ((with_reducible show wpAny _ _ (subscriptTail _ (Expr.Slice none (some _) none _) (Value.str _ _) _) _ _ _); (with_reducible rename Fr _ _ _ _ => m_F'); (with_reducible rename News _ _ _ _ => m_N'); refine str_to (s := ⟨_, _, _, _, _⟩) m_F' m_N' (by omega) (by omega) ?_; intro m_z' m_h' m_t' m_c' m_hz' m_hzl' m_F' m_N') | walk1 | (dsimp only; walk1) | (leave1; walk_say "STEP leave1"; try dsimp only)) | fail "no step"))
    rename News h₀ _ _ _ => N8
    refine hret _ [(_, _)] _ _ (by k_asm) (cut1 N8) ?_ ⟨_, _, _, _, rfl, rfl, hys, tab_of⟩
    intro q hq p hp
    rw [List.mem_singleton.mp hp]
    exact l9 q (.tail _ hq)
end Mine

end -- W3

section -- B7
open PySem PySem.W PyProof.Rows PySem.Spec PySem.Calls
set_option maxRecDepth 100000
set_option maxHeartbeats 8000000
namespace Mine
section
variable {prog : Program} {w : World} {A : Around} {E : Value → Shared → Prop} {s : Shared} {env : Env} {h₀ : Heap} {target : PySem.Expr} {body orelse : List Stmt} {Q : Flow → Shared → Prop}
/-- as TjAt, objects of the source standing behind the loop -/
def TkAt (prog : Program) (w : World) (A : Around) (h₀ : Heap) (env : Env) (target : PySem.Expr) (body orelse : List Stmt) (Q : Flow → Shared → Prop) (E : Value → Shared → Prop) (it : Value) (s : Shared) : Prop :=
  ∃ (I : Addr) (fp wr : List Addr) (n : Nat) (P Md : Nat → Value → Heap → Prop) (St : Nat → Heap → Prop) (m : Str → Option Value) (news fix : List (Addr × Obj)) (J : Nat → (Str → Option Value) → List (Addr × Obj) → Prop),
    it = .ref I ∧ KTurns prog w A target I fp wr n P Md St ∧ env.locals ∉ fp ∧ (∀ b ∈ wr, h₀.get? b = none) ∧ (∀ p ∈ news, p.1 ∉ fp) ∧ (∀ p ∈ fix, p.1 ≠ env.locals ∧ p.1 ∉ wr ∧ h₀.get? p.1 = none) ∧ (∀ i h, St i h → ∀ p ∈ fix, h.get? p.1 = some p.2) ∧ St 0 s.heap ∧ Fr h₀ env.locals s.heap m ∧ News h₀ env.locals s.heap news ∧ J 0 m news ∧
    (∀ i v m₁ nx h₁ tk₁ own, i < n → P i v h₁ → J i m₁ nx → nx.map (·.1) = news.map (·.1) → OwnOff own (news.map (·.1)) → Fr h₀ env.locals h₁ m₁ → News h₀ env.locals h₁ (nx ++ own) →
      wpAny (model prog w) A (assign target env v) (fun _ s₂ => wpAny (model prog w) A (execs body env) (TjPost h₀ env.locals own (news.map (·.1)) (J (i + 1)) s Q) E s₂) E { s with heap := h₁, toks := tk₁ }) ∧
    ∀ h' tk m' nx, Fr h₀ env.locals h' m' → News h₀ env.locals h' (nx ++ fix) → nx.map (·.1) = news.map (·.1) → J n m' nx → wpAny (model prog w) A (execs orelse env) Q E { s with heap := h', toks := tk }

theorem for_tk {iter : PySem.Expr} {pos : Pos} {m₀ : Str → Option Value} (_F : Fr h₀ env.locals s.heap m₀)
    (h : wpAny (model prog w) A (eval iter env) (fun xv s₁ => wpAny (model prog w) A (pyIter xv) (fun it s₂ => TkAt prog w A h₀ env target body orelse Q E it s₂) E s₁) E s)
    (hs : ∀ x, foldedSetIterable iter env x = pure x := by intro _; rfl)
    (hE : PassesOwn (model prog w) A env E := by passes_own) :
    wpAny (model prog w) A (exec (.For target iter body orelse pos) env) Q E s := by
  refine wpAny_For (wpAny_mono h (fun xv s₁ h₁ => wpAny_mono h₁ (fun it s₂ h₂ => ?_) fun _ _ e => e) fun _ _ e => e) hs
  obtain ⟨I, fp, wr, n, P, Md, St, m, news, fix, J, rfl, W, hLf, hwr, hnf, hfx, hfs, hst, F, N, h0, step, done⟩ := h₂
  have hLw : env.locals ∉ wr := fun h => hLf (W.sub _ h)
  have old : ∀ b o, h₀.get? b = some o → b ∉ wr := fun b o e hb => by rw [hwr b hb] at e; cases e
  refine codeAny_forLoop_any (R := fun r s' => match r with | .ok f => Q f s' | .error e => cameBackBy (model prog w) A env E e s')
    (fun k s' => ∃ h' tk m' nx i, s' = { s₂ with heap := h', toks := tk } ∧ St i h' ∧ Fr h₀ env.locals h' m' ∧ News h₀ env.locals h' nx ∧ nx.map (·.1) = news.map (·.1) ∧ J i m' nx ∧ i ≤ n ∧ k = n + 1 - i) ?_ (n + 1)
    ⟨s₂.heap, s₂.toks, m, news, 0, rfl, hst, F, N, rfl, h0, Nat.zero_le _, rfl⟩
  rintro k s' ⟨h', tk, m', nx, i, rfl, hst', F', N', hadr, hJ, hi, rfl⟩
  have hoff : ∀ p ∈ nx, p.1 ∉ fp := fun p hp => by
    have h1 : p.1 ∈ nx.map (·.1) := List.mem_map.mpr ⟨p, hp, rfl⟩
    rw [hadr] at h1
    obtain ⟨q, hq, e⟩ := List.mem_map.mp h1
    rw [← e]; exact hnf q hq
  have next : ∀ h₁ : Heap, (∀ b o, b ∉ wr → h'.get? b = some o → h₁.get? b = some o) → Fr h₀ env.locals h₁ m' ∧ News h₀ env.locals h₁ nx := fun h₁ hk₁ =>
    ⟨⟨F'.ns.at' fun o e => hk₁ _ o hLw e, fun b o e => hk₁ b o (old b o e) (F'.keep b o e), F'.above⟩, fun p hp => ⟨hk₁ _ _ (fun hb => hoff p hp (W.sub _ hb)) (N' p hp).1, (N' p hp).2⟩⟩
  by_cases hlt : i < n
  · refine W.item i _ _ _ hlt hst' fun v h₁ tk₁ hMd hk₁ => ?_
    refine W.go i v _ _ _ hMd fun h₂ hP hst₂ hk₂ => ?_
    obtain ⟨F₂, N₂⟩ := next h₂ fun b o hb x => hk₂ b o hb (hk₁ b o hb x)
    have Nown : News h₀ env.locals h₂ (PyProof.Rows.ownOf h₀ fp h₂) := news_ownOf hLf
    have N₃ : News h₀ env.locals h₂ (nx ++ PyProof.Rows.ownOf h₀ fp h₂) := fun p hp => (List.mem_append.mp hp).elim (N₂ p) (Nown p)
    have hsep : OwnOff (PyProof.Rows.ownOf h₀ fp h₂) (news.map (·.1)) := by
      intro p hp b hb e
      obtain ⟨q, hq, rfl⟩ := List.mem_map.mp hb
      exact hnf q hq (e ▸ ownOf_sub p hp)
    refine wpAny_mono (wpAny_passesOwn hE (wpAny_mono (step i v m' nx h₂ tk₁ (PyProof.Rows.ownOf h₀ fp h₂) hlt hP hJ hadr hsep F₂ N₃) (fun _ s₂' h₂' => wpAny_passesOwn hE h₂') fun _ _ e => e)) (fun _ s₂' h₂' => wpAny_mono h₂' (fun f s₃ h₃ => ?_) fun _ _ e => e) fun _ _ e => e
    have fin : TjEnd h₀ env.locals (PyProof.Rows.ownOf h₀ fp h₂) (news.map (·.1)) (J (i + 1)) s₂ s₃ → ∃ m, m < n + 1 - i ∧ ∃ h' tk m' nx i, s₃ = { s₂ with heap := h', toks := tk } ∧ St i h' ∧ Fr h₀ env.locals h' m' ∧ News h₀ env.locals h' nx ∧ nx.map (·.1) = news.map (·.1) ∧ J i m' nx ∧ i ≤ n ∧ m = n + 1 - i := by
      rintro ⟨h₃', tk₃, m₃, nx₃, news₃, rfl, F₃, N₃', hn₃, ho₃, ha₃, hJ₃⟩
      refine ⟨n + 1 - (i + 1), by omega, h₃', tk₃, m₃, nx₃, i + 1, rfl, ?_, F₃, fun p hp => N₃' p (hn₃ p hp), ha₃, hJ₃, hlt, rfl⟩
      refine W.frame _ _ _ hst₂ fun b hb o e => ?_
      cases hn : h₀.get? b with
      | some o₀ =>
        have : o₀ = o := by have q := F₂.keep b o₀ hn; rw [e] at q; exact (Option.some.inj q).symm
        exact this ▸ F₃.keep b o₀ hn
      | none => exact (N₃' _ (ho₃ _ (mem_ownOf hb hn e))).1
    cases f with
    | ret v => exact h₃
    | brk => exact h₃
    | cont => exact fin h₃
    | next => exact fin h₃
  · have hin : i = n := by omega
    subst hin
    refine W.done _ _ _ hst' fun h₁ tk₁ hk₁ => ?_
    obtain ⟨F₁, N₁⟩ := next h₁ hk₁
    have N₂ : News h₀ env.locals h₁ (nx ++ fix) := fun p hp => (List.mem_append.mp hp).elim (N₁ p) fun hp => ⟨hk₁ _ _ (hfx p hp).2.1 (hfs _ _ hst' p hp), (hfx p hp).1, (hfx p hp).2.2⟩
    exact wpAny_mono (wpAny_passesOwn hE (done h₁ tk₁ m' nx F₁ N₂ hadr hJ)) (fun _ _ x => x) fun _ _ e => e

theorem walks_lst (hh : A.handled = none) (I l : Addr) (hne : l ≠ I) (items : Array Value) (c : Nat) :
    Walks prog w A I [I, l] [I] items.size (fun i v => items[i]? = some v) (fun i h => h.IsListIter I l i ∧ h.get? l = some (listOf items c)) where
  sub := (Walks.list (prog := prog) (w := w) hh I l hne items).sub
  frame := fun i h h' st hk => ⟨st.1.at fun o e => hk I (by simp) o e, hk l (by simp) _ st.2⟩
  item := fun i s Q E hi st hQ => (Walks.list hh I l hne items).item i s Q E hi ⟨st.1, ⟨_, st.2, rfl, _, rfl⟩⟩ fun v h' tk hP st' hk => hQ v h' tk hP ⟨st'.1, hk l _ (by simpa using hne) st.2⟩ hk
  done := fun s Q E st hQ => (Walks.list hh I l hne items).done s Q E ⟨st.1, ⟨_, st.2, rfl, _, rfl⟩⟩ hQ
  self := fun i s Q E st hQ => (Walks.list hh I l hne items).self i s Q E ⟨st.1, ⟨_, st.2, rfl, _, rfl⟩⟩ hQ

/-- over a list of the ledger that stands behind the loop -/
theorem tk_list {l : Addr} {items : Array Value} {c : Nat} {m₀ : Str → Option Value} {news : List (Addr × Obj)} (J : Nat → (Str → Option Value) → List (Addr × Obj) → Prop)
    (hh : A.handled = none) (F : Fr h₀ env.locals s.heap m₀) (N : News h₀ env.locals s.heap ((l, listOf items c) :: news)) (hne : ∀ p ∈ news, p.1 ≠ l) (hj : J 0 m₀ news)
    (turn : ∀ (i : Nat) x m nx h tk own, i < items.size → items[i]? = some x → J i m nx → nx.map (·.1) = news.map (·.1) → OwnOff own (news.map (·.1)) → Fr h₀ env.locals h m → News h₀ env.locals h (nx ++ own) →
      wpAny (model prog w) A (assign target env x) (fun _ s₂ => wpAny (model prog w) A (execs body env) (TjPost h₀ env.locals own (news.map (·.1)) (J (i + 1)) s Q) E s₂) E { s with heap := h, toks := tk })
    (done : ∀ h tk m nx, Fr h₀ env.locals h m → News h₀ env.locals h (nx ++ [(l, listOf items c)]) → nx.map (·.1) = news.map (·.1) → J items.size m nx → wpAny (model prog w) A (execs orelse env) Q E { s with heap := h, toks := tk })
    (hgo : ∀ i v (s : Shared) (Q : Unit → Shared → Prop) (E : Value → Shared → Prop) I, s.heap.IsListIter I l i → Q () s → wpAny (model prog w) A (letOwnedTupleGo target (.ref I) v) Q E s) :
    wpAny (model prog w) A (pyIter (.ref l)) (fun it s₂ => TkAt prog w A h₀ env target body orelse Q E it s₂) E s := by
  have hl := N _ List.mem_cons_self
  have hls : s.heap.IsList l items := ⟨_, hl.1, rfl, c, rfl⟩
  have hLs : env.locals < s.heap.objs.size := F.ns.lt
  have hls' : l < s.heap.objs.size := Heap.lt_size hl.1
  have hlL : l ≠ env.locals := hl.2.1
  refine wpAny_pyIter_list hls ?_
  refine ⟨_, _, _, items.size, _, _, _, m₀, news, [(l, listOf items c)], J, rfl, KTurns.ofWalks (walks_lst hh s.heap.objs.size l (Nat.ne_of_lt hls') items c) (fun i v s Q E st q => hgo i v s Q E _ st.1 q), ?_, ?_, ?_, ?_, ?_, ⟨⟨_, Heap.get?_push_size _ rfl, rfl, rfl⟩, Heap.get?_push_of_some _ hl.1⟩, F.push _, (fun p hp => ⟨Heap.get?_push_of_some _ (N p (.tail _ hp)).1, (N p (.tail _ hp)).2⟩), hj, ?_, ?_⟩
  · intro hm
    simp only [List.mem_cons, List.not_mem_nil, or_false] at hm
    rcases hm with e | e
    · rw [e] at hLs; exact Nat.lt_irrefl _ hLs
    · exact hlL e.symm
  · intro b hb
    rw [List.mem_singleton.mp hb]
    exact ktu_new F (Nat.le_refl _)
  · intro p hp hm
    have hlp := Heap.lt_size (N p (.tail _ hp)).1
    simp only [List.mem_cons, List.not_mem_nil, or_false] at hm
    rcases hm with e | e
    · rw [e] at hlp; exact Nat.lt_irrefl _ hlp
    · exact hne p hp e
  · intro p hp
    rw [List.mem_singleton.mp hp]
    exact ⟨hlL, by simpa using Nat.ne_of_lt hls', hl.2.2⟩
  · intro i h st p hp
    rw [List.mem_singleton.mp hp]
    exact st.2
  · intro i v m₁ nx h₁ tk₁ own hin hx hJ ha ho F₁ N₁
    exact turn i v m₁ nx h₁ tk₁ own hin hx hJ ha ho F₁ N₁
  · intro h₁ tk₁ m₁ nx F₁ N₁ ha hJ
    exact done h₁ tk₁ m₁ nx F₁ N₁ ha hJ
end
section
variable {prog : Program} {w : World} {A : Around} {h₀ : Heap} {L : Addr} {m : Str → Option Value} {env : Env} {elt : PySem.Expr} {x : Str} {scope : Scope} {cl : List (Str × Addr)} {s : Shared} {S : List (Addr × Obj) → Prop} {Fin : List Value → List (Addr × Obj) → Prop} {news : List (Addr × Obj)}
/-- an element's end that keeps a bound only -/
def KcqEl (R : Int → Prop) (news : List (Addr × Obj)) (y : Value) (news' : List (Addr × Obj)) : Prop := news' = news ∧ ∃ k t, y = .int k t ∧ R k
theorem kcq_range {n : Nat} {a : Int} (R : Int → Prop)
    (turn : ∀ k t I oI C oC D m₂ ys h tk (E' : Value → Shared → Prop), a ≤ k → k < a + (n : Int) → LCg.NsObj oC m₂ → m₂ x = some (.int k t) → Fr h₀ L h m → News h₀ L h ((I, oI) :: (C, oC) :: (D, LCg.lst ys) :: news) → LCg.Off3 I C D news → ((@Ne Nat I C) ∧ (@Ne Nat I D) ∧ (@Ne Nat C D)) →
      wpAny (model prog w) A (eval elt (compEnvC scope cl C env)) (LCg.CompEnd h₀ L m { s with heap := h, toks := tk } I oI C oC D (LCg.lst ys) S (KcqEl R news)) E' { s with heap := h, toks := tk })
    (fin : ∀ ys ns, IntsAre ys ns → ns.length = n → (∀ k ∈ ns, R k) → Fin ys news) :
    LCg.CompRest prog w A h₀ L m env elt x scope cl s S (fun i v => ∃ t, v = .int (a + (i : Int)) t) Fin n 0 [] news := by
  have key : ∀ (j i : Nat) (ys : List Value) (ns : List Int), i + j = n → IntsAre ys ns → ns.length = i → (∀ k ∈ ns, R k) → LCg.CompRest prog w A h₀ L m env elt x scope cl s S (fun i v => ∃ t, v = .int (a + (i : Int)) t) Fin j i ys news := by
    intro j
    induction j with
    | zero => exact fun i ys ns hi hy hl hR => LCg.CompRest.zero (fin ys ns hy (by omega) hR)
    | succ j ih =>
      intro i ys ns hi hy hl hR
      refine LCg.CompRest.succ ?_
      rintro v I oI C oC D m₂ h tk E' ⟨t, rfl⟩ hC hx F N off ne
      refine wpAny_mono (turn (a + (i : Int)) t I oI C oC D m₂ ys h tk E' (by omega) (by omega) hC hx F N off ne) (fun y s₂ hq => ?_) fun _ _ e => e
      obtain ⟨h', tk', nw, e, F', N', off', hS, hn, k, t', hy', hk⟩ := hq
      rw [hn] at N' off' hS
      refine ⟨h', tk', news, e, F', N', off', hS, ?_⟩
      rw [hy']
      refine ih (i + 1) _ (ns ++ [k]) (by omega) (IntsAre.append hy (.cons k t' .nil)) (by simp [hl]) ?_
      intro q hq
      rcases List.mem_append.mp hq with hq | hq
      · exact hR q hq
      · rw [List.mem_singleton.mp hq]; exact hk
  exact key n 0 [] [] (by omega) .nil rfl (by simp)
end
end Mine

end -- B7

section -- P7
open PySem PySem.W PyProof.Rows
set_option maxRecDepth 100000
namespace Mine
theorem bit_one (g : Nat → Int) (m k : Nat) (S : Str) (h0 : g ((Txt.item S 0).cps.getD 0 0) = 0) (h1 : g ((Txt.item S 1).cps.getD 0 0) = 1) :
    g ((Txt.item S (((m : Int).fdiv ((2 ^ k : Nat) : Int)).fmod 2)).cps.getD 0 0) = ((m / 2 ^ k % 2 : Nat) : Int) := by
  have e := fdm m (2 ^ k) 2
  rw [show ((2 : Nat) : Int) = 2 from rfl] at e
  rw [e]
  rcases m2 (m / 2 ^ k) with h | h
  · rw [h]; exact h0
  · rw [h]; exact h1
theorem bit_two (g : Nat → Int) (m j k : Nat) (S : Str) (h0 : g ((Txt.item S 0).cps.getD 0 0) = 0) (h1 : g ((Txt.item S 1).cps.getD 0 0) = 1) (h2 : g ((Txt.item S 2).cps.getD 0 0) = 0) (h3 : g ((Txt.item S 3).cps.getD 0 0) = 1) :
    g ((Txt.item S (((m : Int).fdiv ((2 ^ k : Nat) : Int)).fmod 2 + 2 * ((m : Int).fdiv ((2 ^ j : Nat) : Int)).fmod 2)).cps.getD 0 0) = ((m / 2 ^ k % 2 : Nat) : Int) := by
  have e := fdm m (2 ^ k) 2
  have e' := fdm m (2 ^ j) 2
  rw [show ((2 : Nat) : Int) = 2 from rfl] at e e'
  rw [e, e']
  rcases m2 (m / 2 ^ k) with h | h <;> rcases m2 (m / 2 ^ j) with h' | h'
  · rw [h, h']; exact h0
  · rw [h, h']; exact h2
  · rw [h, h']; exact h1
  · rw [h, h']; exact h3
def rwx (c : Nat) : Int := if (PySem.Builtin.Str.occurrences (Str.ofString "rwxst") { cps := #[c] } 0 (Str.ofString "rwxst").length 1).isEmpty = true then 0 else 1
structure Rwx (g : Nat → Int) : Prop where
  d : g 45 = 0
  r : g 114 = 1
  w : g 119 = 1
  x : g 120 = 1
  s : g 115 = 1
  t : g 116 = 1
  S : g 83 = 0
  T : g 84 = 0
theorem rwx_ok : Rwx rwx := ⟨by decide +kernel, by decide +kernel, by decide +kernel, by decide +kernel, by decide +kernel, by decide +kernel, by decide +kernel, by decide +kernel⟩
theorem bit_code {g : Nat → Int} (G : Rwx g) (m i : Nat) (h0 : 0 < i) (hi : i < 10) : g (fmCode m i) = ((m / 2 ^ (9 - i) % 2 : Nat) : Int) := by
  unfold fmCode
  rw [← ls_is m i hi]
  have r0 : (Txt.item (Str.ofString "-r") 0).cps.getD 0 0 = 45 := by decide +kernel
  have r1 : (Txt.item (Str.ofString "-r") 1).cps.getD 0 0 = 114 := by decide +kernel
  have w0 : (Txt.item (Str.ofString "-w") 0).cps.getD 0 0 = 45 := by decide +kernel
  have w1 : (Txt.item (Str.ofString "-w") 1).cps.getD 0 0 = 119 := by decide +kernel
  have s0 : (Txt.item (Str.ofString "-xSs") 0).cps.getD 0 0 = 45 := by decide +kernel
  have s1 : (Txt.item (Str.ofString "-xSs") 1).cps.getD 0 0 = 120 := by decide +kernel
  have s2 : (Txt.item (Str.ofString "-xSs") 2).cps.getD 0 0 = 83 := by decide +kernel
  have s3 : (Txt.item (Str.ofString "-xSs") 3).cps.getD 0 0 = 115 := by decide +kernel
  have t0 : (Txt.item (Str.ofString "-xTt") 0).cps.getD 0 0 = 45 := by decide +kernel
  have t1 : (Txt.item (Str.ofString "-xTt") 1).cps.getD 0 0 = 120 := by decide +kernel
  have t2 : (Txt.item (Str.ofString "-xTt") 2).cps.getD 0 0 = 84 := by decide +kernel
  have t3 : (Txt.item (Str.ofString "-xTt") 3).cps.getD 0 0 = 116 := by decide +kernel
  have fr := fun k => bit_one g m k (Str.ofString "-r") (by rw [r0]; exact G.d) (by rw [r1]; exact G.r)
  have fw := fun k => bit_one g m k (Str.ofString "-w") (by rw [w0]; exact G.d) (by rw [w1]; exact G.w)
  have fs := fun j k => bit_two g m j k (Str.ofString "-xSs") (by rw [s0]; exact G.d) (by rw [s1]; exact G.x) (by rw [s2]; exact G.S) (by rw [s3]; exact G.s)
  have ft := fun j k => bit_two g m j k (Str.ofString "-xTt") (by rw [t0]; exact G.d) (by rw [t1]; exact G.x) (by rw [t2]; exact G.T) (by rw [t3]; exact G.t)
  match i, h0, hi with
  | 1, _, _ => exact fr 8
  | 2, _, _ => exact fw 7
  | 3, _, _ => exact fs 11 6
  | 4, _, _ => exact fr 5
  | 5, _, _ => exact fw 4
  | 6, _, _ => exact fs 10 3
  | 7, _, _ => exact fr 2
  | 8, _, _ => exact fw 1
  | 9, _, _ => exact ft 9 0
  | n + 10, _, h => exact absurd h (Nat.not_lt.mpr (Nat.le_add_left 10 n))
theorem nine {g : Nat → Int} (G : Rwx g) (m : Nat) : ((fmCodes m).drop 1).map g = (List.range 9).map fun j => ((m / 2 ^ (8 - j) % 2 : Nat) : Int) := by
  unfold fmCodes
  have e : (List.range 10) = 0 :: (List.range 9).map (· + 1) := by decide
  rw [e, List.map_cons, List.drop_one, List.tail_cons, List.map_map, List.map_map]
  refine List.map_congr_left fun j hj => ?_
  have hj := List.mem_range.mp hj
  show g (fmCode m (j + 1)) = _
  rw [bit_code G m (j + 1) (by omega) (by omega)]
  rw [show 9 - (j + 1) = 8 - j by omega]
theorem fold_sum (f : Int → Bool) (v : Int → Int) : ∀ (l : List Int) (acc : List Int), ((l.foldl (fun l j => if f j = true then l ++ [v j] else l) acc)).sum = acc.sum + (l.map fun j => if f j = true then v j else 0).sum
  | [], acc => by simp
  | a :: l, acc => by
    rw [List.foldl_cons, fold_sum f v l, List.map_cons, List.sum_cons]
    by_cases h : f a = true
    · simp only [h, if_true, List.sum_append, List.sum_cons, List.sum_nil]; omega
    · rw [if_neg h, if_neg h]; omega
/-- the rights of a chunk -/
def rgG (r : List Int) (k : Int) (l : List Int) (j : Int) : List Int := if decide (r[(k + j).toNat]? = some 1) = true then l ++ [2 ^ (8 - j).toNat] else l
def rights (r : List Int) (k : Int) : Int := ((rangeKs 0 9).foldl (rgG r k) []).sum
def bitAt (r : List Int) (q : Nat) : Int := if r[q]? = some 1 then 1 else 0
theorem rgG_grows (r : List Int) (k : Int) : KPfGrows (rgG r k) := by
  intro l j
  unfold rgG
  split
  · simp
  · omega
theorem rights_eq (r : List Int) (k : Nat) : rights r k = 256 * bitAt r k + 128 * bitAt r (k + 1) + 64 * bitAt r (k + 2) + 32 * bitAt r (k + 3) + 16 * bitAt r (k + 4) + 8 * bitAt r (k + 5) + 4 * bitAt r (k + 6) + 2 * bitAt r (k + 7) + bitAt r (k + 8) := by
  unfold rights rgG
  rw [fold_sum (fun j => decide (r[((k : Int) + j).toNat]? = some 1)) (fun j => 2 ^ (8 - j).toNat)]
  have e : rangeKs 0 9 = [0, 1, 2, 3, 4, 5, 6, 7, 8] := by decide
  rw [e]
  simp only [List.map_cons, List.map_nil, List.sum_cons, List.sum_nil, decide_eq_true_eq]
  have one : ∀ (j : Nat) (J v : Int), J = (j : Int) → (if r[((k : Int) + J).toNat]? = some 1 then v else 0) = v * bitAt r (k + j) := by
    intro j J v hJ
    have e : ((k : Int) + J).toNat = k + j := by omega
    rw [e]
    unfold bitAt
    split
    · rw [Int.mul_one]
    · rw [Int.mul_zero]
  rw [one 0 0 _ rfl, one 1 1 _ rfl, one 2 2 _ rfl, one 3 3 _ rfl, one 4 4 _ rfl, one 5 5 _ rfl, one 6 6 _ rfl, one 7 7 _ rfl, one 8 8 _ rfl]
  rw [show (2 : Int) ^ ((8 : Int) - 0).toNat = 256 by decide, show (2 : Int) ^ ((8 : Int) - 1).toNat = 128 by decide, show (2 : Int) ^ ((8 : Int) - 2).toNat = 64 by decide, show (2 : Int) ^ ((8 : Int) - 3).toNat = 32 by decide,
    show (2 : Int) ^ ((8 : Int) - 4).toNat = 16 by decide, show (2 : Int) ^ ((8 : Int) - 5).toNat = 8 by decide, show (2 : Int) ^ ((8 : Int) - 6).toNat = 4 by decide, show (2 : Int) ^ ((8 : Int) - 7).toNat = 2 by decide, show (2 : Int) ^ ((8 : Int) - 8).toNat = 1 by decide]
  rw [Nat.add_zero]
  omega
theorem bit_cases (r : List Int) (q : Nat) : bitAt r q = 0 ∨ bitAt r q = 1 := by
  unfold bitAt
  split
  · exact .inr rfl
  · exact .inl rfl
theorem rights_lo (r : List Int) (k : Nat) : 0 ≤ rights r k ∧ rights r k < 512 := by
  rw [rights_eq]
  have b0 := bit_cases r k
  have b1 := bit_cases r (k + 1)
  have b2 := bit_cases r (k + 2)
  have b3 := bit_cases r (k + 3)
  have b4 := bit_cases r (k + 4)
  have b5 := bit_cases r (k + 5)
  have b6 := bit_cases r (k + 6)
  have b7 := bit_cases r (k + 7)
  have b8 := bit_cases r (k + 8)
  generalize bitAt r k = x0 at *
  generalize bitAt r (k + 1) = x1 at *
  generalize bitAt r (k + 2) = x2 at *
  generalize bitAt r (k + 3) = x3 at *
  generalize bitAt r (k + 4) = x4 at *
  generalize bitAt r (k + 5) = x5 at *
  generalize bitAt r (k + 6) = x6 at *
  generalize bitAt r (k + 7) = x7 at *
  generalize bitAt r (k + 8) = x8 at *
  have c : ∀ x : Int, x = 0 ∨ x = 1 → 0 ≤ x ∧ x ≤ 1 := by intro x h; omega
  have d0 := c _ b0; have d1 := c _ b1; have d2 := c _ b2; have d3 := c _ b3; have d4 := c _ b4; have d5 := c _ b5; have d6 := c _ b6; have d7 := c _ b7; have d8 := c _ b8
  clear b0 b1 b2 b3 b4 b5 b6 b7 b8
  omega
theorem hor_top : ∀ (l : List Nat) (x : Nat), (∀ b ∈ l, b < 2) → (l.foldl (fun a b => 2 * a + b) x) / 2 ^ l.length = x
  | [], x, _ => by simp
  | c :: r, x, h => by
    rw [List.foldl_cons, List.length_cons, Nat.pow_succ, ← Nat.div_div_eq_div_mul, hor_top r (2 * x + c) fun b hb => h b (.tail _ hb)]
    have := h c (.head _)
    clear h
    omega
theorem hor_bit : ∀ (l : List Nat) (x : Nat), (∀ b ∈ l, b < 2) → ∀ j (hj : j < l.length), (l.foldl (fun a b => 2 * a + b) x) / 2 ^ (l.length - 1 - j) % 2 = l[j]
  | [], _, _, _, hj => absurd hj (Nat.not_lt_zero _)
  | c :: r, x, h, 0, _ => by
    rw [List.foldl_cons, List.length_cons, Nat.add_sub_cancel, Nat.sub_zero, hor_top r (2 * x + c) fun b hb => h b (.tail _ hb)]
    have := h c (.head _)
    clear h
    show (2 * x + c) % 2 = c
    omega
  | c :: r, x, h, j + 1, hj => by
    have e : (c :: r).length - 1 - (j + 1) = r.length - 1 - j := by rw [List.length_cons, Nat.add_sub_cancel, Nat.sub_sub, Nat.add_comm j 1]
    rw [List.foldl_cons, e]
    exact hor_bit r (2 * x + c) (fun b hb => h b (.tail _ hb)) j (Nat.lt_of_succ_lt_succ hj)
def bitN (r : List Int) (q : Nat) : Nat := if r[q]? = some 1 then 1 else 0
theorem bitN_at (r : List Int) (q : Nat) : bitAt r q = (bitN r q : Int) := by
  unfold bitAt bitN
  split <;> rfl
theorem bitN_lt (r : List Int) (q : Nat) : bitN r q < 2 := by
  unfold bitN
  split <;> decide
theorem chunk {g : Nat → Int} (G : Rwx g) (r : List Int) (k N : Nat) {mode : Int} (hm : mode = 512 * (N : Int) + rights r k) : ((fmCodes mode).drop 1).map g = (List.range 9).map fun j => bitAt r (k + j) := by
  have hr := (rights_lo r k).1
  obtain ⟨m, rfl⟩ := Int.eq_ofNat_of_zero_le (a := mode) (by omega)
  clear hr
  rw [nine G m]
  have key : m = ((List.range 9).map fun j => bitN r (k + j)).foldl (fun a b => 2 * a + b) N := by
    rw [rights_eq] at hm
    simp only [bitN_at] at hm
    have e9 : List.range 9 = [0, 1, 2, 3, 4, 5, 6, 7, 8] := by decide
    rw [e9]
    simp only [List.map_cons, List.map_nil, List.foldl_cons, List.foldl_nil, Nat.add_zero]
    omega
  refine List.map_congr_left fun j hj => ?_
  have hj := List.mem_range.mp hj
  rw [bitN_at]
  congr 1
  have hl : ((List.range 9).map fun j => bitN r (k + j)).length = 9 := by rw [List.length_map, List.length_range]
  have hb := hor_bit ((List.range 9).map fun j => bitN r (k + j)) N (fun b hb => by
    obtain ⟨q, _, rfl⟩ := List.mem_map.mp hb
    exact bitN_lt r _) j (by rw [hl]; exact hj)
  have e8 : ((List.range 9).map fun j => bitN r (k + j)).length - 1 - j = 8 - j := by rw [hl]
  rw [← key, e8] at hb
  rw [hb]
  simp
/-- what the chunks read off so far -/
def seenTo (r : List Int) (i : Nat) : List Int := (List.range (9 * i)).map (bitAt r)
theorem seen_step (r : List Int) (i : Nat) : seenTo r i ++ (List.range 9).map (fun j => bitAt r (9 * i + j)) = seenTo r (i + 1) := by
  unfold seenTo
  rw [show 9 * (i + 1) = 9 * i + 9 by omega, List.range_add, List.map_append, List.map_map]
  rfl
theorem seen_all {r : List Int} {i : Nat} (h : r.length ≤ 9 * i) (hb : ∀ x ∈ r, x = 0 ∨ x = 1) : (seenTo r i).take r.length = r := by
  unfold seenTo
  rw [← List.map_take, List.take_range, Nat.min_eq_left h]
  apply List.ext_getElem?
  intro q
  rw [List.getElem?_map]
  by_cases hq : q < r.length
  · rw [List.getElem?_range hq, Option.map_some, List.getElem?_eq_getElem hq]
    unfold bitAt
    rw [List.getElem?_eq_getElem hq]
    rcases hb _ (List.getElem_mem hq) with h | h <;> simp [h]
  · rw [List.getElem?_eq_none (by simp; omega), List.getElem?_eq_none (by omega)]; rfl
theorem seen_len (r : List Int) (i : Nat) : (seenTo r i).length = 9 * i := by unfold seenTo; simp
theorem bds_same {ws : List Nat} {n : Nat} {r : List Int} (h : ∀ j, Bd ws n j ↔ Bd r n j) (m : Nat) : bds ws n m = bds r n m := by
  unfold bds
  refine List.filter_congr fun k _ => ?_
  have : bdB ws n k = bdB r n k := by rw [Bool.eq_iff_iff, bdB_iff, bdB_iff]; exact h k
  rw [this]
theorem rg_yes {r l : List Int} {k j : Int} (h1 : k + j < r.length) (h0 : 0 ≤ k + j) (h : r.getD (k + j).toNat 0 = 1) : rgG r k l j = l ++ [2 ^ (8 - j).toNat] := by
  have hq : (k + j).toNat < r.length := by omega
  unfold rgG
  rw [if_pos]
  rw [List.getD_eq_getElem?_getD, List.getElem?_eq_getElem hq] at h
  rw [List.getElem?_eq_getElem hq]
  exact decide_eq_true (congrArg some h)
theorem rg_no {r l : List Int} {k j : Int} (h1 : k + j < r.length) (h0 : 0 ≤ k + j) (h : r.getD (k + j).toNat 0 ≠ 1) : rgG r k l j = l := by
  have hq : (k + j).toNat < r.length := by omega
  unfold rgG
  rw [if_neg]
  rw [List.getD_eq_getElem?_getD, List.getElem?_eq_getElem hq] at h
  rw [List.getElem?_eq_getElem hq, decide_eq_true_eq]
  intro e
  exact h (Option.some.inj e)
theorem rg_out {r l : List Int} {k j : Int} (h1 : ¬ k + j < r.length) : rgG r k l j = l := by
  unfold rgG
  rw [if_neg]
  rw [List.getElem?_eq_none (by omega)]
  decide
theorem rights_at (r : List Int) (i : Nat) {R : Int} (h : ((rangeKs 0 9).foldl (rgG r (0 + (i : Int) * 9)) []).sum = R) : R = rights r (9 * i : Nat) ∧ 0 ≤ R ∧ R < 512 := by
  have e : (0 + (i : Int) * 9) = ((9 * i : Nat) : Int) := by omega
  rw [e] at h
  have h2 : R = rights r (9 * i : Nat) := h.symm
  have := rights_lo r (9 * i)
  rw [h2]
  exact ⟨rfl, this⟩
theorem rwx_0 {c : Nat} (h : (PySem.Builtin.Str.occurrences (Str.ofString "rwxst") { cps := #[c] } 0 (Str.ofString "rwxst").length 1).isEmpty = true) : rwx c = 0 := if_pos h
theorem rwx_1 {c : Nat} (h : (PySem.Builtin.Str.occurrences (Str.ofString "rwxst") { cps := #[c] } 0 (Str.ofString "rwxst").length 1).isEmpty = false) : rwx c = 1 := if_neg (by rw [h]; decide)
theorem seen_next {rr : List Int} {i : Nat} {nn RR : Int} {zl z9 : List Nat} (hn : 0 ≤ nn) (hR : RR = rights rr (9 * i : Nat)) (hz7 : z9 = fmCodes (512 * nn + RR)) (hz : zl = List.drop (Int.toNat 1) z9) : seenTo rr i ++ zl.map rwx = seenTo rr (i + 1) := by
  rw [hz, hz7, ← seen_step]
  congr 1
  refine chunk rwx_ok rr (9 * i) nn.toNat ?_
  rw [Int.toNat_of_nonneg hn, hR]
end Mine

end -- P7

section -- P8
open PySem PySem.W PyProof.Rows
set_option maxRecDepth 100000
namespace Mine
def dueG (w : List Nat) (n : Nat) (l : List Int) (k : Int) : List Int := if bdB w n k.toNat = true then l ++ [k] else l
theorem dueG_grows (w : List Nat) (n : Nat) : KPfGrows (dueG w n) := by
  intro l k
  unfold dueG
  split
  · simp
  · omega
theorem down_succ (m : Nat) : downKs ((m + 1 : Nat) : Int) (m + 1) = ((m + 1 : Nat) : Int) :: downKs (m : Int) m := by
  unfold downKs
  rw [List.range_succ_eq_map, List.map_cons, List.map_map]
  congr 1
  refine List.map_congr_left fun i _ => ?_
  show ((m + 1 : Nat) : Int) - ((i + 1 : Nat) : Int) = (m : Int) - (i : Int)
  omega
theorem due_filter (w : List Nat) (n : Nat) : ∀ m : Nat, (downKs (m : Int) m).filter (fun k => bdB w n k.toNat) = (bds w n (m + 1)).map Int.ofNat
  | 0 => by rw [bds_neg (by omega)]; rfl
  | m + 1 => by
    rw [down_succ, List.filter_cons]
    have e : ((m + 1 : Nat) : Int).toNat = m + 1 := Int.toNat_natCast _
    rw [e]
    by_cases h : bdB w n (m + 1) = true
    · rw [if_pos h, bds_pos ⟨Nat.succ_pos _, bdB_iff.mp h⟩, List.map_cons, due_filter w n m]
      rfl
    · rw [if_neg h, bds_neg (fun hb => h (bdB_iff.mpr hb.2)), due_filter w n m]
theorem due_fold (w : List Nat) (n m : Nat) (hm : n = m + 1) : (downKs ((n : Int) - 1) m).foldl (dueG w n) [] = (bds w n n).map Int.ofNat := by
  subst hm
  unfold dueG
  rw [filt_fold (fun k => bdB w (m + 1) k.toNat), List.nil_append]
  have e : (((m + 1 : Nat) : Int) - 1) = (m : Int) := by omega
  rw [e]
  exact due_filter w (m + 1) m
theorem due_eq {x z1 z2 : Str} {k : Int} (h0 : 0 < k) (h1 : k < x.length) (e1 : z1.cps.toList = x.cps.toList.take k.toNat) (e2 : z2.cps.toList = x.cps.toList.drop ((x.length : Int) - k).toNat) : (z1 == z2) = bdB x.cps.toList x.length k.toNat := by
  have hl : x.cps.toList.length = x.length := cps_len x
  have hk : k.toNat < x.length := by omega
  have key := take_bd (w := x.cps.toList) hk (by rw [hl]; exact Nat.le_refl _)
  have a1 : ((x.length : Int) - k).toNat = x.length - k.toNat := by omega
  rw [a1] at e2
  have a2 : (x.cps.toList.drop (x.length - k.toNat)).take k.toNat = x.cps.toList.drop (x.length - k.toNat) := List.take_of_length_le (by rw [List.length_drop, hl]; omega)
  rw [a2, ← e1, ← e2, ← bdB_iff] at key
  have h2 : (z1 == z2) = true ↔ z1.cps.toList = z2.cps.toList := by
    rw [beq_iff_eq]
    constructor
    · rintro rfl; rfl
    · intro h
      cases z1; cases z2
      simp only [Str.mk.injEq]
      exact Array.ext' h
  rw [Bool.eq_iff_iff, h2, key]
theorem downs_at {n : Nat} {a : Int} {i : Nat} {v : Value} (hi : i < n) (h : ∃ t, v = Value.int (a + (i : Int) * (-1)) t) : ∃ k t, (downKs a n)[i]? = some k ∧ v = .int k t := by
  obtain ⟨t, rfl⟩ := h
  refine ⟨a - (i : Int), t, by simp [downKs, hi], ?_⟩
  congr 1
  omega
end Mine

end -- P8

section -- B8
open PySem PySem.W PyProof.Rows PySem.Spec PySem.Calls
set_option maxRecDepth 100000
set_option maxHeartbeats 8000000
namespace Mine
theorem str_same {x y : Str} (h : x.cps.toList = y.cps.toList) : x = y := by
  cases x; cases y
  simp only [Str.mk.injEq]
  exact Array.ext' h
theorem item_ls {z : Str} {mode k : Int} (hz : z.cps.toList = fmCodes mode) (h0 : 0 ≤ mode) (hk0 : 0 ≤ k) (hk1 : k < 10) : Txt.item z k = lsText mode k := by
  obtain ⟨i, rfl⟩ := Int.eq_ofNat_of_zero_le hk0
  obtain ⟨m, rfl⟩ := Int.eq_ofNat_of_zero_le h0
  have hi : i < 10 := by omega
  have hl : z.length = 10 := by rw [← cps_len, hz]; simp [fmCodes]
  rw [ls_is m i hi]
  apply str_same
  rw [item_nat (by omega)]
  have h1 : z.cps.getD i 0 = fmCode m i := by
    have : z.cps.toList[i]? = (fmCodes m)[i]? := by rw [hz]
    unfold fmCodes at this
    rw [List.getElem?_map, List.getElem?_range hi, Option.map_some] at this
    have h2 : z.cps[i]? = some (fmCode m i) := by simpa using this
    rw [Array.getD_eq_getD_getElem?, h2]; rfl
  rw [h1, one_list (fmSign_one m i)]
  rfl
theorem range_led {h₀ h h' : Heap} {L : Addr} {m m' : Str → Option Value} {news : List (Addr × Obj)} {a b c : Int} {t u v : Tok} (F : Fr h₀ L h m) (N0 : News h₀ L h news) (F' : Fr h₀ L h' m') (N : News h₀ L h' news) (R : IsRange h' h.objs.size a b c t u v) :
    ∃ o, News h₀ L h' ((h.objs.size, o) :: news) ∧ (∀ g : Heap, g.get? h.objs.size = some o → IsRange g h.objs.size a b c t u v) ∧ ∀ p ∈ news, p.1 < h.objs.size := by
  refine ⟨{ cls := .type "range", dict := none, data := .fields #[.int a t, .int b u, .int c v], slots := #[] }, fun p hp => ?_, fun g e => e, fun p hp => Heap.lt_size (N0 p hp).1⟩
  rcases List.mem_cons.mp hp with rfl | hp
  · exact ⟨R, Nat.ne_of_gt F.ns.lt, ktu_new F (Nat.le_refl _)⟩
  · exact N p hp
theorem off_own {own : List (Addr × Obj)} {l : List Addr} {b : Addr} (h : OwnOff own l) (hb : b ∈ l) : ∀ p ∈ own, p.1 ≠ b := fun p hp => h p hp b hb
theorem ls_one {mode k : Int} (h0 : 0 ≤ mode) (hk0 : 0 ≤ k) (hk1 : k < 10) : (lsText mode k).length = 1 := by
  obtain ⟨i, rfl⟩ := Int.eq_ofNat_of_zero_le hk0
  obtain ⟨m, rfl⟩ := Int.eq_ofNat_of_zero_le h0
  rw [ls_is m i (by omega)]
  exact fmSign_one m i
theorem strs_of {g : Int → Str} : ∀ {ks : List Int} {vs : List Value}, CarriedAll vs (ks.map fun k => PyData.str (g k)) → StrsAre vs (ks.map g)
  | [], _, .nil => .nil
  | _ :: _, _, .cons (.str _ t) r => .cons _ t (strs_of r)
def lsJoin (mode a : Int) (n : Nat) : Str := Txt.join (Str.ofString "") ((rangeKs a n).map (lsText mode))
theorem ls_ones {mode a : Int} (h0 : 0 ≤ mode) (ha : 0 ≤ a) (n : Nat) (hb : a + n ≤ 10) : (((rangeKs a n).map (lsText mode)).map (·.length)).sum = n := by
  have : ∀ l : List Int, (∀ k ∈ l, 0 ≤ k ∧ k < 10) → ((l.map (lsText mode)).map (·.length)).sum = l.length := by
    intro l
    induction l with
    | nil => exact fun _ => rfl
    | cons k r ih =>
      intro h
      have hk := h k (.head _)
      rw [List.map_cons, List.map_cons, List.sum_cons, ls_one h0 hk.1 hk.2, ih fun q hq => h q (.tail _ hq), List.length_cons]
      omega
  rw [this _ (fun k hk => ⟨by have := (mem_rangeKs hk).1; omega, by have := (mem_rangeKs hk).2; omega⟩), rangeKs_length]
theorem lsJoin_len {mode a : Int} (h0 : 0 ≤ mode) (ha : 0 ≤ a) (n : Nat) (hb : a + n ≤ 10) : (lsJoin mode a n).length = n := by
  unfold lsJoin
  rw [← cps_len, join_cps, List.length_flatten, List.map_map]
  have e : (List.length ∘ fun (y : Str) => y.cps.toList) = fun (y : Str) => y.length := by funext y; exact cps_len y
  rw [e]
  exact ls_ones h0 ha n hb
theorem join_ls {prog : Program} {w : World} {A : Around} {E : Value → Shared → Prop} {s : Shared} {h₀ : Heap} {L D : Addr} {news : List (Addr × Obj)} {ys : List Value} {n : Nat} {mode a : Int} {t : Tok} {Q : Value → Shared → Prop}
    (N : News h₀ L s.heap news) (hm : (D, LCg.lst ys) ∈ news) (hc : CarriedAll ys ((rangeKs a n).map fun k => PyData.str (lsText mode k))) (h0 : 0 ≤ mode) (ha : 0 ≤ a) (hb : a + n ≤ 10) (h : ∀ t' k, Q (.str (lsJoin mode a n) t') { s with toks := k }) :
    wpAny (model prog w) A (call (.builtin "str.join") [.str (Str.ofString "") t, .ref D]) Q E s := by
  have hL : s.heap.IsList D ys.toArray := ⟨_, (N _ hm).1, rfl, _, rfl⟩
  refine join_listW hL (strs_of hc) (by decide +kernel) ?_ h
  rw [ls_ones h0 ha n hb, List.length_map, rangeKs_length]
  omega
theorem fm_len {x : Str} {mode : Int} (h : x.cps.toList = fmCodes mode) : x.length = 10 := by
  rw [← cps_len, h]; simp [fmCodes]
theorem CnK.use {prog : Program} {w : World} {K : Frag} {p : Program} {loose : List Str} {mean : ExcName → Option Value} {mg mb : Str → Option Value} {f : Addr} {sz : Nat} {vs : List Value} {x : Str} {news : List (Addr × Obj)} {dp un : Nat} {gd : Option (List Code)} {cn : Str} {cs : Scope} {a : Addr} {ccd : Value} {cl : List (Str × Addr)} {outer : List Env} {A₀ : Around} {base h₀ : Heap} {L : Addr} {m : Str → Option Value} {s : Shared} {Q E : Value → Shared → Prop}
    (C : CnK prog w K p loose mean mg mb f sz vs x) (B : Below A₀ base outer h₀) (F : Fr h₀ L s.heap m) (X : K.In h₀) (N : News h₀ L s.heap news) (T : Top p loose mean mg mb h₀) (hk : cs.kind = .function) (hd : dp + sz < recursionLimit) (hu : un + 8 * sz < cLine)
    (ret : ∀ t h' tk', Fr h₀ L h' m → News h₀ L h' news → (∀ b o, s.heap.get? b = some o → h'.get? b = some o) → Q (.str x t) { s with heap := h', toks := tk' }) :
    wpAny (model prog w) (ktrTop dp un gd cn cs L a ccd cl outer) (call (.ref f) vs) Q E s := C dp un gd cn cs a ccd cl outer A₀ base h₀ L m news s Q E B F X N T hk hd hu ret
theorem loop_cpA {sh ow z1 z2 z3 z4 J : Str} {k : Nat} (h : ow.cps.toList = sh.cps.toList) (q4 : z4.cps.toList = z3.cps.toList.take k) (q3 : z3.cps.toList = ow.cps.toList ++ J.cps.toList) (q2 : z2.cps.toList = z1.cps.toList.take k) (q1 : z1.cps.toList = sh.cps.toList ++ J.cps.toList) : z4.cps.toList = z2.cps.toList := by
  rw [q4, q3, q2, q1, h]
theorem loop_cpB {sh ow z1 z2 z3 z4 z5 z6 : Str} {k n : Nat} (h : ow.cps.toList = sh.cps.toList) (q6 : z6.cps.toList = z5.cps.toList.take k) (q5 : z5.cps.toList = ow.cps.toList ++ z4.cps.toList) (q4 : z4.cps.toList = ow.cps.toList.take n)
    (q3 : z3.cps.toList = z2.cps.toList.take k) (q2 : z2.cps.toList = sh.cps.toList ++ z1.cps.toList) (q1 : z1.cps.toList = sh.cps.toList.take n) : z6.cps.toList = z3.cps.toList := by
  rw [q6, q5, q4, q3, q2, q1, h]
theorem own_pos {ow : Str} (h : (ow == Str.ofString "") = false) : 0 < ow.length := by
  rcases Nat.eq_zero_or_pos ow.length with h0 | h0
  · exfalso
    have h1 : ow = Str.ofString "" := by
      apply str_same
      rw [← cps_len] at h0
      rw [List.eq_nil_of_length_eq_zero h0]
      decide +kernel
    rw [h1, beq_self_eq_true] at h
    cases h
  · exact h0
theorem len_le {a b : Nat} (h : a = min (Int.toNat 24) b) : a ≤ 24 := by rw [h]; exact Nat.min_le_left _ _
theorem len_pos {a b c d : Nat} (h : a = min (Int.toNat 24) b) (h2 : b = c + d) (hp : 0 < c ∨ 0 < d) : 0 < a := by
  rw [h, h2]
  exact Nat.lt_min.mpr ⟨by decide, by omega⟩
theorem len_drop {a b c : Nat} (h : a = b - c) (hb : b = 10) : a ≤ 10 := by omega
theorem len_two {a b : Nat} (h1 : a ≤ 27) (h2 : b ≤ 10) : a + b ≤ 1000 := by omega
/-- a test's end: nothing changed, and what a no tells -/
def OrEnd (s : Shared) (p : Prop) (b : Bool) (s₂ : Shared) : Prop := (∃ tk, s₂ = { s with toks := tk }) ∧ (b = false → p)
theorem or_once {M : Model} {A : Around} {E : Value → Shared → Prop} {s : Shared} {Q : Bool → Shared → Prop} {m : Sem Bool} (p : Prop) (h : wpAny M A m (OrEnd s p) E s) (k : ∀ tk, Q true { s with toks := tk }) (k' : ∀ tk, p → Q false { s with toks := tk }) : wpAny M A m Q E s :=
  wpAny_mono h (fun b s₂ hb => by
    obtain ⟨⟨tk, rfl⟩, hp⟩ := hb
    cases b with
    | true => exact k tk
    | false => exact k' tk (hp rfl)) fun _ _ e => e
end Mine

end -- B8

section -- B9
open PySem PySem.W PyProof.Rows PySem.Spec PySem.Calls
set_option maxRecDepth 100000
set_option maxHeartbeats 8000000
namespace Mine
section
variable {prog : Program} {w : World} {A : Around} {E : Value → Shared → Prop} {s : Shared} {env : Env} {h₀ : Heap} {body orelse : List Stmt} {Q : Flow → Shared → Prop}
/-- over a range by any step, whatever the target -/
theorem tj_rangeS {x : Str} {px : Pos} {r : Addr} {a₀ b₀ c₀ : Int} {t₀ u₀ v₀ : Tok} {n : Nat} {m₀ : Str → Option Value} {news : List (Addr × Obj)} (J : Nat → (Str → Option Value) → List (Addr × Obj) → Prop)
    (hh : A.handled = none) (hr : IsRange s.heap r a₀ b₀ c₀ t₀ u₀ v₀) (hsmall : Builtin.Range.small a₀ b₀ c₀ = true) (hn : Builtin.Range.rangeSize a₀ b₀ c₀ = (n : Int)) (F : Fr h₀ env.locals s.heap m₀) (N : News h₀ env.locals s.heap news) (hj : J 0 m₀ news)
    (turn : ∀ (i : Nat) t m nx h tk own, i < n → J i m nx → nx.map (·.1) = news.map (·.1) → OwnOff own (news.map (·.1)) → Fr h₀ env.locals h m → News h₀ env.locals h (nx ++ own) →
      wpAny (model prog w) A (assign (.Name x px) env (.int (a₀ + (i : Int) * c₀) t)) (fun _ s₂ => wpAny (model prog w) A (execs body env) (TjPost h₀ env.locals own (news.map (·.1)) (J (i + 1)) s Q) E s₂) E { s with heap := h, toks := tk })
    (done : ∀ h tk m nx, Fr h₀ env.locals h m → News h₀ env.locals h nx → J n m nx → wpAny (model prog w) A (execs orelse env) Q E { s with heap := h, toks := tk }) :
    wpAny (model prog w) A (pyIter (.ref r)) (fun it s₂ => TjAt prog w A h₀ env (.Name x px) body orelse Q E it s₂) E s := by
  refine wpAny_pyIter_range hr hsmall ?_
  have W : Walks prog w A s.heap.objs.size [s.heap.objs.size] [s.heap.objs.size] n (fun i v => i < n ∧ ∃ t, v = .int (a₀ + i * c₀) t)
      (fun i h => IsRangeIter h s.heap.objs.size (a₀ + (i : Nat) * c₀) ((n : Int) - (i : Nat)) c₀) := (Walks.range hh _ a₀ c₀ n).bound
  refine ⟨_, _, _, n, _, _, _, m₀, news, J, rfl, KTurns.ofWalks W (fun i v s Q E st q => wpAny_pure q), ?_, ?_, ?_, (by show IsRangeIter _ _ _ _ _; rw [hn]; simpa using Heap.get?_push_size _ rfl), F.push _, (fun p hp => ⟨Heap.get?_push_of_some _ (N p hp).1, (N p hp).2⟩), hj, ?_, ?_⟩
  · intro hm
    exact absurd F.ns.lt ((List.mem_singleton.mp hm) ▸ Nat.lt_irrefl _)
  · intro b hb
    rw [List.mem_singleton.mp hb]
    exact next_is_new F
  · intro p hp hI
    exact absurd (Heap.lt_size (N p hp).1) ((List.mem_singleton.mp hI) ▸ Nat.lt_irrefl _)
  · rintro i v m₁ nx h₁ tk₁ own hin ⟨_, t, rfl⟩ hJ ha ho F₁ N₁
    exact turn i t m₁ nx h₁ tk₁ own hin hJ ha ho F₁ N₁
  · intro h₁ tk₁ m₁ nx F₁ N₁ hJ
    exact done h₁ tk₁ m₁ nx F₁ N₁ hJ
end
section
variable {prog : Program} {w : World} {A : Around} {E : Value → Shared → Prop} {s : Shared} {env : Env} {h₀ : Heap} {L : Addr} {m : Str → Option Value}
theorem pyIter_strX {x : Str} {t : Tok} {Q : Value → Shared → Prop}
    (hQ : ∀ (o : Obj) (St : Nat → Heap → Prop), (∀ i h, St i h → ∃ o, h.get? s.heap.objs.size = some o) → (∀ A' : Around, A'.handled = none → Walks prog w A' s.heap.objs.size [s.heap.objs.size] [s.heap.objs.size] x.cps.size (SignAt x) St) → St 0 (s.heap.push o) →
      Q (.ref s.heap.objs.size) { s with heap := s.heap.push o }) : wpAny (model prog w) A (pyIter (.str x t)) Q E s := by
  cases ha : x.cps.all (· < 128)
  · exact wpAny_pyIter_wide ha (hQ _ _ (fun i h st => let ⟨o, ho, _⟩ := st; ⟨o, ho⟩) (fun A' hA => Walks.strWide hA _ x t) ⟨_, Heap.get?_push_size _ rfl, rfl, rfl⟩)
  · exact wpAny_pyIter_ascii ha (hQ _ _ (fun i h st => let ⟨o, ho, _⟩ := st; ⟨o, ho⟩) (fun A' hA => Walks.strAscii hA _ x t) ⟨_, Heap.get?_push_size _ rfl, rfl, rfl⟩)
def CsSrc (prog : Program) (w : World) (A : Around) (h₀ : Heap) (L : Addr) (m : Str → Option Value) (env : Env) (elt : PySem.Expr) (x : Str) (scope : Scope) (cl : List (Str × Addr)) (g : Nat → Int) (Q : Value → Shared → Prop) (xv : Value) (s₁ : Shared) : Prop :=
  ∃ xt tx news, xv = .str xt tx ∧ A.handled = none ∧ Fr h₀ L s₁.heap m ∧ News h₀ L s₁.heap news ∧ xt.length ≤ sizeLine ∧
    (∀ (i c : Nat) t I oI C oC D m₂ ys h tk (E' : Value → Shared → Prop), xt.cps[i]? = some c → LCg.NsObj oC m₂ → m₂ x = some (.str ⟨#[c]⟩ t) → Fr h₀ L h m → News h₀ L h ((I, oI) :: (C, oC) :: (D, LCg.lst ys) :: news) → LCg.Off3 I C D news → ((@Ne Nat I C) ∧ (@Ne Nat I D) ∧ (@Ne Nat C D)) →
      wpAny (model prog w) A (eval elt (compEnvC scope cl C env)) (LCg.CompEnd h₀ L m { s₁ with heap := h, toks := tk } I oI C oC D (LCg.lst ys) (fun _ => True) (fun y news' => KCfEl news (g c) y news')) E' { s₁ with heap := h, toks := tk }) ∧
    (∀ ys D h tk, IntsAre ys (xt.cps.toList.map g) → Fr h₀ L h m → News h₀ L h ((D, LCg.lst ys) :: news) → LCg.Off1 D news → Q (.ref D) { s₁ with heap := h, toks := tk })
/-- a comprehension over a text -/
theorem ListComp_S {elt iter : PySem.Expr} {x : Str} {px : Pos} {scope : Scope} {cl : List (Str × Addr)} {pos : Pos} {Q : Value → Shared → Prop} (g : Nat → Int) (F₀ : Fr h₀ L s.heap m)
    (hclos : closureFor scope env = pure cl) (hcell : ∀ y ∈ scope.names, y.2 ≠ .cell) (hkind : scope.kind = .function)
    (hnames : ∀ y ∈ scope.names, y.2 = .local → scope.names.lookup y.1 = some .local) (hx : scope.names.lookup x = some .local)
    (h : wpAny (model prog w) A (eval iter env) (CsSrc prog w A h₀ L m env elt x scope cl g Q) E s)
    (hs : ∀ x, foldedSetIterable iter env x = pure x := by intro _; rfl) :
    wpAny (model prog w) A (eval (.ListComp elt [⟨.Name x px, iter, [], 0⟩] scope pos) env) Q E s := by
  rw [eval_ListComp]
  refine wpAny_comprehension_free (use := none) rfl hs hclos hkind hnames (wpAny_mono h (fun xv s₁ h₁ => ?_) fun _ _ e => e)
  obtain ⟨xt, tx, news, rfl, hh, F, N, hsz, turn, fin⟩ := h₁
  refine pyIter_strX fun o St hIo hW hst => ?_
  have W := hW A hh
  refine LCg.block_U (S := fun _ => True) (Fin := fun ys nw => nw = news ∧ IntsAre ys (xt.cps.toList.map g)) W hsz hIo (fun i h h' o nw st e e' _ _ _ => W.frame i h h' st fun b hb o' q => ?_) hcell hkind hx hst (fun b hb => ?_)
    (F.push _) (fun p hp => ⟨Heap.get?_push_of_some _ (N p hp).1, (N p hp).2⟩) (Nat.ne_of_lt F.ns.lt) (next_is_new F) (fun p hp => Nat.ne_of_lt (Heap.lt_size (N p hp).1)) trivial ?_ ?_
  · rw [List.mem_singleton.mp hb] at q ⊢
    rw [e] at q; rw [e', q]
  · rw [List.mem_singleton.mp hb]
    show s₁.heap.objs.size < (s₁.heap.push _).objs.size
    rw [Heap.size_push]; exact Nat.lt_succ_self _
  · have key : ∀ (j i : Nat) (ys : List Value), i + j = xt.cps.size → IntsAre ys ((xt.cps.toList.take i).map g) → LCg.CompRest prog w A h₀ L m env elt x scope cl { s₁ with heap := s₁.heap.push o } (fun _ => True) (SignAt xt) (fun ys nw => nw = news ∧ IntsAre ys (xt.cps.toList.map g)) j i ys news := by
      intro j
      induction j with
      | zero =>
        intro i ys hi hy
        refine LCg.CompRest.zero ⟨rfl, ?_⟩
        rwa [List.take_of_length_le (by simp; omega)] at hy
      | succ j ih =>
        intro i ys hi hy
        refine LCg.CompRest.succ ?_
        rintro v I oI C oC D m₂ h tk E' ⟨c, t, hc, rfl⟩ hC hx' F' N' off ne
        refine wpAny_mono (turn i c t I oI C oC D m₂ ys h tk E' hc hC hx' F' N' off ne) (fun y s₂ hq => ?_) fun _ _ e => e
        obtain ⟨h', tk', nw, e, F'', N'', off', hS, hn, t', hy'⟩ := hq
        rw [hn] at N'' off'
        refine ⟨h', tk', news, e, F'', N'', off', hS, ?_⟩
        rw [hy']
        refine ih (i + 1) _ (by omega) ?_
        have hc' : xt.cps.toList[i]? = some c := by simpa using hc
        rw [List.take_add_one, hc', List.map_append]
        exact IntsAre.append hy (.cons _ t' .nil)
    exact key _ 0 [] (by simp) .nil
  · rintro D C h tk m' ys news' F' N' o1 hn hC₀ hD₀ hCL hDL hCD offC ⟨rfl, hys⟩
    refine ⟨m', hn, fun h'' hs'' => fin ys D h'' tk hys (F'.change hs'' hCL hC₀) (fun p hp => ?_) o1⟩
    refine ⟨hs''.extBut _ _ ?_ (N' p hp).1, (N' p hp).2⟩
    rcases List.mem_cons.mp hp with rfl | hp
    · exact Ne.symm hCD
    · exact offC p hp
/-- what a filter over a range by any step asks -/
def CnSrc (prog : Program) (w : World) (A : Around) (h₀ : Heap) (L : Addr) (m : Str → Option Value) (env : Env) (ct elt : PySem.Expr) (x : Str) (scope : Scope) (cl : List (Str × Addr)) (Fin : Shared → List Value → List (Addr × Obj) → Prop) (xv : Value) (s₁ : Shared) : Prop :=
  ∃ r a b c t u v n news, xv = .ref r ∧ A.handled = none ∧ Fr h₀ L s₁.heap m ∧ News h₀ L s₁.heap news ∧ IsRange s₁.heap r a b c t u v ∧ Builtin.Range.small a b c = true ∧ Builtin.Range.rangeSize a b c = ((n : Nat) : Int) ∧ n ≤ sizeLine ∧
    ∀ s₂ : Shared, (∃ h, s₂ = { s₁ with heap := h }) → LCt.CompRestT prog w A h₀ L m env ct elt x scope cl s₂ (fun _ => True) (fun i v => ∃ t, v = .int (a + (i : Int) * c) t) (Fin s₂) n 0 [] news
theorem Assign_ListComp_N {ct elt iter : PySem.Expr} {x y : Str} {px py : Pos} {scope : Scope} {cl : List (Str × Addr)} {pos spos : Pos} {Q : Flow → Shared → Prop} (F₀ : Fr h₀ L s.heap m) (hLe : env.locals = L)
    (hsw : swapsWith (.ListComp elt [⟨.Name x px, iter, [ct], 0⟩] scope pos) (some (.Name y py)) spos.line env = pure true)
    (hclos : closureFor scope env = pure cl) (hcell : ∀ z ∈ scope.names, z.2 ≠ .cell) (hkind : scope.kind = .function)
    (hnames : ∀ z ∈ scope.names, z.2 = .local → scope.names.lookup z.1 = some .local) (hx : scope.names.lookup x = some .local)
    (hy : env.kindOf y = some .local) (hp : (env.scope.kind == .class || (env.scope.kind == .module && env.locals != env.globals)) = false)
    (h : wpAny (model prog w) A (eval iter env) (CnSrc prog w A h₀ L m env ct elt x scope cl (fun s₂ => LCg.FinA h₀ L m s₂ y Q)) E s)
    (hs : ∀ x, foldedSetIterable iter env x = pure x := by intro _; rfl) :
    wpAny (model prog w) A (exec (.Assign [.Name y py] (.ListComp elt [⟨.Name x px, iter, [ct], 0⟩] scope pos) spos) env) Q E s := by
  subst hLe
  rw [exec_Assign_Name_used _ _ _ _ hsw]
  refine wpAny_bind (wpAny_standAt (wpAny_bind ?_))
  show wpAny _ A (do let _ ← comprehension (.ListComp elt [⟨.Name x px, iter, [ct], 0⟩] scope pos) scope env _ (newList []) false (eval iter env) (some (assign (.Name y py) env))) _ _ s
  refine wpAny_bind (wpAny_mono (wpAny_comprehension_free (use := some (assign (.Name y py) env)) (Q := fun _ s' => Q .next s') rfl hs hclos hkind hnames
    (wpAny_mono h (fun xv s₁ h₁ => ?_) fun _ _ e => e)) (fun _ s' hq => wpAny_pure (wpAny_pure hq)) fun _ _ e => e)
  obtain ⟨r, a, b, c, t, u, v, n, news, rfl, hh, F, N, hr, hsm, hn, hsz, R⟩ := h₁
  refine wpAny_pyIter_range hr hsm ?_
  have W : Walks prog w A s₁.heap.objs.size [s₁.heap.objs.size] [s₁.heap.objs.size] n (fun i v => ∃ t, v = .int (a + (i : Int) * c) t) (fun i h => IsRangeIter h s₁.heap.objs.size (a + (i : Nat) * c) ((n : Int) - (i : Nat)) c) := Walks.range hh _ a c n
  refine LCt.block_T W hsz (fun i h st => ⟨_, st⟩) (fun i h h' o nw st e e' _ _ _ => ?_) hcell hkind hx (by show IsRangeIter _ _ _ _ _; rw [hn]; simpa using Heap.get?_push_size _ rfl) (fun b hb => ?_)
    (F.keeps fun _ _ e => Heap.get?_push_of_some _ e) (N.grown fun _ _ e => Heap.get?_push_of_some _ e) (Nat.ne_of_lt F.ns.lt) (next_is_new F) (fun p hp => Nat.ne_of_lt (Heap.lt_size (N p hp).1)) trivial (R _ ⟨_, rfl⟩) ?_
  · have st' : h.get? s₁.heap.objs.size = some _ := st
    show h'.get? s₁.heap.objs.size = some _
    rw [e', ← e]; exact st'
  · rw [List.mem_singleton.mp hb]
    show s₁.heap.objs.size < (s₁.heap.push _).objs.size
    rw [Heap.size_push]; exact Nat.lt_succ_self _
  · intro D C h' tk m' ys news' F' N' o1 hn' hC₀ hD₀ hCL hDL hCD offC fin
    show wpAny _ A (assign (.Name y py) env (.ref D)) _ _ _
    refine wpAny_assign_Name (wpAny_storeName_local hy F'.ns (fun h₂ hn₂ hs₂ => ?_) hp)
    have hL₀ : h₀.get? env.locals = none := Heap.get?_none_of_le F'.above
    have F₂ : Fr h₀ env.locals h₂ (fun z => if z = y then some (.ref D) else m z) := ⟨hn₂, fun b o e => hs₂.extBut b o (fun q => by rw [q, hL₀] at e; cases e) (F'.keep b o e), F'.above⟩
    refine ⟨m', hn'.sameBut hs₂ hCL, fun h'' hs'' => fin D h'' _ (F₂.change hs'' hCL hC₀) (fun p hp => ?_) o1⟩
    have z : h₂.get? p.1 = some p.2 := hs₂.extBut _ _ (N' p hp).2.1 (N' p hp).1
    refine ⟨hs''.extBut _ _ ?_ z, (N' p hp).2⟩
    rcases List.mem_cons.mp hp with rfl | hp
    · exact Ne.symm hCD
    · exact offC p hp
/-- xs.extend(ys) upon a list within the ledger -/
theorem ext_L {D b : Addr} {ys us : List Value} {n n2 : Nat} {ns ms : List Int} {own rest : List (Addr × Obj)} {Q : Value → Shared → Prop}
    (F : Fr h₀ L s.heap m) (N : News h₀ L s.heap (own ++ (D, listOf ys.toArray n) :: rest)) (hown : ∀ p ∈ own, p.1 ≠ D) (hap : ∀ p ∈ rest, p.1 ≠ D) (hb : (b, listOf us.toArray n2) ∈ own ++ (D, listOf ys.toArray n) :: rest) (hi : IntsAre ys ns) (hj : IntsAre us ms) (hsz : ns.length + ms.length ≤ 1000)
    (h : ∀ h' n' zs, Fr h₀ L h' m → News h₀ L h' (own ++ (D, listOf zs.toArray n') :: rest) → IntsAre zs (ns ++ ms) → Q .none { s with heap := h' }) :
    wpAny (model prog w) A (call (.builtin "list.extend") [.ref D, .ref b]) Q E s :=
  extend_in_ints F N hown hap (N _ hb).1 hi hj (fun h' n' F' N' i' => h h' n' _ F' N' i') (by rw [PySem.sizeLine_eq, List.size_toArray, hi.length, hj.length]; omega)
end
theorem ne_tabs {prog : Program} {w : World} {A : Around} {E : Value → Shared → Prop} {s : Shared} {h₀ : Heap} {L l b : Addr} {news : List (Addr × Obj)} {vs us : List Value} {ns ms : List Int} {c d : Nat} {ws : List Nat} {Q : Value → Shared → Prop}
    (N : News h₀ L s.heap news) (hm : (l, listOf vs.toArray c) ∈ news) (hb : (b, listOf us.toArray d) ∈ news) (hi : IntsAre vs ns) (hj : IntsAre us ms) (h1 : IsTab ws ns) (h2 : IsTab ws ms) (hu : A.units + 64 < cLine) (h : Q (.bool false) s) :
    wpAny (model prog w) A (compareOp .NotEq (.ref l) (.ref b)) Q E s := by
  have e := tab_uniq h1 h2
  subst e
  exact ne_L N hm hb hi hj hu (by rw [decide_eq_true rfl]; exact h)
theorem size9 (n : Nat) : Builtin.Range.rangeSize 0 (n : Int) 9 = (((n + 8) / 9 : Nat) : Int) := by
  unfold Builtin.Range.rangeSize
  rw [if_pos (by decide)]
  split <;> omega
theorem small9' : ∀ n, n < 25 → Builtin.Range.small 0 ((n : Nat) : Int) 9 = true := by decide +kernel
theorem small9 {n : Nat} (h : n ≤ 24) : Builtin.Range.small 0 (n : Int) 9 = true := small9' n (by omega)
end Mine

end -- B9

section -- U5
open PySem PySem.W PyProof.Rows PySem.Spec PySem.Calls
set_option maxRecDepth 100000
set_option maxHeartbeats 8000000
set_option pp.deepTerms false
set_option pp.deepTerms.threshold 8
set_option pp.proofs.threshold 2
namespace Mine
section
variable {w : World} {loose : List Str} {mean : ExcName → Option Value} {mg mb : Str → Option Value} {dp un : Nat} {gd : Option (List Code)} {cn : Str} {cs : Scope} {a : Addr} {ccd : Value} {cl : List (Str × Addr)} {outer : List Env} {A₀ : Around} {base h₀ : Heap} {L : Addr} {m : Str → Option Value} {s : Shared} {Q E : Value → Shared → Prop} {news : List (Addr × Obj)}
theorem use_fm {mode : Int} {t : Tok} (h0 : 0 ≤ mode) (h1 : mode < 2 ^ 40) (B : Below A₀ base outer h₀) (F : Fr h₀ L s.heap m) (X : (hd1.heap_39 w.params).In h₀) (N : News h₀ L s.heap news) (T : Top hd1.view_39 loose mean mg mb h₀) (hk : cs.kind = .function) (hd : dp + 5 < recursionLimit) (hu : un + 8 * 5 < cLine)
    (ret : ∀ z t' h' tk', Fr h₀ L h' m → News h₀ L h' news → z.cps.toList = fmCodes mode → z.length = 10 → Q (.str z t') { s with heap := h', toks := tk' }) : wpAny (model PySem.Challenge.rw_tv0022_01.row.prog w) (ktrTop dp un gd cn cs L a ccd cl outer) (call (.ref 68) [.int mode t]) Q E s :=
  Cn.use (fm_tells w loose mean mg mb mode t h0 h1 news) B F X N T hk hd hu fun r tl h' tk' F' N' l' o' => by
    obtain ⟨z, t', rfl, rfl, hz⟩ := o'
    exact ret z t' h' tk' F' N' hz (fm_len hz)
theorem use_tab {x : Str} {t : Tok} (hx : x.length ≤ 1000) (B : Below A₀ base outer h₀) (F : Fr h₀ L s.heap m) (X : (hd1.heap_39 w.params).In h₀) (N : News h₀ L s.heap news) (T : Top hd1.view_39 loose mean mg mb h₀) (hk : cs.kind = .function) (hd : dp + 5 < recursionLimit) (hu : un + 8 * 5 < cLine)
    (ret : ∀ a' vs' n' ts' h' tk', Fr h₀ L h' m → News h₀ L h' ((a', listOf vs'.toArray n') :: news) → AllLt a' news → IntsAre vs' ts' → IsTab x.cps.toList ts' → Q (.ref a') { s with heap := h', toks := tk' }) : wpAny (model PySem.Challenge.rw_tv0022_01.row.prog w) (ktrTop dp un gd cn cs L a ccd cl outer) (call (.ref 21) [.str x t]) Q E s :=
  Cn.use (tab_str w loose mean mg mb x t hx news) B F X N T hk hd hu fun r tl h' tk' F' N' l' o' => by
    obtain ⟨a', vs', n', ts', rfl, rfl, hi, ht⟩ := o'
    exact ret a' vs' n' ts' h' tk' F' N' (allLt_of fun q hq => l' q hq _ (List.mem_singleton.mpr rfl)) hi ht
theorem use_lon {x : Str} {t : Tok} (hx : x.length ≤ 1000) (B : Below A₀ base outer h₀) (F : Fr h₀ L s.heap m) (X : (hd1.heap_39 w.params).In h₀) (N : News h₀ L s.heap news) (T : Top hd1.view_39 loose mean mg mb h₀) (hk : cs.kind = .function) (hd : dp + 15 < recursionLimit) (hu : un + 8 * 15 < cLine)
    (ret : ∀ a' vs' n' ts' h' tk', Fr h₀ L h' m → News h₀ L h' ((a', listOf vs'.toArray n') :: news) → AllLt a' news → IntsAre vs' ts' → IsTab x.cps.toList ts' → Q (.ref a') { s with heap := h', toks := tk' }) : wpAny (model PySem.Challenge.rw_tv0022_01.row.prog w) (ktrTop dp un gd cn cs L a ccd cl outer) (call (.ref 80) [.str x t]) Q E s :=
  Cn.use (lon_tells w loose mean mg mb x t hx news) B F X N T hk hd hu fun r tl h' tk' F' N' l' o' => by
    obtain ⟨a', vs', n', ts', rfl, rfl, hi, ht⟩ := o'
    exact ret a' vs' n' ts' h' tk' F' N' (allLt_of fun q hq => l' q hq _ (List.mem_singleton.mpr rfl)) hi ht
theorem use_tabI {l : Addr} {vs : List Value} {c : Nat} {ws : List Int} (hiW : IntsAre vs ws) (hx : ws.length ≤ 1000) (hm : (l, listOf vs.toArray c) ∈ news) (B : Below A₀ base outer h₀) (F : Fr h₀ L s.heap m) (X : (hd1.heap_39 w.params).In h₀) (N : News h₀ L s.heap news) (T : Top hd1.view_39 loose mean mg mb h₀) (hk : cs.kind = .function) (hd : dp + 5 < recursionLimit) (hu : un + 8 * 5 < cLine)
    (ret : ∀ a' vs' n' ts' h' tk', Fr h₀ L h' m → News h₀ L h' ((a', listOf vs'.toArray n') :: news) → AllLt a' news → IntsAre vs' ts' → IsTab ws ts' → Q (.ref a') { s with heap := h', toks := tk' }) : wpAny (model PySem.Challenge.rw_tv0022_01.row.prog w) (ktrTop dp un gd cn cs L a ccd cl outer) (call (.ref 21) [.ref l]) Q E s :=
  Cn.use (tab_ints w loose mean mg mb l vs c ws hiW hx news hm) B F X N T hk hd hu fun r tl h' tk' F' N' l' o' => by
    obtain ⟨a', vs', n', ts', rfl, rfl, hi, ht⟩ := o'
    exact ret a' vs' n' ts' h' tk' F' N' (allLt_of fun q hq => l' q hq _ (List.mem_singleton.mpr rfl)) hi ht
theorem use_two {l : Addr} {vs : List Value} {c : Nat} {ts : List Int} {ws : List Nat} {z : Int} {t : Tok} (hiW : IntsAre vs ts) (ht : IsTab ws ts) (hx : ws.length ≤ 1000) (hz0 : 0 < z) (hz1 : z ≤ ws.length) (hm : (l, listOf vs.toArray c) ∈ news) (B : Below A₀ base outer h₀) (F : Fr h₀ L s.heap m) (X : (hd1.heap_39 w.params).In h₀) (N : News h₀ L s.heap news) (T : Top hd1.view_39 loose mean mg mb h₀) (hk : cs.kind = .function) (hd : dp + (20 + 10 * z.toNat) < recursionLimit) (hu : un + 8 * (20 + 10 * z.toNat) < cLine)
    (ret : ∀ a' vs' n' ts' h' tk', Fr h₀ L h' m → News h₀ L h' ((a', listOf vs'.toArray n') :: news) → OffQ a' news → IntsAre vs' ts' → Same ws z.toNat ts' → Q (.ref a') { s with heap := h', toks := tk' }) : wpAny (model PySem.Challenge.rw_tv0022_01.row.prog w) (ktrTop dp un gd cn cs L a ccd cl outer) (call (.ref 97) [.ref l, .int z t]) Q E s :=
  Ck.use (two_tells w loose mean mg mb l vs c ts ws hiW ht hx z.toNat z t (Nat.le_refl _) hz0 hz1 news hm) B F X N T hk hd hu fun r tl h' tk' F' N' l' o' => by
    obtain ⟨a', vs', n', ts', rfl, rfl, hi, ht⟩ := o'
    exact ret a' vs' n' ts' h' tk' F' N' (offq_of fun q hq => l' q hq _ (List.mem_singleton.mpr rfl)) hi ht
theorem use_ovl {l : Addr} {vs : List Value} {c : Nat} {ts : List Int} {α : Type} [DecidableEq α] {ws : List α} (hi : IntsAre vs ts) (ht : IsTab ws ts) (hw0 : 0 < ws.length) (hw1 : ws.length ≤ 1000) (hm : (l, listOf vs.toArray c) ∈ news) (B : Below A₀ base outer h₀) (F : Fr h₀ L s.heap m) (X : (hd1.heap_39 w.params).In h₀) (N : News h₀ L s.heap news) (T : Top hd1.view_39 loose mean mg mb h₀) (hk : cs.kind = .function) (hd : dp + 5 < recursionLimit) (hu : un + 8 * 5 < cLine)
    (ret : ∀ a' (vs' : Array Value) n' h' tk', Fr h₀ L h' m → News h₀ L h' ((a', listOf vs' n') :: news) → IntsAre vs'.toList ((bds ws ws.length ws.length).map Int.ofNat) → Q (.ref a') { s with heap := h', toks := tk' }) : wpAny (model PySem.Challenge.rw_tv0022_01.row.prog w) (ktrTop dp un gd cn cs L a ccd cl outer) (call (.ref 87) [.ref l]) Q E s :=
  Cn.use (ovl_tells w loose mean mg mb l vs c ts ws hi ht hw0 hw1 news hm) B F X N T hk hd hu fun r tl h' tk' F' N' l' o' => by
    obtain ⟨a', vs', n', rfl, rfl, hi'⟩ := o'
    exact ret a' vs' n' h' tk' F' N' hi' 
end
def InvA (p1 p2 : Addr × Obj) (a3 a4 a5 : Addr) (p6 p7 p8 : Addr × Obj) (d : Addr) (i : Nat) (m : Str → Option Value) (nx : List (Addr × Obj)) : Prop :=
  ∃ (sh ow : Str) (ts to_ : Tok) (oL oY oO : Obj) (u : Str → Option Value) (vL vY : Option Value), nx = [p1, p2, (a3, oL), (a4, oY), (a5, oO), p6, p7, p8] ∧ oL.data = Data.cell vL ∧ oY.data = Data.cell vY ∧ oO.data = Data.cell (some (.str ow to_)) ∧
        ow.cps.toList = sh.cps.toList ∧ ow.length ≤ 24 ∧ (0 < i → 0 < ow.length) ∧ m = (fun y => if y = Str.ofString "shown" then some (Value.str sh ts) else if y = Str.ofString "numbers" then some (Value.ref d) else u y)
section
variable {p1 p2 p6 p7 p8 : Addr × Obj} {a3 a4 a5 d : Addr} {m : Str → Option Value}
theorem InvA.intro {i : Nat} {sh ow : Str} {ts to_ : Tok} {oL oY oO : Obj} {u : Str → Option Value} {vL vY : Option Value} (hL : oL.data = Data.cell vL) (hY : oY.data = Data.cell vY) (hO : oO.data = Data.cell (some (.str ow to_)))
    (hcp : ow.cps.toList = sh.cps.toList) (hle : ow.length ≤ 24) (hpos : 0 < i → 0 < ow.length) (hm : m = (fun y => if y = Str.ofString "shown" then some (Value.str sh ts) else if y = Str.ofString "numbers" then some (Value.ref d) else u y)) :
    InvA p1 p2 a3 a4 a5 p6 p7 p8 d i m [p1, p2, (a3, oL), (a4, oY), (a5, oO), p6, p7, p8] := ⟨sh, ow, ts, to_, oL, oY, oO, u, vL, vY, rfl, hL, hY, hO, hcp, hle, hpos, hm⟩
variable {prog : Program} {w : World} {A : Around} {E : Value → Shared → Prop} {s : Shared} {env : Env} {h₀ : Heap} {target : PySem.Expr} {body orelse : List Stmt} {Q : Flow → Shared → Prop}
theorem tk_A {l : Addr} {ys : List Value} {ns : List Int} {c : Nat} {R : Int → Prop} {oL₀ oY₀ oO₀ : Obj} (hi : IntsAre ys ns) (hR : ∀ k ∈ ns, R k)
    (hh : A.handled = none) (F : Fr h₀ env.locals s.heap m) (N : News h₀ env.locals s.heap ((l, listOf ys.toArray c) :: [p1, p2, (a3, oL₀), (a4, oY₀), (a5, oO₀), p6, p7, p8])) (hne : ∀ p ∈ [p1, p2, (a3, oL₀), (a4, oY₀), (a5, oO₀), p6, p7, p8], p.1 ≠ l)
    (hj : InvA p1 p2 a3 a4 a5 p6 p7 p8 d 0 m [p1, p2, (a3, oL₀), (a4, oY₀), (a5, oO₀), p6, p7, p8])
    (turn : ∀ (i : Nat) x tx (sh ow : Str) (ts to_ : Tok) (oL oY oO : Obj) (u : Str → Option Value) (vL vY : Option Value) h tk own, R x → oL.data = Data.cell vL → oY.data = Data.cell vY → oO.data = Data.cell (some (.str ow to_)) →
      ow.cps.toList = sh.cps.toList → ow.length ≤ 24 → OwnOff own ([p1, p2, (a3, oL₀), (a4, oY₀), (a5, oO₀), p6, p7, p8].map (·.1)) → Fr h₀ env.locals h (fun y => if y = Str.ofString "shown" then some (Value.str sh ts) else if y = Str.ofString "numbers" then some (Value.ref d) else u y) → News h₀ env.locals h (p1 :: p2 :: (a3, oL) :: (a4, oY) :: (a5, oO) :: p6 :: p7 :: p8 :: own) →
      wpAny (model prog w) A (assign target env (.int x tx)) (fun _ s₂ => wpAny (model prog w) A (execs body env) (TjPost h₀ env.locals own ([p1, p2, (a3, oL₀), (a4, oY₀), (a5, oO₀), p6, p7, p8].map (·.1)) (InvA p1 p2 a3 a4 a5 p6 p7 p8 d (i + 1)) s Q) E s₂) E { s with heap := h, toks := tk })
    (done : ∀ (sh ow : Str) (ts to_ : Tok) (oL oY oO : Obj) (u : Str → Option Value) (vL vY : Option Value) h tk, oL.data = Data.cell vL → oY.data = Data.cell vY → oO.data = Data.cell (some (.str ow to_)) →
      ow.cps.toList = sh.cps.toList → ow.length ≤ 24 → (0 < ys.toArray.size → 0 < ow.length) → Fr h₀ env.locals h (fun y => if y = Str.ofString "shown" then some (Value.str sh ts) else if y = Str.ofString "numbers" then some (Value.ref d) else u y) → News h₀ env.locals h (p1 :: p2 :: (a3, oL) :: (a4, oY) :: (a5, oO) :: p6 :: p7 :: p8 :: [(l, listOf ys.toArray c)]) →
      wpAny (model prog w) A (execs orelse env) Q E { s with heap := h, toks := tk })
    (hgo : ∀ i v (s : Shared) (Q : Unit → Shared → Prop) (E : Value → Shared → Prop) I, s.heap.IsListIter I l i → Q () s → wpAny (model prog w) A (letOwnedTupleGo target (.ref I) v) Q E s) :
    wpAny (model prog w) A (pyIter (.ref l)) (fun it s₂ => TkAt prog w A h₀ env target body orelse Q E it s₂) E s := by
  refine tk_list (InvA p1 p2 a3 a4 a5 p6 p7 p8 d) hh F N hne hj ?_ ?_ hgo
  · intro i xv m nx h tk own hin hx hJ hadr hoff F N
    obtain ⟨x, tx, e, hk⟩ := hi.at i xv (by simpa using hx)
    obtain ⟨sh, ow, ts, to_, oL, oY, oO, u, vL, vY, e1, hL, hY, hO, hcp, hle, hpos, e2⟩ := hJ
    subst e e1 e2
    exact turn i x tx sh ow ts to_ oL oY oO u vL vY h tk own (hR x (List.mem_of_getElem? hk)) hL hY hO hcp hle hoff F N
  · intro h tk m nx F N hadr hJ
    obtain ⟨sh, ow, ts, to_, oL, oY, oO, u, vL, vY, e1, hL, hY, hO, hcp, hle, hpos, e2⟩ := hJ
    subst e1 e2
    exact done sh ow ts to_ oL oY oO u vL vY h tk hL hY hO hcp hle hpos F N
end
def InvC (rr : List Int) (a1 : Addr) (p2 p3 p4 p5 p6 : Addr × Obj) (a7 : Addr) (p8 p9 : Addr × Obj) (aK : Addr) (q1 q2 q3 : Addr × Obj) (d1 d2 : Addr) (i : Nat) (m : Str → Option Value) (nx : List (Addr × Obj)) : Prop :=
  ∃ (vsS : List Value) (cS : Nat) (oL oK : Obj) (u : Str → Option Value) (vL vK : Option Value), nx = [(a1, listOf vsS.toArray cS), p2, p3, p4, p5, p6, (a7, oL), p8, p9, (aK, oK), q1, q2, q3] ∧ IntsAre vsS (seenTo rr i) ∧ oL.data = Data.cell vL ∧ oK.data = Data.cell vK ∧ m = (fun y => if y = Str.ofString "seen" then some (Value.ref d1) else if y = Str.ofString "numbers" then some (Value.ref d2) else u y)
section
variable {rr : List Int} {p2 p3 p4 p5 p6 p8 p9 q1 q2 q3 : Addr × Obj} {a1 a7 aK d1 d2 : Addr} {m : Str → Option Value}
theorem InvC.intro {i : Nat} {vsS : List Value} {cS : Nat} {oL oK : Obj} {u : Str → Option Value} {vL vK : Option Value} (hi : IntsAre vsS (seenTo rr i)) (hL : oL.data = Data.cell vL) (hK : oK.data = Data.cell vK) (hm : m = (fun y => if y = Str.ofString "seen" then some (Value.ref d1) else if y = Str.ofString "numbers" then some (Value.ref d2) else u y)) :
    InvC rr a1 p2 p3 p4 p5 p6 a7 p8 p9 aK q1 q2 q3 d1 d2 i m [(a1, listOf vsS.toArray cS), p2, p3, p4, p5, p6, (a7, oL), p8, p9, (aK, oK), q1, q2, q3] := ⟨vsS, cS, oL, oK, u, vL, vK, rfl, hi, hL, hK, hm⟩
variable {prog : Program} {w : World} {A : Around} {E : Value → Shared → Prop} {s : Shared} {env : Env} {h₀ : Heap} {body orelse : List Stmt} {Q : Flow → Shared → Prop}
theorem tj_C {x : Str} {px : Pos} {r : Addr} {a₀ b₀ c' : Int} {t₀ u₀ v₀ : Tok} {n : Nat} {vs₀ : List Value} {c₀ : Nat} {oL₀ oK₀ : Obj}
    (hh : A.handled = none) (hr : IsRange s.heap r a₀ b₀ c' t₀ u₀ v₀) (hsmall : Builtin.Range.small a₀ b₀ c' = true) (hn : Builtin.Range.rangeSize a₀ b₀ c' = (n : Int)) (F : Fr h₀ env.locals s.heap m) (N : News h₀ env.locals s.heap [(a1, listOf vs₀.toArray c₀), p2, p3, p4, p5, p6, (a7, oL₀), p8, p9, (aK, oK₀), q1, q2, q3])
    (hj : InvC rr a1 p2 p3 p4 p5 p6 a7 p8 p9 aK q1 q2 q3 d1 d2 0 m [(a1, listOf vs₀.toArray c₀), p2, p3, p4, p5, p6, (a7, oL₀), p8, p9, (aK, oK₀), q1, q2, q3])
    (turn : ∀ (i : Nat) t (vsS : List Value) (cS : Nat) (oL oK : Obj) (u : Str → Option Value) (vL vK : Option Value) h tk own, i < n → IntsAre vsS (seenTo rr i) → oL.data = Data.cell vL → oK.data = Data.cell vK → OwnOff own ([(a1, listOf vs₀.toArray c₀), p2, p3, p4, p5, p6, (a7, oL₀), p8, p9, (aK, oK₀), q1, q2, q3].map (·.1)) → Fr h₀ env.locals h (fun y => if y = Str.ofString "seen" then some (Value.ref d1) else if y = Str.ofString "numbers" then some (Value.ref d2) else u y) → News h₀ env.locals h ((a1, listOf vsS.toArray cS) :: p2 :: p3 :: p4 :: p5 :: p6 :: (a7, oL) :: p8 :: p9 :: (aK, oK) :: q1 :: q2 :: q3 :: own) →
      wpAny (model prog w) A (assign (.Name x px) env (.int (a₀ + (i : Int) * c') t)) (fun _ s₂ => wpAny (model prog w) A (execs body env) (TjPost h₀ env.locals own ([(a1, listOf vs₀.toArray c₀), p2, p3, p4, p5, p6, (a7, oL₀), p8, p9, (aK, oK₀), q1, q2, q3].map (·.1)) (InvC rr a1 p2 p3 p4 p5 p6 a7 p8 p9 aK q1 q2 q3 d1 d2 (i + 1)) s Q) E s₂) E { s with heap := h, toks := tk })
    (done : ∀ (vsS : List Value) (cS : Nat) (oL oK : Obj) (u : Str → Option Value) (vL vK : Option Value) h tk, IntsAre vsS (seenTo rr n) → oL.data = Data.cell vL → oK.data = Data.cell vK → Fr h₀ env.locals h (fun y => if y = Str.ofString "seen" then some (Value.ref d1) else if y = Str.ofString "numbers" then some (Value.ref d2) else u y) → News h₀ env.locals h [(a1, listOf vsS.toArray cS), p2, p3, p4, p5, p6, (a7, oL), p8, p9, (aK, oK), q1, q2, q3] → wpAny (model prog w) A (execs orelse env) Q E { s with heap := h, toks := tk }) :
    wpAny (model prog w) A (pyIter (.ref r)) (fun it s₂ => TjAt prog w A h₀ env (.Name x px) body orelse Q E it s₂) E s := by
  refine tj_rangeS (InvC rr a1 p2 p3 p4 p5 p6 a7 p8 p9 aK q1 q2 q3 d1 d2) hh hr hsmall hn F N hj ?_ ?_
  · intro i t m nx h tk own hin hJ hadr hoff F N
    obtain ⟨vsS, cS, oL, oK, u, vL, vK, e1, hi, hL, hK, e2⟩ := hJ
    subst e1 e2
    exact turn i t vsS cS oL oK u vL vK h tk own hin hi hL hK hoff F N
  · intro h tk m nx F N hJ
    obtain ⟨vsS, cS, oL, oK, u, vL, vK, e1, hi, hL, hK, e2⟩ := hJ
    subst e1 e2
    exact done vsS cS oL oK u vL vK h tk hi hL hK F N
end
end Mine

end -- U5

section -- W7
open PySem PySem.W PyProof.Rows PySem.Spec PySem.Calls
set_option maxRecDepth 100000
set_option maxHeartbeats 8000000
set_option pp.deepTerms false
set_option pp.deepTerms.threshold 8
set_option pp.proofs.threshold 2
namespace Mine
local macro_rules | `(tactic| k_room) => `(tactic| ktr_room)
theorem fm_lo (a : Int) : 0 ≤ a.fmod (2 ^ Int.toNat 23) := Int.fmod_nonneg_of_pos a (by decide)
theorem fm_hi (a : Int) : a.fmod (2 ^ Int.toNat 23) < 8388608 := Int.fmod_lt_of_pos a (by decide)
theorem fr2 {m : Str → Option Value} {x y : Str} {a b : Option Value} (h1 : m x = a) (h2 : m y = b) : m = fun z => if z = x then a else if z = y then b else m z := by
  funext z
  by_cases e1 : z = x
  · subst e1; simp [h1]
  · by_cases e2 : z = y
    · subst e2; simp [e1, h2]
    · simp [e1, e2]
local macro_rules | `(tactic| k_all) => `(tactic| first | with_reducible assumption | (with_reducible rename OwnOff _ _ => ho9; exact off_own ho9 (by simp only [List.map_cons, List.map_nil]; k_mem)) | (refine List.forall_mem_cons.mpr ⟨?_, ?_⟩; k_ne; k_all))
theorem sum_eq {prog : Program} {w : World} {A : Around} {E : Value → Shared → Prop} {s : Shared} {h₀ : Heap} {L D : Addr} {m : Str → Option Value} {news : List (Addr × Obj)} {vs : List Value} {ns : List Int} {k : Int} {Q : Value → Shared → Prop} (hh : A.handled = none) (F : Fr h₀ L s.heap m) (N : News h₀ L s.heap news) (hm : (D, LCg.lst vs) ∈ news) (hi : IntsAre vs ns) (hk : ns.sum = k)
    (h : ∀ h' tk t', Fr h₀ L h' m → News h₀ L h' news → Q (.int k t') { s with heap := h', toks := tk }) : wpAny (model prog w) A (call (.builtin "sum") [.ref D]) Q E s :=
  sumK hh F N (News.isList N hm) hi (hk ▸ h)
theorem holds : PySem.Challenge.rw_tv0022_01.Holds := hd1 (by
  w_strict (
    k_go0
    (all_goals try k_fold)
    (repeat' (first | (k_unfold; (try dsimp only)) | (k_end; wrow_close) | ((fail_if_success (with_reducible show wpAny _ _ (exec (Stmt.For _ _ _ _ _) _) _ _ _)); (fail_if_success (with_reducible show wpAny _ _ (exec (Stmt.While _ _ _ _) _) _ _ _)); (fail_if_success (with_reducible show wpAny _ _ (pyIter _) _ _ _)); (fail_if_success (with_reducible show LCg.CompSrc _ _ _ _ _ _ _ _ _ _ _ _ _ _)); (fail_if_success (with_reducible show LCt.CompSrcT _ _ _ _ _ _ _ _ _ _ _ _ _ _ _)); (fail_if_success (with_reducible show wpAny _ _ (eval (Expr.ListComp _ _ _ _) _) _ _ _)); (fail_if_success (with_reducible show wpAny _ _ (exec (Stmt.Assign _ (Expr.ListComp _ _ _ _) _) _) _ _ _)); (fail_if_success (with_reducible show wpAny _ _ (storeName _ (Str.ofString "places") _) _ _ _)); (fail_if_success (with_reducible show wpAny _ _ (compareOp CmpOp.Eq (Value.str _ _) (Value.str _ _)) _ _ _)); (fail_if_success (with_reducible show wpAny _ _ (compareOp CmpOp.Eq (Value.ref _) (Value.ref _)) _ _ _)); (fail_if_success (with_reducible show wpAny _ _ (compareOp CmpOp.NotEq (Value.ref _) (Value.ref _)) _ _ _)); (fail_if_success (with_reducible show wpAny _ _ (call (Value.builtin "list.extend") _) _ _ _)); (fail_if_success (with_reducible show wpAny _ _ (call (Value.ref _) _) _ _ _)); (fail_if_success (with_reducible show wpAny _ _ (isTrue (Expr.BoolOp BoolOp.Or _ _) _ _) (fun b s₂ => if b = true then _ else _) _ _)); (fail_if_success (with_reducible show OrEnd _ _ _ _)); (fail_if_success (with_reducible show CsSrc _ _ _ _ _ _ _ _ _ _ _ _ _ _ _)); (fail_if_success (with_reducible show CnSrc _ _ _ _ _ _ _ _ _ _ _ _ _ _ _)); (fail_if_success (with_reducible show LCg.CompEnd _ _ _ _ _ _ _ _ _ _ _ _ _ _)); first | ((with_reducible show wpAny _ _ (call (Value.builtin "sum") [Value.ref _]) _ _ _); k_dflt (refine' sum_eq ?k0 ?k1 ?k2 ?k3 ?k4 ?k5 ?_; (case k0 => rfl); (case k1 => k_asm); (case k2 => k_asm); (case k3 => k_mem); (case k4 => with_reducible assumption); (case k5 => with_reducible assumption); k_whole); intro m_h9 m_tk9 m_t9 m_F9 m_N9) | ((with_reducible show wpAny _ _ (subscriptTail _ (Expr.Slice (some _) none none _) (Value.str _ _) _) _ _ _); (with_reducible rename Fr _ _ _ _ => m_F'); (with_reducible rename News _ _ _ _ => m_N'); refine str_from (s := ⟨_, _, _, _, _⟩) m_F' m_N' (by omega) (by omega) ?_; intro m_z' m_h' m_t' m_c' m_hz' m_hzl' m_F' m_N') | ((with_reducible show wpAny _ _ (subscriptTail _ _ (Value.ref _) (Value.int _ _)) _ _ _); k_dflt (refine' sub_atE ?k1 ?k2 ?k3 ?kk ?k4 ?k5 ?k7 ?_ ?k6; (case k1 => k_asm); (case k2 => k_mem); (case k3 => with_reducible assumption); (case kk => first | with_reducible assumption | exact rfl); (case k4 => omega); (case k5 => omega); (case k7 => omega); (case k6 => with_unfolding_all rfl); k_whole); intro _) | ((with_reducible show wpAny _ _ (compareOp CmpOp.NotEq (Value.str _ _) (Value.str _ _)) _ _ _); refine cmp_same ?_) | (k_here; (with_reducible show wpAny _ _ (call (Value.builtin "len") [Value.ref _]) _ _ _); (refine KM.len_K (by k_asm) (by k_dflt k_mem) (by with_reducible assumption) (by omega) ?_)) | ((with_reducible show wpAny _ _ (subscriptTail _ (Expr.Slice none (some _) none _) (Value.str _ _) _) _ _ _); (with_reducible rename Fr _ _ _ _ => m_F'); (with_reducible rename News _ _ _ _ => m_N'); refine str_to (s := ⟨_, _, _, _, _⟩) m_F' m_N' (by omega) (by omega) ?_; intro m_z' m_h' m_t' m_c' m_hz' m_hzl' m_F' m_N') | ((with_reducible show wpAny _ _ (binaryOp Operator.Add (Value.str _ _) (Value.str _ _)) _ _ _); refine str_add (by omega) ?_; intro m_z' m_t' m_k' m_hz' m_hzl') | ((with_reducible show wpAny _ _ (call (Value.builtin "str.join") [Value.str _ _, Value.ref _]) _ _ _); k_dflt (refine' join_ls ?k1 ?k2 ?k3 ?k4 ?k5 ?k6 ?_; (case k1 => k_asm); (case k2 => k_mem); (case k3 => with_reducible assumption); (case k4 => with_reducible assumption); (case k5 => with_reducible assumption); (case k6 => with_reducible assumption); k_whole); intro _ _) | ((with_reducible show wpAny _ _ (call (Value.builtin "sum") [Value.ref _]) _ _ _); k_dflt (refine' sum_pick ?k0 ?k1 ?k2 ?k3 ?_; (case k0 => rfl); (case k1 => k_asm); (case k2 => k_asm); (case k3 => with_reducible assumption); k_whole); intro m_ks9 m_h9 m_tk9 m_t9 m_F9 m_N9) | walk1 | (dsimp only; walk1) | (leave1; walk_say "STEP leave1"; try dsimp only)) | fail "no step"))
    refine LCg.Assign_ListComp_U (F₀ := by k_asm) (by rfl) (by with_unfolding_all rfl) (by with_unfolding_all rfl) (by decide) (by rfl) (by decide) (by rfl) (by rfl) (by rfl) ?_
    (repeat' (first | (k_unfold; (try dsimp only)) | (k_end; wrow_close) | ((fail_if_success (with_reducible show wpAny _ _ (exec (Stmt.For _ _ _ _ _) _) _ _ _)); (fail_if_success (with_reducible show wpAny _ _ (exec (Stmt.While _ _ _ _) _) _ _ _)); (fail_if_success (with_reducible show wpAny _ _ (pyIter _) _ _ _)); (fail_if_success (with_reducible show LCg.CompSrc _ _ _ _ _ _ _ _ _ _ _ _ _ _)); (fail_if_success (with_reducible show LCt.CompSrcT _ _ _ _ _ _ _ _ _ _ _ _ _ _ _)); (fail_if_success (with_reducible show wpAny _ _ (eval (Expr.ListComp _ _ _ _) _) _ _ _)); (fail_if_success (with_reducible show wpAny _ _ (exec (Stmt.Assign _ (Expr.ListComp _ _ _ _) _) _) _ _ _)); (fail_if_success (with_reducible show wpAny _ _ (storeName _ (Str.ofString "places") _) _ _ _)); (fail_if_success (with_reducible show wpAny _ _ (compareOp CmpOp.Eq (Value.str _ _) (Value.str _ _)) _ _ _)); (fail_if_success (with_reducible show wpAny _ _ (compareOp CmpOp.Eq (Value.ref _) (Value.ref _)) _ _ _)); (fail_if_success (with_reducible show wpAny _ _ (compareOp CmpOp.NotEq (Value.ref _) (Value.ref _)) _ _ _)); (fail_if_success (with_reducible show wpAny _ _ (call (Value.builtin "list.extend") _) _ _ _)); (fail_if_success (with_reducible show wpAny _ _ (call (Value.ref _) _) _ _ _)); (fail_if_success (with_reducible show wpAny _ _ (isTrue (Expr.BoolOp BoolOp.Or _ _) _ _) (fun b s₂ => if b = true then _ else _) _ _)); (fail_if_success (with_reducible show OrEnd _ _ _ _)); (fail_if_success (with_reducible show CsSrc _ _ _ _ _ _ _ _ _ _ _ _ _ _ _)); (fail_if_success (with_reducible show CnSrc _ _ _ _ _ _ _ _ _ _ _ _ _ _ _)); (fail_if_success (with_reducible show LCg.CompEnd _ _ _ _ _ _ _ _ _ _ _ _ _ _)); first | ((with_reducible show wpAny _ _ (call (Value.builtin "sum") [Value.ref _]) _ _ _); k_dflt (refine' sum_eq ?k0 ?k1 ?k2 ?k3 ?k4 ?k5 ?_; (case k0 => rfl); (case k1 => k_asm); (case k2 => k_asm); (case k3 => k_mem); (case k4 => with_reducible assumption); (case k5 => with_reducible assumption); k_whole); intro m_h9 m_tk9 m_t9 m_F9 m_N9) | ((with_reducible show wpAny _ _ (subscriptTail _ (Expr.Slice (some _) none none _) (Value.str _ _) _) _ _ _); (with_reducible rename Fr _ _ _ _ => m_F'); (with_reducible rename News _ _ _ _ => m_N'); refine str_from (s := ⟨_, _, _, _, _⟩) m_F' m_N' (by omega) (by omega) ?_; intro m_z' m_h' m_t' m_c' m_hz' m_hzl' m_F' m_N') | ((with_reducible show wpAny _ _ (subscriptTail _ _ (Value.ref _) (Value.int _ _)) _ _ _); k_dflt (refine' sub_atE ?k1 ?k2 ?k3 ?kk ?k4 ?k5 ?k7 ?_ ?k6; (case k1 => k_asm); (case k2 => k_mem); (case k3 => with_reducible assumption); (case kk => first | with_reducible assumption | exact rfl); (case k4 => omega); (case k5 => omega); (case k7 => omega); (case k6 => with_unfolding_all rfl); k_whole); intro _) | ((with_reducible show wpAny _ _ (compareOp CmpOp.NotEq (Value.str _ _) (Value.str _ _)) _ _ _); refine cmp_same ?_) | (k_here; (with_reducible show wpAny _ _ (call (Value.builtin "len") [Value.ref _]) _ _ _); (refine KM.len_K (by k_asm) (by k_dflt k_mem) (by with_reducible assumption) (by omega) ?_)) | ((with_reducible show wpAny _ _ (subscriptTail _ (Expr.Slice none (some _) none _) (Value.str _ _) _) _ _ _); (with_reducible rename Fr _ _ _ _ => m_F'); (with_reducible rename News _ _ _ _ => m_N'); refine str_to (s := ⟨_, _, _, _, _⟩) m_F' m_N' (by omega) (by omega) ?_; intro m_z' m_h' m_t' m_c' m_hz' m_hzl' m_F' m_N') | ((with_reducible show wpAny _ _ (binaryOp Operator.Add (Value.str _ _) (Value.str _ _)) _ _ _); refine str_add (by omega) ?_; intro m_z' m_t' m_k' m_hz' m_hzl') | ((with_reducible show wpAny _ _ (call (Value.builtin "str.join") [Value.str _ _, Value.ref _]) _ _ _); k_dflt (refine' join_ls ?k1 ?k2 ?k3 ?k4 ?k5 ?k6 ?_; (case k1 => k_asm); (case k2 => k_mem); (case k3 => with_reducible assumption); (case k4 => with_reducible assumption); (case k5 => with_reducible assumption); (case k6 => with_reducible assumption); k_whole); intro _ _) | ((with_reducible show wpAny _ _ (call (Value.builtin "sum") [Value.ref _]) _ _ _); k_dflt (refine' sum_pick ?k0 ?k1 ?k2 ?k3 ?_; (case k0 => rfl); (case k1 => k_asm); (case k2 => k_asm); (case k3 => with_reducible assumption); k_whole); intro m_ks9 m_h9 m_tk9 m_t9 m_F9 m_N9) | walk1 | (dsimp only; walk1) | (leave1; walk_say "STEP leave1"; try dsimp only)) | fail "no step"))
    rename IsRange _ _ _ _ _ _ _ _ => R1
    refine LCg.CompSrc.range (n := 6) (by rfl) (by k_asm) (by k_asm) R1 (by decide) (by decide) (by rw [PySem.sizeLine_eq]; omega) ?_
    intro g9
    refine kcq_range (fun k => 0 ≤ k ∧ k < 8388608) (fun k9 t9 I9 oI9 C9 oC9 D9 m9 ys9 h9 tk9 E9 hlo9 hhi9 hC9 hx9 F9 N9 off9 ne9 => ?_) ?_
    · have off8 := off9
      simp only [LCg.Off3] at off8
      (repeat' (first | (k_unfold; (try dsimp only)) | (k_end; wrow_close) | ((fail_if_success (with_reducible show wpAny _ _ (exec (Stmt.For _ _ _ _ _) _) _ _ _)); (fail_if_success (with_reducible show wpAny _ _ (exec (Stmt.While _ _ _ _) _) _ _ _)); (fail_if_success (with_reducible show wpAny _ _ (pyIter _) _ _ _)); (fail_if_success (with_reducible show LCg.CompSrc _ _ _ _ _ _ _ _ _ _ _ _ _ _)); (fail_if_success (with_reducible show LCt.CompSrcT _ _ _ _ _ _ _ _ _ _ _ _ _ _ _)); (fail_if_success (with_reducible show wpAny _ _ (eval (Expr.ListComp _ _ _ _) _) _ _ _)); (fail_if_success (with_reducible show wpAny _ _ (exec (Stmt.Assign _ (Expr.ListComp _ _ _ _) _) _) _ _ _)); (fail_if_success (with_reducible show wpAny _ _ (storeName _ (Str.ofString "places") _) _ _ _)); (fail_if_success (with_reducible show wpAny _ _ (compareOp CmpOp.Eq (Value.str _ _) (Value.str _ _)) _ _ _)); (fail_if_success (with_reducible show wpAny _ _ (compareOp CmpOp.Eq (Value.ref _) (Value.ref _)) _ _ _)); (fail_if_success (with_reducible show wpAny _ _ (compareOp CmpOp.NotEq (Value.ref _) (Value.ref _)) _ _ _)); (fail_if_success (with_reducible show wpAny _ _ (call (Value.builtin "list.extend") _) _ _ _)); (fail_if_success (with_reducible show wpAny _ _ (call (Value.ref _) _) _ _ _)); (fail_if_success (with_reducible show wpAny _ _ (isTrue (Expr.BoolOp BoolOp.Or _ _) _ _) (fun b s₂ => if b = true then _ else _) _ _)); (fail_if_success (with_reducible show OrEnd _ _ _ _)); (fail_if_success (with_reducible show CsSrc _ _ _ _ _ _ _ _ _ _ _ _ _ _ _)); (fail_if_success (with_reducible show CnSrc _ _ _ _ _ _ _ _ _ _ _ _ _ _ _)); (fail_if_success (with_reducible show LCg.CompEnd _ _ _ _ _ _ _ _ _ _ _ _ _ _)); first | ((with_reducible show wpAny _ _ (call (Value.builtin "sum") [Value.ref _]) _ _ _); k_dflt (refine' sum_eq ?k0 ?k1 ?k2 ?k3 ?k4 ?k5 ?_; (case k0 => rfl); (case k1 => k_asm); (case k2 => k_asm); (case k3 => k_mem); (case k4 => with_reducible assumption); (case k5 => with_reducible assumption); k_whole); intro m_h9 m_tk9 m_t9 m_F9 m_N9) | ((with_reducible show wpAny _ _ (subscriptTail _ (Expr.Slice (some _) none none _) (Value.str _ _) _) _ _ _); (with_reducible rename Fr _ _ _ _ => m_F'); (with_reducible rename News _ _ _ _ => m_N'); refine str_from (s := ⟨_, _, _, _, _⟩) m_F' m_N' (by omega) (by omega) ?_; intro m_z' m_h' m_t' m_c' m_hz' m_hzl' m_F' m_N') | ((with_reducible show wpAny _ _ (subscriptTail _ _ (Value.ref _) (Value.int _ _)) _ _ _); k_dflt (refine' sub_atE ?k1 ?k2 ?k3 ?kk ?k4 ?k5 ?k7 ?_ ?k6; (case k1 => k_asm); (case k2 => k_mem); (case k3 => with_reducible assumption); (case kk => first | with_reducible assumption | exact rfl); (case k4 => omega); (case k5 => omega); (case k7 => omega); (case k6 => with_unfolding_all rfl); k_whole); intro _) | ((with_reducible show wpAny _ _ (compareOp CmpOp.NotEq (Value.str _ _) (Value.str _ _)) _ _ _); refine cmp_same ?_) | (k_here; (with_reducible show wpAny _ _ (call (Value.builtin "len") [Value.ref _]) _ _ _); (refine KM.len_K (by k_asm) (by k_dflt k_mem) (by with_reducible assumption) (by omega) ?_)) | ((with_reducible show wpAny _ _ (subscriptTail _ (Expr.Slice none (some _) none _) (Value.str _ _) _) _ _ _); (with_reducible rename Fr _ _ _ _ => m_F'); (with_reducible rename News _ _ _ _ => m_N'); refine str_to (s := ⟨_, _, _, _, _⟩) m_F' m_N' (by omega) (by omega) ?_; intro m_z' m_h' m_t' m_c' m_hz' m_hzl' m_F' m_N') | ((with_reducible show wpAny _ _ (binaryOp Operator.Add (Value.str _ _) (Value.str _ _)) _ _ _); refine str_add (by omega) ?_; intro m_z' m_t' m_k' m_hz' m_hzl') | ((with_reducible show wpAny _ _ (call (Value.builtin "str.join") [Value.str _ _, Value.ref _]) _ _ _); k_dflt (refine' join_ls ?k1 ?k2 ?k3 ?k4 ?k5 ?k6 ?_; (case k1 => k_asm); (case k2 => k_mem); (case k3 => with_reducible assumption); (case k4 => with_reducible assumption); (case k5 => with_reducible assumption); (case k6 => with_reducible assumption); k_whole); intro _ _) | ((with_reducible show wpAny _ _ (call (Value.builtin "sum") [Value.ref _]) _ _ _); k_dflt (refine' sum_pick ?k0 ?k1 ?k2 ?k3 ?_; (case k0 => rfl); (case k1 => k_asm); (case k2 => k_asm); (case k3 => with_reducible assumption); k_whole); intro m_ks9 m_h9 m_tk9 m_t9 m_F9 m_N9) | walk1 | (dsimp only; walk1) | (leave1; walk_say "STEP leave1"; try dsimp only)) | fail "no step"))
      exact LCg.CompEnd.intro (by k_asm) (by k_asm) _ (fun p hp => hp) off9 trivial ⟨rfl, _, _, rfl, fm_lo _, fm_hi _⟩
    · intro ys9 ns9 hys9 hyl9 hR9
      (repeat' (first | (k_unfold; (try dsimp only)) | (k_end; wrow_close) | ((fail_if_success (with_reducible show wpAny _ _ (exec (Stmt.For _ _ _ _ _) _) _ _ _)); (fail_if_success (with_reducible show wpAny _ _ (exec (Stmt.While _ _ _ _) _) _ _ _)); (fail_if_success (with_reducible show wpAny _ _ (pyIter _) _ _ _)); (fail_if_success (with_reducible show LCg.CompSrc _ _ _ _ _ _ _ _ _ _ _ _ _ _)); (fail_if_success (with_reducible show LCt.CompSrcT _ _ _ _ _ _ _ _ _ _ _ _ _ _ _)); (fail_if_success (with_reducible show wpAny _ _ (eval (Expr.ListComp _ _ _ _) _) _ _ _)); (fail_if_success (with_reducible show wpAny _ _ (exec (Stmt.Assign _ (Expr.ListComp _ _ _ _) _) _) _ _ _)); (fail_if_success (with_reducible show wpAny _ _ (storeName _ (Str.ofString "places") _) _ _ _)); (fail_if_success (with_reducible show wpAny _ _ (compareOp CmpOp.Eq (Value.str _ _) (Value.str _ _)) _ _ _)); (fail_if_success (with_reducible show wpAny _ _ (compareOp CmpOp.Eq (Value.ref _) (Value.ref _)) _ _ _)); (fail_if_success (with_reducible show wpAny _ _ (compareOp CmpOp.NotEq (Value.ref _) (Value.ref _)) _ _ _)); (fail_if_success (with_reducible show wpAny _ _ (call (Value.builtin "list.extend") _) _ _ _)); (fail_if_success (with_reducible show wpAny _ _ (call (Value.ref _) _) _ _ _)); (fail_if_success (with_reducible show wpAny _ _ (isTrue (Expr.BoolOp BoolOp.Or _ _) _ _) (fun b s₂ => if b = true then _ else _) _ _)); (fail_if_success (with_reducible show OrEnd _ _ _ _)); (fail_if_success (with_reducible show CsSrc _ _ _ _ _ _ _ _ _ _ _ _ _ _ _)); (fail_if_success (with_reducible show CnSrc _ _ _ _ _ _ _ _ _ _ _ _ _ _ _)); (fail_if_success (with_reducible show LCg.CompEnd _ _ _ _ _ _ _ _ _ _ _ _ _ _)); first | ((with_reducible show wpAny _ _ (call (Value.builtin "sum") [Value.ref _]) _ _ _); k_dflt (refine' sum_eq ?k0 ?k1 ?k2 ?k3 ?k4 ?k5 ?_; (case k0 => rfl); (case k1 => k_asm); (case k2 => k_asm); (case k3 => k_mem); (case k4 => with_reducible assumption); (case k5 => with_reducible assumption); k_whole); intro m_h9 m_tk9 m_t9 m_F9 m_N9) | ((with_reducible show wpAny _ _ (subscriptTail _ (Expr.Slice (some _) none none _) (Value.str _ _) _) _ _ _); (with_reducible rename Fr _ _ _ _ => m_F'); (with_reducible rename News _ _ _ _ => m_N'); refine str_from (s := ⟨_, _, _, _, _⟩) m_F' m_N' (by omega) (by omega) ?_; intro m_z' m_h' m_t' m_c' m_hz' m_hzl' m_F' m_N') | ((with_reducible show wpAny _ _ (subscriptTail _ _ (Value.ref _) (Value.int _ _)) _ _ _); k_dflt (refine' sub_atE ?k1 ?k2 ?k3 ?kk ?k4 ?k5 ?k7 ?_ ?k6; (case k1 => k_asm); (case k2 => k_mem); (case k3 => with_reducible assumption); (case kk => first | with_reducible assumption | exact rfl); (case k4 => omega); (case k5 => omega); (case k7 => omega); (case k6 => with_unfolding_all rfl); k_whole); intro _) | ((with_reducible show wpAny _ _ (compareOp CmpOp.NotEq (Value.str _ _) (Value.str _ _)) _ _ _); refine cmp_same ?_) | (k_here; (with_reducible show wpAny _ _ (call (Value.builtin "len") [Value.ref _]) _ _ _); (refine KM.len_K (by k_asm) (by k_dflt k_mem) (by with_reducible assumption) (by omega) ?_)) | ((with_reducible show wpAny _ _ (subscriptTail _ (Expr.Slice none (some _) none _) (Value.str _ _) _) _ _ _); (with_reducible rename Fr _ _ _ _ => m_F'); (with_reducible rename News _ _ _ _ => m_N'); refine str_to (s := ⟨_, _, _, _, _⟩) m_F' m_N' (by omega) (by omega) ?_; intro m_z' m_h' m_t' m_c' m_hz' m_hzl' m_F' m_N') | ((with_reducible show wpAny _ _ (binaryOp Operator.Add (Value.str _ _) (Value.str _ _)) _ _ _); refine str_add (by omega) ?_; intro m_z' m_t' m_k' m_hz' m_hzl') | ((with_reducible show wpAny _ _ (call (Value.builtin "str.join") [Value.str _ _, Value.ref _]) _ _ _); k_dflt (refine' join_ls ?k1 ?k2 ?k3 ?k4 ?k5 ?k6 ?_; (case k1 => k_asm); (case k2 => k_mem); (case k3 => with_reducible assumption); (case k4 => with_reducible assumption); (case k5 => with_reducible assumption); (case k6 => with_reducible assumption); k_whole); intro _ _) | ((with_reducible show wpAny _ _ (call (Value.builtin "sum") [Value.ref _]) _ _ _); k_dflt (refine' sum_pick ?k0 ?k1 ?k2 ?k3 ?_; (case k0 => rfl); (case k1 => k_asm); (case k2 => k_asm); (case k3 => with_reducible assumption); k_whole); intro m_ks9 m_h9 m_tk9 m_t9 m_F9 m_N9) | walk1 | (dsimp only; walk1) | (leave1; walk_say "STEP leave1"; try dsimp only)) | fail "no step"))
      rename _ ≠ _ ∧ _ ≠ _ ∧ _ => oq
      simp only [neq_fold] at oq
      repeat (have := And.left oq; replace oq := And.right oq)
      rename Fr _ _ _ _ => F1
      refine for_tk F1 ?_
      (repeat' (first | (k_unfold; (try dsimp only)) | (k_end; wrow_close) | ((fail_if_success (with_reducible show wpAny _ _ (exec (Stmt.For _ _ _ _ _) _) _ _ _)); (fail_if_success (with_reducible show wpAny _ _ (exec (Stmt.While _ _ _ _) _) _ _ _)); (fail_if_success (with_reducible show wpAny _ _ (pyIter _) _ _ _)); (fail_if_success (with_reducible show LCg.CompSrc _ _ _ _ _ _ _ _ _ _ _ _ _ _)); (fail_if_success (with_reducible show LCt.CompSrcT _ _ _ _ _ _ _ _ _ _ _ _ _ _ _)); (fail_if_success (with_reducible show wpAny _ _ (eval (Expr.ListComp _ _ _ _) _) _ _ _)); (fail_if_success (with_reducible show wpAny _ _ (exec (Stmt.Assign _ (Expr.ListComp _ _ _ _) _) _) _ _ _)); (fail_if_success (with_reducible show wpAny _ _ (storeName _ (Str.ofString "places") _) _ _ _)); (fail_if_success (with_reducible show wpAny _ _ (compareOp CmpOp.Eq (Value.str _ _) (Value.str _ _)) _ _ _)); (fail_if_success (with_reducible show wpAny _ _ (compareOp CmpOp.Eq (Value.ref _) (Value.ref _)) _ _ _)); (fail_if_success (with_reducible show wpAny _ _ (compareOp CmpOp.NotEq (Value.ref _) (Value.ref _)) _ _ _)); (fail_if_success (with_reducible show wpAny _ _ (call (Value.builtin "list.extend") _) _ _ _)); (fail_if_success (with_reducible show wpAny _ _ (call (Value.ref _) _) _ _ _)); (fail_if_success (with_reducible show wpAny _ _ (isTrue (Expr.BoolOp BoolOp.Or _ _) _ _) (fun b s₂ => if b = true then _ else _) _ _)); (fail_if_success (with_reducible show OrEnd _ _ _ _)); (fail_if_success (with_reducible show CsSrc _ _ _ _ _ _ _ _ _ _ _ _ _ _ _)); (fail_if_success (with_reducible show CnSrc _ _ _ _ _ _ _ _ _ _ _ _ _ _ _)); (fail_if_success (with_reducible show LCg.CompEnd _ _ _ _ _ _ _ _ _ _ _ _ _ _)); first | ((with_reducible show wpAny _ _ (call (Value.builtin "sum") [Value.ref _]) _ _ _); k_dflt (refine' sum_eq ?k0 ?k1 ?k2 ?k3 ?k4 ?k5 ?_; (case k0 => rfl); (case k1 => k_asm); (case k2 => k_asm); (case k3 => k_mem); (case k4 => with_reducible assumption); (case k5 => with_reducible assumption); k_whole); intro m_h9 m_tk9 m_t9 m_F9 m_N9) | ((with_reducible show wpAny _ _ (subscriptTail _ (Expr.Slice (some _) none none _) (Value.str _ _) _) _ _ _); (with_reducible rename Fr _ _ _ _ => m_F'); (with_reducible rename News _ _ _ _ => m_N'); refine str_from (s := ⟨_, _, _, _, _⟩) m_F' m_N' (by omega) (by omega) ?_; intro m_z' m_h' m_t' m_c' m_hz' m_hzl' m_F' m_N') | ((with_reducible show wpAny _ _ (subscriptTail _ _ (Value.ref _) (Value.int _ _)) _ _ _); k_dflt (refine' sub_atE ?k1 ?k2 ?k3 ?kk ?k4 ?k5 ?k7 ?_ ?k6; (case k1 => k_asm); (case k2 => k_mem); (case k3 => with_reducible assumption); (case kk => first | with_reducible assumption | exact rfl); (case k4 => omega); (case k5 => omega); (case k7 => omega); (case k6 => with_unfolding_all rfl); k_whole); intro _) | ((with_reducible show wpAny _ _ (compareOp CmpOp.NotEq (Value.str _ _) (Value.str _ _)) _ _ _); refine cmp_same ?_) | (k_here; (with_reducible show wpAny _ _ (call (Value.builtin "len") [Value.ref _]) _ _ _); (refine KM.len_K (by k_asm) (by k_dflt k_mem) (by with_reducible assumption) (by omega) ?_)) | ((with_reducible show wpAny _ _ (subscriptTail _ (Expr.Slice none (some _) none _) (Value.str _ _) _) _ _ _); (with_reducible rename Fr _ _ _ _ => m_F'); (with_reducible rename News _ _ _ _ => m_N'); refine str_to (s := ⟨_, _, _, _, _⟩) m_F' m_N' (by omega) (by omega) ?_; intro m_z' m_h' m_t' m_c' m_hz' m_hzl' m_F' m_N') | ((with_reducible show wpAny _ _ (binaryOp Operator.Add (Value.str _ _) (Value.str _ _)) _ _ _); refine str_add (by omega) ?_; intro m_z' m_t' m_k' m_hz' m_hzl') | ((with_reducible show wpAny _ _ (call (Value.builtin "str.join") [Value.str _ _, Value.ref _]) _ _ _); k_dflt (refine' join_ls ?k1 ?k2 ?k3 ?k4 ?k5 ?k6 ?_; (case k1 => k_asm); (case k2 => k_mem); (case k3 => with_reducible assumption); (case k4 => with_reducible assumption); (case k5 => with_reducible assumption); (case k6 => with_reducible assumption); k_whole); intro _ _) | ((with_reducible show wpAny _ _ (call (Value.builtin "sum") [Value.ref _]) _ _ _); k_dflt (refine' sum_pick ?k0 ?k1 ?k2 ?k3 ?_; (case k0 => rfl); (case k1 => k_asm); (case k2 => k_asm); (case k3 => with_reducible assumption); k_whole); intro m_ks9 m_h9 m_tk9 m_t9 m_F9 m_N9) | walk1 | (dsimp only; walk1) | (leave1; walk_say "STEP leave1"; try dsimp only)) | fail "no step"))
      rename Fr _ _ _ _ => F2
      rename News _ _ _ _ => N2
      refine tk_A hys9 hR9 (by rfl) F2 N2 ?hne
        (InvA.intro (sh := Str.ofString "") (ow := Str.ofString "") (by with_unfolding_all assumption) (by with_unfolding_all assumption) (by assumption) rfl (by decide) (fun h => absurd h (Nat.lt_irrefl _)) (fr2 (by rfl) (by rfl))) ?_ ?_ (fun i v s Q E I st q => letGo_listiter st q)
      case hne =>
        intro p hp
        simp only [List.mem_cons, List.not_mem_nil, or_false] at hp
        rcases hp with h | h | h | h | h | h | h | h <;> rw [h] <;> k_ne
      · intro i x tx sh ow ts to_ oL oY oO u vL vY h3 tk3 own hxr hL hY hO hcp hle hoff F3 N3
        have hx0 := And.left hxr
        have hx1 := And.right hxr
        clear hxr
        have hy0 : 0 ≤ x.fdiv 3 := Int.fdiv_nonneg hx0 (by decide)
        have hy1 : x.fdiv 3 < 8388608 := by rw [Int.fdiv_eq_ediv_of_nonneg _ (by decide)]; omega
        have hm0 : 0 ≤ (x.fdiv 3).fdiv 24 := Int.fdiv_nonneg hy0 (by decide)
        have hm1 : (x.fdiv 3).fdiv 24 < 2 ^ 40 := by rw [Int.fdiv_eq_ediv_of_nonneg _ (by decide)]; omega
        have ha0 : 0 ≤ (x.fdiv 3).fmod 8 := Int.fmod_nonneg_of_pos _ (by decide)
        have ha1 : (x.fdiv 3).fmod 8 < 8 := Int.fmod_lt_of_pos _ (by decide)
        have hd0 : 0 ≤ ((x.fdiv 3).fdiv 8).fmod 3 := Int.fmod_nonneg_of_pos _ (by decide)
        have hd1 : ((x.fdiv 3).fdiv 8).fmod 3 < 3 := Int.fmod_lt_of_pos _ (by decide)
        have hlen : sh.length = ow.length := by rw [← cps_len, ← cps_len, hcp]
        (repeat' (first | (k_unfold; (try dsimp only)) | (k_end; wrow_close) | ((fail_if_success (with_reducible show wpAny _ _ (exec (Stmt.For _ _ _ _ _) _) _ _ _)); (fail_if_success (with_reducible show wpAny _ _ (exec (Stmt.While _ _ _ _) _) _ _ _)); (fail_if_success (with_reducible show wpAny _ _ (pyIter _) _ _ _)); (fail_if_success (with_reducible show LCg.CompSrc _ _ _ _ _ _ _ _ _ _ _ _ _ _)); (fail_if_success (with_reducible show LCt.CompSrcT _ _ _ _ _ _ _ _ _ _ _ _ _ _ _)); (fail_if_success (with_reducible show wpAny _ _ (eval (Expr.ListComp _ _ _ _) _) _ _ _)); (fail_if_success (with_reducible show wpAny _ _ (exec (Stmt.Assign _ (Expr.ListComp _ _ _ _) _) _) _ _ _)); (fail_if_success (with_reducible show wpAny _ _ (storeName _ (Str.ofString "places") _) _ _ _)); (fail_if_success (with_reducible show wpAny _ _ (compareOp CmpOp.Eq (Value.str _ _) (Value.str _ _)) _ _ _)); (fail_if_success (with_reducible show wpAny _ _ (compareOp CmpOp.Eq (Value.ref _) (Value.ref _)) _ _ _)); (fail_if_success (with_reducible show wpAny _ _ (compareOp CmpOp.NotEq (Value.ref _) (Value.ref _)) _ _ _)); (fail_if_success (with_reducible show wpAny _ _ (call (Value.builtin "list.extend") _) _ _ _)); (fail_if_success (with_reducible show wpAny _ _ (call (Value.ref _) _) _ _ _)); (fail_if_success (with_reducible show wpAny _ _ (isTrue (Expr.BoolOp BoolOp.Or _ _) _ _) (fun b s₂ => if b = true then _ else _) _ _)); (fail_if_success (with_reducible show OrEnd _ _ _ _)); (fail_if_success (with_reducible show CsSrc _ _ _ _ _ _ _ _ _ _ _ _ _ _ _)); (fail_if_success (with_reducible show CnSrc _ _ _ _ _ _ _ _ _ _ _ _ _ _ _)); (fail_if_success (with_reducible show LCg.CompEnd _ _ _ _ _ _ _ _ _ _ _ _ _ _)); first | ((with_reducible show wpAny _ _ (call (Value.builtin "sum") [Value.ref _]) _ _ _); k_dflt (refine' sum_eq ?k0 ?k1 ?k2 ?k3 ?k4 ?k5 ?_; (case k0 => rfl); (case k1 => k_asm); (case k2 => k_asm); (case k3 => k_mem); (case k4 => with_reducible assumption); (case k5 => with_reducible assumption); k_whole); intro m_h9 m_tk9 m_t9 m_F9 m_N9) | ((with_reducible show wpAny _ _ (subscriptTail _ (Expr.Slice (some _) none none _) (Value.str _ _) _) _ _ _); (with_reducible rename Fr _ _ _ _ => m_F'); (with_reducible rename News _ _ _ _ => m_N'); refine str_from (s := ⟨_, _, _, _, _⟩) m_F' m_N' (by omega) (by omega) ?_; intro m_z' m_h' m_t' m_c' m_hz' m_hzl' m_F' m_N') | ((with_reducible show wpAny _ _ (subscriptTail _ _ (Value.ref _) (Value.int _ _)) _ _ _); k_dflt (refine' sub_atE ?k1 ?k2 ?k3 ?kk ?k4 ?k5 ?k7 ?_ ?k6; (case k1 => k_asm); (case k2 => k_mem); (case k3 => with_reducible assumption); (case kk => first | with_reducible assumption | exact rfl); (case k4 => omega); (case k5 => omega); (case k7 => omega); (case k6 => with_unfolding_all rfl); k_whole); intro _) | ((with_reducible show wpAny _ _ (compareOp CmpOp.NotEq (Value.str _ _) (Value.str _ _)) _ _ _); refine cmp_same ?_) | (k_here; (with_reducible show wpAny _ _ (call (Value.builtin "len") [Value.ref _]) _ _ _); (refine KM.len_K (by k_asm) (by k_dflt k_mem) (by with_reducible assumption) (by omega) ?_)) | ((with_reducible show wpAny _ _ (subscriptTail _ (Expr.Slice none (some _) none _) (Value.str _ _) _) _ _ _); (with_reducible rename Fr _ _ _ _ => m_F'); (with_reducible rename News _ _ _ _ => m_N'); refine str_to (s := ⟨_, _, _, _, _⟩) m_F' m_N' (by omega) (by omega) ?_; intro m_z' m_h' m_t' m_c' m_hz' m_hzl' m_F' m_N') | ((with_reducible show wpAny _ _ (binaryOp Operator.Add (Value.str _ _) (Value.str _ _)) _ _ _); refine str_add (by omega) ?_; intro m_z' m_t' m_k' m_hz' m_hzl') | ((with_reducible show wpAny _ _ (call (Value.builtin "str.join") [Value.str _ _, Value.ref _]) _ _ _); k_dflt (refine' join_ls ?k1 ?k2 ?k3 ?k4 ?k5 ?k6 ?_; (case k1 => k_asm); (case k2 => k_mem); (case k3 => with_reducible assumption); (case k4 => with_reducible assumption); (case k5 => with_reducible assumption); (case k6 => with_reducible assumption); k_whole); intro _ _) | ((with_reducible show wpAny _ _ (call (Value.builtin "sum") [Value.ref _]) _ _ _); k_dflt (refine' sum_pick ?k0 ?k1 ?k2 ?k3 ?_; (case k0 => rfl); (case k1 => k_asm); (case k2 => k_asm); (case k3 => with_reducible assumption); k_whole); intro m_ks9 m_h9 m_tk9 m_t9 m_F9 m_N9) | walk1 | (dsimp only; walk1) | (leave1; walk_say "STEP leave1"; try dsimp only)) | fail "no step"))
        refine or_once ((ow == Str.ofString "") = false) ?_ (fun tkb => ?_) (fun tkb hb => ?_)
        · (repeat' (first | (k_unfold; (try dsimp only)) | (k_end; wrow_close) | ((fail_if_success (with_reducible show wpAny _ _ (exec (Stmt.For _ _ _ _ _) _) _ _ _)); (fail_if_success (with_reducible show wpAny _ _ (exec (Stmt.While _ _ _ _) _) _ _ _)); (fail_if_success (with_reducible show wpAny _ _ (pyIter _) _ _ _)); (fail_if_success (with_reducible show LCg.CompSrc _ _ _ _ _ _ _ _ _ _ _ _ _ _)); (fail_if_success (with_reducible show LCt.CompSrcT _ _ _ _ _ _ _ _ _ _ _ _ _ _ _)); (fail_if_success (with_reducible show wpAny _ _ (eval (Expr.ListComp _ _ _ _) _) _ _ _)); (fail_if_success (with_reducible show wpAny _ _ (exec (Stmt.Assign _ (Expr.ListComp _ _ _ _) _) _) _ _ _)); (fail_if_success (with_reducible show wpAny _ _ (storeName _ (Str.ofString "places") _) _ _ _)); (fail_if_success (with_reducible show wpAny _ _ (compareOp CmpOp.Eq (Value.str _ _) (Value.str _ _)) _ _ _)); (fail_if_success (with_reducible show wpAny _ _ (compareOp CmpOp.Eq (Value.ref _) (Value.ref _)) _ _ _)); (fail_if_success (with_reducible show wpAny _ _ (compareOp CmpOp.NotEq (Value.ref _) (Value.ref _)) _ _ _)); (fail_if_success (with_reducible show wpAny _ _ (call (Value.builtin "list.extend") _) _ _ _)); (fail_if_success (with_reducible show wpAny _ _ (call (Value.ref _) _) _ _ _)); (fail_if_success (with_reducible show wpAny _ _ (isTrue (Expr.BoolOp BoolOp.Or _ _) _ _) (fun b s₂ => if b = true then _ else _) _ _)); (fail_if_success (with_reducible show OrEnd _ _ _ _)); (fail_if_success (with_reducible show CsSrc _ _ _ _ _ _ _ _ _ _ _ _ _ _ _)); (fail_if_success (with_reducible show CnSrc _ _ _ _ _ _ _ _ _ _ _ _ _ _ _)); (fail_if_success (with_reducible show LCg.CompEnd _ _ _ _ _ _ _ _ _ _ _ _ _ _)); first | ((with_reducible show wpAny _ _ (call (Value.builtin "sum") [Value.ref _]) _ _ _); k_dflt (refine' sum_eq ?k0 ?k1 ?k2 ?k3 ?k4 ?k5 ?_; (case k0 => rfl); (case k1 => k_asm); (case k2 => k_asm); (case k3 => k_mem); (case k4 => with_reducible assumption); (case k5 => with_reducible assumption); k_whole); intro m_h9 m_tk9 m_t9 m_F9 m_N9) | ((with_reducible show wpAny _ _ (subscriptTail _ (Expr.Slice (some _) none none _) (Value.str _ _) _) _ _ _); (with_reducible rename Fr _ _ _ _ => m_F'); (with_reducible rename News _ _ _ _ => m_N'); refine str_from (s := ⟨_, _, _, _, _⟩) m_F' m_N' (by omega) (by omega) ?_; intro m_z' m_h' m_t' m_c' m_hz' m_hzl' m_F' m_N') | ((with_reducible show wpAny _ _ (subscriptTail _ _ (Value.ref _) (Value.int _ _)) _ _ _); k_dflt (refine' sub_atE ?k1 ?k2 ?k3 ?kk ?k4 ?k5 ?k7 ?_ ?k6; (case k1 => k_asm); (case k2 => k_mem); (case k3 => with_reducible assumption); (case kk => first | with_reducible assumption | exact rfl); (case k4 => omega); (case k5 => omega); (case k7 => omega); (case k6 => with_unfolding_all rfl); k_whole); intro _) | ((with_reducible show wpAny _ _ (compareOp CmpOp.NotEq (Value.str _ _) (Value.str _ _)) _ _ _); refine cmp_same ?_) | (k_here; (with_reducible show wpAny _ _ (call (Value.builtin "len") [Value.ref _]) _ _ _); (refine KM.len_K (by k_asm) (by k_dflt k_mem) (by with_reducible assumption) (by omega) ?_)) | ((with_reducible show wpAny _ _ (subscriptTail _ (Expr.Slice none (some _) none _) (Value.str _ _) _) _ _ _); (with_reducible rename Fr _ _ _ _ => m_F'); (with_reducible rename News _ _ _ _ => m_N'); refine str_to (s := ⟨_, _, _, _, _⟩) m_F' m_N' (by omega) (by omega) ?_; intro m_z' m_h' m_t' m_c' m_hz' m_hzl' m_F' m_N') | ((with_reducible show wpAny _ _ (binaryOp Operator.Add (Value.str _ _) (Value.str _ _)) _ _ _); refine str_add (by omega) ?_; intro m_z' m_t' m_k' m_hz' m_hzl') | ((with_reducible show wpAny _ _ (call (Value.builtin "str.join") [Value.str _ _, Value.ref _]) _ _ _); k_dflt (refine' join_ls ?k1 ?k2 ?k3 ?k4 ?k5 ?k6 ?_; (case k1 => k_asm); (case k2 => k_mem); (case k3 => with_reducible assumption); (case k4 => with_reducible assumption); (case k5 => with_reducible assumption); (case k6 => with_reducible assumption); k_whole); intro _ _) | ((with_reducible show wpAny _ _ (call (Value.builtin "sum") [Value.ref _]) _ _ _); k_dflt (refine' sum_pick ?k0 ?k1 ?k2 ?k3 ?_; (case k0 => rfl); (case k1 => k_asm); (case k2 => k_asm); (case k3 => with_reducible assumption); k_whole); intro m_ks9 m_h9 m_tk9 m_t9 m_F9 m_N9) | walk1 | (dsimp only; walk1) | (leave1; walk_say "STEP leave1"; try dsimp only)) | fail "no step"))
          · exact ⟨⟨_, rfl⟩, fun h => nomatch h⟩
          · cases hb : (ow == Str.ofString "") with
            | true =>
              refine eq_str ?_
              rw [hb]
              (repeat' (first | (k_unfold; (try dsimp only)) | (k_end; wrow_close) | ((fail_if_success (with_reducible show wpAny _ _ (exec (Stmt.For _ _ _ _ _) _) _ _ _)); (fail_if_success (with_reducible show wpAny _ _ (exec (Stmt.While _ _ _ _) _) _ _ _)); (fail_if_success (with_reducible show wpAny _ _ (pyIter _) _ _ _)); (fail_if_success (with_reducible show LCg.CompSrc _ _ _ _ _ _ _ _ _ _ _ _ _ _)); (fail_if_success (with_reducible show LCt.CompSrcT _ _ _ _ _ _ _ _ _ _ _ _ _ _ _)); (fail_if_success (with_reducible show wpAny _ _ (eval (Expr.ListComp _ _ _ _) _) _ _ _)); (fail_if_success (with_reducible show wpAny _ _ (exec (Stmt.Assign _ (Expr.ListComp _ _ _ _) _) _) _ _ _)); (fail_if_success (with_reducible show wpAny _ _ (storeName _ (Str.ofString "places") _) _ _ _)); (fail_if_success (with_reducible show wpAny _ _ (compareOp CmpOp.Eq (Value.str _ _) (Value.str _ _)) _ _ _)); (fail_if_success (with_reducible show wpAny _ _ (compareOp CmpOp.Eq (Value.ref _) (Value.ref _)) _ _ _)); (fail_if_success (with_reducible show wpAny _ _ (compareOp CmpOp.NotEq (Value.ref _) (Value.ref _)) _ _ _)); (fail_if_success (with_reducible show wpAny _ _ (call (Value.builtin "list.extend") _) _ _ _)); (fail_if_success (with_reducible show wpAny _ _ (call (Value.ref _) _) _ _ _)); (fail_if_success (with_reducible show wpAny _ _ (isTrue (Expr.BoolOp BoolOp.Or _ _) _ _) (fun b s₂ => if b = true then _ else _) _ _)); (fail_if_success (with_reducible show OrEnd _ _ _ _)); (fail_if_success (with_reducible show CsSrc _ _ _ _ _ _ _ _ _ _ _ _ _ _ _)); (fail_if_success (with_reducible show CnSrc _ _ _ _ _ _ _ _ _ _ _ _ _ _ _)); (fail_if_success (with_reducible show LCg.CompEnd _ _ _ _ _ _ _ _ _ _ _ _ _ _)); first | ((with_reducible show wpAny _ _ (call (Value.builtin "sum") [Value.ref _]) _ _ _); k_dflt (refine' sum_eq ?k0 ?k1 ?k2 ?k3 ?k4 ?k5 ?_; (case k0 => rfl); (case k1 => k_asm); (case k2 => k_asm); (case k3 => k_mem); (case k4 => with_reducible assumption); (case k5 => with_reducible assumption); k_whole); intro m_h9 m_tk9 m_t9 m_F9 m_N9) | ((with_reducible show wpAny _ _ (subscriptTail _ (Expr.Slice (some _) none none _) (Value.str _ _) _) _ _ _); (with_reducible rename Fr _ _ _ _ => m_F'); (with_reducible rename News _ _ _ _ => m_N'); refine str_from (s := ⟨_, _, _, _, _⟩) m_F' m_N' (by omega) (by omega) ?_; intro m_z' m_h' m_t' m_c' m_hz' m_hzl' m_F' m_N') | ((with_reducible show wpAny _ _ (subscriptTail _ _ (Value.ref _) (Value.int _ _)) _ _ _); k_dflt (refine' sub_atE ?k1 ?k2 ?k3 ?kk ?k4 ?k5 ?k7 ?_ ?k6; (case k1 => k_asm); (case k2 => k_mem); (case k3 => with_reducible assumption); (case kk => first | with_reducible assumption | exact rfl); (case k4 => omega); (case k5 => omega); (case k7 => omega); (case k6 => with_unfolding_all rfl); k_whole); intro _) | ((with_reducible show wpAny _ _ (compareOp CmpOp.NotEq (Value.str _ _) (Value.str _ _)) _ _ _); refine cmp_same ?_) | (k_here; (with_reducible show wpAny _ _ (call (Value.builtin "len") [Value.ref _]) _ _ _); (refine KM.len_K (by k_asm) (by k_dflt k_mem) (by with_reducible assumption) (by omega) ?_)) | ((with_reducible show wpAny _ _ (subscriptTail _ (Expr.Slice none (some _) none _) (Value.str _ _) _) _ _ _); (with_reducible rename Fr _ _ _ _ => m_F'); (with_reducible rename News _ _ _ _ => m_N'); refine str_to (s := ⟨_, _, _, _, _⟩) m_F' m_N' (by omega) (by omega) ?_; intro m_z' m_h' m_t' m_c' m_hz' m_hzl' m_F' m_N') | ((with_reducible show wpAny _ _ (binaryOp Operator.Add (Value.str _ _) (Value.str _ _)) _ _ _); refine str_add (by omega) ?_; intro m_z' m_t' m_k' m_hz' m_hzl') | ((with_reducible show wpAny _ _ (call (Value.builtin "str.join") [Value.str _ _, Value.ref _]) _ _ _); k_dflt (refine' join_ls ?k1 ?k2 ?k3 ?k4 ?k5 ?k6 ?_; (case k1 => k_asm); (case k2 => k_mem); (case k3 => with_reducible assumption); (case k4 => with_reducible assumption); (case k5 => with_reducible assumption); (case k6 => with_reducible assumption); k_whole); intro _ _) | ((with_reducible show wpAny _ _ (call (Value.builtin "sum") [Value.ref _]) _ _ _); k_dflt (refine' sum_pick ?k0 ?k1 ?k2 ?k3 ?_; (case k0 => rfl); (case k1 => k_asm); (case k2 => k_asm); (case k3 => with_reducible assumption); k_whole); intro m_ks9 m_h9 m_tk9 m_t9 m_F9 m_N9) | walk1 | (dsimp only; walk1) | (leave1; walk_say "STEP leave1"; try dsimp only)) | fail "no step"))
              exact ⟨⟨_, rfl⟩, fun h => nomatch h⟩
            | false =>
              refine eq_str ?_
              rw [hb]
              (repeat' (first | (k_unfold; (try dsimp only)) | (k_end; wrow_close) | ((fail_if_success (with_reducible show wpAny _ _ (exec (Stmt.For _ _ _ _ _) _) _ _ _)); (fail_if_success (with_reducible show wpAny _ _ (exec (Stmt.While _ _ _ _) _) _ _ _)); (fail_if_success (with_reducible show wpAny _ _ (pyIter _) _ _ _)); (fail_if_success (with_reducible show LCg.CompSrc _ _ _ _ _ _ _ _ _ _ _ _ _ _)); (fail_if_success (with_reducible show LCt.CompSrcT _ _ _ _ _ _ _ _ _ _ _ _ _ _ _)); (fail_if_success (with_reducible show wpAny _ _ (eval (Expr.ListComp _ _ _ _) _) _ _ _)); (fail_if_success (with_reducible show wpAny _ _ (exec (Stmt.Assign _ (Expr.ListComp _ _ _ _) _) _) _ _ _)); (fail_if_success (with_reducible show wpAny _ _ (storeName _ (Str.ofString "places") _) _ _ _)); (fail_if_success (with_reducible show wpAny _ _ (compareOp CmpOp.Eq (Value.str _ _) (Value.str _ _)) _ _ _)); (fail_if_success (with_reducible show wpAny _ _ (compareOp CmpOp.Eq (Value.ref _) (Value.ref _)) _ _ _)); (fail_if_success (with_reducible show wpAny _ _ (compareOp CmpOp.NotEq (Value.ref _) (Value.ref _)) _ _ _)); (fail_if_success (with_reducible show wpAny _ _ (call (Value.builtin "list.extend") _) _ _ _)); (fail_if_success (with_reducible show wpAny _ _ (call (Value.ref _) _) _ _ _)); (fail_if_success (with_reducible show wpAny _ _ (isTrue (Expr.BoolOp BoolOp.Or _ _) _ _) (fun b s₂ => if b = true then _ else _) _ _)); (fail_if_success (with_reducible show OrEnd _ _ _ _)); (fail_if_success (with_reducible show CsSrc _ _ _ _ _ _ _ _ _ _ _ _ _ _ _)); (fail_if_success (with_reducible show CnSrc _ _ _ _ _ _ _ _ _ _ _ _ _ _ _)); (fail_if_success (with_reducible show LCg.CompEnd _ _ _ _ _ _ _ _ _ _ _ _ _ _)); first | ((with_reducible show wpAny _ _ (call (Value.builtin "sum") [Value.ref _]) _ _ _); k_dflt (refine' sum_eq ?k0 ?k1 ?k2 ?k3 ?k4 ?k5 ?_; (case k0 => rfl); (case k1 => k_asm); (case k2 => k_asm); (case k3 => k_mem); (case k4 => with_reducible assumption); (case k5 => with_reducible assumption); k_whole); intro m_h9 m_tk9 m_t9 m_F9 m_N9) | ((with_reducible show wpAny _ _ (subscriptTail _ (Expr.Slice (some _) none none _) (Value.str _ _) _) _ _ _); (with_reducible rename Fr _ _ _ _ => m_F'); (with_reducible rename News _ _ _ _ => m_N'); refine str_from (s := ⟨_, _, _, _, _⟩) m_F' m_N' (by omega) (by omega) ?_; intro m_z' m_h' m_t' m_c' m_hz' m_hzl' m_F' m_N') | ((with_reducible show wpAny _ _ (subscriptTail _ _ (Value.ref _) (Value.int _ _)) _ _ _); k_dflt (refine' sub_atE ?k1 ?k2 ?k3 ?kk ?k4 ?k5 ?k7 ?_ ?k6; (case k1 => k_asm); (case k2 => k_mem); (case k3 => with_reducible assumption); (case kk => first | with_reducible assumption | exact rfl); (case k4 => omega); (case k5 => omega); (case k7 => omega); (case k6 => with_unfolding_all rfl); k_whole); intro _) | ((with_reducible show wpAny _ _ (compareOp CmpOp.NotEq (Value.str _ _) (Value.str _ _)) _ _ _); refine cmp_same ?_) | (k_here; (with_reducible show wpAny _ _ (call (Value.builtin "len") [Value.ref _]) _ _ _); (refine KM.len_K (by k_asm) (by k_dflt k_mem) (by with_reducible assumption) (by omega) ?_)) | ((with_reducible show wpAny _ _ (subscriptTail _ (Expr.Slice none (some _) none _) (Value.str _ _) _) _ _ _); (with_reducible rename Fr _ _ _ _ => m_F'); (with_reducible rename News _ _ _ _ => m_N'); refine str_to (s := ⟨_, _, _, _, _⟩) m_F' m_N' (by omega) (by omega) ?_; intro m_z' m_h' m_t' m_c' m_hz' m_hzl' m_F' m_N') | ((with_reducible show wpAny _ _ (binaryOp Operator.Add (Value.str _ _) (Value.str _ _)) _ _ _); refine str_add (by omega) ?_; intro m_z' m_t' m_k' m_hz' m_hzl') | ((with_reducible show wpAny _ _ (call (Value.builtin "str.join") [Value.str _ _, Value.ref _]) _ _ _); k_dflt (refine' join_ls ?k1 ?k2 ?k3 ?k4 ?k5 ?k6 ?_; (case k1 => k_asm); (case k2 => k_mem); (case k3 => with_reducible assumption); (case k4 => with_reducible assumption); (case k5 => with_reducible assumption); (case k6 => with_reducible assumption); k_whole); intro _ _) | ((with_reducible show wpAny _ _ (call (Value.builtin "sum") [Value.ref _]) _ _ _); k_dflt (refine' sum_pick ?k0 ?k1 ?k2 ?k3 ?_; (case k0 => rfl); (case k1 => k_asm); (case k2 => k_asm); (case k3 => with_reducible assumption); k_whole); intro m_ks9 m_h9 m_tk9 m_t9 m_F9 m_N9) | walk1 | (dsimp only; walk1) | (leave1; walk_say "STEP leave1"; try dsimp only)) | fail "no step"))
              exact ⟨⟨_, rfl⟩, fun _ => rfl⟩
        · (try dsimp only)
          simp only [if_true]
          (repeat' (first | (k_unfold; (try dsimp only)) | (k_end; wrow_close) | ((fail_if_success (with_reducible show wpAny _ _ (exec (Stmt.For _ _ _ _ _) _) _ _ _)); (fail_if_success (with_reducible show wpAny _ _ (exec (Stmt.While _ _ _ _) _) _ _ _)); (fail_if_success (with_reducible show wpAny _ _ (pyIter _) _ _ _)); (fail_if_success (with_reducible show LCg.CompSrc _ _ _ _ _ _ _ _ _ _ _ _ _ _)); (fail_if_success (with_reducible show LCt.CompSrcT _ _ _ _ _ _ _ _ _ _ _ _ _ _ _)); (fail_if_success (with_reducible show wpAny _ _ (eval (Expr.ListComp _ _ _ _) _) _ _ _)); (fail_if_success (with_reducible show wpAny _ _ (exec (Stmt.Assign _ (Expr.ListComp _ _ _ _) _) _) _ _ _)); (fail_if_success (with_reducible show wpAny _ _ (storeName _ (Str.ofString "places") _) _ _ _)); (fail_if_success (with_reducible show wpAny _ _ (compareOp CmpOp.Eq (Value.str _ _) (Value.str _ _)) _ _ _)); (fail_if_success (with_reducible show wpAny _ _ (compareOp CmpOp.Eq (Value.ref _) (Value.ref _)) _ _ _)); (fail_if_success (with_reducible show wpAny _ _ (compareOp CmpOp.NotEq (Value.ref _) (Value.ref _)) _ _ _)); (fail_if_success (with_reducible show wpAny _ _ (call (Value.builtin "list.extend") _) _ _ _)); (fail_if_success (with_reducible show wpAny _ _ (call (Value.ref _) _) _ _ _)); (fail_if_success (with_reducible show wpAny _ _ (isTrue (Expr.BoolOp BoolOp.Or _ _) _ _) (fun b s₂ => if b = true then _ else _) _ _)); (fail_if_success (with_reducible show OrEnd _ _ _ _)); (fail_if_success (with_reducible show CsSrc _ _ _ _ _ _ _ _ _ _ _ _ _ _ _)); (fail_if_success (with_reducible show CnSrc _ _ _ _ _ _ _ _ _ _ _ _ _ _ _)); (fail_if_success (with_reducible show LCg.CompEnd _ _ _ _ _ _ _ _ _ _ _ _ _ _)); first | ((with_reducible show wpAny _ _ (call (Value.builtin "sum") [Value.ref _]) _ _ _); k_dflt (refine' sum_eq ?k0 ?k1 ?k2 ?k3 ?k4 ?k5 ?_; (case k0 => rfl); (case k1 => k_asm); (case k2 => k_asm); (case k3 => k_mem); (case k4 => with_reducible assumption); (case k5 => with_reducible assumption); k_whole); intro m_h9 m_tk9 m_t9 m_F9 m_N9) | ((with_reducible show wpAny _ _ (subscriptTail _ (Expr.Slice (some _) none none _) (Value.str _ _) _) _ _ _); (with_reducible rename Fr _ _ _ _ => m_F'); (with_reducible rename News _ _ _ _ => m_N'); refine str_from (s := ⟨_, _, _, _, _⟩) m_F' m_N' (by omega) (by omega) ?_; intro m_z' m_h' m_t' m_c' m_hz' m_hzl' m_F' m_N') | ((with_reducible show wpAny _ _ (subscriptTail _ _ (Value.ref _) (Value.int _ _)) _ _ _); k_dflt (refine' sub_atE ?k1 ?k2 ?k3 ?kk ?k4 ?k5 ?k7 ?_ ?k6; (case k1 => k_asm); (case k2 => k_mem); (case k3 => with_reducible assumption); (case kk => first | with_reducible assumption | exact rfl); (case k4 => omega); (case k5 => omega); (case k7 => omega); (case k6 => with_unfolding_all rfl); k_whole); intro _) | ((with_reducible show wpAny _ _ (compareOp CmpOp.NotEq (Value.str _ _) (Value.str _ _)) _ _ _); refine cmp_same ?_) | (k_here; (with_reducible show wpAny _ _ (call (Value.builtin "len") [Value.ref _]) _ _ _); (refine KM.len_K (by k_asm) (by k_dflt k_mem) (by with_reducible assumption) (by omega) ?_)) | ((with_reducible show wpAny _ _ (subscriptTail _ (Expr.Slice none (some _) none _) (Value.str _ _) _) _ _ _); (with_reducible rename Fr _ _ _ _ => m_F'); (with_reducible rename News _ _ _ _ => m_N'); refine str_to (s := ⟨_, _, _, _, _⟩) m_F' m_N' (by omega) (by omega) ?_; intro m_z' m_h' m_t' m_c' m_hz' m_hzl' m_F' m_N') | ((with_reducible show wpAny _ _ (binaryOp Operator.Add (Value.str _ _) (Value.str _ _)) _ _ _); refine str_add (by omega) ?_; intro m_z' m_t' m_k' m_hz' m_hzl') | ((with_reducible show wpAny _ _ (call (Value.builtin "str.join") [Value.str _ _, Value.ref _]) _ _ _); k_dflt (refine' join_ls ?k1 ?k2 ?k3 ?k4 ?k5 ?k6 ?_; (case k1 => k_asm); (case k2 => k_mem); (case k3 => with_reducible assumption); (case k4 => with_reducible assumption); (case k5 => with_reducible assumption); (case k6 => with_reducible assumption); k_whole); intro _ _) | ((with_reducible show wpAny _ _ (call (Value.builtin "sum") [Value.ref _]) _ _ _); k_dflt (refine' sum_pick ?k0 ?k1 ?k2 ?k3 ?_; (case k0 => rfl); (case k1 => k_asm); (case k2 => k_asm); (case k3 => with_reducible assumption); k_whole); intro m_ks9 m_h9 m_tk9 m_t9 m_F9 m_N9) | walk1 | (dsimp only; walk1) | (leave1; walk_say "STEP leave1"; try dsimp only)) | fail "no step"))
          rename Obj.data _ = Data.cell (some (Value.int _ _)) => dY
          rename IsRange _ _ _ _ _ _ _ _ => R5
          rename Fr _ _ _ _ => F5
          rename News _ _ _ _ => N5
          obtain ⟨oR6, N6, R6, l6⟩ := range_led (by k_asm) (by k_asm) F5 N5 R5
          k_lt l6
          have hJ : (lsJoin ((x.fdiv 3).fdiv 24) ((x.fdiv 3).fmod 8) ((x.fdiv 3).fmod 8 + 1 + ((x.fdiv 3).fdiv 8).fmod 3 - (x.fdiv 3).fmod 8).toNat).length = ((x.fdiv 3).fmod 8 + 1 + ((x.fdiv 3).fdiv 8).fmod 3 - (x.fdiv 3).fmod 8).toNat := lsJoin_len hm0 ha0 _ (by omega)
          have hJ0 : 0 < (lsJoin ((x.fdiv 3).fdiv 24) ((x.fdiv 3).fmod 8) ((x.fdiv 3).fmod 8 + 1 + ((x.fdiv 3).fdiv 8).fmod 3 - (x.fdiv 3).fmod 8).toNat).length := by rw [hJ]; omega
          have hJ3 : (lsJoin ((x.fdiv 3).fdiv 24) ((x.fdiv 3).fmod 8) ((x.fdiv 3).fmod 8 + 1 + ((x.fdiv 3).fdiv 8).fmod 3 - (x.fdiv 3).fmod 8).toNat).length ≤ 3 := by rw [hJ]; omega
          clear hJ
          have hk6 : (x.fdiv 3).fmod 8 + ((((x.fdiv 3).fmod 8 + 1 + ((x.fdiv 3).fdiv 8).fmod 3 - (x.fdiv 3).fmod 8).toNat : Nat) : Int) ≤ 10 := by omega
          walk1
          (repeat' (first | (k_unfold; (try dsimp only)) | (k_end; wrow_close) | ((fail_if_success (with_reducible show wpAny _ _ (exec (Stmt.For _ _ _ _ _) _) _ _ _)); (fail_if_success (with_reducible show wpAny _ _ (exec (Stmt.While _ _ _ _) _) _ _ _)); (fail_if_success (with_reducible show wpAny _ _ (pyIter _) _ _ _)); (fail_if_success (with_reducible show LCg.CompSrc _ _ _ _ _ _ _ _ _ _ _ _ _ _)); (fail_if_success (with_reducible show LCt.CompSrcT _ _ _ _ _ _ _ _ _ _ _ _ _ _ _)); (fail_if_success (with_reducible show wpAny _ _ (eval (Expr.ListComp _ _ _ _) _) _ _ _)); (fail_if_success (with_reducible show wpAny _ _ (exec (Stmt.Assign _ (Expr.ListComp _ _ _ _) _) _) _ _ _)); (fail_if_success (with_reducible show wpAny _ _ (storeName _ (Str.ofString "places") _) _ _ _)); (fail_if_success (with_reducible show wpAny _ _ (compareOp CmpOp.Eq (Value.str _ _) (Value.str _ _)) _ _ _)); (fail_if_success (with_reducible show wpAny _ _ (compareOp CmpOp.Eq (Value.ref _) (Value.ref _)) _ _ _)); (fail_if_success (with_reducible show wpAny _ _ (compareOp CmpOp.NotEq (Value.ref _) (Value.ref _)) _ _ _)); (fail_if_success (with_reducible show wpAny _ _ (call (Value.builtin "list.extend") _) _ _ _)); (fail_if_success (with_reducible show wpAny _ _ (call (Value.ref _) _) _ _ _)); (fail_if_success (with_reducible show wpAny _ _ (isTrue (Expr.BoolOp BoolOp.Or _ _) _ _) (fun b s₂ => if b = true then _ else _) _ _)); (fail_if_success (with_reducible show OrEnd _ _ _ _)); (fail_if_success (with_reducible show CsSrc _ _ _ _ _ _ _ _ _ _ _ _ _ _ _)); (fail_if_success (with_reducible show CnSrc _ _ _ _ _ _ _ _ _ _ _ _ _ _ _)); (fail_if_success (with_reducible show LCg.CompEnd _ _ _ _ _ _ _ _ _ _ _ _ _ _)); first | ((with_reducible show wpAny _ _ (call (Value.builtin "sum") [Value.ref _]) _ _ _); k_dflt (refine' sum_eq ?k0 ?k1 ?k2 ?k3 ?k4 ?k5 ?_; (case k0 => rfl); (case k1 => k_asm); (case k2 => k_asm); (case k3 => k_mem); (case k4 => with_reducible assumption); (case k5 => with_reducible assumption); k_whole); intro m_h9 m_tk9 m_t9 m_F9 m_N9) | ((with_reducible show wpAny _ _ (subscriptTail _ (Expr.Slice (some _) none none _) (Value.str _ _) _) _ _ _); (with_reducible rename Fr _ _ _ _ => m_F'); (with_reducible rename News _ _ _ _ => m_N'); refine str_from (s := ⟨_, _, _, _, _⟩) m_F' m_N' (by omega) (by omega) ?_; intro m_z' m_h' m_t' m_c' m_hz' m_hzl' m_F' m_N') | ((with_reducible show wpAny _ _ (subscriptTail _ _ (Value.ref _) (Value.int _ _)) _ _ _); k_dflt (refine' sub_atE ?k1 ?k2 ?k3 ?kk ?k4 ?k5 ?k7 ?_ ?k6; (case k1 => k_asm); (case k2 => k_mem); (case k3 => with_reducible assumption); (case kk => first | with_reducible assumption | exact rfl); (case k4 => omega); (case k5 => omega); (case k7 => omega); (case k6 => with_unfolding_all rfl); k_whole); intro _) | ((with_reducible show wpAny _ _ (compareOp CmpOp.NotEq (Value.str _ _) (Value.str _ _)) _ _ _); refine cmp_same ?_) | (k_here; (with_reducible show wpAny _ _ (call (Value.builtin "len") [Value.ref _]) _ _ _); (refine KM.len_K (by k_asm) (by k_dflt k_mem) (by with_reducible assumption) (by omega) ?_)) | ((with_reducible show wpAny _ _ (subscriptTail _ (Expr.Slice none (some _) none _) (Value.str _ _) _) _ _ _); (with_reducible rename Fr _ _ _ _ => m_F'); (with_reducible rename News _ _ _ _ => m_N'); refine str_to (s := ⟨_, _, _, _, _⟩) m_F' m_N' (by omega) (by omega) ?_; intro m_z' m_h' m_t' m_c' m_hz' m_hzl' m_F' m_N') | ((with_reducible show wpAny _ _ (binaryOp Operator.Add (Value.str _ _) (Value.str _ _)) _ _ _); refine str_add (by omega) ?_; intro m_z' m_t' m_k' m_hz' m_hzl') | ((with_reducible show wpAny _ _ (call (Value.builtin "str.join") [Value.str _ _, Value.ref _]) _ _ _); k_dflt (refine' join_ls ?k1 ?k2 ?k3 ?k4 ?k5 ?k6 ?_; (case k1 => k_asm); (case k2 => k_mem); (case k3 => with_reducible assumption); (case k4 => with_reducible assumption); (case k5 => with_reducible assumption); (case k6 => with_reducible assumption); k_whole); intro _ _) | ((with_reducible show wpAny _ _ (call (Value.builtin "sum") [Value.ref _]) _ _ _); k_dflt (refine' sum_pick ?k0 ?k1 ?k2 ?k3 ?_; (case k0 => rfl); (case k1 => k_asm); (case k2 => k_asm); (case k3 => with_reducible assumption); k_whole); intro m_ks9 m_h9 m_tk9 m_t9 m_F9 m_N9) | walk1 | (dsimp only; walk1) | (leave1; walk_say "STEP leave1"; try dsimp only)) | fail "no step"))
          k_dflt (refine' use_fm hm0 hm1  ?k1a ?k2a ?k3a ?k4a ?k5a ?kka ?kda ?kua ?_; (case k4a => k_asm); (case k1a => k_asm); (case k2a => k_asm); (case k3a => k_asm); (case k5a => k_asm); (case kka => exact rfl); (case kda => first | ktr_room | omega); (case kua => first | ktr_units | omega))
          intro z9 t9 h9 tk9 F9 N9 hz9 hl9
          (repeat' (first | (k_unfold; (try dsimp only)) | (k_end; wrow_close) | ((fail_if_success (with_reducible show wpAny _ _ (exec (Stmt.For _ _ _ _ _) _) _ _ _)); (fail_if_success (with_reducible show wpAny _ _ (exec (Stmt.While _ _ _ _) _) _ _ _)); (fail_if_success (with_reducible show wpAny _ _ (pyIter _) _ _ _)); (fail_if_success (with_reducible show LCg.CompSrc _ _ _ _ _ _ _ _ _ _ _ _ _ _)); (fail_if_success (with_reducible show LCt.CompSrcT _ _ _ _ _ _ _ _ _ _ _ _ _ _ _)); (fail_if_success (with_reducible show wpAny _ _ (eval (Expr.ListComp _ _ _ _) _) _ _ _)); (fail_if_success (with_reducible show wpAny _ _ (exec (Stmt.Assign _ (Expr.ListComp _ _ _ _) _) _) _ _ _)); (fail_if_success (with_reducible show wpAny _ _ (storeName _ (Str.ofString "places") _) _ _ _)); (fail_if_success (with_reducible show wpAny _ _ (compareOp CmpOp.Eq (Value.str _ _) (Value.str _ _)) _ _ _)); (fail_if_success (with_reducible show wpAny _ _ (compareOp CmpOp.Eq (Value.ref _) (Value.ref _)) _ _ _)); (fail_if_success (with_reducible show wpAny _ _ (compareOp CmpOp.NotEq (Value.ref _) (Value.ref _)) _ _ _)); (fail_if_success (with_reducible show wpAny _ _ (call (Value.builtin "list.extend") _) _ _ _)); (fail_if_success (with_reducible show wpAny _ _ (call (Value.ref _) _) _ _ _)); (fail_if_success (with_reducible show wpAny _ _ (isTrue (Expr.BoolOp BoolOp.Or _ _) _ _) (fun b s₂ => if b = true then _ else _) _ _)); (fail_if_success (with_reducible show OrEnd _ _ _ _)); (fail_if_success (with_reducible show CsSrc _ _ _ _ _ _ _ _ _ _ _ _ _ _ _)); (fail_if_success (with_reducible show CnSrc _ _ _ _ _ _ _ _ _ _ _ _ _ _ _)); (fail_if_success (with_reducible show LCg.CompEnd _ _ _ _ _ _ _ _ _ _ _ _ _ _)); first | ((with_reducible show wpAny _ _ (call (Value.builtin "sum") [Value.ref _]) _ _ _); k_dflt (refine' sum_eq ?k0 ?k1 ?k2 ?k3 ?k4 ?k5 ?_; (case k0 => rfl); (case k1 => k_asm); (case k2 => k_asm); (case k3 => k_mem); (case k4 => with_reducible assumption); (case k5 => with_reducible assumption); k_whole); intro m_h9 m_tk9 m_t9 m_F9 m_N9) | ((with_reducible show wpAny _ _ (subscriptTail _ (Expr.Slice (some _) none none _) (Value.str _ _) _) _ _ _); (with_reducible rename Fr _ _ _ _ => m_F'); (with_reducible rename News _ _ _ _ => m_N'); refine str_from (s := ⟨_, _, _, _, _⟩) m_F' m_N' (by omega) (by omega) ?_; intro m_z' m_h' m_t' m_c' m_hz' m_hzl' m_F' m_N') | ((with_reducible show wpAny _ _ (subscriptTail _ _ (Value.ref _) (Value.int _ _)) _ _ _); k_dflt (refine' sub_atE ?k1 ?k2 ?k3 ?kk ?k4 ?k5 ?k7 ?_ ?k6; (case k1 => k_asm); (case k2 => k_mem); (case k3 => with_reducible assumption); (case kk => first | with_reducible assumption | exact rfl); (case k4 => omega); (case k5 => omega); (case k7 => omega); (case k6 => with_unfolding_all rfl); k_whole); intro _) | ((with_reducible show wpAny _ _ (compareOp CmpOp.NotEq (Value.str _ _) (Value.str _ _)) _ _ _); refine cmp_same ?_) | (k_here; (with_reducible show wpAny _ _ (call (Value.builtin "len") [Value.ref _]) _ _ _); (refine KM.len_K (by k_asm) (by k_dflt k_mem) (by with_reducible assumption) (by omega) ?_)) | ((with_reducible show wpAny _ _ (subscriptTail _ (Expr.Slice none (some _) none _) (Value.str _ _) _) _ _ _); (with_reducible rename Fr _ _ _ _ => m_F'); (with_reducible rename News _ _ _ _ => m_N'); refine str_to (s := ⟨_, _, _, _, _⟩) m_F' m_N' (by omega) (by omega) ?_; intro m_z' m_h' m_t' m_c' m_hz' m_hzl' m_F' m_N') | ((with_reducible show wpAny _ _ (binaryOp Operator.Add (Value.str _ _) (Value.str _ _)) _ _ _); refine str_add (by omega) ?_; intro m_z' m_t' m_k' m_hz' m_hzl') | ((with_reducible show wpAny _ _ (call (Value.builtin "str.join") [Value.str _ _, Value.ref _]) _ _ _); k_dflt (refine' join_ls ?k1 ?k2 ?k3 ?k4 ?k5 ?k6 ?_; (case k1 => k_asm); (case k2 => k_mem); (case k3 => with_reducible assumption); (case k4 => with_reducible assumption); (case k5 => with_reducible assumption); (case k6 => with_reducible assumption); k_whole); intro _ _) | ((with_reducible show wpAny _ _ (call (Value.builtin "sum") [Value.ref _]) _ _ _); k_dflt (refine' sum_pick ?k0 ?k1 ?k2 ?k3 ?_; (case k0 => rfl); (case k1 => k_asm); (case k2 => k_asm); (case k3 => with_reducible assumption); k_whole); intro m_ks9 m_h9 m_tk9 m_t9 m_F9 m_N9) | walk1 | (dsimp only; walk1) | (leave1; walk_say "STEP leave1"; try dsimp only)) | fail "no step"))
          rename _ = fmCodes _ => hz6
          rename Obj.data _ = Data.cell (some (Value.str _ _)) => dL

          refine LCg.ListComp_U (F₀ := by k_asm) (by with_unfolding_all rfl) (by decide) (by rfl) (by decide) (by rfl) ?_
          (repeat' (first | (k_unfold; (try dsimp only)) | (k_end; wrow_close) | ((fail_if_success (with_reducible show wpAny _ _ (exec (Stmt.For _ _ _ _ _) _) _ _ _)); (fail_if_success (with_reducible show wpAny _ _ (exec (Stmt.While _ _ _ _) _) _ _ _)); (fail_if_success (with_reducible show wpAny _ _ (pyIter _) _ _ _)); (fail_if_success (with_reducible show LCg.CompSrc _ _ _ _ _ _ _ _ _ _ _ _ _ _)); (fail_if_success (with_reducible show LCt.CompSrcT _ _ _ _ _ _ _ _ _ _ _ _ _ _ _)); (fail_if_success (with_reducible show wpAny _ _ (eval (Expr.ListComp _ _ _ _) _) _ _ _)); (fail_if_success (with_reducible show wpAny _ _ (exec (Stmt.Assign _ (Expr.ListComp _ _ _ _) _) _) _ _ _)); (fail_if_success (with_reducible show wpAny _ _ (storeName _ (Str.ofString "places") _) _ _ _)); (fail_if_success (with_reducible show wpAny _ _ (compareOp CmpOp.Eq (Value.str _ _) (Value.str _ _)) _ _ _)); (fail_if_success (with_reducible show wpAny _ _ (compareOp CmpOp.Eq (Value.ref _) (Value.ref _)) _ _ _)); (fail_if_success (with_reducible show wpAny _ _ (compareOp CmpOp.NotEq (Value.ref _) (Value.ref _)) _ _ _)); (fail_if_success (with_reducible show wpAny _ _ (call (Value.builtin "list.extend") _) _ _ _)); (fail_if_success (with_reducible show wpAny _ _ (call (Value.ref _) _) _ _ _)); (fail_if_success (with_reducible show wpAny _ _ (isTrue (Expr.BoolOp BoolOp.Or _ _) _ _) (fun b s₂ => if b = true then _ else _) _ _)); (fail_if_success (with_reducible show OrEnd _ _ _ _)); (fail_if_success (with_reducible show CsSrc _ _ _ _ _ _ _ _ _ _ _ _ _ _ _)); (fail_if_success (with_reducible show CnSrc _ _ _ _ _ _ _ _ _ _ _ _ _ _ _)); (fail_if_success (with_reducible show LCg.CompEnd _ _ _ _ _ _ _ _ _ _ _ _ _ _)); first | ((with_reducible show wpAny _ _ (call (Value.builtin "sum") [Value.ref _]) _ _ _); k_dflt (refine' sum_eq ?k0 ?k1 ?k2 ?k3 ?k4 ?k5 ?_; (case k0 => rfl); (case k1 => k_asm); (case k2 => k_asm); (case k3 => k_mem); (case k4 => with_reducible assumption); (case k5 => with_reducible assumption); k_whole); intro m_h9 m_tk9 m_t9 m_F9 m_N9) | ((with_reducible show wpAny _ _ (subscriptTail _ (Expr.Slice (some _) none none _) (Value.str _ _) _) _ _ _); (with_reducible rename Fr _ _ _ _ => m_F'); (with_reducible rename News _ _ _ _ => m_N'); refine str_from (s := ⟨_, _, _, _, _⟩) m_F' m_N' (by omega) (by omega) ?_; intro m_z' m_h' m_t' m_c' m_hz' m_hzl' m_F' m_N') | ((with_reducible show wpAny _ _ (subscriptTail _ _ (Value.ref _) (Value.int _ _)) _ _ _); k_dflt (refine' sub_atE ?k1 ?k2 ?k3 ?kk ?k4 ?k5 ?k7 ?_ ?k6; (case k1 => k_asm); (case k2 => k_mem); (case k3 => with_reducible assumption); (case kk => first | with_reducible assumption | exact rfl); (case k4 => omega); (case k5 => omega); (case k7 => omega); (case k6 => with_unfolding_all rfl); k_whole); intro _) | ((with_reducible show wpAny _ _ (compareOp CmpOp.NotEq (Value.str _ _) (Value.str _ _)) _ _ _); refine cmp_same ?_) | (k_here; (with_reducible show wpAny _ _ (call (Value.builtin "len") [Value.ref _]) _ _ _); (refine KM.len_K (by k_asm) (by k_dflt k_mem) (by with_reducible assumption) (by omega) ?_)) | ((with_reducible show wpAny _ _ (subscriptTail _ (Expr.Slice none (some _) none _) (Value.str _ _) _) _ _ _); (with_reducible rename Fr _ _ _ _ => m_F'); (with_reducible rename News _ _ _ _ => m_N'); refine str_to (s := ⟨_, _, _, _, _⟩) m_F' m_N' (by omega) (by omega) ?_; intro m_z' m_h' m_t' m_c' m_hz' m_hzl' m_F' m_N') | ((with_reducible show wpAny _ _ (binaryOp Operator.Add (Value.str _ _) (Value.str _ _)) _ _ _); refine str_add (by omega) ?_; intro m_z' m_t' m_k' m_hz' m_hzl') | ((with_reducible show wpAny _ _ (call (Value.builtin "str.join") [Value.str _ _, Value.ref _]) _ _ _); k_dflt (refine' join_ls ?k1 ?k2 ?k3 ?k4 ?k5 ?k6 ?_; (case k1 => k_asm); (case k2 => k_mem); (case k3 => with_reducible assumption); (case k4 => with_reducible assumption); (case k5 => with_reducible assumption); (case k6 => with_reducible assumption); k_whole); intro _ _) | ((with_reducible show wpAny _ _ (call (Value.builtin "sum") [Value.ref _]) _ _ _); k_dflt (refine' sum_pick ?k0 ?k1 ?k2 ?k3 ?_; (case k0 => rfl); (case k1 => k_asm); (case k2 => k_asm); (case k3 => with_reducible assumption); k_whole); intro m_ks9 m_h9 m_tk9 m_t9 m_F9 m_N9) | walk1 | (dsimp only; walk1) | (leave1; walk_say "STEP leave1"; try dsimp only)) | fail "no step"))
          refine LCg.CompSrc.range (n := ((x.fdiv 3).fmod 8 + 1 + ((x.fdiv 3).fdiv 8).fmod 3 - (x.fdiv 3).fmod 8).toNat) (by rfl) (by k_asm) (by k_asm) (R6 _ (News.get (by k_asm) (by k_mem))) (small_one (by omega) (by omega) (by omega) (by omega)) (rangeSize_nat _ _) (by rw [PySem.sizeLine_eq]; omega) ?_
          intro g9
          refine kct_range (lsText ((x.fdiv 3).fdiv 24)) (fun k9 t9 I9 oI9 C9 oC9 D9 m9 ys9 h9 tk9 E9 hlo9 hhi9 hC9 hx9 F9 N9 off9 ne9 hm9 => ?_) ?_
          · have hk0 : 0 ≤ k9 := Int.le_trans ha0 hlo9
            have hk9 : k9 < 10 := Int.lt_of_lt_of_le hhi9 hk6
            clear hhi9
            (repeat' (first | (k_unfold; (try dsimp only)) | (k_end; wrow_close) | ((fail_if_success (with_reducible show wpAny _ _ (exec (Stmt.For _ _ _ _ _) _) _ _ _)); (fail_if_success (with_reducible show wpAny _ _ (exec (Stmt.While _ _ _ _) _) _ _ _)); (fail_if_success (with_reducible show wpAny _ _ (pyIter _) _ _ _)); (fail_if_success (with_reducible show LCg.CompSrc _ _ _ _ _ _ _ _ _ _ _ _ _ _)); (fail_if_success (with_reducible show LCt.CompSrcT _ _ _ _ _ _ _ _ _ _ _ _ _ _ _)); (fail_if_success (with_reducible show wpAny _ _ (eval (Expr.ListComp _ _ _ _) _) _ _ _)); (fail_if_success (with_reducible show wpAny _ _ (exec (Stmt.Assign _ (Expr.ListComp _ _ _ _) _) _) _ _ _)); (fail_if_success (with_reducible show wpAny _ _ (storeName _ (Str.ofString "places") _) _ _ _)); (fail_if_success (with_reducible show wpAny _ _ (compareOp CmpOp.Eq (Value.str _ _) (Value.str _ _)) _ _ _)); (fail_if_success (with_reducible show wpAny _ _ (compareOp CmpOp.Eq (Value.ref _) (Value.ref _)) _ _ _)); (fail_if_success (with_reducible show wpAny _ _ (compareOp CmpOp.NotEq (Value.ref _) (Value.ref _)) _ _ _)); (fail_if_success (with_reducible show wpAny _ _ (call (Value.builtin "list.extend") _) _ _ _)); (fail_if_success (with_reducible show wpAny _ _ (call (Value.ref _) _) _ _ _)); (fail_if_success (with_reducible show wpAny _ _ (isTrue (Expr.BoolOp BoolOp.Or _ _) _ _) (fun b s₂ => if b = true then _ else _) _ _)); (fail_if_success (with_reducible show OrEnd _ _ _ _)); (fail_if_success (with_reducible show CsSrc _ _ _ _ _ _ _ _ _ _ _ _ _ _ _)); (fail_if_success (with_reducible show CnSrc _ _ _ _ _ _ _ _ _ _ _ _ _ _ _)); (fail_if_success (with_reducible show LCg.CompEnd _ _ _ _ _ _ _ _ _ _ _ _ _ _)); first | ((with_reducible show wpAny _ _ (call (Value.builtin "sum") [Value.ref _]) _ _ _); k_dflt (refine' sum_eq ?k0 ?k1 ?k2 ?k3 ?k4 ?k5 ?_; (case k0 => rfl); (case k1 => k_asm); (case k2 => k_asm); (case k3 => k_mem); (case k4 => with_reducible assumption); (case k5 => with_reducible assumption); k_whole); intro m_h9 m_tk9 m_t9 m_F9 m_N9) | ((with_reducible show wpAny _ _ (subscriptTail _ (Expr.Slice (some _) none none _) (Value.str _ _) _) _ _ _); (with_reducible rename Fr _ _ _ _ => m_F'); (with_reducible rename News _ _ _ _ => m_N'); refine str_from (s := ⟨_, _, _, _, _⟩) m_F' m_N' (by omega) (by omega) ?_; intro m_z' m_h' m_t' m_c' m_hz' m_hzl' m_F' m_N') | ((with_reducible show wpAny _ _ (subscriptTail _ _ (Value.ref _) (Value.int _ _)) _ _ _); k_dflt (refine' sub_atE ?k1 ?k2 ?k3 ?kk ?k4 ?k5 ?k7 ?_ ?k6; (case k1 => k_asm); (case k2 => k_mem); (case k3 => with_reducible assumption); (case kk => first | with_reducible assumption | exact rfl); (case k4 => omega); (case k5 => omega); (case k7 => omega); (case k6 => with_unfolding_all rfl); k_whole); intro _) | ((with_reducible show wpAny _ _ (compareOp CmpOp.NotEq (Value.str _ _) (Value.str _ _)) _ _ _); refine cmp_same ?_) | (k_here; (with_reducible show wpAny _ _ (call (Value.builtin "len") [Value.ref _]) _ _ _); (refine KM.len_K (by k_asm) (by k_dflt k_mem) (by with_reducible assumption) (by omega) ?_)) | ((with_reducible show wpAny _ _ (subscriptTail _ (Expr.Slice none (some _) none _) (Value.str _ _) _) _ _ _); (with_reducible rename Fr _ _ _ _ => m_F'); (with_reducible rename News _ _ _ _ => m_N'); refine str_to (s := ⟨_, _, _, _, _⟩) m_F' m_N' (by omega) (by omega) ?_; intro m_z' m_h' m_t' m_c' m_hz' m_hzl' m_F' m_N') | ((with_reducible show wpAny _ _ (binaryOp Operator.Add (Value.str _ _) (Value.str _ _)) _ _ _); refine str_add (by omega) ?_; intro m_z' m_t' m_k' m_hz' m_hzl') | ((with_reducible show wpAny _ _ (call (Value.builtin "str.join") [Value.str _ _, Value.ref _]) _ _ _); k_dflt (refine' join_ls ?k1 ?k2 ?k3 ?k4 ?k5 ?k6 ?_; (case k1 => k_asm); (case k2 => k_mem); (case k3 => with_reducible assumption); (case k4 => with_reducible assumption); (case k5 => with_reducible assumption); (case k6 => with_reducible assumption); k_whole); intro _ _) | ((with_reducible show wpAny _ _ (call (Value.builtin "sum") [Value.ref _]) _ _ _); k_dflt (refine' sum_pick ?k0 ?k1 ?k2 ?k3 ?_; (case k0 => rfl); (case k1 => k_asm); (case k2 => k_asm); (case k3 => with_reducible assumption); k_whole); intro m_ks9 m_h9 m_tk9 m_t9 m_F9 m_N9) | walk1 | (dsimp only; walk1) | (leave1; walk_say "STEP leave1"; try dsimp only)) | fail "no step"))
            exact LCg.CompEnd.intro (by k_asm) (by k_asm) _ (fun p hp => by first | exact hp | exact .tail _ hp) off9 trivial (kct_el (item_ls hz6 hm0 hk0 hk9).symm rfl rfl)
          unfold KPfDone
          intro ys9 hys9 hyl9
          walk1
          rename _ ≠ _ ∧ _ ≠ _ ∧ _ => oq
          simp only [neq_fold] at oq
          repeat (have := And.left oq; replace oq := And.right oq)
          (repeat' (first | (k_unfold; (try dsimp only)) | (k_end; wrow_close) | ((fail_if_success (with_reducible show wpAny _ _ (exec (Stmt.For _ _ _ _ _) _) _ _ _)); (fail_if_success (with_reducible show wpAny _ _ (exec (Stmt.While _ _ _ _) _) _ _ _)); (fail_if_success (with_reducible show wpAny _ _ (pyIter _) _ _ _)); (fail_if_success (with_reducible show LCg.CompSrc _ _ _ _ _ _ _ _ _ _ _ _ _ _)); (fail_if_success (with_reducible show LCt.CompSrcT _ _ _ _ _ _ _ _ _ _ _ _ _ _ _)); (fail_if_success (with_reducible show wpAny _ _ (eval (Expr.ListComp _ _ _ _) _) _ _ _)); (fail_if_success (with_reducible show wpAny _ _ (exec (Stmt.Assign _ (Expr.ListComp _ _ _ _) _) _) _ _ _)); (fail_if_success (with_reducible show wpAny _ _ (storeName _ (Str.ofString "places") _) _ _ _)); (fail_if_success (with_reducible show wpAny _ _ (compareOp CmpOp.Eq (Value.str _ _) (Value.str _ _)) _ _ _)); (fail_if_success (with_reducible show wpAny _ _ (compareOp CmpOp.Eq (Value.ref _) (Value.ref _)) _ _ _)); (fail_if_success (with_reducible show wpAny _ _ (compareOp CmpOp.NotEq (Value.ref _) (Value.ref _)) _ _ _)); (fail_if_success (with_reducible show wpAny _ _ (call (Value.builtin "list.extend") _) _ _ _)); (fail_if_success (with_reducible show wpAny _ _ (call (Value.ref _) _) _ _ _)); (fail_if_success (with_reducible show wpAny _ _ (isTrue (Expr.BoolOp BoolOp.Or _ _) _ _) (fun b s₂ => if b = true then _ else _) _ _)); (fail_if_success (with_reducible show OrEnd _ _ _ _)); (fail_if_success (with_reducible show CsSrc _ _ _ _ _ _ _ _ _ _ _ _ _ _ _)); (fail_if_success (with_reducible show CnSrc _ _ _ _ _ _ _ _ _ _ _ _ _ _ _)); (fail_if_success (with_reducible show LCg.CompEnd _ _ _ _ _ _ _ _ _ _ _ _ _ _)); first | ((with_reducible show wpAny _ _ (call (Value.builtin "sum") [Value.ref _]) _ _ _); k_dflt (refine' sum_eq ?k0 ?k1 ?k2 ?k3 ?k4 ?k5 ?_; (case k0 => rfl); (case k1 => k_asm); (case k2 => k_asm); (case k3 => k_mem); (case k4 => with_reducible assumption); (case k5 => with_reducible assumption); k_whole); intro m_h9 m_tk9 m_t9 m_F9 m_N9) | ((with_reducible show wpAny _ _ (subscriptTail _ (Expr.Slice (some _) none none _) (Value.str _ _) _) _ _ _); (with_reducible rename Fr _ _ _ _ => m_F'); (with_reducible rename News _ _ _ _ => m_N'); refine str_from (s := ⟨_, _, _, _, _⟩) m_F' m_N' (by omega) (by omega) ?_; intro m_z' m_h' m_t' m_c' m_hz' m_hzl' m_F' m_N') | ((with_reducible show wpAny _ _ (subscriptTail _ _ (Value.ref _) (Value.int _ _)) _ _ _); k_dflt (refine' sub_atE ?k1 ?k2 ?k3 ?kk ?k4 ?k5 ?k7 ?_ ?k6; (case k1 => k_asm); (case k2 => k_mem); (case k3 => with_reducible assumption); (case kk => first | with_reducible assumption | exact rfl); (case k4 => omega); (case k5 => omega); (case k7 => omega); (case k6 => with_unfolding_all rfl); k_whole); intro _) | ((with_reducible show wpAny _ _ (compareOp CmpOp.NotEq (Value.str _ _) (Value.str _ _)) _ _ _); refine cmp_same ?_) | (k_here; (with_reducible show wpAny _ _ (call (Value.builtin "len") [Value.ref _]) _ _ _); (refine KM.len_K (by k_asm) (by k_dflt k_mem) (by with_reducible assumption) (by omega) ?_)) | ((with_reducible show wpAny _ _ (subscriptTail _ (Expr.Slice none (some _) none _) (Value.str _ _) _) _ _ _); (with_reducible rename Fr _ _ _ _ => m_F'); (with_reducible rename News _ _ _ _ => m_N'); refine str_to (s := ⟨_, _, _, _, _⟩) m_F' m_N' (by omega) (by omega) ?_; intro m_z' m_h' m_t' m_c' m_hz' m_hzl' m_F' m_N') | ((with_reducible show wpAny _ _ (binaryOp Operator.Add (Value.str _ _) (Value.str _ _)) _ _ _); refine str_add (by omega) ?_; intro m_z' m_t' m_k' m_hz' m_hzl') | ((with_reducible show wpAny _ _ (call (Value.builtin "str.join") [Value.str _ _, Value.ref _]) _ _ _); k_dflt (refine' join_ls ?k1 ?k2 ?k3 ?k4 ?k5 ?k6 ?_; (case k1 => k_asm); (case k2 => k_mem); (case k3 => with_reducible assumption); (case k4 => with_reducible assumption); (case k5 => with_reducible assumption); (case k6 => with_reducible assumption); k_whole); intro _ _) | ((with_reducible show wpAny _ _ (call (Value.builtin "sum") [Value.ref _]) _ _ _); k_dflt (refine' sum_pick ?k0 ?k1 ?k2 ?k3 ?_; (case k0 => rfl); (case k1 => k_asm); (case k2 => k_asm); (case k3 => with_reducible assumption); k_whole); intro m_ks9 m_h9 m_tk9 m_t9 m_F9 m_N9) | walk1 | (dsimp only; walk1) | (leave1; walk_say "STEP leave1"; try dsimp only)) | fail "no step"))

          refine LCg.ListComp_U (F₀ := by k_asm) (by with_unfolding_all rfl) (by decide) (by rfl) (by decide) (by rfl) ?_
          (repeat' (first | (k_unfold; (try dsimp only)) | (k_end; wrow_close) | ((fail_if_success (with_reducible show wpAny _ _ (exec (Stmt.For _ _ _ _ _) _) _ _ _)); (fail_if_success (with_reducible show wpAny _ _ (exec (Stmt.While _ _ _ _) _) _ _ _)); (fail_if_success (with_reducible show wpAny _ _ (pyIter _) _ _ _)); (fail_if_success (with_reducible show LCg.CompSrc _ _ _ _ _ _ _ _ _ _ _ _ _ _)); (fail_if_success (with_reducible show LCt.CompSrcT _ _ _ _ _ _ _ _ _ _ _ _ _ _ _)); (fail_if_success (with_reducible show wpAny _ _ (eval (Expr.ListComp _ _ _ _) _) _ _ _)); (fail_if_success (with_reducible show wpAny _ _ (exec (Stmt.Assign _ (Expr.ListComp _ _ _ _) _) _) _ _ _)); (fail_if_success (with_reducible show wpAny _ _ (storeName _ (Str.ofString "places") _) _ _ _)); (fail_if_success (with_reducible show wpAny _ _ (compareOp CmpOp.Eq (Value.str _ _) (Value.str _ _)) _ _ _)); (fail_if_success (with_reducible show wpAny _ _ (compareOp CmpOp.Eq (Value.ref _) (Value.ref _)) _ _ _)); (fail_if_success (with_reducible show wpAny _ _ (compareOp CmpOp.NotEq (Value.ref _) (Value.ref _)) _ _ _)); (fail_if_success (with_reducible show wpAny _ _ (call (Value.builtin "list.extend") _) _ _ _)); (fail_if_success (with_reducible show wpAny _ _ (call (Value.ref _) _) _ _ _)); (fail_if_success (with_reducible show wpAny _ _ (isTrue (Expr.BoolOp BoolOp.Or _ _) _ _) (fun b s₂ => if b = true then _ else _) _ _)); (fail_if_success (with_reducible show OrEnd _ _ _ _)); (fail_if_success (with_reducible show CsSrc _ _ _ _ _ _ _ _ _ _ _ _ _ _ _)); (fail_if_success (with_reducible show CnSrc _ _ _ _ _ _ _ _ _ _ _ _ _ _ _)); (fail_if_success (with_reducible show LCg.CompEnd _ _ _ _ _ _ _ _ _ _ _ _ _ _)); first | ((with_reducible show wpAny _ _ (call (Value.builtin "sum") [Value.ref _]) _ _ _); k_dflt (refine' sum_eq ?k0 ?k1 ?k2 ?k3 ?k4 ?k5 ?_; (case k0 => rfl); (case k1 => k_asm); (case k2 => k_asm); (case k3 => k_mem); (case k4 => with_reducible assumption); (case k5 => with_reducible assumption); k_whole); intro m_h9 m_tk9 m_t9 m_F9 m_N9) | ((with_reducible show wpAny _ _ (subscriptTail _ (Expr.Slice (some _) none none _) (Value.str _ _) _) _ _ _); (with_reducible rename Fr _ _ _ _ => m_F'); (with_reducible rename News _ _ _ _ => m_N'); refine str_from (s := ⟨_, _, _, _, _⟩) m_F' m_N' (by omega) (by omega) ?_; intro m_z' m_h' m_t' m_c' m_hz' m_hzl' m_F' m_N') | ((with_reducible show wpAny _ _ (subscriptTail _ _ (Value.ref _) (Value.int _ _)) _ _ _); k_dflt (refine' sub_atE ?k1 ?k2 ?k3 ?kk ?k4 ?k5 ?k7 ?_ ?k6; (case k1 => k_asm); (case k2 => k_mem); (case k3 => with_reducible assumption); (case kk => first | with_reducible assumption | exact rfl); (case k4 => omega); (case k5 => omega); (case k7 => omega); (case k6 => with_unfolding_all rfl); k_whole); intro _) | ((with_reducible show wpAny _ _ (compareOp CmpOp.NotEq (Value.str _ _) (Value.str _ _)) _ _ _); refine cmp_same ?_) | (k_here; (with_reducible show wpAny _ _ (call (Value.builtin "len") [Value.ref _]) _ _ _); (refine KM.len_K (by k_asm) (by k_dflt k_mem) (by with_reducible assumption) (by omega) ?_)) | ((with_reducible show wpAny _ _ (subscriptTail _ (Expr.Slice none (some _) none _) (Value.str _ _) _) _ _ _); (with_reducible rename Fr _ _ _ _ => m_F'); (with_reducible rename News _ _ _ _ => m_N'); refine str_to (s := ⟨_, _, _, _, _⟩) m_F' m_N' (by omega) (by omega) ?_; intro m_z' m_h' m_t' m_c' m_hz' m_hzl' m_F' m_N') | ((with_reducible show wpAny _ _ (binaryOp Operator.Add (Value.str _ _) (Value.str _ _)) _ _ _); refine str_add (by omega) ?_; intro m_z' m_t' m_k' m_hz' m_hzl') | ((with_reducible show wpAny _ _ (call (Value.builtin "str.join") [Value.str _ _, Value.ref _]) _ _ _); k_dflt (refine' join_ls ?k1 ?k2 ?k3 ?k4 ?k5 ?k6 ?_; (case k1 => k_asm); (case k2 => k_mem); (case k3 => with_reducible assumption); (case k4 => with_reducible assumption); (case k5 => with_reducible assumption); (case k6 => with_reducible assumption); k_whole); intro _ _) | ((with_reducible show wpAny _ _ (call (Value.builtin "sum") [Value.ref _]) _ _ _); k_dflt (refine' sum_pick ?k0 ?k1 ?k2 ?k3 ?_; (case k0 => rfl); (case k1 => k_asm); (case k2 => k_asm); (case k3 => with_reducible assumption); k_whole); intro m_ks9 m_h9 m_tk9 m_t9 m_F9 m_N9) | walk1 | (dsimp only; walk1) | (leave1; walk_say "STEP leave1"; try dsimp only)) | fail "no step"))
          refine LCg.CompSrc.range (n := ((x.fdiv 3).fmod 8 + 1 + ((x.fdiv 3).fdiv 8).fmod 3 - (x.fdiv 3).fmod 8).toNat) (by rfl) (by k_asm) (by k_asm) (R6 _ (News.get (by k_asm) (by k_mem))) (small_one (by omega) (by omega) (by omega) (by omega)) (rangeSize_nat _ _) (by rw [PySem.sizeLine_eq]; omega) ?_
          intro g9
          refine kct_range (lsText ((x.fdiv 3).fdiv 24)) (fun k9 t9 I9 oI9 C9 oC9 D9 m9 ys9 h9 tk9 E9 hlo9 hhi9 hC9 hx9 F9 N9 off9 ne9 hm9 => ?_) ?_
          · have hk0 : 0 ≤ k9 := Int.le_trans ha0 hlo9
            have hk9 : k9 < 10 := Int.lt_of_lt_of_le hhi9 hk6
            clear hhi9
            (repeat' (first | (k_unfold; (try dsimp only)) | (k_end; wrow_close) | ((fail_if_success (with_reducible show wpAny _ _ (exec (Stmt.For _ _ _ _ _) _) _ _ _)); (fail_if_success (with_reducible show wpAny _ _ (exec (Stmt.While _ _ _ _) _) _ _ _)); (fail_if_success (with_reducible show wpAny _ _ (pyIter _) _ _ _)); (fail_if_success (with_reducible show LCg.CompSrc _ _ _ _ _ _ _ _ _ _ _ _ _ _)); (fail_if_success (with_reducible show LCt.CompSrcT _ _ _ _ _ _ _ _ _ _ _ _ _ _ _)); (fail_if_success (with_reducible show wpAny _ _ (eval (Expr.ListComp _ _ _ _) _) _ _ _)); (fail_if_success (with_reducible show wpAny _ _ (exec (Stmt.Assign _ (Expr.ListComp _ _ _ _) _) _) _ _ _)); (fail_if_success (with_reducible show wpAny _ _ (storeName _ (Str.ofString "places") _) _ _ _)); (fail_if_success (with_reducible show wpAny _ _ (compareOp CmpOp.Eq (Value.str _ _) (Value.str _ _)) _ _ _)); (fail_if_success (with_reducible show wpAny _ _ (compareOp CmpOp.Eq (Value.ref _) (Value.ref _)) _ _ _)); (fail_if_success (with_reducible show wpAny _ _ (compareOp CmpOp.NotEq (Value.ref _) (Value.ref _)) _ _ _)); (fail_if_success (with_reducible show wpAny _ _ (call (Value.builtin "list.extend") _) _ _ _)); (fail_if_success (with_reducible show wpAny _ _ (call (Value.ref _) _) _ _ _)); (fail_if_success (with_reducible show wpAny _ _ (isTrue (Expr.BoolOp BoolOp.Or _ _) _ _) (fun b s₂ => if b = true then _ else _) _ _)); (fail_if_success (with_reducible show OrEnd _ _ _ _)); (fail_if_success (with_reducible show CsSrc _ _ _ _ _ _ _ _ _ _ _ _ _ _ _)); (fail_if_success (with_reducible show CnSrc _ _ _ _ _ _ _ _ _ _ _ _ _ _ _)); (fail_if_success (with_reducible show LCg.CompEnd _ _ _ _ _ _ _ _ _ _ _ _ _ _)); first | ((with_reducible show wpAny _ _ (call (Value.builtin "sum") [Value.ref _]) _ _ _); k_dflt (refine' sum_eq ?k0 ?k1 ?k2 ?k3 ?k4 ?k5 ?_; (case k0 => rfl); (case k1 => k_asm); (case k2 => k_asm); (case k3 => k_mem); (case k4 => with_reducible assumption); (case k5 => with_reducible assumption); k_whole); intro m_h9 m_tk9 m_t9 m_F9 m_N9) | ((with_reducible show wpAny _ _ (subscriptTail _ (Expr.Slice (some _) none none _) (Value.str _ _) _) _ _ _); (with_reducible rename Fr _ _ _ _ => m_F'); (with_reducible rename News _ _ _ _ => m_N'); refine str_from (s := ⟨_, _, _, _, _⟩) m_F' m_N' (by omega) (by omega) ?_; intro m_z' m_h' m_t' m_c' m_hz' m_hzl' m_F' m_N') | ((with_reducible show wpAny _ _ (subscriptTail _ _ (Value.ref _) (Value.int _ _)) _ _ _); k_dflt (refine' sub_atE ?k1 ?k2 ?k3 ?kk ?k4 ?k5 ?k7 ?_ ?k6; (case k1 => k_asm); (case k2 => k_mem); (case k3 => with_reducible assumption); (case kk => first | with_reducible assumption | exact rfl); (case k4 => omega); (case k5 => omega); (case k7 => omega); (case k6 => with_unfolding_all rfl); k_whole); intro _) | ((with_reducible show wpAny _ _ (compareOp CmpOp.NotEq (Value.str _ _) (Value.str _ _)) _ _ _); refine cmp_same ?_) | (k_here; (with_reducible show wpAny _ _ (call (Value.builtin "len") [Value.ref _]) _ _ _); (refine KM.len_K (by k_asm) (by k_dflt k_mem) (by with_reducible assumption) (by omega) ?_)) | ((with_reducible show wpAny _ _ (subscriptTail _ (Expr.Slice none (some _) none _) (Value.str _ _) _) _ _ _); (with_reducible rename Fr _ _ _ _ => m_F'); (with_reducible rename News _ _ _ _ => m_N'); refine str_to (s := ⟨_, _, _, _, _⟩) m_F' m_N' (by omega) (by omega) ?_; intro m_z' m_h' m_t' m_c' m_hz' m_hzl' m_F' m_N') | ((with_reducible show wpAny _ _ (binaryOp Operator.Add (Value.str _ _) (Value.str _ _)) _ _ _); refine str_add (by omega) ?_; intro m_z' m_t' m_k' m_hz' m_hzl') | ((with_reducible show wpAny _ _ (call (Value.builtin "str.join") [Value.str _ _, Value.ref _]) _ _ _); k_dflt (refine' join_ls ?k1 ?k2 ?k3 ?k4 ?k5 ?k6 ?_; (case k1 => k_asm); (case k2 => k_mem); (case k3 => with_reducible assumption); (case k4 => with_reducible assumption); (case k5 => with_reducible assumption); (case k6 => with_reducible assumption); k_whole); intro _ _) | ((with_reducible show wpAny _ _ (call (Value.builtin "sum") [Value.ref _]) _ _ _); k_dflt (refine' sum_pick ?k0 ?k1 ?k2 ?k3 ?_; (case k0 => rfl); (case k1 => k_asm); (case k2 => k_asm); (case k3 => with_reducible assumption); k_whole); intro m_ks9 m_h9 m_tk9 m_t9 m_F9 m_N9) | walk1 | (dsimp only; walk1) | (leave1; walk_say "STEP leave1"; try dsimp only)) | fail "no step"))
            k_dflt (refine' CnK.use (ls_tells _ _ _ _ _ _ _ _ hm0 hm1 _ hk0 hk9)  ?k1b ?k2b ?k3b ?k4b ?k5b ?kkb ?kdb ?kub ?_; (case k4b => k_asm); (case k1b => k_asm); (case k2b => k_asm); (case k3b => k_asm); (case k5b => k_asm); (case kkb => exact rfl); (case kdb => first | ktr_room | omega); (case kub => first | ktr_units | omega))
            intro t8 h8 tk8 F8 N8 k8
            (repeat' (first | (k_unfold; (try dsimp only)) | (k_end; wrow_close) | ((fail_if_success (with_reducible show wpAny _ _ (exec (Stmt.For _ _ _ _ _) _) _ _ _)); (fail_if_success (with_reducible show wpAny _ _ (exec (Stmt.While _ _ _ _) _) _ _ _)); (fail_if_success (with_reducible show wpAny _ _ (pyIter _) _ _ _)); (fail_if_success (with_reducible show LCg.CompSrc _ _ _ _ _ _ _ _ _ _ _ _ _ _)); (fail_if_success (with_reducible show LCt.CompSrcT _ _ _ _ _ _ _ _ _ _ _ _ _ _ _)); (fail_if_success (with_reducible show wpAny _ _ (eval (Expr.ListComp _ _ _ _) _) _ _ _)); (fail_if_success (with_reducible show wpAny _ _ (exec (Stmt.Assign _ (Expr.ListComp _ _ _ _) _) _) _ _ _)); (fail_if_success (with_reducible show wpAny _ _ (storeName _ (Str.ofString "places") _) _ _ _)); (fail_if_success (with_reducible show wpAny _ _ (compareOp CmpOp.Eq (Value.str _ _) (Value.str _ _)) _ _ _)); (fail_if_success (with_reducible show wpAny _ _ (compareOp CmpOp.Eq (Value.ref _) (Value.ref _)) _ _ _)); (fail_if_success (with_reducible show wpAny _ _ (compareOp CmpOp.NotEq (Value.ref _) (Value.ref _)) _ _ _)); (fail_if_success (with_reducible show wpAny _ _ (call (Value.builtin "list.extend") _) _ _ _)); (fail_if_success (with_reducible show wpAny _ _ (call (Value.ref _) _) _ _ _)); (fail_if_success (with_reducible show wpAny _ _ (isTrue (Expr.BoolOp BoolOp.Or _ _) _ _) (fun b s₂ => if b = true then _ else _) _ _)); (fail_if_success (with_reducible show OrEnd _ _ _ _)); (fail_if_success (with_reducible show CsSrc _ _ _ _ _ _ _ _ _ _ _ _ _ _ _)); (fail_if_success (with_reducible show CnSrc _ _ _ _ _ _ _ _ _ _ _ _ _ _ _)); (fail_if_success (with_reducible show LCg.CompEnd _ _ _ _ _ _ _ _ _ _ _ _ _ _)); first | ((with_reducible show wpAny _ _ (call (Value.builtin "sum") [Value.ref _]) _ _ _); k_dflt (refine' sum_eq ?k0 ?k1 ?k2 ?k3 ?k4 ?k5 ?_; (case k0 => rfl); (case k1 => k_asm); (case k2 => k_asm); (case k3 => k_mem); (case k4 => with_reducible assumption); (case k5 => with_reducible assumption); k_whole); intro m_h9 m_tk9 m_t9 m_F9 m_N9) | ((with_reducible show wpAny _ _ (subscriptTail _ (Expr.Slice (some _) none none _) (Value.str _ _) _) _ _ _); (with_reducible rename Fr _ _ _ _ => m_F'); (with_reducible rename News _ _ _ _ => m_N'); refine str_from (s := ⟨_, _, _, _, _⟩) m_F' m_N' (by omega) (by omega) ?_; intro m_z' m_h' m_t' m_c' m_hz' m_hzl' m_F' m_N') | ((with_reducible show wpAny _ _ (subscriptTail _ _ (Value.ref _) (Value.int _ _)) _ _ _); k_dflt (refine' sub_atE ?k1 ?k2 ?k3 ?kk ?k4 ?k5 ?k7 ?_ ?k6; (case k1 => k_asm); (case k2 => k_mem); (case k3 => with_reducible assumption); (case kk => first | with_reducible assumption | exact rfl); (case k4 => omega); (case k5 => omega); (case k7 => omega); (case k6 => with_unfolding_all rfl); k_whole); intro _) | ((with_reducible show wpAny _ _ (compareOp CmpOp.NotEq (Value.str _ _) (Value.str _ _)) _ _ _); refine cmp_same ?_) | (k_here; (with_reducible show wpAny _ _ (call (Value.builtin "len") [Value.ref _]) _ _ _); (refine KM.len_K (by k_asm) (by k_dflt k_mem) (by with_reducible assumption) (by omega) ?_)) | ((with_reducible show wpAny _ _ (subscriptTail _ (Expr.Slice none (some _) none _) (Value.str _ _) _) _ _ _); (with_reducible rename Fr _ _ _ _ => m_F'); (with_reducible rename News _ _ _ _ => m_N'); refine str_to (s := ⟨_, _, _, _, _⟩) m_F' m_N' (by omega) (by omega) ?_; intro m_z' m_h' m_t' m_c' m_hz' m_hzl' m_F' m_N') | ((with_reducible show wpAny _ _ (binaryOp Operator.Add (Value.str _ _) (Value.str _ _)) _ _ _); refine str_add (by omega) ?_; intro m_z' m_t' m_k' m_hz' m_hzl') | ((with_reducible show wpAny _ _ (call (Value.builtin "str.join") [Value.str _ _, Value.ref _]) _ _ _); k_dflt (refine' join_ls ?k1 ?k2 ?k3 ?k4 ?k5 ?k6 ?_; (case k1 => k_asm); (case k2 => k_mem); (case k3 => with_reducible assumption); (case k4 => with_reducible assumption); (case k5 => with_reducible assumption); (case k6 => with_reducible assumption); k_whole); intro _ _) | ((with_reducible show wpAny _ _ (call (Value.builtin "sum") [Value.ref _]) _ _ _); k_dflt (refine' sum_pick ?k0 ?k1 ?k2 ?k3 ?_; (case k0 => rfl); (case k1 => k_asm); (case k2 => k_asm); (case k3 => with_reducible assumption); k_whole); intro m_ks9 m_h9 m_tk9 m_t9 m_F9 m_N9) | walk1 | (dsimp only; walk1) | (leave1; walk_say "STEP leave1"; try dsimp only)) | fail "no step"))
            exact LCg.CompEnd.intro (by k_asm) (by k_asm) _ (fun p hp => by first | exact hp | exact .tail _ hp) off9 trivial (kct_el rfl rfl rfl)
          unfold KPfDone
          intro ys9 hys9 hyl9
          walk1
          rename _ ≠ _ ∧ _ ≠ _ ∧ _ => oq
          simp only [neq_fold] at oq
          repeat (have := And.left oq; replace oq := And.right oq)
          (repeat' (first | (k_unfold; (try dsimp only)) | (k_end; wrow_close) | ((fail_if_success (with_reducible show wpAny _ _ (exec (Stmt.For _ _ _ _ _) _) _ _ _)); (fail_if_success (with_reducible show wpAny _ _ (exec (Stmt.While _ _ _ _) _) _ _ _)); (fail_if_success (with_reducible show wpAny _ _ (pyIter _) _ _ _)); (fail_if_success (with_reducible show LCg.CompSrc _ _ _ _ _ _ _ _ _ _ _ _ _ _)); (fail_if_success (with_reducible show LCt.CompSrcT _ _ _ _ _ _ _ _ _ _ _ _ _ _ _)); (fail_if_success (with_reducible show wpAny _ _ (eval (Expr.ListComp _ _ _ _) _) _ _ _)); (fail_if_success (with_reducible show wpAny _ _ (exec (Stmt.Assign _ (Expr.ListComp _ _ _ _) _) _) _ _ _)); (fail_if_success (with_reducible show wpAny _ _ (storeName _ (Str.ofString "places") _) _ _ _)); (fail_if_success (with_reducible show wpAny _ _ (compareOp CmpOp.Eq (Value.str _ _) (Value.str _ _)) _ _ _)); (fail_if_success (with_reducible show wpAny _ _ (compareOp CmpOp.Eq (Value.ref _) (Value.ref _)) _ _ _)); (fail_if_success (with_reducible show wpAny _ _ (compareOp CmpOp.NotEq (Value.ref _) (Value.ref _)) _ _ _)); (fail_if_success (with_reducible show wpAny _ _ (call (Value.builtin "list.extend") _) _ _ _)); (fail_if_success (with_reducible show wpAny _ _ (call (Value.ref _) _) _ _ _)); (fail_if_success (with_reducible show wpAny _ _ (isTrue (Expr.BoolOp BoolOp.Or _ _) _ _) (fun b s₂ => if b = true then _ else _) _ _)); (fail_if_success (with_reducible show OrEnd _ _ _ _)); (fail_if_success (with_reducible show CsSrc _ _ _ _ _ _ _ _ _ _ _ _ _ _ _)); (fail_if_success (with_reducible show CnSrc _ _ _ _ _ _ _ _ _ _ _ _ _ _ _)); (fail_if_success (with_reducible show LCg.CompEnd _ _ _ _ _ _ _ _ _ _ _ _ _ _)); first | ((with_reducible show wpAny _ _ (call (Value.builtin "sum") [Value.ref _]) _ _ _); k_dflt (refine' sum_eq ?k0 ?k1 ?k2 ?k3 ?k4 ?k5 ?_; (case k0 => rfl); (case k1 => k_asm); (case k2 => k_asm); (case k3 => k_mem); (case k4 => with_reducible assumption); (case k5 => with_reducible assumption); k_whole); intro m_h9 m_tk9 m_t9 m_F9 m_N9) | ((with_reducible show wpAny _ _ (subscriptTail _ (Expr.Slice (some _) none none _) (Value.str _ _) _) _ _ _); (with_reducible rename Fr _ _ _ _ => m_F'); (with_reducible rename News _ _ _ _ => m_N'); refine str_from (s := ⟨_, _, _, _, _⟩) m_F' m_N' (by omega) (by omega) ?_; intro m_z' m_h' m_t' m_c' m_hz' m_hzl' m_F' m_N') | ((with_reducible show wpAny _ _ (subscriptTail _ _ (Value.ref _) (Value.int _ _)) _ _ _); k_dflt (refine' sub_atE ?k1 ?k2 ?k3 ?kk ?k4 ?k5 ?k7 ?_ ?k6; (case k1 => k_asm); (case k2 => k_mem); (case k3 => with_reducible assumption); (case kk => first | with_reducible assumption | exact rfl); (case k4 => omega); (case k5 => omega); (case k7 => omega); (case k6 => with_unfolding_all rfl); k_whole); intro _) | ((with_reducible show wpAny _ _ (compareOp CmpOp.NotEq (Value.str _ _) (Value.str _ _)) _ _ _); refine cmp_same ?_) | (k_here; (with_reducible show wpAny _ _ (call (Value.builtin "len") [Value.ref _]) _ _ _); (refine KM.len_K (by k_asm) (by k_dflt k_mem) (by with_reducible assumption) (by omega) ?_)) | ((with_reducible show wpAny _ _ (subscriptTail _ (Expr.Slice none (some _) none _) (Value.str _ _) _) _ _ _); (with_reducible rename Fr _ _ _ _ => m_F'); (with_reducible rename News _ _ _ _ => m_N'); refine str_to (s := ⟨_, _, _, _, _⟩) m_F' m_N' (by omega) (by omega) ?_; intro m_z' m_h' m_t' m_c' m_hz' m_hzl' m_F' m_N') | ((with_reducible show wpAny _ _ (binaryOp Operator.Add (Value.str _ _) (Value.str _ _)) _ _ _); refine str_add (by omega) ?_; intro m_z' m_t' m_k' m_hz' m_hzl') | ((with_reducible show wpAny _ _ (call (Value.builtin "str.join") [Value.str _ _, Value.ref _]) _ _ _); k_dflt (refine' join_ls ?k1 ?k2 ?k3 ?k4 ?k5 ?k6 ?_; (case k1 => k_asm); (case k2 => k_mem); (case k3 => with_reducible assumption); (case k4 => with_reducible assumption); (case k5 => with_reducible assumption); (case k6 => with_reducible assumption); k_whole); intro _ _) | ((with_reducible show wpAny _ _ (call (Value.builtin "sum") [Value.ref _]) _ _ _); k_dflt (refine' sum_pick ?k0 ?k1 ?k2 ?k3 ?_; (case k0 => rfl); (case k1 => k_asm); (case k2 => k_asm); (case k3 => with_reducible assumption); k_whole); intro m_ks9 m_h9 m_tk9 m_t9 m_F9 m_N9) | walk1 | (dsimp only; walk1) | (leave1; walk_say "STEP leave1"; try dsimp only)) | fail "no step"))

          rename Fr _ _ _ _ => F7
          rename News _ _ _ _ => N7
          rename Obj.data _ = Data.cell (some (Value.str _ _)) => dO
          refine TjEnd.intro F7 N7 ?hn ?ho ?ha (InvA.intro dL dY dO ?cp ?le ?po (fr2 (by rfl) (by rfl)))
          case cp => exact loop_cpA hcp (by assumption) (by assumption) (by assumption) (by assumption)
          case le => exact len_le (by assumption)
          case po => exact fun _ => len_pos (by assumption) (by assumption) (.inr hJ0)
          case ha => rfl
          case hn => first | exact fun p hp => List.mem_append_left own hp | exact fun p hp => .tail _ (List.mem_append_left own hp) | exact fun p hp => .tail _ (.tail _ (List.mem_append_left own hp)) | exact fun p hp => .tail _ (.tail _ (.tail _ (List.mem_append_left own hp))) | exact fun p hp => .tail _ (.tail _ (.tail _ (.tail _ (List.mem_append_left own hp)))) | exact fun p hp => .tail _ (.tail _ (.tail _ (.tail _ (.tail _ (List.mem_append_left own hp)))))
          case ho => first | exact fun p hp => List.mem_append_right (_ :: _ :: _ :: _ :: _ :: _ :: _ :: _ :: []) hp | exact fun p hp => .tail _ (List.mem_append_right (_ :: _ :: _ :: _ :: _ :: _ :: _ :: _ :: []) hp) | exact fun p hp => .tail _ (.tail _ (List.mem_append_right (_ :: _ :: _ :: _ :: _ :: _ :: _ :: _ :: []) hp)) | exact fun p hp => .tail _ (.tail _ (.tail _ (List.mem_append_right (_ :: _ :: _ :: _ :: _ :: _ :: _ :: _ :: []) hp))) | exact fun p hp => .tail _ (.tail _ (.tail _ (.tail _ (List.mem_append_right (_ :: _ :: _ :: _ :: _ :: _ :: _ :: _ :: []) hp)))) | exact fun p hp => .tail _ (.tail _ (.tail _ (.tail _ (.tail _ (List.mem_append_right (_ :: _ :: _ :: _ :: _ :: _ :: _ :: _ :: []) hp)))))

        · (try dsimp only)
          simp only [Bool.false_eq_true, if_false]
          have hop := own_pos hb
          have hq0 : 0 ≤ (x.fdiv 3).fmod ow.length := Int.fmod_nonneg_of_pos _ (by omega)
          have hq1 : (x.fdiv 3).fmod ow.length < ow.length := Int.fmod_lt_of_pos _ (by omega)
          (repeat' (first | (k_unfold; (try dsimp only)) | (k_end; wrow_close) | ((fail_if_success (with_reducible show wpAny _ _ (exec (Stmt.For _ _ _ _ _) _) _ _ _)); (fail_if_success (with_reducible show wpAny _ _ (exec (Stmt.While _ _ _ _) _) _ _ _)); (fail_if_success (with_reducible show wpAny _ _ (pyIter _) _ _ _)); (fail_if_success (with_reducible show LCg.CompSrc _ _ _ _ _ _ _ _ _ _ _ _ _ _)); (fail_if_success (with_reducible show LCt.CompSrcT _ _ _ _ _ _ _ _ _ _ _ _ _ _ _)); (fail_if_success (with_reducible show wpAny _ _ (eval (Expr.ListComp _ _ _ _) _) _ _ _)); (fail_if_success (with_reducible show wpAny _ _ (exec (Stmt.Assign _ (Expr.ListComp _ _ _ _) _) _) _ _ _)); (fail_if_success (with_reducible show wpAny _ _ (storeName _ (Str.ofString "places") _) _ _ _)); (fail_if_success (with_reducible show wpAny _ _ (compareOp CmpOp.Eq (Value.str _ _) (Value.str _ _)) _ _ _)); (fail_if_success (with_reducible show wpAny _ _ (compareOp CmpOp.Eq (Value.ref _) (Value.ref _)) _ _ _)); (fail_if_success (with_reducible show wpAny _ _ (compareOp CmpOp.NotEq (Value.ref _) (Value.ref _)) _ _ _)); (fail_if_success (with_reducible show wpAny _ _ (call (Value.builtin "list.extend") _) _ _ _)); (fail_if_success (with_reducible show wpAny _ _ (call (Value.ref _) _) _ _ _)); (fail_if_success (with_reducible show wpAny _ _ (isTrue (Expr.BoolOp BoolOp.Or _ _) _ _) (fun b s₂ => if b = true then _ else _) _ _)); (fail_if_success (with_reducible show OrEnd _ _ _ _)); (fail_if_success (with_reducible show CsSrc _ _ _ _ _ _ _ _ _ _ _ _ _ _ _)); (fail_if_success (with_reducible show CnSrc _ _ _ _ _ _ _ _ _ _ _ _ _ _ _)); (fail_if_success (with_reducible show LCg.CompEnd _ _ _ _ _ _ _ _ _ _ _ _ _ _)); first | ((with_reducible show wpAny _ _ (call (Value.builtin "sum") [Value.ref _]) _ _ _); k_dflt (refine' sum_eq ?k0 ?k1 ?k2 ?k3 ?k4 ?k5 ?_; (case k0 => rfl); (case k1 => k_asm); (case k2 => k_asm); (case k3 => k_mem); (case k4 => with_reducible assumption); (case k5 => with_reducible assumption); k_whole); intro m_h9 m_tk9 m_t9 m_F9 m_N9) | ((with_reducible show wpAny _ _ (subscriptTail _ (Expr.Slice (some _) none none _) (Value.str _ _) _) _ _ _); (with_reducible rename Fr _ _ _ _ => m_F'); (with_reducible rename News _ _ _ _ => m_N'); refine str_from (s := ⟨_, _, _, _, _⟩) m_F' m_N' (by omega) (by omega) ?_; intro m_z' m_h' m_t' m_c' m_hz' m_hzl' m_F' m_N') | ((with_reducible show wpAny _ _ (subscriptTail _ _ (Value.ref _) (Value.int _ _)) _ _ _); k_dflt (refine' sub_atE ?k1 ?k2 ?k3 ?kk ?k4 ?k5 ?k7 ?_ ?k6; (case k1 => k_asm); (case k2 => k_mem); (case k3 => with_reducible assumption); (case kk => first | with_reducible assumption | exact rfl); (case k4 => omega); (case k5 => omega); (case k7 => omega); (case k6 => with_unfolding_all rfl); k_whole); intro _) | ((with_reducible show wpAny _ _ (compareOp CmpOp.NotEq (Value.str _ _) (Value.str _ _)) _ _ _); refine cmp_same ?_) | (k_here; (with_reducible show wpAny _ _ (call (Value.builtin "len") [Value.ref _]) _ _ _); (refine KM.len_K (by k_asm) (by k_dflt k_mem) (by with_reducible assumption) (by omega) ?_)) | ((with_reducible show wpAny _ _ (subscriptTail _ (Expr.Slice none (some _) none _) (Value.str _ _) _) _ _ _); (with_reducible rename Fr _ _ _ _ => m_F'); (with_reducible rename News _ _ _ _ => m_N'); refine str_to (s := ⟨_, _, _, _, _⟩) m_F' m_N' (by omega) (by omega) ?_; intro m_z' m_h' m_t' m_c' m_hz' m_hzl' m_F' m_N') | ((with_reducible show wpAny _ _ (binaryOp Operator.Add (Value.str _ _) (Value.str _ _)) _ _ _); refine str_add (by omega) ?_; intro m_z' m_t' m_k' m_hz' m_hzl') | ((with_reducible show wpAny _ _ (call (Value.builtin "str.join") [Value.str _ _, Value.ref _]) _ _ _); k_dflt (refine' join_ls ?k1 ?k2 ?k3 ?k4 ?k5 ?k6 ?_; (case k1 => k_asm); (case k2 => k_mem); (case k3 => with_reducible assumption); (case k4 => with_reducible assumption); (case k5 => with_reducible assumption); (case k6 => with_reducible assumption); k_whole); intro _ _) | ((with_reducible show wpAny _ _ (call (Value.builtin "sum") [Value.ref _]) _ _ _); k_dflt (refine' sum_pick ?k0 ?k1 ?k2 ?k3 ?_; (case k0 => rfl); (case k1 => k_asm); (case k2 => k_asm); (case k3 => with_reducible assumption); k_whole); intro m_ks9 m_h9 m_tk9 m_t9 m_F9 m_N9) | walk1 | (dsimp only; walk1) | (leave1; walk_say "STEP leave1"; try dsimp only)) | fail "no step"))
          · rename Obj.data _ = Data.cell (some (Value.int _ _)) => dY
            rename Fr _ _ _ _ => F7
            rename News _ _ _ _ => N7
            rename Obj.data _ = Data.cell (some (Value.str _ _)) => dO
            refine TjEnd.intro F7 N7 ?hn ?ho ?ha (InvA.intro hL dY dO ?cp ?le ?po (fr2 (by rfl) (by rfl)))
            case cp => exact loop_cpB hcp (by assumption) (by assumption) (by assumption) (by assumption) (by assumption) (by assumption)
            case le => exact len_le (by assumption)
            case po => exact fun _ => len_pos (by assumption) (by assumption) (.inl hop)
            case ha => rfl
            case hn => first | exact fun p hp => List.mem_append_left own hp | exact fun p hp => .tail _ (List.mem_append_left own hp) | exact fun p hp => .tail _ (.tail _ (List.mem_append_left own hp)) | exact fun p hp => .tail _ (.tail _ (.tail _ (List.mem_append_left own hp))) | exact fun p hp => .tail _ (.tail _ (.tail _ (.tail _ (List.mem_append_left own hp)))) | exact fun p hp => .tail _ (.tail _ (.tail _ (.tail _ (.tail _ (List.mem_append_left own hp)))))
            case ho => first | exact fun p hp => List.mem_append_right (_ :: _ :: _ :: _ :: _ :: _ :: _ :: _ :: []) hp | exact fun p hp => .tail _ (List.mem_append_right (_ :: _ :: _ :: _ :: _ :: _ :: _ :: _ :: []) hp) | exact fun p hp => .tail _ (.tail _ (List.mem_append_right (_ :: _ :: _ :: _ :: _ :: _ :: _ :: _ :: []) hp)) | exact fun p hp => .tail _ (.tail _ (.tail _ (List.mem_append_right (_ :: _ :: _ :: _ :: _ :: _ :: _ :: _ :: []) hp))) | exact fun p hp => .tail _ (.tail _ (.tail _ (.tail _ (List.mem_append_right (_ :: _ :: _ :: _ :: _ :: _ :: _ :: _ :: []) hp)))) | exact fun p hp => .tail _ (.tail _ (.tail _ (.tail _ (.tail _ (List.mem_append_right (_ :: _ :: _ :: _ :: _ :: _ :: _ :: _ :: []) hp)))))
          · rename Obj.data _ = Data.cell (some (Value.int _ _)) => dY
            rename Fr _ _ _ _ => F7
            rename News _ _ _ _ => N7
            rename Obj.data _ = Data.cell (some (Value.str _ _)) => dO
            refine TjEnd.intro F7 N7 ?hn ?ho ?ha (InvA.intro hL dY dO ?cp ?le ?po (fr2 (by rfl) (by rfl)))
            case cp => exact loop_cpB hcp (by assumption) (by assumption) (by assumption) (by assumption) (by assumption) (by assumption)
            case le => exact len_le (by assumption)
            case po => exact fun _ => len_pos (by assumption) (by assumption) (.inl hop)
            case ha => rfl
            case hn => first | exact fun p hp => List.mem_append_left own hp | exact fun p hp => .tail _ (List.mem_append_left own hp) | exact fun p hp => .tail _ (.tail _ (List.mem_append_left own hp)) | exact fun p hp => .tail _ (.tail _ (.tail _ (List.mem_append_left own hp))) | exact fun p hp => .tail _ (.tail _ (.tail _ (.tail _ (List.mem_append_left own hp)))) | exact fun p hp => .tail _ (.tail _ (.tail _ (.tail _ (.tail _ (List.mem_append_left own hp)))))
            case ho => first | exact fun p hp => List.mem_append_right (_ :: _ :: _ :: _ :: _ :: _ :: _ :: _ :: []) hp | exact fun p hp => .tail _ (List.mem_append_right (_ :: _ :: _ :: _ :: _ :: _ :: _ :: _ :: []) hp) | exact fun p hp => .tail _ (.tail _ (List.mem_append_right (_ :: _ :: _ :: _ :: _ :: _ :: _ :: _ :: []) hp)) | exact fun p hp => .tail _ (.tail _ (.tail _ (List.mem_append_right (_ :: _ :: _ :: _ :: _ :: _ :: _ :: _ :: []) hp))) | exact fun p hp => .tail _ (.tail _ (.tail _ (.tail _ (List.mem_append_right (_ :: _ :: _ :: _ :: _ :: _ :: _ :: _ :: []) hp)))) | exact fun p hp => .tail _ (.tail _ (.tail _ (.tail _ (.tail _ (List.mem_append_right (_ :: _ :: _ :: _ :: _ :: _ :: _ :: _ :: []) hp)))))

      · intro sh ow ts to_ oL oY oO u vL vY h4 tk4 hL hY hO hcp hle hpos F4 N4
        obtain rfl := str_same hcp
        clear hcp
        have hsz9 : ys9.toArray.size = 6 := by rw [List.size_toArray, hys9.length]; exact hyl9
        have hop : 0 < ow.length := hpos (by show 0 < ys9.toArray.size; rw [hsz9]; decide)
        clear hpos
        have hco := cps_len ow
        (repeat' (first | (k_unfold; (try dsimp only)) | (k_end; wrow_close) | ((fail_if_success (with_reducible show wpAny _ _ (exec (Stmt.For _ _ _ _ _) _) _ _ _)); (fail_if_success (with_reducible show wpAny _ _ (exec (Stmt.While _ _ _ _) _) _ _ _)); (fail_if_success (with_reducible show wpAny _ _ (pyIter _) _ _ _)); (fail_if_success (with_reducible show LCg.CompSrc _ _ _ _ _ _ _ _ _ _ _ _ _ _)); (fail_if_success (with_reducible show LCt.CompSrcT _ _ _ _ _ _ _ _ _ _ _ _ _ _ _)); (fail_if_success (with_reducible show wpAny _ _ (eval (Expr.ListComp _ _ _ _) _) _ _ _)); (fail_if_success (with_reducible show wpAny _ _ (exec (Stmt.Assign _ (Expr.ListComp _ _ _ _) _) _) _ _ _)); (fail_if_success (with_reducible show wpAny _ _ (storeName _ (Str.ofString "places") _) _ _ _)); (fail_if_success (with_reducible show wpAny _ _ (compareOp CmpOp.Eq (Value.str _ _) (Value.str _ _)) _ _ _)); (fail_if_success (with_reducible show wpAny _ _ (compareOp CmpOp.Eq (Value.ref _) (Value.ref _)) _ _ _)); (fail_if_success (with_reducible show wpAny _ _ (compareOp CmpOp.NotEq (Value.ref _) (Value.ref _)) _ _ _)); (fail_if_success (with_reducible show wpAny _ _ (call (Value.builtin "list.extend") _) _ _ _)); (fail_if_success (with_reducible show wpAny _ _ (call (Value.ref _) _) _ _ _)); (fail_if_success (with_reducible show wpAny _ _ (isTrue (Expr.BoolOp BoolOp.Or _ _) _ _) (fun b s₂ => if b = true then _ else _) _ _)); (fail_if_success (with_reducible show OrEnd _ _ _ _)); (fail_if_success (with_reducible show CsSrc _ _ _ _ _ _ _ _ _ _ _ _ _ _ _)); (fail_if_success (with_reducible show CnSrc _ _ _ _ _ _ _ _ _ _ _ _ _ _ _)); (fail_if_success (with_reducible show LCg.CompEnd _ _ _ _ _ _ _ _ _ _ _ _ _ _)); first | ((with_reducible show wpAny _ _ (call (Value.builtin "sum") [Value.ref _]) _ _ _); k_dflt (refine' sum_eq ?k0 ?k1 ?k2 ?k3 ?k4 ?k5 ?_; (case k0 => rfl); (case k1 => k_asm); (case k2 => k_asm); (case k3 => k_mem); (case k4 => with_reducible assumption); (case k5 => with_reducible assumption); k_whole); intro m_h9 m_tk9 m_t9 m_F9 m_N9) | ((with_reducible show wpAny _ _ (subscriptTail _ (Expr.Slice (some _) none none _) (Value.str _ _) _) _ _ _); (with_reducible rename Fr _ _ _ _ => m_F'); (with_reducible rename News _ _ _ _ => m_N'); refine str_from (s := ⟨_, _, _, _, _⟩) m_F' m_N' (by omega) (by omega) ?_; intro m_z' m_h' m_t' m_c' m_hz' m_hzl' m_F' m_N') | ((with_reducible show wpAny _ _ (subscriptTail _ _ (Value.ref _) (Value.int _ _)) _ _ _); k_dflt (refine' sub_atE ?k1 ?k2 ?k3 ?kk ?k4 ?k5 ?k7 ?_ ?k6; (case k1 => k_asm); (case k2 => k_mem); (case k3 => with_reducible assumption); (case kk => first | with_reducible assumption | exact rfl); (case k4 => omega); (case k5 => omega); (case k7 => omega); (case k6 => with_unfolding_all rfl); k_whole); intro _) | ((with_reducible show wpAny _ _ (compareOp CmpOp.NotEq (Value.str _ _) (Value.str _ _)) _ _ _); refine cmp_same ?_) | (k_here; (with_reducible show wpAny _ _ (call (Value.builtin "len") [Value.ref _]) _ _ _); (refine KM.len_K (by k_asm) (by k_dflt k_mem) (by with_reducible assumption) (by omega) ?_)) | ((with_reducible show wpAny _ _ (subscriptTail _ (Expr.Slice none (some _) none _) (Value.str _ _) _) _ _ _); (with_reducible rename Fr _ _ _ _ => m_F'); (with_reducible rename News _ _ _ _ => m_N'); refine str_to (s := ⟨_, _, _, _, _⟩) m_F' m_N' (by omega) (by omega) ?_; intro m_z' m_h' m_t' m_c' m_hz' m_hzl' m_F' m_N') | ((with_reducible show wpAny _ _ (binaryOp Operator.Add (Value.str _ _) (Value.str _ _)) _ _ _); refine str_add (by omega) ?_; intro m_z' m_t' m_k' m_hz' m_hzl') | ((with_reducible show wpAny _ _ (call (Value.builtin "str.join") [Value.str _ _, Value.ref _]) _ _ _); k_dflt (refine' join_ls ?k1 ?k2 ?k3 ?k4 ?k5 ?k6 ?_; (case k1 => k_asm); (case k2 => k_mem); (case k3 => with_reducible assumption); (case k4 => with_reducible assumption); (case k5 => with_reducible assumption); (case k6 => with_reducible assumption); k_whole); intro _ _) | ((with_reducible show wpAny _ _ (call (Value.builtin "sum") [Value.ref _]) _ _ _); k_dflt (refine' sum_pick ?k0 ?k1 ?k2 ?k3 ?_; (case k0 => rfl); (case k1 => k_asm); (case k2 => k_asm); (case k3 => with_reducible assumption); k_whole); intro m_ks9 m_h9 m_tk9 m_t9 m_F9 m_N9) | walk1 | (dsimp only; walk1) | (leave1; walk_say "STEP leave1"; try dsimp only)) | fail "no step"))
        have hx1000 : ow.length ≤ 1000 := by omega
        have hc1000 : ow.cps.toList.length ≤ 1000 := by omega
        k_dflt (refine' use_tab hx1000  ?k1c ?k2c ?k3c ?k4c ?k5c ?kkc ?kdc ?kuc ?_; (case k4c => k_asm); (case k1c => k_asm); (case k2c => k_asm); (case k3c => k_asm); (case k5c => k_asm); (case kkc => exact rfl); (case kdc => first | ktr_room | omega); (case kuc => first | ktr_units | omega))
        intro a9 vs9 n9 ts9 h9 tk9 F9 N9 l8 hi9 ht9
        dsimp only [AllLt] at l8
        have hl9 := ht9.1
        have hl8 : vs9.toArray.size = ts9.length := by rw [List.size_toArray]; exact hi9.length
        (repeat' (first | (k_unfold; (try dsimp only)) | (k_end; wrow_close) | ((fail_if_success (with_reducible show wpAny _ _ (exec (Stmt.For _ _ _ _ _) _) _ _ _)); (fail_if_success (with_reducible show wpAny _ _ (exec (Stmt.While _ _ _ _) _) _ _ _)); (fail_if_success (with_reducible show wpAny _ _ (pyIter _) _ _ _)); (fail_if_success (with_reducible show LCg.CompSrc _ _ _ _ _ _ _ _ _ _ _ _ _ _)); (fail_if_success (with_reducible show LCt.CompSrcT _ _ _ _ _ _ _ _ _ _ _ _ _ _ _)); (fail_if_success (with_reducible show wpAny _ _ (eval (Expr.ListComp _ _ _ _) _) _ _ _)); (fail_if_success (with_reducible show wpAny _ _ (exec (Stmt.Assign _ (Expr.ListComp _ _ _ _) _) _) _ _ _)); (fail_if_success (with_reducible show wpAny _ _ (storeName _ (Str.ofString "places") _) _ _ _)); (fail_if_success (with_reducible show wpAny _ _ (compareOp CmpOp.Eq (Value.str _ _) (Value.str _ _)) _ _ _)); (fail_if_success (with_reducible show wpAny _ _ (compareOp CmpOp.Eq (Value.ref _) (Value.ref _)) _ _ _)); (fail_if_success (with_reducible show wpAny _ _ (compareOp CmpOp.NotEq (Value.ref _) (Value.ref _)) _ _ _)); (fail_if_success (with_reducible show wpAny _ _ (call (Value.builtin "list.extend") _) _ _ _)); (fail_if_success (with_reducible show wpAny _ _ (call (Value.ref _) _) _ _ _)); (fail_if_success (with_reducible show wpAny _ _ (isTrue (Expr.BoolOp BoolOp.Or _ _) _ _) (fun b s₂ => if b = true then _ else _) _ _)); (fail_if_success (with_reducible show OrEnd _ _ _ _)); (fail_if_success (with_reducible show CsSrc _ _ _ _ _ _ _ _ _ _ _ _ _ _ _)); (fail_if_success (with_reducible show CnSrc _ _ _ _ _ _ _ _ _ _ _ _ _ _ _)); (fail_if_success (with_reducible show LCg.CompEnd _ _ _ _ _ _ _ _ _ _ _ _ _ _)); first | ((with_reducible show wpAny _ _ (call (Value.builtin "sum") [Value.ref _]) _ _ _); k_dflt (refine' sum_eq ?k0 ?k1 ?k2 ?k3 ?k4 ?k5 ?_; (case k0 => rfl); (case k1 => k_asm); (case k2 => k_asm); (case k3 => k_mem); (case k4 => with_reducible assumption); (case k5 => with_reducible assumption); k_whole); intro m_h9 m_tk9 m_t9 m_F9 m_N9) | ((with_reducible show wpAny _ _ (subscriptTail _ (Expr.Slice (some _) none none _) (Value.str _ _) _) _ _ _); (with_reducible rename Fr _ _ _ _ => m_F'); (with_reducible rename News _ _ _ _ => m_N'); refine str_from (s := ⟨_, _, _, _, _⟩) m_F' m_N' (by omega) (by omega) ?_; intro m_z' m_h' m_t' m_c' m_hz' m_hzl' m_F' m_N') | ((with_reducible show wpAny _ _ (subscriptTail _ _ (Value.ref _) (Value.int _ _)) _ _ _); k_dflt (refine' sub_atE ?k1 ?k2 ?k3 ?kk ?k4 ?k5 ?k7 ?_ ?k6; (case k1 => k_asm); (case k2 => k_mem); (case k3 => with_reducible assumption); (case kk => first | with_reducible assumption | exact rfl); (case k4 => omega); (case k5 => omega); (case k7 => omega); (case k6 => with_unfolding_all rfl); k_whole); intro _) | ((with_reducible show wpAny _ _ (compareOp CmpOp.NotEq (Value.str _ _) (Value.str _ _)) _ _ _); refine cmp_same ?_) | (k_here; (with_reducible show wpAny _ _ (call (Value.builtin "len") [Value.ref _]) _ _ _); (refine KM.len_K (by k_asm) (by k_dflt k_mem) (by with_reducible assumption) (by omega) ?_)) | ((with_reducible show wpAny _ _ (subscriptTail _ (Expr.Slice none (some _) none _) (Value.str _ _) _) _ _ _); (with_reducible rename Fr _ _ _ _ => m_F'); (with_reducible rename News _ _ _ _ => m_N'); refine str_to (s := ⟨_, _, _, _, _⟩) m_F' m_N' (by omega) (by omega) ?_; intro m_z' m_h' m_t' m_c' m_hz' m_hzl' m_F' m_N') | ((with_reducible show wpAny _ _ (binaryOp Operator.Add (Value.str _ _) (Value.str _ _)) _ _ _); refine str_add (by omega) ?_; intro m_z' m_t' m_k' m_hz' m_hzl') | ((with_reducible show wpAny _ _ (call (Value.builtin "str.join") [Value.str _ _, Value.ref _]) _ _ _); k_dflt (refine' join_ls ?k1 ?k2 ?k3 ?k4 ?k5 ?k6 ?_; (case k1 => k_asm); (case k2 => k_mem); (case k3 => with_reducible assumption); (case k4 => with_reducible assumption); (case k5 => with_reducible assumption); (case k6 => with_reducible assumption); k_whole); intro _ _) | ((with_reducible show wpAny _ _ (call (Value.builtin "sum") [Value.ref _]) _ _ _); k_dflt (refine' sum_pick ?k0 ?k1 ?k2 ?k3 ?_; (case k0 => rfl); (case k1 => k_asm); (case k2 => k_asm); (case k3 => with_reducible assumption); k_whole); intro m_ks9 m_h9 m_tk9 m_t9 m_F9 m_N9) | walk1 | (dsimp only; walk1) | (leave1; walk_say "STEP leave1"; try dsimp only)) | fail "no step"))
        walk1
        (repeat' (first | (k_unfold; (try dsimp only)) | (k_end; wrow_close) | ((fail_if_success (with_reducible show wpAny _ _ (exec (Stmt.For _ _ _ _ _) _) _ _ _)); (fail_if_success (with_reducible show wpAny _ _ (exec (Stmt.While _ _ _ _) _) _ _ _)); (fail_if_success (with_reducible show wpAny _ _ (pyIter _) _ _ _)); (fail_if_success (with_reducible show LCg.CompSrc _ _ _ _ _ _ _ _ _ _ _ _ _ _)); (fail_if_success (with_reducible show LCt.CompSrcT _ _ _ _ _ _ _ _ _ _ _ _ _ _ _)); (fail_if_success (with_reducible show wpAny _ _ (eval (Expr.ListComp _ _ _ _) _) _ _ _)); (fail_if_success (with_reducible show wpAny _ _ (exec (Stmt.Assign _ (Expr.ListComp _ _ _ _) _) _) _ _ _)); (fail_if_success (with_reducible show wpAny _ _ (storeName _ (Str.ofString "places") _) _ _ _)); (fail_if_success (with_reducible show wpAny _ _ (compareOp CmpOp.Eq (Value.str _ _) (Value.str _ _)) _ _ _)); (fail_if_success (with_reducible show wpAny _ _ (compareOp CmpOp.Eq (Value.ref _) (Value.ref _)) _ _ _)); (fail_if_success (with_reducible show wpAny _ _ (compareOp CmpOp.NotEq (Value.ref _) (Value.ref _)) _ _ _)); (fail_if_success (with_reducible show wpAny _ _ (call (Value.builtin "list.extend") _) _ _ _)); (fail_if_success (with_reducible show wpAny _ _ (call (Value.ref _) _) _ _ _)); (fail_if_success (with_reducible show wpAny _ _ (isTrue (Expr.BoolOp BoolOp.Or _ _) _ _) (fun b s₂ => if b = true then _ else _) _ _)); (fail_if_success (with_reducible show OrEnd _ _ _ _)); (fail_if_success (with_reducible show CsSrc _ _ _ _ _ _ _ _ _ _ _ _ _ _ _)); (fail_if_success (with_reducible show CnSrc _ _ _ _ _ _ _ _ _ _ _ _ _ _ _)); (fail_if_success (with_reducible show LCg.CompEnd _ _ _ _ _ _ _ _ _ _ _ _ _ _)); first | ((with_reducible show wpAny _ _ (call (Value.builtin "sum") [Value.ref _]) _ _ _); k_dflt (refine' sum_eq ?k0 ?k1 ?k2 ?k3 ?k4 ?k5 ?_; (case k0 => rfl); (case k1 => k_asm); (case k2 => k_asm); (case k3 => k_mem); (case k4 => with_reducible assumption); (case k5 => with_reducible assumption); k_whole); intro m_h9 m_tk9 m_t9 m_F9 m_N9) | ((with_reducible show wpAny _ _ (subscriptTail _ (Expr.Slice (some _) none none _) (Value.str _ _) _) _ _ _); (with_reducible rename Fr _ _ _ _ => m_F'); (with_reducible rename News _ _ _ _ => m_N'); refine str_from (s := ⟨_, _, _, _, _⟩) m_F' m_N' (by omega) (by omega) ?_; intro m_z' m_h' m_t' m_c' m_hz' m_hzl' m_F' m_N') | ((with_reducible show wpAny _ _ (subscriptTail _ _ (Value.ref _) (Value.int _ _)) _ _ _); k_dflt (refine' sub_atE ?k1 ?k2 ?k3 ?kk ?k4 ?k5 ?k7 ?_ ?k6; (case k1 => k_asm); (case k2 => k_mem); (case k3 => with_reducible assumption); (case kk => first | with_reducible assumption | exact rfl); (case k4 => omega); (case k5 => omega); (case k7 => omega); (case k6 => with_unfolding_all rfl); k_whole); intro _) | ((with_reducible show wpAny _ _ (compareOp CmpOp.NotEq (Value.str _ _) (Value.str _ _)) _ _ _); refine cmp_same ?_) | (k_here; (with_reducible show wpAny _ _ (call (Value.builtin "len") [Value.ref _]) _ _ _); (refine KM.len_K (by k_asm) (by k_dflt k_mem) (by with_reducible assumption) (by omega) ?_)) | ((with_reducible show wpAny _ _ (subscriptTail _ (Expr.Slice none (some _) none _) (Value.str _ _) _) _ _ _); (with_reducible rename Fr _ _ _ _ => m_F'); (with_reducible rename News _ _ _ _ => m_N'); refine str_to (s := ⟨_, _, _, _, _⟩) m_F' m_N' (by omega) (by omega) ?_; intro m_z' m_h' m_t' m_c' m_hz' m_hzl' m_F' m_N') | ((with_reducible show wpAny _ _ (binaryOp Operator.Add (Value.str _ _) (Value.str _ _)) _ _ _); refine str_add (by omega) ?_; intro m_z' m_t' m_k' m_hz' m_hzl') | ((with_reducible show wpAny _ _ (call (Value.builtin "str.join") [Value.str _ _, Value.ref _]) _ _ _); k_dflt (refine' join_ls ?k1 ?k2 ?k3 ?k4 ?k5 ?k6 ?_; (case k1 => k_asm); (case k2 => k_mem); (case k3 => with_reducible assumption); (case k4 => with_reducible assumption); (case k5 => with_reducible assumption); (case k6 => with_reducible assumption); k_whole); intro _ _) | ((with_reducible show wpAny _ _ (call (Value.builtin "sum") [Value.ref _]) _ _ _); k_dflt (refine' sum_pick ?k0 ?k1 ?k2 ?k3 ?_; (case k0 => rfl); (case k1 => k_asm); (case k2 => k_asm); (case k3 => with_reducible assumption); k_whole); intro m_ks9 m_h9 m_tk9 m_t9 m_F9 m_N9) | walk1 | (dsimp only; walk1) | (leave1; walk_say "STEP leave1"; try dsimp only)) | fail "no step"))
        walk1
        (repeat' (first | (k_unfold; (try dsimp only)) | (k_end; wrow_close) | ((fail_if_success (with_reducible show wpAny _ _ (exec (Stmt.For _ _ _ _ _) _) _ _ _)); (fail_if_success (with_reducible show wpAny _ _ (exec (Stmt.While _ _ _ _) _) _ _ _)); (fail_if_success (with_reducible show wpAny _ _ (pyIter _) _ _ _)); (fail_if_success (with_reducible show LCg.CompSrc _ _ _ _ _ _ _ _ _ _ _ _ _ _)); (fail_if_success (with_reducible show LCt.CompSrcT _ _ _ _ _ _ _ _ _ _ _ _ _ _ _)); (fail_if_success (with_reducible show wpAny _ _ (eval (Expr.ListComp _ _ _ _) _) _ _ _)); (fail_if_success (with_reducible show wpAny _ _ (exec (Stmt.Assign _ (Expr.ListComp _ _ _ _) _) _) _ _ _)); (fail_if_success (with_reducible show wpAny _ _ (storeName _ (Str.ofString "places") _) _ _ _)); (fail_if_success (with_reducible show wpAny _ _ (compareOp CmpOp.Eq (Value.str _ _) (Value.str _ _)) _ _ _)); (fail_if_success (with_reducible show wpAny _ _ (compareOp CmpOp.Eq (Value.ref _) (Value.ref _)) _ _ _)); (fail_if_success (with_reducible show wpAny _ _ (compareOp CmpOp.NotEq (Value.ref _) (Value.ref _)) _ _ _)); (fail_if_success (with_reducible show wpAny _ _ (call (Value.builtin "list.extend") _) _ _ _)); (fail_if_success (with_reducible show wpAny _ _ (call (Value.ref _) _) _ _ _)); (fail_if_success (with_reducible show wpAny _ _ (isTrue (Expr.BoolOp BoolOp.Or _ _) _ _) (fun b s₂ => if b = true then _ else _) _ _)); (fail_if_success (with_reducible show OrEnd _ _ _ _)); (fail_if_success (with_reducible show CsSrc _ _ _ _ _ _ _ _ _ _ _ _ _ _ _)); (fail_if_success (with_reducible show CnSrc _ _ _ _ _ _ _ _ _ _ _ _ _ _ _)); (fail_if_success (with_reducible show LCg.CompEnd _ _ _ _ _ _ _ _ _ _ _ _ _ _)); first | ((with_reducible show wpAny _ _ (call (Value.builtin "sum") [Value.ref _]) _ _ _); k_dflt (refine' sum_eq ?k0 ?k1 ?k2 ?k3 ?k4 ?k5 ?_; (case k0 => rfl); (case k1 => k_asm); (case k2 => k_asm); (case k3 => k_mem); (case k4 => with_reducible assumption); (case k5 => with_reducible assumption); k_whole); intro m_h9 m_tk9 m_t9 m_F9 m_N9) | ((with_reducible show wpAny _ _ (subscriptTail _ (Expr.Slice (some _) none none _) (Value.str _ _) _) _ _ _); (with_reducible rename Fr _ _ _ _ => m_F'); (with_reducible rename News _ _ _ _ => m_N'); refine str_from (s := ⟨_, _, _, _, _⟩) m_F' m_N' (by omega) (by omega) ?_; intro m_z' m_h' m_t' m_c' m_hz' m_hzl' m_F' m_N') | ((with_reducible show wpAny _ _ (subscriptTail _ _ (Value.ref _) (Value.int _ _)) _ _ _); k_dflt (refine' sub_atE ?k1 ?k2 ?k3 ?kk ?k4 ?k5 ?k7 ?_ ?k6; (case k1 => k_asm); (case k2 => k_mem); (case k3 => with_reducible assumption); (case kk => first | with_reducible assumption | exact rfl); (case k4 => omega); (case k5 => omega); (case k7 => omega); (case k6 => with_unfolding_all rfl); k_whole); intro _) | ((with_reducible show wpAny _ _ (compareOp CmpOp.NotEq (Value.str _ _) (Value.str _ _)) _ _ _); refine cmp_same ?_) | (k_here; (with_reducible show wpAny _ _ (call (Value.builtin "len") [Value.ref _]) _ _ _); (refine KM.len_K (by k_asm) (by k_dflt k_mem) (by with_reducible assumption) (by omega) ?_)) | ((with_reducible show wpAny _ _ (subscriptTail _ (Expr.Slice none (some _) none _) (Value.str _ _) _) _ _ _); (with_reducible rename Fr _ _ _ _ => m_F'); (with_reducible rename News _ _ _ _ => m_N'); refine str_to (s := ⟨_, _, _, _, _⟩) m_F' m_N' (by omega) (by omega) ?_; intro m_z' m_h' m_t' m_c' m_hz' m_hzl' m_F' m_N') | ((with_reducible show wpAny _ _ (binaryOp Operator.Add (Value.str _ _) (Value.str _ _)) _ _ _); refine str_add (by omega) ?_; intro m_z' m_t' m_k' m_hz' m_hzl') | ((with_reducible show wpAny _ _ (call (Value.builtin "str.join") [Value.str _ _, Value.ref _]) _ _ _); k_dflt (refine' join_ls ?k1 ?k2 ?k3 ?k4 ?k5 ?k6 ?_; (case k1 => k_asm); (case k2 => k_mem); (case k3 => with_reducible assumption); (case k4 => with_reducible assumption); (case k5 => with_reducible assumption); (case k6 => with_reducible assumption); k_whole); intro _ _) | ((with_reducible show wpAny _ _ (call (Value.builtin "sum") [Value.ref _]) _ _ _); k_dflt (refine' sum_pick ?k0 ?k1 ?k2 ?k3 ?_; (case k0 => rfl); (case k1 => k_asm); (case k2 => k_asm); (case k3 => with_reducible assumption); k_whole); intro m_ks9 m_h9 m_tk9 m_t9 m_F9 m_N9) | walk1 | (dsimp only; walk1) | (leave1; walk_say "STEP leave1"; try dsimp only)) | fail "no step"))
        k_dflt (refine' use_lon hx1000  ?k1d ?k2d ?k3d ?k4d ?k5d ?kkd ?kdd ?kud ?_; (case k4d => k_asm); (case k1d => k_asm); (case k2d => k_asm); (case k3d => k_asm); (case k5d => k_asm); (case kkd => exact rfl); (case kdd => first | ktr_room | omega); (case kud => first | ktr_units | omega))
        intro a7 vs7 n7 ts7 h7 tk7 F7 N7 l6 hi7 ht7
        dsimp only [AllLt] at l6
        (repeat' (first | (k_unfold; (try dsimp only)) | (k_end; wrow_close) | ((fail_if_success (with_reducible show wpAny _ _ (exec (Stmt.For _ _ _ _ _) _) _ _ _)); (fail_if_success (with_reducible show wpAny _ _ (exec (Stmt.While _ _ _ _) _) _ _ _)); (fail_if_success (with_reducible show wpAny _ _ (pyIter _) _ _ _)); (fail_if_success (with_reducible show LCg.CompSrc _ _ _ _ _ _ _ _ _ _ _ _ _ _)); (fail_if_success (with_reducible show LCt.CompSrcT _ _ _ _ _ _ _ _ _ _ _ _ _ _ _)); (fail_if_success (with_reducible show wpAny _ _ (eval (Expr.ListComp _ _ _ _) _) _ _ _)); (fail_if_success (with_reducible show wpAny _ _ (exec (Stmt.Assign _ (Expr.ListComp _ _ _ _) _) _) _ _ _)); (fail_if_success (with_reducible show wpAny _ _ (storeName _ (Str.ofString "places") _) _ _ _)); (fail_if_success (with_reducible show wpAny _ _ (compareOp CmpOp.Eq (Value.str _ _) (Value.str _ _)) _ _ _)); (fail_if_success (with_reducible show wpAny _ _ (compareOp CmpOp.Eq (Value.ref _) (Value.ref _)) _ _ _)); (fail_if_success (with_reducible show wpAny _ _ (compareOp CmpOp.NotEq (Value.ref _) (Value.ref _)) _ _ _)); (fail_if_success (with_reducible show wpAny _ _ (call (Value.builtin "list.extend") _) _ _ _)); (fail_if_success (with_reducible show wpAny _ _ (call (Value.ref _) _) _ _ _)); (fail_if_success (with_reducible show wpAny _ _ (isTrue (Expr.BoolOp BoolOp.Or _ _) _ _) (fun b s₂ => if b = true then _ else _) _ _)); (fail_if_success (with_reducible show OrEnd _ _ _ _)); (fail_if_success (with_reducible show CsSrc _ _ _ _ _ _ _ _ _ _ _ _ _ _ _)); (fail_if_success (with_reducible show CnSrc _ _ _ _ _ _ _ _ _ _ _ _ _ _ _)); (fail_if_success (with_reducible show LCg.CompEnd _ _ _ _ _ _ _ _ _ _ _ _ _ _)); first | ((with_reducible show wpAny _ _ (call (Value.builtin "sum") [Value.ref _]) _ _ _); k_dflt (refine' sum_eq ?k0 ?k1 ?k2 ?k3 ?k4 ?k5 ?_; (case k0 => rfl); (case k1 => k_asm); (case k2 => k_asm); (case k3 => k_mem); (case k4 => with_reducible assumption); (case k5 => with_reducible assumption); k_whole); intro m_h9 m_tk9 m_t9 m_F9 m_N9) | ((with_reducible show wpAny _ _ (subscriptTail _ (Expr.Slice (some _) none none _) (Value.str _ _) _) _ _ _); (with_reducible rename Fr _ _ _ _ => m_F'); (with_reducible rename News _ _ _ _ => m_N'); refine str_from (s := ⟨_, _, _, _, _⟩) m_F' m_N' (by omega) (by omega) ?_; intro m_z' m_h' m_t' m_c' m_hz' m_hzl' m_F' m_N') | ((with_reducible show wpAny _ _ (subscriptTail _ _ (Value.ref _) (Value.int _ _)) _ _ _); k_dflt (refine' sub_atE ?k1 ?k2 ?k3 ?kk ?k4 ?k5 ?k7 ?_ ?k6; (case k1 => k_asm); (case k2 => k_mem); (case k3 => with_reducible assumption); (case kk => first | with_reducible assumption | exact rfl); (case k4 => omega); (case k5 => omega); (case k7 => omega); (case k6 => with_unfolding_all rfl); k_whole); intro _) | ((with_reducible show wpAny _ _ (compareOp CmpOp.NotEq (Value.str _ _) (Value.str _ _)) _ _ _); refine cmp_same ?_) | (k_here; (with_reducible show wpAny _ _ (call (Value.builtin "len") [Value.ref _]) _ _ _); (refine KM.len_K (by k_asm) (by k_dflt k_mem) (by with_reducible assumption) (by omega) ?_)) | ((with_reducible show wpAny _ _ (subscriptTail _ (Expr.Slice none (some _) none _) (Value.str _ _) _) _ _ _); (with_reducible rename Fr _ _ _ _ => m_F'); (with_reducible rename News _ _ _ _ => m_N'); refine str_to (s := ⟨_, _, _, _, _⟩) m_F' m_N' (by omega) (by omega) ?_; intro m_z' m_h' m_t' m_c' m_hz' m_hzl' m_F' m_N') | ((with_reducible show wpAny _ _ (binaryOp Operator.Add (Value.str _ _) (Value.str _ _)) _ _ _); refine str_add (by omega) ?_; intro m_z' m_t' m_k' m_hz' m_hzl') | ((with_reducible show wpAny _ _ (call (Value.builtin "str.join") [Value.str _ _, Value.ref _]) _ _ _); k_dflt (refine' join_ls ?k1 ?k2 ?k3 ?k4 ?k5 ?k6 ?_; (case k1 => k_asm); (case k2 => k_mem); (case k3 => with_reducible assumption); (case k4 => with_reducible assumption); (case k5 => with_reducible assumption); (case k6 => with_reducible assumption); k_whole); intro _ _) | ((with_reducible show wpAny _ _ (call (Value.builtin "sum") [Value.ref _]) _ _ _); k_dflt (refine' sum_pick ?k0 ?k1 ?k2 ?k3 ?_; (case k0 => rfl); (case k1 => k_asm); (case k2 => k_asm); (case k3 => with_reducible assumption); k_whole); intro m_ks9 m_h9 m_tk9 m_t9 m_F9 m_N9) | walk1 | (dsimp only; walk1) | (leave1; walk_say "STEP leave1"; try dsimp only)) | fail "no step"))
        refine ne_tabs (by k_asm) (by k_mem) (by k_mem) (by with_reducible assumption) (by with_reducible assumption) (by with_reducible assumption) (by with_reducible assumption) (by ktr_units) ?_
        (repeat' (first | (k_unfold; (try dsimp only)) | (k_end; wrow_close) | ((fail_if_success (with_reducible show wpAny _ _ (exec (Stmt.For _ _ _ _ _) _) _ _ _)); (fail_if_success (with_reducible show wpAny _ _ (exec (Stmt.While _ _ _ _) _) _ _ _)); (fail_if_success (with_reducible show wpAny _ _ (pyIter _) _ _ _)); (fail_if_success (with_reducible show LCg.CompSrc _ _ _ _ _ _ _ _ _ _ _ _ _ _)); (fail_if_success (with_reducible show LCt.CompSrcT _ _ _ _ _ _ _ _ _ _ _ _ _ _ _)); (fail_if_success (with_reducible show wpAny _ _ (eval (Expr.ListComp _ _ _ _) _) _ _ _)); (fail_if_success (with_reducible show wpAny _ _ (exec (Stmt.Assign _ (Expr.ListComp _ _ _ _) _) _) _ _ _)); (fail_if_success (with_reducible show wpAny _ _ (storeName _ (Str.ofString "places") _) _ _ _)); (fail_if_success (with_reducible show wpAny _ _ (compareOp CmpOp.Eq (Value.str _ _) (Value.str _ _)) _ _ _)); (fail_if_success (with_reducible show wpAny _ _ (compareOp CmpOp.Eq (Value.ref _) (Value.ref _)) _ _ _)); (fail_if_success (with_reducible show wpAny _ _ (compareOp CmpOp.NotEq (Value.ref _) (Value.ref _)) _ _ _)); (fail_if_success (with_reducible show wpAny _ _ (call (Value.builtin "list.extend") _) _ _ _)); (fail_if_success (with_reducible show wpAny _ _ (call (Value.ref _) _) _ _ _)); (fail_if_success (with_reducible show wpAny _ _ (isTrue (Expr.BoolOp BoolOp.Or _ _) _ _) (fun b s₂ => if b = true then _ else _) _ _)); (fail_if_success (with_reducible show OrEnd _ _ _ _)); (fail_if_success (with_reducible show CsSrc _ _ _ _ _ _ _ _ _ _ _ _ _ _ _)); (fail_if_success (with_reducible show CnSrc _ _ _ _ _ _ _ _ _ _ _ _ _ _ _)); (fail_if_success (with_reducible show LCg.CompEnd _ _ _ _ _ _ _ _ _ _ _ _ _ _)); first | ((with_reducible show wpAny _ _ (call (Value.builtin "sum") [Value.ref _]) _ _ _); k_dflt (refine' sum_eq ?k0 ?k1 ?k2 ?k3 ?k4 ?k5 ?_; (case k0 => rfl); (case k1 => k_asm); (case k2 => k_asm); (case k3 => k_mem); (case k4 => with_reducible assumption); (case k5 => with_reducible assumption); k_whole); intro m_h9 m_tk9 m_t9 m_F9 m_N9) | ((with_reducible show wpAny _ _ (subscriptTail _ (Expr.Slice (some _) none none _) (Value.str _ _) _) _ _ _); (with_reducible rename Fr _ _ _ _ => m_F'); (with_reducible rename News _ _ _ _ => m_N'); refine str_from (s := ⟨_, _, _, _, _⟩) m_F' m_N' (by omega) (by omega) ?_; intro m_z' m_h' m_t' m_c' m_hz' m_hzl' m_F' m_N') | ((with_reducible show wpAny _ _ (subscriptTail _ _ (Value.ref _) (Value.int _ _)) _ _ _); k_dflt (refine' sub_atE ?k1 ?k2 ?k3 ?kk ?k4 ?k5 ?k7 ?_ ?k6; (case k1 => k_asm); (case k2 => k_mem); (case k3 => with_reducible assumption); (case kk => first | with_reducible assumption | exact rfl); (case k4 => omega); (case k5 => omega); (case k7 => omega); (case k6 => with_unfolding_all rfl); k_whole); intro _) | ((with_reducible show wpAny _ _ (compareOp CmpOp.NotEq (Value.str _ _) (Value.str _ _)) _ _ _); refine cmp_same ?_) | (k_here; (with_reducible show wpAny _ _ (call (Value.builtin "len") [Value.ref _]) _ _ _); (refine KM.len_K (by k_asm) (by k_dflt k_mem) (by with_reducible assumption) (by omega) ?_)) | ((with_reducible show wpAny _ _ (subscriptTail _ (Expr.Slice none (some _) none _) (Value.str _ _) _) _ _ _); (with_reducible rename Fr _ _ _ _ => m_F'); (with_reducible rename News _ _ _ _ => m_N'); refine str_to (s := ⟨_, _, _, _, _⟩) m_F' m_N' (by omega) (by omega) ?_; intro m_z' m_h' m_t' m_c' m_hz' m_hzl' m_F' m_N') | ((with_reducible show wpAny _ _ (binaryOp Operator.Add (Value.str _ _) (Value.str _ _)) _ _ _); refine str_add (by omega) ?_; intro m_z' m_t' m_k' m_hz' m_hzl') | ((with_reducible show wpAny _ _ (call (Value.builtin "str.join") [Value.str _ _, Value.ref _]) _ _ _); k_dflt (refine' join_ls ?k1 ?k2 ?k3 ?k4 ?k5 ?k6 ?_; (case k1 => k_asm); (case k2 => k_mem); (case k3 => with_reducible assumption); (case k4 => with_reducible assumption); (case k5 => with_reducible assumption); (case k6 => with_reducible assumption); k_whole); intro _ _) | ((with_reducible show wpAny _ _ (call (Value.builtin "sum") [Value.ref _]) _ _ _); k_dflt (refine' sum_pick ?k0 ?k1 ?k2 ?k3 ?_; (case k0 => rfl); (case k1 => k_asm); (case k2 => k_asm); (case k3 => with_reducible assumption); k_whole); intro m_ks9 m_h9 m_tk9 m_t9 m_F9 m_N9) | walk1 | (dsimp only; walk1) | (leave1; walk_say "STEP leave1"; try dsimp only)) | fail "no step"))
        walk1
        (repeat' (first | (k_unfold; (try dsimp only)) | (k_end; wrow_close) | ((fail_if_success (with_reducible show wpAny _ _ (exec (Stmt.For _ _ _ _ _) _) _ _ _)); (fail_if_success (with_reducible show wpAny _ _ (exec (Stmt.While _ _ _ _) _) _ _ _)); (fail_if_success (with_reducible show wpAny _ _ (pyIter _) _ _ _)); (fail_if_success (with_reducible show LCg.CompSrc _ _ _ _ _ _ _ _ _ _ _ _ _ _)); (fail_if_success (with_reducible show LCt.CompSrcT _ _ _ _ _ _ _ _ _ _ _ _ _ _ _)); (fail_if_success (with_reducible show wpAny _ _ (eval (Expr.ListComp _ _ _ _) _) _ _ _)); (fail_if_success (with_reducible show wpAny _ _ (exec (Stmt.Assign _ (Expr.ListComp _ _ _ _) _) _) _ _ _)); (fail_if_success (with_reducible show wpAny _ _ (storeName _ (Str.ofString "places") _) _ _ _)); (fail_if_success (with_reducible show wpAny _ _ (compareOp CmpOp.Eq (Value.str _ _) (Value.str _ _)) _ _ _)); (fail_if_success (with_reducible show wpAny _ _ (compareOp CmpOp.Eq (Value.ref _) (Value.ref _)) _ _ _)); (fail_if_success (with_reducible show wpAny _ _ (compareOp CmpOp.NotEq (Value.ref _) (Value.ref _)) _ _ _)); (fail_if_success (with_reducible show wpAny _ _ (call (Value.builtin "list.extend") _) _ _ _)); (fail_if_success (with_reducible show wpAny _ _ (call (Value.ref _) _) _ _ _)); (fail_if_success (with_reducible show wpAny _ _ (isTrue (Expr.BoolOp BoolOp.Or _ _) _ _) (fun b s₂ => if b = true then _ else _) _ _)); (fail_if_success (with_reducible show OrEnd _ _ _ _)); (fail_if_success (with_reducible show CsSrc _ _ _ _ _ _ _ _ _ _ _ _ _ _ _)); (fail_if_success (with_reducible show CnSrc _ _ _ _ _ _ _ _ _ _ _ _ _ _ _)); (fail_if_success (with_reducible show LCg.CompEnd _ _ _ _ _ _ _ _ _ _ _ _ _ _)); first | ((with_reducible show wpAny _ _ (call (Value.builtin "sum") [Value.ref _]) _ _ _); k_dflt (refine' sum_eq ?k0 ?k1 ?k2 ?k3 ?k4 ?k5 ?_; (case k0 => rfl); (case k1 => k_asm); (case k2 => k_asm); (case k3 => k_mem); (case k4 => with_reducible assumption); (case k5 => with_reducible assumption); k_whole); intro m_h9 m_tk9 m_t9 m_F9 m_N9) | ((with_reducible show wpAny _ _ (subscriptTail _ (Expr.Slice (some _) none none _) (Value.str _ _) _) _ _ _); (with_reducible rename Fr _ _ _ _ => m_F'); (with_reducible rename News _ _ _ _ => m_N'); refine str_from (s := ⟨_, _, _, _, _⟩) m_F' m_N' (by omega) (by omega) ?_; intro m_z' m_h' m_t' m_c' m_hz' m_hzl' m_F' m_N') | ((with_reducible show wpAny _ _ (subscriptTail _ _ (Value.ref _) (Value.int _ _)) _ _ _); k_dflt (refine' sub_atE ?k1 ?k2 ?k3 ?kk ?k4 ?k5 ?k7 ?_ ?k6; (case k1 => k_asm); (case k2 => k_mem); (case k3 => with_reducible assumption); (case kk => first | with_reducible assumption | exact rfl); (case k4 => omega); (case k5 => omega); (case k7 => omega); (case k6 => with_unfolding_all rfl); k_whole); intro _) | ((with_reducible show wpAny _ _ (compareOp CmpOp.NotEq (Value.str _ _) (Value.str _ _)) _ _ _); refine cmp_same ?_) | (k_here; (with_reducible show wpAny _ _ (call (Value.builtin "len") [Value.ref _]) _ _ _); (refine KM.len_K (by k_asm) (by k_dflt k_mem) (by with_reducible assumption) (by omega) ?_)) | ((with_reducible show wpAny _ _ (subscriptTail _ (Expr.Slice none (some _) none _) (Value.str _ _) _) _ _ _); (with_reducible rename Fr _ _ _ _ => m_F'); (with_reducible rename News _ _ _ _ => m_N'); refine str_to (s := ⟨_, _, _, _, _⟩) m_F' m_N' (by omega) (by omega) ?_; intro m_z' m_h' m_t' m_c' m_hz' m_hzl' m_F' m_N') | ((with_reducible show wpAny _ _ (binaryOp Operator.Add (Value.str _ _) (Value.str _ _)) _ _ _); refine str_add (by omega) ?_; intro m_z' m_t' m_k' m_hz' m_hzl') | ((with_reducible show wpAny _ _ (call (Value.builtin "str.join") [Value.str _ _, Value.ref _]) _ _ _); k_dflt (refine' join_ls ?k1 ?k2 ?k3 ?k4 ?k5 ?k6 ?_; (case k1 => k_asm); (case k2 => k_mem); (case k3 => with_reducible assumption); (case k4 => with_reducible assumption); (case k5 => with_reducible assumption); (case k6 => with_reducible assumption); k_whole); intro _ _) | ((with_reducible show wpAny _ _ (call (Value.builtin "sum") [Value.ref _]) _ _ _); k_dflt (refine' sum_pick ?k0 ?k1 ?k2 ?k3 ?_; (case k0 => rfl); (case k1 => k_asm); (case k2 => k_asm); (case k3 => with_reducible assumption); k_whole); intro m_ks9 m_h9 m_tk9 m_t9 m_F9 m_N9) | walk1 | (dsimp only; walk1) | (leave1; walk_say "STEP leave1"; try dsimp only)) | fail "no step"))
        have hz0 : (0 : Int) < (ts9.length : Int) := by omega
        have hz1 : (ts9.length : Int) ≤ (ow.cps.toList.length : Int) := by omega
        k_dflt (refine' use_two hi9 ht9 hc1000 hz0 hz1 ?kme ?k1e ?k2e ?k3e ?k4e ?k5e ?kke ?kde ?kue ?_; (case k4e => k_asm); (case kme => k_mem); (case k1e => k_asm); (case k2e => k_asm); (case k3e => k_asm); (case k5e => k_asm); (case kke => exact rfl); (case kde => first | ktr_room | omega); (case kue => first | ktr_units | omega))
        intro b9 us9 m9 rr h9 tk9 F9 N9 l4 hi5 hS
        dsimp only [OffQ] at l4
        repeat (have := And.left l4; replace l4 := And.right l4)
        have hl5 := hS.1
        have hl4 : us9.toArray.size = rr.length := by rw [List.size_toArray]; exact hi5.length
        (repeat' (first | (k_unfold; (try dsimp only)) | (k_end; wrow_close) | ((fail_if_success (with_reducible show wpAny _ _ (exec (Stmt.For _ _ _ _ _) _) _ _ _)); (fail_if_success (with_reducible show wpAny _ _ (exec (Stmt.While _ _ _ _) _) _ _ _)); (fail_if_success (with_reducible show wpAny _ _ (pyIter _) _ _ _)); (fail_if_success (with_reducible show LCg.CompSrc _ _ _ _ _ _ _ _ _ _ _ _ _ _)); (fail_if_success (with_reducible show LCt.CompSrcT _ _ _ _ _ _ _ _ _ _ _ _ _ _ _)); (fail_if_success (with_reducible show wpAny _ _ (eval (Expr.ListComp _ _ _ _) _) _ _ _)); (fail_if_success (with_reducible show wpAny _ _ (exec (Stmt.Assign _ (Expr.ListComp _ _ _ _) _) _) _ _ _)); (fail_if_success (with_reducible show wpAny _ _ (storeName _ (Str.ofString "places") _) _ _ _)); (fail_if_success (with_reducible show wpAny _ _ (compareOp CmpOp.Eq (Value.str _ _) (Value.str _ _)) _ _ _)); (fail_if_success (with_reducible show wpAny _ _ (compareOp CmpOp.Eq (Value.ref _) (Value.ref _)) _ _ _)); (fail_if_success (with_reducible show wpAny _ _ (compareOp CmpOp.NotEq (Value.ref _) (Value.ref _)) _ _ _)); (fail_if_success (with_reducible show wpAny _ _ (call (Value.builtin "list.extend") _) _ _ _)); (fail_if_success (with_reducible show wpAny _ _ (call (Value.ref _) _) _ _ _)); (fail_if_success (with_reducible show wpAny _ _ (isTrue (Expr.BoolOp BoolOp.Or _ _) _ _) (fun b s₂ => if b = true then _ else _) _ _)); (fail_if_success (with_reducible show OrEnd _ _ _ _)); (fail_if_success (with_reducible show CsSrc _ _ _ _ _ _ _ _ _ _ _ _ _ _ _)); (fail_if_success (with_reducible show CnSrc _ _ _ _ _ _ _ _ _ _ _ _ _ _ _)); (fail_if_success (with_reducible show LCg.CompEnd _ _ _ _ _ _ _ _ _ _ _ _ _ _)); first | ((with_reducible show wpAny _ _ (call (Value.builtin "sum") [Value.ref _]) _ _ _); k_dflt (refine' sum_eq ?k0 ?k1 ?k2 ?k3 ?k4 ?k5 ?_; (case k0 => rfl); (case k1 => k_asm); (case k2 => k_asm); (case k3 => k_mem); (case k4 => with_reducible assumption); (case k5 => with_reducible assumption); k_whole); intro m_h9 m_tk9 m_t9 m_F9 m_N9) | ((with_reducible show wpAny _ _ (subscriptTail _ (Expr.Slice (some _) none none _) (Value.str _ _) _) _ _ _); (with_reducible rename Fr _ _ _ _ => m_F'); (with_reducible rename News _ _ _ _ => m_N'); refine str_from (s := ⟨_, _, _, _, _⟩) m_F' m_N' (by omega) (by omega) ?_; intro m_z' m_h' m_t' m_c' m_hz' m_hzl' m_F' m_N') | ((with_reducible show wpAny _ _ (subscriptTail _ _ (Value.ref _) (Value.int _ _)) _ _ _); k_dflt (refine' sub_atE ?k1 ?k2 ?k3 ?kk ?k4 ?k5 ?k7 ?_ ?k6; (case k1 => k_asm); (case k2 => k_mem); (case k3 => with_reducible assumption); (case kk => first | with_reducible assumption | exact rfl); (case k4 => omega); (case k5 => omega); (case k7 => omega); (case k6 => with_unfolding_all rfl); k_whole); intro _) | ((with_reducible show wpAny _ _ (compareOp CmpOp.NotEq (Value.str _ _) (Value.str _ _)) _ _ _); refine cmp_same ?_) | (k_here; (with_reducible show wpAny _ _ (call (Value.builtin "len") [Value.ref _]) _ _ _); (refine KM.len_K (by k_asm) (by k_dflt k_mem) (by with_reducible assumption) (by omega) ?_)) | ((with_reducible show wpAny _ _ (subscriptTail _ (Expr.Slice none (some _) none _) (Value.str _ _) _) _ _ _); (with_reducible rename Fr _ _ _ _ => m_F'); (with_reducible rename News _ _ _ _ => m_N'); refine str_to (s := ⟨_, _, _, _, _⟩) m_F' m_N' (by omega) (by omega) ?_; intro m_z' m_h' m_t' m_c' m_hz' m_hzl' m_F' m_N') | ((with_reducible show wpAny _ _ (binaryOp Operator.Add (Value.str _ _) (Value.str _ _)) _ _ _); refine str_add (by omega) ?_; intro m_z' m_t' m_k' m_hz' m_hzl') | ((with_reducible show wpAny _ _ (call (Value.builtin "str.join") [Value.str _ _, Value.ref _]) _ _ _); k_dflt (refine' join_ls ?k1 ?k2 ?k3 ?k4 ?k5 ?k6 ?_; (case k1 => k_asm); (case k2 => k_mem); (case k3 => with_reducible assumption); (case k4 => with_reducible assumption); (case k5 => with_reducible assumption); (case k6 => with_reducible assumption); k_whole); intro _ _) | ((with_reducible show wpAny _ _ (call (Value.builtin "sum") [Value.ref _]) _ _ _); k_dflt (refine' sum_pick ?k0 ?k1 ?k2 ?k3 ?_; (case k0 => rfl); (case k1 => k_asm); (case k2 => k_asm); (case k3 => with_reducible assumption); k_whole); intro m_ks9 m_h9 m_tk9 m_t9 m_F9 m_N9) | walk1 | (dsimp only; walk1) | (leave1; walk_say "STEP leave1"; try dsimp only)) | fail "no step"))
        have hrl : rr.length = ow.length := by have := hS.1; omega
        rename Fr _ _ _ _ => F5
        refine for_tj F5 ?_
        (repeat' (first | (k_unfold; (try dsimp only)) | (k_end; wrow_close) | ((fail_if_success (with_reducible show wpAny _ _ (exec (Stmt.For _ _ _ _ _) _) _ _ _)); (fail_if_success (with_reducible show wpAny _ _ (exec (Stmt.While _ _ _ _) _) _ _ _)); (fail_if_success (with_reducible show wpAny _ _ (pyIter _) _ _ _)); (fail_if_success (with_reducible show LCg.CompSrc _ _ _ _ _ _ _ _ _ _ _ _ _ _)); (fail_if_success (with_reducible show LCt.CompSrcT _ _ _ _ _ _ _ _ _ _ _ _ _ _ _)); (fail_if_success (with_reducible show wpAny _ _ (eval (Expr.ListComp _ _ _ _) _) _ _ _)); (fail_if_success (with_reducible show wpAny _ _ (exec (Stmt.Assign _ (Expr.ListComp _ _ _ _) _) _) _ _ _)); (fail_if_success (with_reducible show wpAny _ _ (storeName _ (Str.ofString "places") _) _ _ _)); (fail_if_success (with_reducible show wpAny _ _ (compareOp CmpOp.Eq (Value.str _ _) (Value.str _ _)) _ _ _)); (fail_if_success (with_reducible show wpAny _ _ (compareOp CmpOp.Eq (Value.ref _) (Value.ref _)) _ _ _)); (fail_if_success (with_reducible show wpAny _ _ (compareOp CmpOp.NotEq (Value.ref _) (Value.ref _)) _ _ _)); (fail_if_success (with_reducible show wpAny _ _ (call (Value.builtin "list.extend") _) _ _ _)); (fail_if_success (with_reducible show wpAny _ _ (call (Value.ref _) _) _ _ _)); (fail_if_success (with_reducible show wpAny _ _ (isTrue (Expr.BoolOp BoolOp.Or _ _) _ _) (fun b s₂ => if b = true then _ else _) _ _)); (fail_if_success (with_reducible show OrEnd _ _ _ _)); (fail_if_success (with_reducible show CsSrc _ _ _ _ _ _ _ _ _ _ _ _ _ _ _)); (fail_if_success (with_reducible show CnSrc _ _ _ _ _ _ _ _ _ _ _ _ _ _ _)); (fail_if_success (with_reducible show LCg.CompEnd _ _ _ _ _ _ _ _ _ _ _ _ _ _)); first | ((with_reducible show wpAny _ _ (call (Value.builtin "sum") [Value.ref _]) _ _ _); k_dflt (refine' sum_eq ?k0 ?k1 ?k2 ?k3 ?k4 ?k5 ?_; (case k0 => rfl); (case k1 => k_asm); (case k2 => k_asm); (case k3 => k_mem); (case k4 => with_reducible assumption); (case k5 => with_reducible assumption); k_whole); intro m_h9 m_tk9 m_t9 m_F9 m_N9) | ((with_reducible show wpAny _ _ (subscriptTail _ (Expr.Slice (some _) none none _) (Value.str _ _) _) _ _ _); (with_reducible rename Fr _ _ _ _ => m_F'); (with_reducible rename News _ _ _ _ => m_N'); refine str_from (s := ⟨_, _, _, _, _⟩) m_F' m_N' (by omega) (by omega) ?_; intro m_z' m_h' m_t' m_c' m_hz' m_hzl' m_F' m_N') | ((with_reducible show wpAny _ _ (subscriptTail _ _ (Value.ref _) (Value.int _ _)) _ _ _); k_dflt (refine' sub_atE ?k1 ?k2 ?k3 ?kk ?k4 ?k5 ?k7 ?_ ?k6; (case k1 => k_asm); (case k2 => k_mem); (case k3 => with_reducible assumption); (case kk => first | with_reducible assumption | exact rfl); (case k4 => omega); (case k5 => omega); (case k7 => omega); (case k6 => with_unfolding_all rfl); k_whole); intro _) | ((with_reducible show wpAny _ _ (compareOp CmpOp.NotEq (Value.str _ _) (Value.str _ _)) _ _ _); refine cmp_same ?_) | (k_here; (with_reducible show wpAny _ _ (call (Value.builtin "len") [Value.ref _]) _ _ _); (refine KM.len_K (by k_asm) (by k_dflt k_mem) (by with_reducible assumption) (by omega) ?_)) | ((with_reducible show wpAny _ _ (subscriptTail _ (Expr.Slice none (some _) none _) (Value.str _ _) _) _ _ _); (with_reducible rename Fr _ _ _ _ => m_F'); (with_reducible rename News _ _ _ _ => m_N'); refine str_to (s := ⟨_, _, _, _, _⟩) m_F' m_N' (by omega) (by omega) ?_; intro m_z' m_h' m_t' m_c' m_hz' m_hzl' m_F' m_N') | ((with_reducible show wpAny _ _ (binaryOp Operator.Add (Value.str _ _) (Value.str _ _)) _ _ _); refine str_add (by omega) ?_; intro m_z' m_t' m_k' m_hz' m_hzl') | ((with_reducible show wpAny _ _ (call (Value.builtin "str.join") [Value.str _ _, Value.ref _]) _ _ _); k_dflt (refine' join_ls ?k1 ?k2 ?k3 ?k4 ?k5 ?k6 ?_; (case k1 => k_asm); (case k2 => k_mem); (case k3 => with_reducible assumption); (case k4 => with_reducible assumption); (case k5 => with_reducible assumption); (case k6 => with_reducible assumption); k_whole); intro _ _) | ((with_reducible show wpAny _ _ (call (Value.builtin "sum") [Value.ref _]) _ _ _); k_dflt (refine' sum_pick ?k0 ?k1 ?k2 ?k3 ?_; (case k0 => rfl); (case k1 => k_asm); (case k2 => k_asm); (case k3 => with_reducible assumption); k_whole); intro m_ks9 m_h9 m_tk9 m_t9 m_F9 m_N9) | walk1 | (dsimp only; walk1) | (leave1; walk_say "STEP leave1"; try dsimp only)) | fail "no step"))
        rename IsRange _ _ _ _ _ _ _ _ => R5
        rename Fr _ _ _ _ => F6
        rename News _ _ _ _ => N6
        refine tj_C (rr := rr) (n := (rr.length + 8) / 9) (by rfl) R5 (small9 (by omega)) (size9 _) F6 N6
          (InvC.intro .nil hL (by with_unfolding_all assumption) (fr2 (by rfl) (by rfl))) ?_ ?_
        · intro i tI vsS cS oL6 oK6 u6 vL6 vK6 h6 tk6 own6 hin6 hiS hL6 hK6 hoff6 F7 N7
          have hi9 : 9 * i < rr.length := by omega
          have hi3 : i < 3 := by omega
          have hi27 : 9 * i ≤ 27 := by omega
          have hdv : (0 + (i : Int) * 9).fdiv 9 = (i : Int) := by rw [Int.zero_add]; exact Int.mul_fdiv_cancel _ (by decide)
          obtain ⟨RR, hRR⟩ : ∃ R, ((rangeKs 0 9).foldl (rgG rr (0 + (i : Int) * 9)) []).sum = R := ⟨_, rfl⟩
          obtain ⟨hRa, hRb, hRc⟩ := rights_at rr i hRR
          obtain ⟨nn, hnn⟩ : ∃ n, ns9.getD ((0 + (i : Int) * 9).fdiv 9).toNat 0 = n := ⟨_, rfl⟩
          have hnb : 0 ≤ nn ∧ nn < 8388608 := by
            rw [hdv, Int.toNat_natCast, List.getD_eq_getElem?_getD, List.getElem?_eq_getElem (by omega)] at hnn
            rw [← hnn]
            exact hR9 _ (List.getElem_mem _)
          obtain ⟨hn0, hn1⟩ := hnb
          have hmo0 : 0 ≤ 512 * nn + RR := by omega
          have hmo1 : 512 * nn + RR < 2 ^ 40 := by omega
          (repeat' (first | (k_unfold; (try dsimp only)) | (k_end; wrow_close) | ((fail_if_success (with_reducible show wpAny _ _ (exec (Stmt.For _ _ _ _ _) _) _ _ _)); (fail_if_success (with_reducible show wpAny _ _ (exec (Stmt.While _ _ _ _) _) _ _ _)); (fail_if_success (with_reducible show wpAny _ _ (pyIter _) _ _ _)); (fail_if_success (with_reducible show LCg.CompSrc _ _ _ _ _ _ _ _ _ _ _ _ _ _)); (fail_if_success (with_reducible show LCt.CompSrcT _ _ _ _ _ _ _ _ _ _ _ _ _ _ _)); (fail_if_success (with_reducible show wpAny _ _ (eval (Expr.ListComp _ _ _ _) _) _ _ _)); (fail_if_success (with_reducible show wpAny _ _ (exec (Stmt.Assign _ (Expr.ListComp _ _ _ _) _) _) _ _ _)); (fail_if_success (with_reducible show wpAny _ _ (storeName _ (Str.ofString "places") _) _ _ _)); (fail_if_success (with_reducible show wpAny _ _ (compareOp CmpOp.Eq (Value.str _ _) (Value.str _ _)) _ _ _)); (fail_if_success (with_reducible show wpAny _ _ (compareOp CmpOp.Eq (Value.ref _) (Value.ref _)) _ _ _)); (fail_if_success (with_reducible show wpAny _ _ (compareOp CmpOp.NotEq (Value.ref _) (Value.ref _)) _ _ _)); (fail_if_success (with_reducible show wpAny _ _ (call (Value.builtin "list.extend") _) _ _ _)); (fail_if_success (with_reducible show wpAny _ _ (call (Value.ref _) _) _ _ _)); (fail_if_success (with_reducible show wpAny _ _ (isTrue (Expr.BoolOp BoolOp.Or _ _) _ _) (fun b s₂ => if b = true then _ else _) _ _)); (fail_if_success (with_reducible show OrEnd _ _ _ _)); (fail_if_success (with_reducible show CsSrc _ _ _ _ _ _ _ _ _ _ _ _ _ _ _)); (fail_if_success (with_reducible show CnSrc _ _ _ _ _ _ _ _ _ _ _ _ _ _ _)); (fail_if_success (with_reducible show LCg.CompEnd _ _ _ _ _ _ _ _ _ _ _ _ _ _)); first | ((with_reducible show wpAny _ _ (call (Value.builtin "sum") [Value.ref _]) _ _ _); k_dflt (refine' sum_eq ?k0 ?k1 ?k2 ?k3 ?k4 ?k5 ?_; (case k0 => rfl); (case k1 => k_asm); (case k2 => k_asm); (case k3 => k_mem); (case k4 => with_reducible assumption); (case k5 => with_reducible assumption); k_whole); intro m_h9 m_tk9 m_t9 m_F9 m_N9) | ((with_reducible show wpAny _ _ (subscriptTail _ (Expr.Slice (some _) none none _) (Value.str _ _) _) _ _ _); (with_reducible rename Fr _ _ _ _ => m_F'); (with_reducible rename News _ _ _ _ => m_N'); refine str_from (s := ⟨_, _, _, _, _⟩) m_F' m_N' (by omega) (by omega) ?_; intro m_z' m_h' m_t' m_c' m_hz' m_hzl' m_F' m_N') | ((with_reducible show wpAny _ _ (subscriptTail _ _ (Value.ref _) (Value.int _ _)) _ _ _); k_dflt (refine' sub_atE ?k1 ?k2 ?k3 ?kk ?k4 ?k5 ?k7 ?_ ?k6; (case k1 => k_asm); (case k2 => k_mem); (case k3 => with_reducible assumption); (case kk => first | with_reducible assumption | exact rfl); (case k4 => omega); (case k5 => omega); (case k7 => omega); (case k6 => with_unfolding_all rfl); k_whole); intro _) | ((with_reducible show wpAny _ _ (compareOp CmpOp.NotEq (Value.str _ _) (Value.str _ _)) _ _ _); refine cmp_same ?_) | (k_here; (with_reducible show wpAny _ _ (call (Value.builtin "len") [Value.ref _]) _ _ _); (refine KM.len_K (by k_asm) (by k_dflt k_mem) (by with_reducible assumption) (by omega) ?_)) | ((with_reducible show wpAny _ _ (subscriptTail _ (Expr.Slice none (some _) none _) (Value.str _ _) _) _ _ _); (with_reducible rename Fr _ _ _ _ => m_F'); (with_reducible rename News _ _ _ _ => m_N'); refine str_to (s := ⟨_, _, _, _, _⟩) m_F' m_N' (by omega) (by omega) ?_; intro m_z' m_h' m_t' m_c' m_hz' m_hzl' m_F' m_N') | ((with_reducible show wpAny _ _ (binaryOp Operator.Add (Value.str _ _) (Value.str _ _)) _ _ _); refine str_add (by omega) ?_; intro m_z' m_t' m_k' m_hz' m_hzl') | ((with_reducible show wpAny _ _ (call (Value.builtin "str.join") [Value.str _ _, Value.ref _]) _ _ _); k_dflt (refine' join_ls ?k1 ?k2 ?k3 ?k4 ?k5 ?k6 ?_; (case k1 => k_asm); (case k2 => k_mem); (case k3 => with_reducible assumption); (case k4 => with_reducible assumption); (case k5 => with_reducible assumption); (case k6 => with_reducible assumption); k_whole); intro _ _) | ((with_reducible show wpAny _ _ (call (Value.builtin "sum") [Value.ref _]) _ _ _); k_dflt (refine' sum_pick ?k0 ?k1 ?k2 ?k3 ?_; (case k0 => rfl); (case k1 => k_asm); (case k2 => k_asm); (case k3 => with_reducible assumption); k_whole); intro m_ks9 m_h9 m_tk9 m_t9 m_F9 m_N9) | walk1 | (dsimp only; walk1) | (leave1; walk_say "STEP leave1"; try dsimp only)) | fail "no step"))
          refine LCt.ListComp_T (F₀ := by k_asm) (by with_unfolding_all rfl) (by decide) (by rfl) (by decide) (by rfl) ?_
          (repeat' (first | (k_unfold; (try dsimp only)) | (k_end; wrow_close) | ((fail_if_success (with_reducible show wpAny _ _ (exec (Stmt.For _ _ _ _ _) _) _ _ _)); (fail_if_success (with_reducible show wpAny _ _ (exec (Stmt.While _ _ _ _) _) _ _ _)); (fail_if_success (with_reducible show wpAny _ _ (pyIter _) _ _ _)); (fail_if_success (with_reducible show LCg.CompSrc _ _ _ _ _ _ _ _ _ _ _ _ _ _)); (fail_if_success (with_reducible show LCt.CompSrcT _ _ _ _ _ _ _ _ _ _ _ _ _ _ _)); (fail_if_success (with_reducible show wpAny _ _ (eval (Expr.ListComp _ _ _ _) _) _ _ _)); (fail_if_success (with_reducible show wpAny _ _ (exec (Stmt.Assign _ (Expr.ListComp _ _ _ _) _) _) _ _ _)); (fail_if_success (with_reducible show wpAny _ _ (storeName _ (Str.ofString "places") _) _ _ _)); (fail_if_success (with_reducible show wpAny _ _ (compareOp CmpOp.Eq (Value.str _ _) (Value.str _ _)) _ _ _)); (fail_if_success (with_reducible show wpAny _ _ (compareOp CmpOp.Eq (Value.ref _) (Value.ref _)) _ _ _)); (fail_if_success (with_reducible show wpAny _ _ (compareOp CmpOp.NotEq (Value.ref _) (Value.ref _)) _ _ _)); (fail_if_success (with_reducible show wpAny _ _ (call (Value.builtin "list.extend") _) _ _ _)); (fail_if_success (with_reducible show wpAny _ _ (call (Value.ref _) _) _ _ _)); (fail_if_success (with_reducible show wpAny _ _ (isTrue (Expr.BoolOp BoolOp.Or _ _) _ _) (fun b s₂ => if b = true then _ else _) _ _)); (fail_if_success (with_reducible show OrEnd _ _ _ _)); (fail_if_success (with_reducible show CsSrc _ _ _ _ _ _ _ _ _ _ _ _ _ _ _)); (fail_if_success (with_reducible show CnSrc _ _ _ _ _ _ _ _ _ _ _ _ _ _ _)); (fail_if_success (with_reducible show LCg.CompEnd _ _ _ _ _ _ _ _ _ _ _ _ _ _)); first | ((with_reducible show wpAny _ _ (call (Value.builtin "sum") [Value.ref _]) _ _ _); k_dflt (refine' sum_eq ?k0 ?k1 ?k2 ?k3 ?k4 ?k5 ?_; (case k0 => rfl); (case k1 => k_asm); (case k2 => k_asm); (case k3 => k_mem); (case k4 => with_reducible assumption); (case k5 => with_reducible assumption); k_whole); intro m_h9 m_tk9 m_t9 m_F9 m_N9) | ((with_reducible show wpAny _ _ (subscriptTail _ (Expr.Slice (some _) none none _) (Value.str _ _) _) _ _ _); (with_reducible rename Fr _ _ _ _ => m_F'); (with_reducible rename News _ _ _ _ => m_N'); refine str_from (s := ⟨_, _, _, _, _⟩) m_F' m_N' (by omega) (by omega) ?_; intro m_z' m_h' m_t' m_c' m_hz' m_hzl' m_F' m_N') | ((with_reducible show wpAny _ _ (subscriptTail _ _ (Value.ref _) (Value.int _ _)) _ _ _); k_dflt (refine' sub_atE ?k1 ?k2 ?k3 ?kk ?k4 ?k5 ?k7 ?_ ?k6; (case k1 => k_asm); (case k2 => k_mem); (case k3 => with_reducible assumption); (case kk => first | with_reducible assumption | exact rfl); (case k4 => omega); (case k5 => omega); (case k7 => omega); (case k6 => with_unfolding_all rfl); k_whole); intro _) | ((with_reducible show wpAny _ _ (compareOp CmpOp.NotEq (Value.str _ _) (Value.str _ _)) _ _ _); refine cmp_same ?_) | (k_here; (with_reducible show wpAny _ _ (call (Value.builtin "len") [Value.ref _]) _ _ _); (refine KM.len_K (by k_asm) (by k_dflt k_mem) (by with_reducible assumption) (by omega) ?_)) | ((with_reducible show wpAny _ _ (subscriptTail _ (Expr.Slice none (some _) none _) (Value.str _ _) _) _ _ _); (with_reducible rename Fr _ _ _ _ => m_F'); (with_reducible rename News _ _ _ _ => m_N'); refine str_to (s := ⟨_, _, _, _, _⟩) m_F' m_N' (by omega) (by omega) ?_; intro m_z' m_h' m_t' m_c' m_hz' m_hzl' m_F' m_N') | ((with_reducible show wpAny _ _ (binaryOp Operator.Add (Value.str _ _) (Value.str _ _)) _ _ _); refine str_add (by omega) ?_; intro m_z' m_t' m_k' m_hz' m_hzl') | ((with_reducible show wpAny _ _ (call (Value.builtin "str.join") [Value.str _ _, Value.ref _]) _ _ _); k_dflt (refine' join_ls ?k1 ?k2 ?k3 ?k4 ?k5 ?k6 ?_; (case k1 => k_asm); (case k2 => k_mem); (case k3 => with_reducible assumption); (case k4 => with_reducible assumption); (case k5 => with_reducible assumption); (case k6 => with_reducible assumption); k_whole); intro _ _) | ((with_reducible show wpAny _ _ (call (Value.builtin "sum") [Value.ref _]) _ _ _); k_dflt (refine' sum_pick ?k0 ?k1 ?k2 ?k3 ?_; (case k0 => rfl); (case k1 => k_asm); (case k2 => k_asm); (case k3 => with_reducible assumption); k_whole); intro m_ks9 m_h9 m_tk9 m_t9 m_F9 m_N9) | walk1 | (dsimp only; walk1) | (leave1; walk_say "STEP leave1"; try dsimp only)) | fail "no step"))
          rename IsRange _ _ _ _ _ _ _ _ => R7
          refine LCt.CompSrcT.range (n := 9) (by rfl) (by k_asm) (by k_asm) R7 (by decide) (by decide) (by rw [PySem.sizeLine_eq]; omega) ?_
          intro g9
          refine kci_range (rgG rr (0 + (i : Int) * 9)) (fun k9 t9 I9 oI9 C9 oC9 D9 m9 ys8 l9 h9 tk9 E9 hlo9 hhi9 hI9 hC9 hx9 F9 N9 off9 ne9 hm9 => ?_) ?_ (rgG_grows _ _)
          · have off8 := off9
            simp only [LCg.Off3] at off8
            have hj0 : 0 ≤ k9 := hlo9
            have hj1 : k9 < 9 := by omega
            have hj2 : 0 ≤ 0 + (i : Int) * 9 + k9 := by omega
            (repeat' (first | (k_unfold; (try dsimp only)) | (k_end; wrow_close) | ((fail_if_success (with_reducible show wpAny _ _ (exec (Stmt.For _ _ _ _ _) _) _ _ _)); (fail_if_success (with_reducible show wpAny _ _ (exec (Stmt.While _ _ _ _) _) _ _ _)); (fail_if_success (with_reducible show wpAny _ _ (pyIter _) _ _ _)); (fail_if_success (with_reducible show LCg.CompSrc _ _ _ _ _ _ _ _ _ _ _ _ _ _)); (fail_if_success (with_reducible show LCt.CompSrcT _ _ _ _ _ _ _ _ _ _ _ _ _ _ _)); (fail_if_success (with_reducible show wpAny _ _ (eval (Expr.ListComp _ _ _ _) _) _ _ _)); (fail_if_success (with_reducible show wpAny _ _ (exec (Stmt.Assign _ (Expr.ListComp _ _ _ _) _) _) _ _ _)); (fail_if_success (with_reducible show wpAny _ _ (storeName _ (Str.ofString "places") _) _ _ _)); (fail_if_success (with_reducible show wpAny _ _ (compareOp CmpOp.Eq (Value.str _ _) (Value.str _ _)) _ _ _)); (fail_if_success (with_reducible show wpAny _ _ (compareOp CmpOp.Eq (Value.ref _) (Value.ref _)) _ _ _)); (fail_if_success (with_reducible show wpAny _ _ (compareOp CmpOp.NotEq (Value.ref _) (Value.ref _)) _ _ _)); (fail_if_success (with_reducible show wpAny _ _ (call (Value.builtin "list.extend") _) _ _ _)); (fail_if_success (with_reducible show wpAny _ _ (call (Value.ref _) _) _ _ _)); (fail_if_success (with_reducible show wpAny _ _ (isTrue (Expr.BoolOp BoolOp.Or _ _) _ _) (fun b s₂ => if b = true then _ else _) _ _)); (fail_if_success (with_reducible show OrEnd _ _ _ _)); (fail_if_success (with_reducible show CsSrc _ _ _ _ _ _ _ _ _ _ _ _ _ _ _)); (fail_if_success (with_reducible show CnSrc _ _ _ _ _ _ _ _ _ _ _ _ _ _ _)); (fail_if_success (with_reducible show LCg.CompEnd _ _ _ _ _ _ _ _ _ _ _ _ _ _)); first | ((with_reducible show wpAny _ _ (call (Value.builtin "sum") [Value.ref _]) _ _ _); k_dflt (refine' sum_eq ?k0 ?k1 ?k2 ?k3 ?k4 ?k5 ?_; (case k0 => rfl); (case k1 => k_asm); (case k2 => k_asm); (case k3 => k_mem); (case k4 => with_reducible assumption); (case k5 => with_reducible assumption); k_whole); intro m_h9 m_tk9 m_t9 m_F9 m_N9) | ((with_reducible show wpAny _ _ (subscriptTail _ (Expr.Slice (some _) none none _) (Value.str _ _) _) _ _ _); (with_reducible rename Fr _ _ _ _ => m_F'); (with_reducible rename News _ _ _ _ => m_N'); refine str_from (s := ⟨_, _, _, _, _⟩) m_F' m_N' (by omega) (by omega) ?_; intro m_z' m_h' m_t' m_c' m_hz' m_hzl' m_F' m_N') | ((with_reducible show wpAny _ _ (subscriptTail _ _ (Value.ref _) (Value.int _ _)) _ _ _); k_dflt (refine' sub_atE ?k1 ?k2 ?k3 ?kk ?k4 ?k5 ?k7 ?_ ?k6; (case k1 => k_asm); (case k2 => k_mem); (case k3 => with_reducible assumption); (case kk => first | with_reducible assumption | exact rfl); (case k4 => omega); (case k5 => omega); (case k7 => omega); (case k6 => with_unfolding_all rfl); k_whole); intro _) | ((with_reducible show wpAny _ _ (compareOp CmpOp.NotEq (Value.str _ _) (Value.str _ _)) _ _ _); refine cmp_same ?_) | (k_here; (with_reducible show wpAny _ _ (call (Value.builtin "len") [Value.ref _]) _ _ _); (refine KM.len_K (by k_asm) (by k_dflt k_mem) (by with_reducible assumption) (by omega) ?_)) | ((with_reducible show wpAny _ _ (subscriptTail _ (Expr.Slice none (some _) none _) (Value.str _ _) _) _ _ _); (with_reducible rename Fr _ _ _ _ => m_F'); (with_reducible rename News _ _ _ _ => m_N'); refine str_to (s := ⟨_, _, _, _, _⟩) m_F' m_N' (by omega) (by omega) ?_; intro m_z' m_h' m_t' m_c' m_hz' m_hzl' m_F' m_N') | ((with_reducible show wpAny _ _ (binaryOp Operator.Add (Value.str _ _) (Value.str _ _)) _ _ _); refine str_add (by omega) ?_; intro m_z' m_t' m_k' m_hz' m_hzl') | ((with_reducible show wpAny _ _ (call (Value.builtin "str.join") [Value.str _ _, Value.ref _]) _ _ _); k_dflt (refine' join_ls ?k1 ?k2 ?k3 ?k4 ?k5 ?k6 ?_; (case k1 => k_asm); (case k2 => k_mem); (case k3 => with_reducible assumption); (case k4 => with_reducible assumption); (case k5 => with_reducible assumption); (case k6 => with_reducible assumption); k_whole); intro _ _) | ((with_reducible show wpAny _ _ (call (Value.builtin "sum") [Value.ref _]) _ _ _); k_dflt (refine' sum_pick ?k0 ?k1 ?k2 ?k3 ?_; (case k0 => rfl); (case k1 => k_asm); (case k2 => k_asm); (case k3 => with_reducible assumption); k_whole); intro m_ks9 m_h9 m_tk9 m_t9 m_F9 m_N9) | walk1 | (dsimp only; walk1) | (leave1; walk_say "STEP leave1"; try dsimp only)) | fail "no step"))
            · rename rr.getD _ _ = 1 => hE
              exact LCg.CompEnd.intro (by k_asm) (by k_asm) _ (fun p hp => hp) off9 trivial (kci_el (rg_yes (by with_reducible assumption) hj2 hE) rfl rfl)
            · rename rr.getD _ _ ≠ 1 => hE
              exact LCg.CompEnd.intro (by k_asm) (by k_asm) _ (fun p hp => hp) off9 trivial (kci_no (rg_no (by with_reducible assumption) hj2 hE) rfl)
            · rename ¬ _ + k9 < _ => hE
              exact LCg.CompEnd.intro (by k_asm) (by k_asm) _ (fun p hp => hp) off9 trivial (kci_no (rg_out hE) rfl)
          · unfold KPfDone
            intro ys8 hys8 hyl8
            (repeat' (first | (k_unfold; (try dsimp only)) | (k_end; wrow_close) | ((fail_if_success (with_reducible show wpAny _ _ (exec (Stmt.For _ _ _ _ _) _) _ _ _)); (fail_if_success (with_reducible show wpAny _ _ (exec (Stmt.While _ _ _ _) _) _ _ _)); (fail_if_success (with_reducible show wpAny _ _ (pyIter _) _ _ _)); (fail_if_success (with_reducible show LCg.CompSrc _ _ _ _ _ _ _ _ _ _ _ _ _ _)); (fail_if_success (with_reducible show LCt.CompSrcT _ _ _ _ _ _ _ _ _ _ _ _ _ _ _)); (fail_if_success (with_reducible show wpAny _ _ (eval (Expr.ListComp _ _ _ _) _) _ _ _)); (fail_if_success (with_reducible show wpAny _ _ (exec (Stmt.Assign _ (Expr.ListComp _ _ _ _) _) _) _ _ _)); (fail_if_success (with_reducible show wpAny _ _ (storeName _ (Str.ofString "places") _) _ _ _)); (fail_if_success (with_reducible show wpAny _ _ (compareOp CmpOp.Eq (Value.str _ _) (Value.str _ _)) _ _ _)); (fail_if_success (with_reducible show wpAny _ _ (compareOp CmpOp.Eq (Value.ref _) (Value.ref _)) _ _ _)); (fail_if_success (with_reducible show wpAny _ _ (compareOp CmpOp.NotEq (Value.ref _) (Value.ref _)) _ _ _)); (fail_if_success (with_reducible show wpAny _ _ (call (Value.builtin "list.extend") _) _ _ _)); (fail_if_success (with_reducible show wpAny _ _ (call (Value.ref _) _) _ _ _)); (fail_if_success (with_reducible show wpAny _ _ (isTrue (Expr.BoolOp BoolOp.Or _ _) _ _) (fun b s₂ => if b = true then _ else _) _ _)); (fail_if_success (with_reducible show OrEnd _ _ _ _)); (fail_if_success (with_reducible show CsSrc _ _ _ _ _ _ _ _ _ _ _ _ _ _ _)); (fail_if_success (with_reducible show CnSrc _ _ _ _ _ _ _ _ _ _ _ _ _ _ _)); (fail_if_success (with_reducible show LCg.CompEnd _ _ _ _ _ _ _ _ _ _ _ _ _ _)); first | ((with_reducible show wpAny _ _ (call (Value.builtin "sum") [Value.ref _]) _ _ _); k_dflt (refine' sum_eq ?k0 ?k1 ?k2 ?k3 ?k4 ?k5 ?_; (case k0 => rfl); (case k1 => k_asm); (case k2 => k_asm); (case k3 => k_mem); (case k4 => with_reducible assumption); (case k5 => with_reducible assumption); k_whole); intro m_h9 m_tk9 m_t9 m_F9 m_N9) | ((with_reducible show wpAny _ _ (subscriptTail _ (Expr.Slice (some _) none none _) (Value.str _ _) _) _ _ _); (with_reducible rename Fr _ _ _ _ => m_F'); (with_reducible rename News _ _ _ _ => m_N'); refine str_from (s := ⟨_, _, _, _, _⟩) m_F' m_N' (by omega) (by omega) ?_; intro m_z' m_h' m_t' m_c' m_hz' m_hzl' m_F' m_N') | ((with_reducible show wpAny _ _ (subscriptTail _ _ (Value.ref _) (Value.int _ _)) _ _ _); k_dflt (refine' sub_atE ?k1 ?k2 ?k3 ?kk ?k4 ?k5 ?k7 ?_ ?k6; (case k1 => k_asm); (case k2 => k_mem); (case k3 => with_reducible assumption); (case kk => first | with_reducible assumption | exact rfl); (case k4 => omega); (case k5 => omega); (case k7 => omega); (case k6 => with_unfolding_all rfl); k_whole); intro _) | ((with_reducible show wpAny _ _ (compareOp CmpOp.NotEq (Value.str _ _) (Value.str _ _)) _ _ _); refine cmp_same ?_) | (k_here; (with_reducible show wpAny _ _ (call (Value.builtin "len") [Value.ref _]) _ _ _); (refine KM.len_K (by k_asm) (by k_dflt k_mem) (by with_reducible assumption) (by omega) ?_)) | ((with_reducible show wpAny _ _ (subscriptTail _ (Expr.Slice none (some _) none _) (Value.str _ _) _) _ _ _); (with_reducible rename Fr _ _ _ _ => m_F'); (with_reducible rename News _ _ _ _ => m_N'); refine str_to (s := ⟨_, _, _, _, _⟩) m_F' m_N' (by omega) (by omega) ?_; intro m_z' m_h' m_t' m_c' m_hz' m_hzl' m_F' m_N') | ((with_reducible show wpAny _ _ (binaryOp Operator.Add (Value.str _ _) (Value.str _ _)) _ _ _); refine str_add (by omega) ?_; intro m_z' m_t' m_k' m_hz' m_hzl') | ((with_reducible show wpAny _ _ (call (Value.builtin "str.join") [Value.str _ _, Value.ref _]) _ _ _); k_dflt (refine' join_ls ?k1 ?k2 ?k3 ?k4 ?k5 ?k6 ?_; (case k1 => k_asm); (case k2 => k_mem); (case k3 => with_reducible assumption); (case k4 => with_reducible assumption); (case k5 => with_reducible assumption); (case k6 => with_reducible assumption); k_whole); intro _ _) | ((with_reducible show wpAny _ _ (call (Value.builtin "sum") [Value.ref _]) _ _ _); k_dflt (refine' sum_pick ?k0 ?k1 ?k2 ?k3 ?_; (case k0 => rfl); (case k1 => k_asm); (case k2 => k_asm); (case k3 => with_reducible assumption); k_whole); intro m_ks9 m_h9 m_tk9 m_t9 m_F9 m_N9) | walk1 | (dsimp only; walk1) | (leave1; walk_say "STEP leave1"; try dsimp only)) | fail "no step"))
            rename _ ≠ _ ∧ _ ≠ _ ∧ _ => oq
            simp only [neq_fold] at oq
            repeat (have := And.left oq; replace oq := And.right oq)
            k_dflt (refine' use_fm hmo0 hmo1  ?k1f ?k2f ?k3f ?k4f ?k5f ?kkf ?kdf ?kuf ?_; (case k4f => k_asm); (case k1f => k_asm); (case k2f => k_asm); (case k3f => k_asm); (case k5f => k_asm); (case kkf => exact rfl); (case kdf => first | ktr_room | omega); (case kuf => first | ktr_units | omega))
            intro z9 t9 h9 tk9 F9 N9 hz9 hl9
            (repeat' (first | (k_unfold; (try dsimp only)) | (k_end; wrow_close) | ((fail_if_success (with_reducible show wpAny _ _ (exec (Stmt.For _ _ _ _ _) _) _ _ _)); (fail_if_success (with_reducible show wpAny _ _ (exec (Stmt.While _ _ _ _) _) _ _ _)); (fail_if_success (with_reducible show wpAny _ _ (pyIter _) _ _ _)); (fail_if_success (with_reducible show LCg.CompSrc _ _ _ _ _ _ _ _ _ _ _ _ _ _)); (fail_if_success (with_reducible show LCt.CompSrcT _ _ _ _ _ _ _ _ _ _ _ _ _ _ _)); (fail_if_success (with_reducible show wpAny _ _ (eval (Expr.ListComp _ _ _ _) _) _ _ _)); (fail_if_success (with_reducible show wpAny _ _ (exec (Stmt.Assign _ (Expr.ListComp _ _ _ _) _) _) _ _ _)); (fail_if_success (with_reducible show wpAny _ _ (storeName _ (Str.ofString "places") _) _ _ _)); (fail_if_success (with_reducible show wpAny _ _ (compareOp CmpOp.Eq (Value.str _ _) (Value.str _ _)) _ _ _)); (fail_if_success (with_reducible show wpAny _ _ (compareOp CmpOp.Eq (Value.ref _) (Value.ref _)) _ _ _)); (fail_if_success (with_reducible show wpAny _ _ (compareOp CmpOp.NotEq (Value.ref _) (Value.ref _)) _ _ _)); (fail_if_success (with_reducible show wpAny _ _ (call (Value.builtin "list.extend") _) _ _ _)); (fail_if_success (with_reducible show wpAny _ _ (call (Value.ref _) _) _ _ _)); (fail_if_success (with_reducible show wpAny _ _ (isTrue (Expr.BoolOp BoolOp.Or _ _) _ _) (fun b s₂ => if b = true then _ else _) _ _)); (fail_if_success (with_reducible show OrEnd _ _ _ _)); (fail_if_success (with_reducible show CsSrc _ _ _ _ _ _ _ _ _ _ _ _ _ _ _)); (fail_if_success (with_reducible show CnSrc _ _ _ _ _ _ _ _ _ _ _ _ _ _ _)); (fail_if_success (with_reducible show LCg.CompEnd _ _ _ _ _ _ _ _ _ _ _ _ _ _)); first | ((with_reducible show wpAny _ _ (call (Value.builtin "sum") [Value.ref _]) _ _ _); k_dflt (refine' sum_eq ?k0 ?k1 ?k2 ?k3 ?k4 ?k5 ?_; (case k0 => rfl); (case k1 => k_asm); (case k2 => k_asm); (case k3 => k_mem); (case k4 => with_reducible assumption); (case k5 => with_reducible assumption); k_whole); intro m_h9 m_tk9 m_t9 m_F9 m_N9) | ((with_reducible show wpAny _ _ (subscriptTail _ (Expr.Slice (some _) none none _) (Value.str _ _) _) _ _ _); (with_reducible rename Fr _ _ _ _ => m_F'); (with_reducible rename News _ _ _ _ => m_N'); refine str_from (s := ⟨_, _, _, _, _⟩) m_F' m_N' (by omega) (by omega) ?_; intro m_z' m_h' m_t' m_c' m_hz' m_hzl' m_F' m_N') | ((with_reducible show wpAny _ _ (subscriptTail _ _ (Value.ref _) (Value.int _ _)) _ _ _); k_dflt (refine' sub_atE ?k1 ?k2 ?k3 ?kk ?k4 ?k5 ?k7 ?_ ?k6; (case k1 => k_asm); (case k2 => k_mem); (case k3 => with_reducible assumption); (case kk => first | with_reducible assumption | exact rfl); (case k4 => omega); (case k5 => omega); (case k7 => omega); (case k6 => with_unfolding_all rfl); k_whole); intro _) | ((with_reducible show wpAny _ _ (compareOp CmpOp.NotEq (Value.str _ _) (Value.str _ _)) _ _ _); refine cmp_same ?_) | (k_here; (with_reducible show wpAny _ _ (call (Value.builtin "len") [Value.ref _]) _ _ _); (refine KM.len_K (by k_asm) (by k_dflt k_mem) (by with_reducible assumption) (by omega) ?_)) | ((with_reducible show wpAny _ _ (subscriptTail _ (Expr.Slice none (some _) none _) (Value.str _ _) _) _ _ _); (with_reducible rename Fr _ _ _ _ => m_F'); (with_reducible rename News _ _ _ _ => m_N'); refine str_to (s := ⟨_, _, _, _, _⟩) m_F' m_N' (by omega) (by omega) ?_; intro m_z' m_h' m_t' m_c' m_hz' m_hzl' m_F' m_N') | ((with_reducible show wpAny _ _ (binaryOp Operator.Add (Value.str _ _) (Value.str _ _)) _ _ _); refine str_add (by omega) ?_; intro m_z' m_t' m_k' m_hz' m_hzl') | ((with_reducible show wpAny _ _ (call (Value.builtin "str.join") [Value.str _ _, Value.ref _]) _ _ _); k_dflt (refine' join_ls ?k1 ?k2 ?k3 ?k4 ?k5 ?k6 ?_; (case k1 => k_asm); (case k2 => k_mem); (case k3 => with_reducible assumption); (case k4 => with_reducible assumption); (case k5 => with_reducible assumption); (case k6 => with_reducible assumption); k_whole); intro _ _) | ((with_reducible show wpAny _ _ (call (Value.builtin "sum") [Value.ref _]) _ _ _); k_dflt (refine' sum_pick ?k0 ?k1 ?k2 ?k3 ?_; (case k0 => rfl); (case k1 => k_asm); (case k2 => k_asm); (case k3 => with_reducible assumption); k_whole); intro m_ks9 m_h9 m_tk9 m_t9 m_F9 m_N9) | walk1 | (dsimp only; walk1) | (leave1; walk_say "STEP leave1"; try dsimp only)) | fail "no step"))
            rename _ = fmCodes _ => hz7
            refine ListComp_S (g := rwx) (F₀ := by k_asm) (by with_unfolding_all rfl) (by decide) (by rfl) (by decide) (by rfl) ?_
            (repeat' (first | (k_unfold; (try dsimp only)) | (k_end; wrow_close) | ((fail_if_success (with_reducible show wpAny _ _ (exec (Stmt.For _ _ _ _ _) _) _ _ _)); (fail_if_success (with_reducible show wpAny _ _ (exec (Stmt.While _ _ _ _) _) _ _ _)); (fail_if_success (with_reducible show wpAny _ _ (pyIter _) _ _ _)); (fail_if_success (with_reducible show LCg.CompSrc _ _ _ _ _ _ _ _ _ _ _ _ _ _)); (fail_if_success (with_reducible show LCt.CompSrcT _ _ _ _ _ _ _ _ _ _ _ _ _ _ _)); (fail_if_success (with_reducible show wpAny _ _ (eval (Expr.ListComp _ _ _ _) _) _ _ _)); (fail_if_success (with_reducible show wpAny _ _ (exec (Stmt.Assign _ (Expr.ListComp _ _ _ _) _) _) _ _ _)); (fail_if_success (with_reducible show wpAny _ _ (storeName _ (Str.ofString "places") _) _ _ _)); (fail_if_success (with_reducible show wpAny _ _ (compareOp CmpOp.Eq (Value.str _ _) (Value.str _ _)) _ _ _)); (fail_if_success (with_reducible show wpAny _ _ (compareOp CmpOp.Eq (Value.ref _) (Value.ref _)) _ _ _)); (fail_if_success (with_reducible show wpAny _ _ (compareOp CmpOp.NotEq (Value.ref _) (Value.ref _)) _ _ _)); (fail_if_success (with_reducible show wpAny _ _ (call (Value.builtin "list.extend") _) _ _ _)); (fail_if_success (with_reducible show wpAny _ _ (call (Value.ref _) _) _ _ _)); (fail_if_success (with_reducible show wpAny _ _ (isTrue (Expr.BoolOp BoolOp.Or _ _) _ _) (fun b s₂ => if b = true then _ else _) _ _)); (fail_if_success (with_reducible show OrEnd _ _ _ _)); (fail_if_success (with_reducible show CsSrc _ _ _ _ _ _ _ _ _ _ _ _ _ _ _)); (fail_if_success (with_reducible show CnSrc _ _ _ _ _ _ _ _ _ _ _ _ _ _ _)); (fail_if_success (with_reducible show LCg.CompEnd _ _ _ _ _ _ _ _ _ _ _ _ _ _)); first | ((with_reducible show wpAny _ _ (call (Value.builtin "sum") [Value.ref _]) _ _ _); k_dflt (refine' sum_eq ?k0 ?k1 ?k2 ?k3 ?k4 ?k5 ?_; (case k0 => rfl); (case k1 => k_asm); (case k2 => k_asm); (case k3 => k_mem); (case k4 => with_reducible assumption); (case k5 => with_reducible assumption); k_whole); intro m_h9 m_tk9 m_t9 m_F9 m_N9) | ((with_reducible show wpAny _ _ (subscriptTail _ (Expr.Slice (some _) none none _) (Value.str _ _) _) _ _ _); (with_reducible rename Fr _ _ _ _ => m_F'); (with_reducible rename News _ _ _ _ => m_N'); refine str_from (s := ⟨_, _, _, _, _⟩) m_F' m_N' (by omega) (by omega) ?_; intro m_z' m_h' m_t' m_c' m_hz' m_hzl' m_F' m_N') | ((with_reducible show wpAny _ _ (subscriptTail _ _ (Value.ref _) (Value.int _ _)) _ _ _); k_dflt (refine' sub_atE ?k1 ?k2 ?k3 ?kk ?k4 ?k5 ?k7 ?_ ?k6; (case k1 => k_asm); (case k2 => k_mem); (case k3 => with_reducible assumption); (case kk => first | with_reducible assumption | exact rfl); (case k4 => omega); (case k5 => omega); (case k7 => omega); (case k6 => with_unfolding_all rfl); k_whole); intro _) | ((with_reducible show wpAny _ _ (compareOp CmpOp.NotEq (Value.str _ _) (Value.str _ _)) _ _ _); refine cmp_same ?_) | (k_here; (with_reducible show wpAny _ _ (call (Value.builtin "len") [Value.ref _]) _ _ _); (refine KM.len_K (by k_asm) (by k_dflt k_mem) (by with_reducible assumption) (by omega) ?_)) | ((with_reducible show wpAny _ _ (subscriptTail _ (Expr.Slice none (some _) none _) (Value.str _ _) _) _ _ _); (with_reducible rename Fr _ _ _ _ => m_F'); (with_reducible rename News _ _ _ _ => m_N'); refine str_to (s := ⟨_, _, _, _, _⟩) m_F' m_N' (by omega) (by omega) ?_; intro m_z' m_h' m_t' m_c' m_hz' m_hzl' m_F' m_N') | ((with_reducible show wpAny _ _ (binaryOp Operator.Add (Value.str _ _) (Value.str _ _)) _ _ _); refine str_add (by omega) ?_; intro m_z' m_t' m_k' m_hz' m_hzl') | ((with_reducible show wpAny _ _ (call (Value.builtin "str.join") [Value.str _ _, Value.ref _]) _ _ _); k_dflt (refine' join_ls ?k1 ?k2 ?k3 ?k4 ?k5 ?k6 ?_; (case k1 => k_asm); (case k2 => k_mem); (case k3 => with_reducible assumption); (case k4 => with_reducible assumption); (case k5 => with_reducible assumption); (case k6 => with_reducible assumption); k_whole); intro _ _) | ((with_reducible show wpAny _ _ (call (Value.builtin "sum") [Value.ref _]) _ _ _); k_dflt (refine' sum_pick ?k0 ?k1 ?k2 ?k3 ?_; (case k0 => rfl); (case k1 => k_asm); (case k2 => k_asm); (case k3 => with_reducible assumption); k_whole); intro m_ks9 m_h9 m_tk9 m_t9 m_F9 m_N9) | walk1 | (dsimp only; walk1) | (leave1; walk_say "STEP leave1"; try dsimp only)) | fail "no step"))
            rename _ = Str.length _ - Int.toNat 1 => hzl7
            rename Str.length _ = 10 => hl10
            have hz10 := len_drop hzl7 hl10
            clear hzl7
            refine ⟨_, _, _, rfl, by rfl, by k_asm, by k_asm, Nat.le_trans hz10 (by rw [PySem.sizeLine_eq]; decide), ?_, ?_⟩
            · intro q ch t8 I9 oI9 C9 oC9 D9 m9 ys9 h9 tk9 E9 hq9 hC9 hx9 F9 N9 off9 ne9
              (repeat' (first | (k_unfold; (try dsimp only)) | (k_end; wrow_close) | ((fail_if_success (with_reducible show wpAny _ _ (exec (Stmt.For _ _ _ _ _) _) _ _ _)); (fail_if_success (with_reducible show wpAny _ _ (exec (Stmt.While _ _ _ _) _) _ _ _)); (fail_if_success (with_reducible show wpAny _ _ (pyIter _) _ _ _)); (fail_if_success (with_reducible show LCg.CompSrc _ _ _ _ _ _ _ _ _ _ _ _ _ _)); (fail_if_success (with_reducible show LCt.CompSrcT _ _ _ _ _ _ _ _ _ _ _ _ _ _ _)); (fail_if_success (with_reducible show wpAny _ _ (eval (Expr.ListComp _ _ _ _) _) _ _ _)); (fail_if_success (with_reducible show wpAny _ _ (exec (Stmt.Assign _ (Expr.ListComp _ _ _ _) _) _) _ _ _)); (fail_if_success (with_reducible show wpAny _ _ (storeName _ (Str.ofString "places") _) _ _ _)); (fail_if_success (with_reducible show wpAny _ _ (compareOp CmpOp.Eq (Value.str _ _) (Value.str _ _)) _ _ _)); (fail_if_success (with_reducible show wpAny _ _ (compareOp CmpOp.Eq (Value.ref _) (Value.ref _)) _ _ _)); (fail_if_success (with_reducible show wpAny _ _ (compareOp CmpOp.NotEq (Value.ref _) (Value.ref _)) _ _ _)); (fail_if_success (with_reducible show wpAny _ _ (call (Value.builtin "list.extend") _) _ _ _)); (fail_if_success (with_reducible show wpAny _ _ (call (Value.ref _) _) _ _ _)); (fail_if_success (with_reducible show wpAny _ _ (isTrue (Expr.BoolOp BoolOp.Or _ _) _ _) (fun b s₂ => if b = true then _ else _) _ _)); (fail_if_success (with_reducible show OrEnd _ _ _ _)); (fail_if_success (with_reducible show CsSrc _ _ _ _ _ _ _ _ _ _ _ _ _ _ _)); (fail_if_success (with_reducible show CnSrc _ _ _ _ _ _ _ _ _ _ _ _ _ _ _)); (fail_if_success (with_reducible show LCg.CompEnd _ _ _ _ _ _ _ _ _ _ _ _ _ _)); first | ((with_reducible show wpAny _ _ (call (Value.builtin "sum") [Value.ref _]) _ _ _); k_dflt (refine' sum_eq ?k0 ?k1 ?k2 ?k3 ?k4 ?k5 ?_; (case k0 => rfl); (case k1 => k_asm); (case k2 => k_asm); (case k3 => k_mem); (case k4 => with_reducible assumption); (case k5 => with_reducible assumption); k_whole); intro m_h9 m_tk9 m_t9 m_F9 m_N9) | ((with_reducible show wpAny _ _ (subscriptTail _ (Expr.Slice (some _) none none _) (Value.str _ _) _) _ _ _); (with_reducible rename Fr _ _ _ _ => m_F'); (with_reducible rename News _ _ _ _ => m_N'); refine str_from (s := ⟨_, _, _, _, _⟩) m_F' m_N' (by omega) (by omega) ?_; intro m_z' m_h' m_t' m_c' m_hz' m_hzl' m_F' m_N') | ((with_reducible show wpAny _ _ (subscriptTail _ _ (Value.ref _) (Value.int _ _)) _ _ _); k_dflt (refine' sub_atE ?k1 ?k2 ?k3 ?kk ?k4 ?k5 ?k7 ?_ ?k6; (case k1 => k_asm); (case k2 => k_mem); (case k3 => with_reducible assumption); (case kk => first | with_reducible assumption | exact rfl); (case k4 => omega); (case k5 => omega); (case k7 => omega); (case k6 => with_unfolding_all rfl); k_whole); intro _) | ((with_reducible show wpAny _ _ (compareOp CmpOp.NotEq (Value.str _ _) (Value.str _ _)) _ _ _); refine cmp_same ?_) | (k_here; (with_reducible show wpAny _ _ (call (Value.builtin "len") [Value.ref _]) _ _ _); (refine KM.len_K (by k_asm) (by k_dflt k_mem) (by with_reducible assumption) (by omega) ?_)) | ((with_reducible show wpAny _ _ (subscriptTail _ (Expr.Slice none (some _) none _) (Value.str _ _) _) _ _ _); (with_reducible rename Fr _ _ _ _ => m_F'); (with_reducible rename News _ _ _ _ => m_N'); refine str_to (s := ⟨_, _, _, _, _⟩) m_F' m_N' (by omega) (by omega) ?_; intro m_z' m_h' m_t' m_c' m_hz' m_hzl' m_F' m_N') | ((with_reducible show wpAny _ _ (binaryOp Operator.Add (Value.str _ _) (Value.str _ _)) _ _ _); refine str_add (by omega) ?_; intro m_z' m_t' m_k' m_hz' m_hzl') | ((with_reducible show wpAny _ _ (call (Value.builtin "str.join") [Value.str _ _, Value.ref _]) _ _ _); k_dflt (refine' join_ls ?k1 ?k2 ?k3 ?k4 ?k5 ?k6 ?_; (case k1 => k_asm); (case k2 => k_mem); (case k3 => with_reducible assumption); (case k4 => with_reducible assumption); (case k5 => with_reducible assumption); (case k6 => with_reducible assumption); k_whole); intro _ _) | ((with_reducible show wpAny _ _ (call (Value.builtin "sum") [Value.ref _]) _ _ _); k_dflt (refine' sum_pick ?k0 ?k1 ?k2 ?k3 ?_; (case k0 => rfl); (case k1 => k_asm); (case k2 => k_asm); (case k3 => with_reducible assumption); k_whole); intro m_ks9 m_h9 m_tk9 m_t9 m_F9 m_N9) | walk1 | (dsimp only; walk1) | (leave1; walk_say "STEP leave1"; try dsimp only)) | fail "no step"))
              · rename (Builtin.Str.occurrences _ _ _ _ _).isEmpty = true => hE
                exact LCg.CompEnd.intro (by k_asm) (by k_asm) _ (fun p hp => hp) off9 trivial (kcf_el (rwx_0 hE) rfl rfl)
              · rename (Builtin.Str.occurrences _ _ _ _ _).isEmpty = false => hE
                exact LCg.CompEnd.intro (by k_asm) (by k_asm) _ (fun p hp => hp) off9 trivial (kcf_el (rwx_1 hE) rfl rfl)
            · intro ys9 D9 h9 tk9 hys9 F9 N9 o9
              have o8 := offq_off1 o9
              simp only [OffQ, and_true] at o8
              repeat (have := And.left o8; replace o8 := And.right o8)
              (repeat' (first | (k_unfold; (try dsimp only)) | (k_end; wrow_close) | ((fail_if_success (with_reducible show wpAny _ _ (exec (Stmt.For _ _ _ _ _) _) _ _ _)); (fail_if_success (with_reducible show wpAny _ _ (exec (Stmt.While _ _ _ _) _) _ _ _)); (fail_if_success (with_reducible show wpAny _ _ (pyIter _) _ _ _)); (fail_if_success (with_reducible show LCg.CompSrc _ _ _ _ _ _ _ _ _ _ _ _ _ _)); (fail_if_success (with_reducible show LCt.CompSrcT _ _ _ _ _ _ _ _ _ _ _ _ _ _ _)); (fail_if_success (with_reducible show wpAny _ _ (eval (Expr.ListComp _ _ _ _) _) _ _ _)); (fail_if_success (with_reducible show wpAny _ _ (exec (Stmt.Assign _ (Expr.ListComp _ _ _ _) _) _) _ _ _)); (fail_if_success (with_reducible show wpAny _ _ (storeName _ (Str.ofString "places") _) _ _ _)); (fail_if_success (with_reducible show wpAny _ _ (compareOp CmpOp.Eq (Value.str _ _) (Value.str _ _)) _ _ _)); (fail_if_success (with_reducible show wpAny _ _ (compareOp CmpOp.Eq (Value.ref _) (Value.ref _)) _ _ _)); (fail_if_success (with_reducible show wpAny _ _ (compareOp CmpOp.NotEq (Value.ref _) (Value.ref _)) _ _ _)); (fail_if_success (with_reducible show wpAny _ _ (call (Value.builtin "list.extend") _) _ _ _)); (fail_if_success (with_reducible show wpAny _ _ (call (Value.ref _) _) _ _ _)); (fail_if_success (with_reducible show wpAny _ _ (isTrue (Expr.BoolOp BoolOp.Or _ _) _ _) (fun b s₂ => if b = true then _ else _) _ _)); (fail_if_success (with_reducible show OrEnd _ _ _ _)); (fail_if_success (with_reducible show CsSrc _ _ _ _ _ _ _ _ _ _ _ _ _ _ _)); (fail_if_success (with_reducible show CnSrc _ _ _ _ _ _ _ _ _ _ _ _ _ _ _)); (fail_if_success (with_reducible show LCg.CompEnd _ _ _ _ _ _ _ _ _ _ _ _ _ _)); first | ((with_reducible show wpAny _ _ (call (Value.builtin "sum") [Value.ref _]) _ _ _); k_dflt (refine' sum_eq ?k0 ?k1 ?k2 ?k3 ?k4 ?k5 ?_; (case k0 => rfl); (case k1 => k_asm); (case k2 => k_asm); (case k3 => k_mem); (case k4 => with_reducible assumption); (case k5 => with_reducible assumption); k_whole); intro m_h9 m_tk9 m_t9 m_F9 m_N9) | ((with_reducible show wpAny _ _ (subscriptTail _ (Expr.Slice (some _) none none _) (Value.str _ _) _) _ _ _); (with_reducible rename Fr _ _ _ _ => m_F'); (with_reducible rename News _ _ _ _ => m_N'); refine str_from (s := ⟨_, _, _, _, _⟩) m_F' m_N' (by omega) (by omega) ?_; intro m_z' m_h' m_t' m_c' m_hz' m_hzl' m_F' m_N') | ((with_reducible show wpAny _ _ (subscriptTail _ _ (Value.ref _) (Value.int _ _)) _ _ _); k_dflt (refine' sub_atE ?k1 ?k2 ?k3 ?kk ?k4 ?k5 ?k7 ?_ ?k6; (case k1 => k_asm); (case k2 => k_mem); (case k3 => with_reducible assumption); (case kk => first | with_reducible assumption | exact rfl); (case k4 => omega); (case k5 => omega); (case k7 => omega); (case k6 => with_unfolding_all rfl); k_whole); intro _) | ((with_reducible show wpAny _ _ (compareOp CmpOp.NotEq (Value.str _ _) (Value.str _ _)) _ _ _); refine cmp_same ?_) | (k_here; (with_reducible show wpAny _ _ (call (Value.builtin "len") [Value.ref _]) _ _ _); (refine KM.len_K (by k_asm) (by k_dflt k_mem) (by with_reducible assumption) (by omega) ?_)) | ((with_reducible show wpAny _ _ (subscriptTail _ (Expr.Slice none (some _) none _) (Value.str _ _) _) _ _ _); (with_reducible rename Fr _ _ _ _ => m_F'); (with_reducible rename News _ _ _ _ => m_N'); refine str_to (s := ⟨_, _, _, _, _⟩) m_F' m_N' (by omega) (by omega) ?_; intro m_z' m_h' m_t' m_c' m_hz' m_hzl' m_F' m_N') | ((with_reducible show wpAny _ _ (binaryOp Operator.Add (Value.str _ _) (Value.str _ _)) _ _ _); refine str_add (by omega) ?_; intro m_z' m_t' m_k' m_hz' m_hzl') | ((with_reducible show wpAny _ _ (call (Value.builtin "str.join") [Value.str _ _, Value.ref _]) _ _ _); k_dflt (refine' join_ls ?k1 ?k2 ?k3 ?k4 ?k5 ?k6 ?_; (case k1 => k_asm); (case k2 => k_mem); (case k3 => with_reducible assumption); (case k4 => with_reducible assumption); (case k5 => with_reducible assumption); (case k6 => with_reducible assumption); k_whole); intro _ _) | ((with_reducible show wpAny _ _ (call (Value.builtin "sum") [Value.ref _]) _ _ _); k_dflt (refine' sum_pick ?k0 ?k1 ?k2 ?k3 ?_; (case k0 => rfl); (case k1 => k_asm); (case k2 => k_asm); (case k3 => with_reducible assumption); k_whole); intro m_ks9 m_h9 m_tk9 m_t9 m_F9 m_N9) | walk1 | (dsimp only; walk1) | (leave1; walk_say "STEP leave1"; try dsimp only)) | fail "no step"))
              rename News _ _ _ _ => N8
              refine ext_L (own := [_, _]) (by k_asm) N8 ?ha ?hb (.head _) hiS hys9 ?hc ?_
              case ha =>
                intro p hp
                simp only [List.mem_cons, List.not_mem_nil, or_false] at hp
                rcases hp with h | h <;> rw [h] <;> k_ne
              case hb => k_all
              case hc => rw [seen_len, List.length_map, cps_len]; exact len_two hi27 hz10
              intro h8 c8 zs8 F8 N8 hz8
              simp only [List.cons_append, List.nil_append] at N8
              rename _ = List.drop (Int.toNat 1) _ => hzd
              rw [seen_next hn0 hRa hz7 hzd] at hz8
              (repeat' (first | (k_unfold; (try dsimp only)) | (k_end; wrow_close) | ((fail_if_success (with_reducible show wpAny _ _ (exec (Stmt.For _ _ _ _ _) _) _ _ _)); (fail_if_success (with_reducible show wpAny _ _ (exec (Stmt.While _ _ _ _) _) _ _ _)); (fail_if_success (with_reducible show wpAny _ _ (pyIter _) _ _ _)); (fail_if_success (with_reducible show LCg.CompSrc _ _ _ _ _ _ _ _ _ _ _ _ _ _)); (fail_if_success (with_reducible show LCt.CompSrcT _ _ _ _ _ _ _ _ _ _ _ _ _ _ _)); (fail_if_success (with_reducible show wpAny _ _ (eval (Expr.ListComp _ _ _ _) _) _ _ _)); (fail_if_success (with_reducible show wpAny _ _ (exec (Stmt.Assign _ (Expr.ListComp _ _ _ _) _) _) _ _ _)); (fail_if_success (with_reducible show wpAny _ _ (storeName _ (Str.ofString "places") _) _ _ _)); (fail_if_success (with_reducible show wpAny _ _ (compareOp CmpOp.Eq (Value.str _ _) (Value.str _ _)) _ _ _)); (fail_if_success (with_reducible show wpAny _ _ (compareOp CmpOp.Eq (Value.ref _) (Value.ref _)) _ _ _)); (fail_if_success (with_reducible show wpAny _ _ (compareOp CmpOp.NotEq (Value.ref _) (Value.ref _)) _ _ _)); (fail_if_success (with_reducible show wpAny _ _ (call (Value.builtin "list.extend") _) _ _ _)); (fail_if_success (with_reducible show wpAny _ _ (call (Value.ref _) _) _ _ _)); (fail_if_success (with_reducible show wpAny _ _ (isTrue (Expr.BoolOp BoolOp.Or _ _) _ _) (fun b s₂ => if b = true then _ else _) _ _)); (fail_if_success (with_reducible show OrEnd _ _ _ _)); (fail_if_success (with_reducible show CsSrc _ _ _ _ _ _ _ _ _ _ _ _ _ _ _)); (fail_if_success (with_reducible show CnSrc _ _ _ _ _ _ _ _ _ _ _ _ _ _ _)); (fail_if_success (with_reducible show LCg.CompEnd _ _ _ _ _ _ _ _ _ _ _ _ _ _)); first | ((with_reducible show wpAny _ _ (call (Value.builtin "sum") [Value.ref _]) _ _ _); k_dflt (refine' sum_eq ?k0 ?k1 ?k2 ?k3 ?k4 ?k5 ?_; (case k0 => rfl); (case k1 => k_asm); (case k2 => k_asm); (case k3 => k_mem); (case k4 => with_reducible assumption); (case k5 => with_reducible assumption); k_whole); intro m_h9 m_tk9 m_t9 m_F9 m_N9) | ((with_reducible show wpAny _ _ (subscriptTail _ (Expr.Slice (some _) none none _) (Value.str _ _) _) _ _ _); (with_reducible rename Fr _ _ _ _ => m_F'); (with_reducible rename News _ _ _ _ => m_N'); refine str_from (s := ⟨_, _, _, _, _⟩) m_F' m_N' (by omega) (by omega) ?_; intro m_z' m_h' m_t' m_c' m_hz' m_hzl' m_F' m_N') | ((with_reducible show wpAny _ _ (subscriptTail _ _ (Value.ref _) (Value.int _ _)) _ _ _); k_dflt (refine' sub_atE ?k1 ?k2 ?k3 ?kk ?k4 ?k5 ?k7 ?_ ?k6; (case k1 => k_asm); (case k2 => k_mem); (case k3 => with_reducible assumption); (case kk => first | with_reducible assumption | exact rfl); (case k4 => omega); (case k5 => omega); (case k7 => omega); (case k6 => with_unfolding_all rfl); k_whole); intro _) | ((with_reducible show wpAny _ _ (compareOp CmpOp.NotEq (Value.str _ _) (Value.str _ _)) _ _ _); refine cmp_same ?_) | (k_here; (with_reducible show wpAny _ _ (call (Value.builtin "len") [Value.ref _]) _ _ _); (refine KM.len_K (by k_asm) (by k_dflt k_mem) (by with_reducible assumption) (by omega) ?_)) | ((with_reducible show wpAny _ _ (subscriptTail _ (Expr.Slice none (some _) none _) (Value.str _ _) _) _ _ _); (with_reducible rename Fr _ _ _ _ => m_F'); (with_reducible rename News _ _ _ _ => m_N'); refine str_to (s := ⟨_, _, _, _, _⟩) m_F' m_N' (by omega) (by omega) ?_; intro m_z' m_h' m_t' m_c' m_hz' m_hzl' m_F' m_N') | ((with_reducible show wpAny _ _ (binaryOp Operator.Add (Value.str _ _) (Value.str _ _)) _ _ _); refine str_add (by omega) ?_; intro m_z' m_t' m_k' m_hz' m_hzl') | ((with_reducible show wpAny _ _ (call (Value.builtin "str.join") [Value.str _ _, Value.ref _]) _ _ _); k_dflt (refine' join_ls ?k1 ?k2 ?k3 ?k4 ?k5 ?k6 ?_; (case k1 => k_asm); (case k2 => k_mem); (case k3 => with_reducible assumption); (case k4 => with_reducible assumption); (case k5 => with_reducible assumption); (case k6 => with_reducible assumption); k_whole); intro _ _) | ((with_reducible show wpAny _ _ (call (Value.builtin "sum") [Value.ref _]) _ _ _); k_dflt (refine' sum_pick ?k0 ?k1 ?k2 ?k3 ?_; (case k0 => rfl); (case k1 => k_asm); (case k2 => k_asm); (case k3 => with_reducible assumption); k_whole); intro m_ks9 m_h9 m_tk9 m_t9 m_F9 m_N9) | walk1 | (dsimp only; walk1) | (leave1; walk_say "STEP leave1"; try dsimp only)) | fail "no step"))
              rename Fr _ _ _ _ => F7
              rename News _ _ _ _ => N7
              rename Obj.data _ = Data.cell (some (Value.str _ _)) => dL
              rename Obj.data _ = Data.cell (some (Value.int _ _)) => dK
              refine TjEnd.intro F7 N7 ?hn ?ho ?ha (InvC.intro (cS := c8) hz8 dL dK (fr2 (by rfl) (by rfl)))
              case ha => rfl
              case hn => first | exact fun p hp => .tail _ (.tail _ (List.mem_append_left own6 hp)) | exact fun p hp => .tail _ (List.mem_append_left own6 hp) | exact fun p hp => List.mem_append_left own6 hp
              case ho => first | exact fun p hp => .tail _ (.tail _ (List.mem_append_right (_ :: _ :: _ :: _ :: _ :: _ :: _ :: _ :: _ :: _ :: _ :: _ :: _ :: []) hp)) | exact fun p hp => .tail _ (List.mem_append_right (_ :: _ :: _ :: _ :: _ :: _ :: _ :: _ :: _ :: _ :: _ :: _ :: _ :: []) hp)
        · intro vsS cS oL6 oK6 u6 vL6 vK6 h6 tk6 hiS hL6 hK6 F7 N7
          have hsee : List.take ((rr.length : Nat) : Int).toNat (seenTo rr ((rr.length + 8) / 9)) = rr := by rw [Int.toNat_natCast]; exact seen_all (by omega) hS.2.1
          have hr0 : 0 < rr.length := by omega
          have hr1 : rr.length ≤ 1000 := by omega
          have hdn : ow.length = ow.length - 1 + 1 := by omega
          have hsl := seen_len rr ((rr.length + 8) / 9)
          (repeat' (first | (k_unfold; (try dsimp only)) | (k_end; wrow_close) | ((fail_if_success (with_reducible show wpAny _ _ (exec (Stmt.For _ _ _ _ _) _) _ _ _)); (fail_if_success (with_reducible show wpAny _ _ (exec (Stmt.While _ _ _ _) _) _ _ _)); (fail_if_success (with_reducible show wpAny _ _ (pyIter _) _ _ _)); (fail_if_success (with_reducible show LCg.CompSrc _ _ _ _ _ _ _ _ _ _ _ _ _ _)); (fail_if_success (with_reducible show LCt.CompSrcT _ _ _ _ _ _ _ _ _ _ _ _ _ _ _)); (fail_if_success (with_reducible show wpAny _ _ (eval (Expr.ListComp _ _ _ _) _) _ _ _)); (fail_if_success (with_reducible show wpAny _ _ (exec (Stmt.Assign _ (Expr.ListComp _ _ _ _) _) _) _ _ _)); (fail_if_success (with_reducible show wpAny _ _ (storeName _ (Str.ofString "places") _) _ _ _)); (fail_if_success (with_reducible show wpAny _ _ (compareOp CmpOp.Eq (Value.str _ _) (Value.str _ _)) _ _ _)); (fail_if_success (with_reducible show wpAny _ _ (compareOp CmpOp.Eq (Value.ref _) (Value.ref _)) _ _ _)); (fail_if_success (with_reducible show wpAny _ _ (compareOp CmpOp.NotEq (Value.ref _) (Value.ref _)) _ _ _)); (fail_if_success (with_reducible show wpAny _ _ (call (Value.builtin "list.extend") _) _ _ _)); (fail_if_success (with_reducible show wpAny _ _ (call (Value.ref _) _) _ _ _)); (fail_if_success (with_reducible show wpAny _ _ (isTrue (Expr.BoolOp BoolOp.Or _ _) _ _) (fun b s₂ => if b = true then _ else _) _ _)); (fail_if_success (with_reducible show OrEnd _ _ _ _)); (fail_if_success (with_reducible show CsSrc _ _ _ _ _ _ _ _ _ _ _ _ _ _ _)); (fail_if_success (with_reducible show CnSrc _ _ _ _ _ _ _ _ _ _ _ _ _ _ _)); (fail_if_success (with_reducible show LCg.CompEnd _ _ _ _ _ _ _ _ _ _ _ _ _ _)); first | ((with_reducible show wpAny _ _ (call (Value.builtin "sum") [Value.ref _]) _ _ _); k_dflt (refine' sum_eq ?k0 ?k1 ?k2 ?k3 ?k4 ?k5 ?_; (case k0 => rfl); (case k1 => k_asm); (case k2 => k_asm); (case k3 => k_mem); (case k4 => with_reducible assumption); (case k5 => with_reducible assumption); k_whole); intro m_h9 m_tk9 m_t9 m_F9 m_N9) | ((with_reducible show wpAny _ _ (subscriptTail _ (Expr.Slice (some _) none none _) (Value.str _ _) _) _ _ _); (with_reducible rename Fr _ _ _ _ => m_F'); (with_reducible rename News _ _ _ _ => m_N'); refine str_from (s := ⟨_, _, _, _, _⟩) m_F' m_N' (by omega) (by omega) ?_; intro m_z' m_h' m_t' m_c' m_hz' m_hzl' m_F' m_N') | ((with_reducible show wpAny _ _ (subscriptTail _ _ (Value.ref _) (Value.int _ _)) _ _ _); k_dflt (refine' sub_atE ?k1 ?k2 ?k3 ?kk ?k4 ?k5 ?k7 ?_ ?k6; (case k1 => k_asm); (case k2 => k_mem); (case k3 => with_reducible assumption); (case kk => first | with_reducible assumption | exact rfl); (case k4 => omega); (case k5 => omega); (case k7 => omega); (case k6 => with_unfolding_all rfl); k_whole); intro _) | ((with_reducible show wpAny _ _ (compareOp CmpOp.NotEq (Value.str _ _) (Value.str _ _)) _ _ _); refine cmp_same ?_) | (k_here; (with_reducible show wpAny _ _ (call (Value.builtin "len") [Value.ref _]) _ _ _); (refine KM.len_K (by k_asm) (by k_dflt k_mem) (by with_reducible assumption) (by omega) ?_)) | ((with_reducible show wpAny _ _ (subscriptTail _ (Expr.Slice none (some _) none _) (Value.str _ _) _) _ _ _); (with_reducible rename Fr _ _ _ _ => m_F'); (with_reducible rename News _ _ _ _ => m_N'); refine str_to (s := ⟨_, _, _, _, _⟩) m_F' m_N' (by omega) (by omega) ?_; intro m_z' m_h' m_t' m_c' m_hz' m_hzl' m_F' m_N') | ((with_reducible show wpAny _ _ (binaryOp Operator.Add (Value.str _ _) (Value.str _ _)) _ _ _); refine str_add (by omega) ?_; intro m_z' m_t' m_k' m_hz' m_hzl') | ((with_reducible show wpAny _ _ (call (Value.builtin "str.join") [Value.str _ _, Value.ref _]) _ _ _); k_dflt (refine' join_ls ?k1 ?k2 ?k3 ?k4 ?k5 ?k6 ?_; (case k1 => k_asm); (case k2 => k_mem); (case k3 => with_reducible assumption); (case k4 => with_reducible assumption); (case k5 => with_reducible assumption); (case k6 => with_reducible assumption); k_whole); intro _ _) | ((with_reducible show wpAny _ _ (call (Value.builtin "sum") [Value.ref _]) _ _ _); k_dflt (refine' sum_pick ?k0 ?k1 ?k2 ?k3 ?_; (case k0 => rfl); (case k1 => k_asm); (case k2 => k_asm); (case k3 => with_reducible assumption); k_whole); intro m_ks9 m_h9 m_tk9 m_t9 m_F9 m_N9) | walk1 | (dsimp only; walk1) | (leave1; walk_say "STEP leave1"; try dsimp only)) | fail "no step"))
          rename IntsAre _ (List.take _ _) => hI7
          rename _ = min _ _ => hC7
          clear hC7
          rename List.length (List.take _ _) ≤ _ => hC7
          clear hC7
          rw [hsee] at hI7
          refine Assign_ListComp_N (F₀ := by k_asm) (by rfl) (by with_unfolding_all rfl) (by with_unfolding_all rfl) (by decide) (by rfl) (by decide) (by rfl) (by rfl) (by rfl) ?_
          (repeat' (first | (k_unfold; (try dsimp only)) | (k_end; wrow_close) | ((fail_if_success (with_reducible show wpAny _ _ (exec (Stmt.For _ _ _ _ _) _) _ _ _)); (fail_if_success (with_reducible show wpAny _ _ (exec (Stmt.While _ _ _ _) _) _ _ _)); (fail_if_success (with_reducible show wpAny _ _ (pyIter _) _ _ _)); (fail_if_success (with_reducible show LCg.CompSrc _ _ _ _ _ _ _ _ _ _ _ _ _ _)); (fail_if_success (with_reducible show LCt.CompSrcT _ _ _ _ _ _ _ _ _ _ _ _ _ _ _)); (fail_if_success (with_reducible show wpAny _ _ (eval (Expr.ListComp _ _ _ _) _) _ _ _)); (fail_if_success (with_reducible show wpAny _ _ (exec (Stmt.Assign _ (Expr.ListComp _ _ _ _) _) _) _ _ _)); (fail_if_success (with_reducible show wpAny _ _ (storeName _ (Str.ofString "places") _) _ _ _)); (fail_if_success (with_reducible show wpAny _ _ (compareOp CmpOp.Eq (Value.str _ _) (Value.str _ _)) _ _ _)); (fail_if_success (with_reducible show wpAny _ _ (compareOp CmpOp.Eq (Value.ref _) (Value.ref _)) _ _ _)); (fail_if_success (with_reducible show wpAny _ _ (compareOp CmpOp.NotEq (Value.ref _) (Value.ref _)) _ _ _)); (fail_if_success (with_reducible show wpAny _ _ (call (Value.builtin "list.extend") _) _ _ _)); (fail_if_success (with_reducible show wpAny _ _ (call (Value.ref _) _) _ _ _)); (fail_if_success (with_reducible show wpAny _ _ (isTrue (Expr.BoolOp BoolOp.Or _ _) _ _) (fun b s₂ => if b = true then _ else _) _ _)); (fail_if_success (with_reducible show OrEnd _ _ _ _)); (fail_if_success (with_reducible show CsSrc _ _ _ _ _ _ _ _ _ _ _ _ _ _ _)); (fail_if_success (with_reducible show CnSrc _ _ _ _ _ _ _ _ _ _ _ _ _ _ _)); (fail_if_success (with_reducible show LCg.CompEnd _ _ _ _ _ _ _ _ _ _ _ _ _ _)); first | ((with_reducible show wpAny _ _ (call (Value.builtin "sum") [Value.ref _]) _ _ _); k_dflt (refine' sum_eq ?k0 ?k1 ?k2 ?k3 ?k4 ?k5 ?_; (case k0 => rfl); (case k1 => k_asm); (case k2 => k_asm); (case k3 => k_mem); (case k4 => with_reducible assumption); (case k5 => with_reducible assumption); k_whole); intro m_h9 m_tk9 m_t9 m_F9 m_N9) | ((with_reducible show wpAny _ _ (subscriptTail _ (Expr.Slice (some _) none none _) (Value.str _ _) _) _ _ _); (with_reducible rename Fr _ _ _ _ => m_F'); (with_reducible rename News _ _ _ _ => m_N'); refine str_from (s := ⟨_, _, _, _, _⟩) m_F' m_N' (by omega) (by omega) ?_; intro m_z' m_h' m_t' m_c' m_hz' m_hzl' m_F' m_N') | ((with_reducible show wpAny _ _ (subscriptTail _ _ (Value.ref _) (Value.int _ _)) _ _ _); k_dflt (refine' sub_atE ?k1 ?k2 ?k3 ?kk ?k4 ?k5 ?k7 ?_ ?k6; (case k1 => k_asm); (case k2 => k_mem); (case k3 => with_reducible assumption); (case kk => first | with_reducible assumption | exact rfl); (case k4 => omega); (case k5 => omega); (case k7 => omega); (case k6 => with_unfolding_all rfl); k_whole); intro _) | ((with_reducible show wpAny _ _ (compareOp CmpOp.NotEq (Value.str _ _) (Value.str _ _)) _ _ _); refine cmp_same ?_) | (k_here; (with_reducible show wpAny _ _ (call (Value.builtin "len") [Value.ref _]) _ _ _); (refine KM.len_K (by k_asm) (by k_dflt k_mem) (by with_reducible assumption) (by omega) ?_)) | ((with_reducible show wpAny _ _ (subscriptTail _ (Expr.Slice none (some _) none _) (Value.str _ _) _) _ _ _); (with_reducible rename Fr _ _ _ _ => m_F'); (with_reducible rename News _ _ _ _ => m_N'); refine str_to (s := ⟨_, _, _, _, _⟩) m_F' m_N' (by omega) (by omega) ?_; intro m_z' m_h' m_t' m_c' m_hz' m_hzl' m_F' m_N') | ((with_reducible show wpAny _ _ (binaryOp Operator.Add (Value.str _ _) (Value.str _ _)) _ _ _); refine str_add (by omega) ?_; intro m_z' m_t' m_k' m_hz' m_hzl') | ((with_reducible show wpAny _ _ (call (Value.builtin "str.join") [Value.str _ _, Value.ref _]) _ _ _); k_dflt (refine' join_ls ?k1 ?k2 ?k3 ?k4 ?k5 ?k6 ?_; (case k1 => k_asm); (case k2 => k_mem); (case k3 => with_reducible assumption); (case k4 => with_reducible assumption); (case k5 => with_reducible assumption); (case k6 => with_reducible assumption); k_whole); intro _ _) | ((with_reducible show wpAny _ _ (call (Value.builtin "sum") [Value.ref _]) _ _ _); k_dflt (refine' sum_pick ?k0 ?k1 ?k2 ?k3 ?_; (case k0 => rfl); (case k1 => k_asm); (case k2 => k_asm); (case k3 => with_reducible assumption); k_whole); intro m_ks9 m_h9 m_tk9 m_t9 m_F9 m_N9) | walk1 | (dsimp only; walk1) | (leave1; walk_say "STEP leave1"; try dsimp only)) | fail "no step"))
          rename IsRange _ _ _ _ _ _ _ _ => R7
          refine ⟨_, _, _, _, _, _, _, ow.length - 1, _, rfl, by rfl, by k_asm, by k_asm, R7, small_down (by omega) (by omega) (by omega) (by omega), by rw [rangeSize_downNat]; omega, by rw [PySem.sizeLine_eq]; omega, ?_⟩
          rintro s7 ⟨g7, rfl⟩
          refine kci_rest (ks := downKs ((ow.length : Int) - 1) (ow.length - 1)) (dueG ow.cps.toList ow.length) (downKs_length _ _) (fun i v hi hv => downs_at hi hv) (fun k9 t9 I9 oI9 C9 oC9 D9 m9 ys8 l9 h9 tk9 E9 hk9 hI9 hC9 hx9 F9 N9 off9 ne9 hm9 => ?_) ?_ (dueG_grows _ _)
          · obtain ⟨hk1, hk2⟩ := mem_downKs hk9
            have hj0 : 0 < k9 := by omega
            have hj1 : k9 < ow.length := by omega
            have hj2 : 0 ≤ (ow.length : Int) - k9 := by omega
            (repeat' (first | (k_unfold; (try dsimp only)) | (k_end; wrow_close) | ((fail_if_success (with_reducible show wpAny _ _ (exec (Stmt.For _ _ _ _ _) _) _ _ _)); (fail_if_success (with_reducible show wpAny _ _ (exec (Stmt.While _ _ _ _) _) _ _ _)); (fail_if_success (with_reducible show wpAny _ _ (pyIter _) _ _ _)); (fail_if_success (with_reducible show LCg.CompSrc _ _ _ _ _ _ _ _ _ _ _ _ _ _)); (fail_if_success (with_reducible show LCt.CompSrcT _ _ _ _ _ _ _ _ _ _ _ _ _ _ _)); (fail_if_success (with_reducible show wpAny _ _ (eval (Expr.ListComp _ _ _ _) _) _ _ _)); (fail_if_success (with_reducible show wpAny _ _ (exec (Stmt.Assign _ (Expr.ListComp _ _ _ _) _) _) _ _ _)); (fail_if_success (with_reducible show wpAny _ _ (storeName _ (Str.ofString "places") _) _ _ _)); (fail_if_success (with_reducible show wpAny _ _ (compareOp CmpOp.Eq (Value.str _ _) (Value.str _ _)) _ _ _)); (fail_if_success (with_reducible show wpAny _ _ (compareOp CmpOp.Eq (Value.ref _) (Value.ref _)) _ _ _)); (fail_if_success (with_reducible show wpAny _ _ (compareOp CmpOp.NotEq (Value.ref _) (Value.ref _)) _ _ _)); (fail_if_success (with_reducible show wpAny _ _ (call (Value.builtin "list.extend") _) _ _ _)); (fail_if_success (with_reducible show wpAny _ _ (call (Value.ref _) _) _ _ _)); (fail_if_success (with_reducible show wpAny _ _ (isTrue (Expr.BoolOp BoolOp.Or _ _) _ _) (fun b s₂ => if b = true then _ else _) _ _)); (fail_if_success (with_reducible show OrEnd _ _ _ _)); (fail_if_success (with_reducible show CsSrc _ _ _ _ _ _ _ _ _ _ _ _ _ _ _)); (fail_if_success (with_reducible show CnSrc _ _ _ _ _ _ _ _ _ _ _ _ _ _ _)); (fail_if_success (with_reducible show LCg.CompEnd _ _ _ _ _ _ _ _ _ _ _ _ _ _)); first | ((with_reducible show wpAny _ _ (call (Value.builtin "sum") [Value.ref _]) _ _ _); k_dflt (refine' sum_eq ?k0 ?k1 ?k2 ?k3 ?k4 ?k5 ?_; (case k0 => rfl); (case k1 => k_asm); (case k2 => k_asm); (case k3 => k_mem); (case k4 => with_reducible assumption); (case k5 => with_reducible assumption); k_whole); intro m_h9 m_tk9 m_t9 m_F9 m_N9) | ((with_reducible show wpAny _ _ (subscriptTail _ (Expr.Slice (some _) none none _) (Value.str _ _) _) _ _ _); (with_reducible rename Fr _ _ _ _ => m_F'); (with_reducible rename News _ _ _ _ => m_N'); refine str_from (s := ⟨_, _, _, _, _⟩) m_F' m_N' (by omega) (by omega) ?_; intro m_z' m_h' m_t' m_c' m_hz' m_hzl' m_F' m_N') | ((with_reducible show wpAny _ _ (subscriptTail _ _ (Value.ref _) (Value.int _ _)) _ _ _); k_dflt (refine' sub_atE ?k1 ?k2 ?k3 ?kk ?k4 ?k5 ?k7 ?_ ?k6; (case k1 => k_asm); (case k2 => k_mem); (case k3 => with_reducible assumption); (case kk => first | with_reducible assumption | exact rfl); (case k4 => omega); (case k5 => omega); (case k7 => omega); (case k6 => with_unfolding_all rfl); k_whole); intro _) | ((with_reducible show wpAny _ _ (compareOp CmpOp.NotEq (Value.str _ _) (Value.str _ _)) _ _ _); refine cmp_same ?_) | (k_here; (with_reducible show wpAny _ _ (call (Value.builtin "len") [Value.ref _]) _ _ _); (refine KM.len_K (by k_asm) (by k_dflt k_mem) (by with_reducible assumption) (by omega) ?_)) | ((with_reducible show wpAny _ _ (subscriptTail _ (Expr.Slice none (some _) none _) (Value.str _ _) _) _ _ _); (with_reducible rename Fr _ _ _ _ => m_F'); (with_reducible rename News _ _ _ _ => m_N'); refine str_to (s := ⟨_, _, _, _, _⟩) m_F' m_N' (by omega) (by omega) ?_; intro m_z' m_h' m_t' m_c' m_hz' m_hzl' m_F' m_N') | ((with_reducible show wpAny _ _ (binaryOp Operator.Add (Value.str _ _) (Value.str _ _)) _ _ _); refine str_add (by omega) ?_; intro m_z' m_t' m_k' m_hz' m_hzl') | ((with_reducible show wpAny _ _ (call (Value.builtin "str.join") [Value.str _ _, Value.ref _]) _ _ _); k_dflt (refine' join_ls ?k1 ?k2 ?k3 ?k4 ?k5 ?k6 ?_; (case k1 => k_asm); (case k2 => k_mem); (case k3 => with_reducible assumption); (case k4 => with_reducible assumption); (case k5 => with_reducible assumption); (case k6 => with_reducible assumption); k_whole); intro _ _) | ((with_reducible show wpAny _ _ (call (Value.builtin "sum") [Value.ref _]) _ _ _); k_dflt (refine' sum_pick ?k0 ?k1 ?k2 ?k3 ?_; (case k0 => rfl); (case k1 => k_asm); (case k2 => k_asm); (case k3 => with_reducible assumption); k_whole); intro m_ks9 m_h9 m_tk9 m_t9 m_F9 m_N9) | walk1 | (dsimp only; walk1) | (leave1; walk_say "STEP leave1"; try dsimp only)) | fail "no step"))
            refine eq_str ?_
            rename _ = List.take _ _ => q1
            rename _ = List.drop _ _ => q2
            rw [due_eq hj0 hj1 q1 q2]
            cases hb : bdB ow.cps.toList ow.length k9.toNat with
            | true =>
              (repeat' (first | (k_unfold; (try dsimp only)) | (k_end; wrow_close) | ((fail_if_success (with_reducible show wpAny _ _ (exec (Stmt.For _ _ _ _ _) _) _ _ _)); (fail_if_success (with_reducible show wpAny _ _ (exec (Stmt.While _ _ _ _) _) _ _ _)); (fail_if_success (with_reducible show wpAny _ _ (pyIter _) _ _ _)); (fail_if_success (with_reducible show LCg.CompSrc _ _ _ _ _ _ _ _ _ _ _ _ _ _)); (fail_if_success (with_reducible show LCt.CompSrcT _ _ _ _ _ _ _ _ _ _ _ _ _ _ _)); (fail_if_success (with_reducible show wpAny _ _ (eval (Expr.ListComp _ _ _ _) _) _ _ _)); (fail_if_success (with_reducible show wpAny _ _ (exec (Stmt.Assign _ (Expr.ListComp _ _ _ _) _) _) _ _ _)); (fail_if_success (with_reducible show wpAny _ _ (storeName _ (Str.ofString "places") _) _ _ _)); (fail_if_success (with_reducible show wpAny _ _ (compareOp CmpOp.Eq (Value.str _ _) (Value.str _ _)) _ _ _)); (fail_if_success (with_reducible show wpAny _ _ (compareOp CmpOp.Eq (Value.ref _) (Value.ref _)) _ _ _)); (fail_if_success (with_reducible show wpAny _ _ (compareOp CmpOp.NotEq (Value.ref _) (Value.ref _)) _ _ _)); (fail_if_success (with_reducible show wpAny _ _ (call (Value.builtin "list.extend") _) _ _ _)); (fail_if_success (with_reducible show wpAny _ _ (call (Value.ref _) _) _ _ _)); (fail_if_success (with_reducible show wpAny _ _ (isTrue (Expr.BoolOp BoolOp.Or _ _) _ _) (fun b s₂ => if b = true then _ else _) _ _)); (fail_if_success (with_reducible show OrEnd _ _ _ _)); (fail_if_success (with_reducible show CsSrc _ _ _ _ _ _ _ _ _ _ _ _ _ _ _)); (fail_if_success (with_reducible show CnSrc _ _ _ _ _ _ _ _ _ _ _ _ _ _ _)); (fail_if_success (with_reducible show LCg.CompEnd _ _ _ _ _ _ _ _ _ _ _ _ _ _)); first | ((with_reducible show wpAny _ _ (call (Value.builtin "sum") [Value.ref _]) _ _ _); k_dflt (refine' sum_eq ?k0 ?k1 ?k2 ?k3 ?k4 ?k5 ?_; (case k0 => rfl); (case k1 => k_asm); (case k2 => k_asm); (case k3 => k_mem); (case k4 => with_reducible assumption); (case k5 => with_reducible assumption); k_whole); intro m_h9 m_tk9 m_t9 m_F9 m_N9) | ((with_reducible show wpAny _ _ (subscriptTail _ (Expr.Slice (some _) none none _) (Value.str _ _) _) _ _ _); (with_reducible rename Fr _ _ _ _ => m_F'); (with_reducible rename News _ _ _ _ => m_N'); refine str_from (s := ⟨_, _, _, _, _⟩) m_F' m_N' (by omega) (by omega) ?_; intro m_z' m_h' m_t' m_c' m_hz' m_hzl' m_F' m_N') | ((with_reducible show wpAny _ _ (subscriptTail _ _ (Value.ref _) (Value.int _ _)) _ _ _); k_dflt (refine' sub_atE ?k1 ?k2 ?k3 ?kk ?k4 ?k5 ?k7 ?_ ?k6; (case k1 => k_asm); (case k2 => k_mem); (case k3 => with_reducible assumption); (case kk => first | with_reducible assumption | exact rfl); (case k4 => omega); (case k5 => omega); (case k7 => omega); (case k6 => with_unfolding_all rfl); k_whole); intro _) | ((with_reducible show wpAny _ _ (compareOp CmpOp.NotEq (Value.str _ _) (Value.str _ _)) _ _ _); refine cmp_same ?_) | (k_here; (with_reducible show wpAny _ _ (call (Value.builtin "len") [Value.ref _]) _ _ _); (refine KM.len_K (by k_asm) (by k_dflt k_mem) (by with_reducible assumption) (by omega) ?_)) | ((with_reducible show wpAny _ _ (subscriptTail _ (Expr.Slice none (some _) none _) (Value.str _ _) _) _ _ _); (with_reducible rename Fr _ _ _ _ => m_F'); (with_reducible rename News _ _ _ _ => m_N'); refine str_to (s := ⟨_, _, _, _, _⟩) m_F' m_N' (by omega) (by omega) ?_; intro m_z' m_h' m_t' m_c' m_hz' m_hzl' m_F' m_N') | ((with_reducible show wpAny _ _ (binaryOp Operator.Add (Value.str _ _) (Value.str _ _)) _ _ _); refine str_add (by omega) ?_; intro m_z' m_t' m_k' m_hz' m_hzl') | ((with_reducible show wpAny _ _ (call (Value.builtin "str.join") [Value.str _ _, Value.ref _]) _ _ _); k_dflt (refine' join_ls ?k1 ?k2 ?k3 ?k4 ?k5 ?k6 ?_; (case k1 => k_asm); (case k2 => k_mem); (case k3 => with_reducible assumption); (case k4 => with_reducible assumption); (case k5 => with_reducible assumption); (case k6 => with_reducible assumption); k_whole); intro _ _) | ((with_reducible show wpAny _ _ (call (Value.builtin "sum") [Value.ref _]) _ _ _); k_dflt (refine' sum_pick ?k0 ?k1 ?k2 ?k3 ?_; (case k0 => rfl); (case k1 => k_asm); (case k2 => k_asm); (case k3 => with_reducible assumption); k_whole); intro m_ks9 m_h9 m_tk9 m_t9 m_F9 m_N9) | walk1 | (dsimp only; walk1) | (leave1; walk_say "STEP leave1"; try dsimp only)) | fail "no step"))
              exact LCg.CompEnd.intro (by k_asm) (by k_asm) _ (fun p hp => hp) off9 trivial (kci_el (if_pos hb) rfl rfl)
            | false =>
              (repeat' (first | (k_unfold; (try dsimp only)) | (k_end; wrow_close) | ((fail_if_success (with_reducible show wpAny _ _ (exec (Stmt.For _ _ _ _ _) _) _ _ _)); (fail_if_success (with_reducible show wpAny _ _ (exec (Stmt.While _ _ _ _) _) _ _ _)); (fail_if_success (with_reducible show wpAny _ _ (pyIter _) _ _ _)); (fail_if_success (with_reducible show LCg.CompSrc _ _ _ _ _ _ _ _ _ _ _ _ _ _)); (fail_if_success (with_reducible show LCt.CompSrcT _ _ _ _ _ _ _ _ _ _ _ _ _ _ _)); (fail_if_success (with_reducible show wpAny _ _ (eval (Expr.ListComp _ _ _ _) _) _ _ _)); (fail_if_success (with_reducible show wpAny _ _ (exec (Stmt.Assign _ (Expr.ListComp _ _ _ _) _) _) _ _ _)); (fail_if_success (with_reducible show wpAny _ _ (storeName _ (Str.ofString "places") _) _ _ _)); (fail_if_success (with_reducible show wpAny _ _ (compareOp CmpOp.Eq (Value.str _ _) (Value.str _ _)) _ _ _)); (fail_if_success (with_reducible show wpAny _ _ (compareOp CmpOp.Eq (Value.ref _) (Value.ref _)) _ _ _)); (fail_if_success (with_reducible show wpAny _ _ (compareOp CmpOp.NotEq (Value.ref _) (Value.ref _)) _ _ _)); (fail_if_success (with_reducible show wpAny _ _ (call (Value.builtin "list.extend") _) _ _ _)); (fail_if_success (with_reducible show wpAny _ _ (call (Value.ref _) _) _ _ _)); (fail_if_success (with_reducible show wpAny _ _ (isTrue (Expr.BoolOp BoolOp.Or _ _) _ _) (fun b s₂ => if b = true then _ else _) _ _)); (fail_if_success (with_reducible show OrEnd _ _ _ _)); (fail_if_success (with_reducible show CsSrc _ _ _ _ _ _ _ _ _ _ _ _ _ _ _)); (fail_if_success (with_reducible show CnSrc _ _ _ _ _ _ _ _ _ _ _ _ _ _ _)); (fail_if_success (with_reducible show LCg.CompEnd _ _ _ _ _ _ _ _ _ _ _ _ _ _)); first | ((with_reducible show wpAny _ _ (call (Value.builtin "sum") [Value.ref _]) _ _ _); k_dflt (refine' sum_eq ?k0 ?k1 ?k2 ?k3 ?k4 ?k5 ?_; (case k0 => rfl); (case k1 => k_asm); (case k2 => k_asm); (case k3 => k_mem); (case k4 => with_reducible assumption); (case k5 => with_reducible assumption); k_whole); intro m_h9 m_tk9 m_t9 m_F9 m_N9) | ((with_reducible show wpAny _ _ (subscriptTail _ (Expr.Slice (some _) none none _) (Value.str _ _) _) _ _ _); (with_reducible rename Fr _ _ _ _ => m_F'); (with_reducible rename News _ _ _ _ => m_N'); refine str_from (s := ⟨_, _, _, _, _⟩) m_F' m_N' (by omega) (by omega) ?_; intro m_z' m_h' m_t' m_c' m_hz' m_hzl' m_F' m_N') | ((with_reducible show wpAny _ _ (subscriptTail _ _ (Value.ref _) (Value.int _ _)) _ _ _); k_dflt (refine' sub_atE ?k1 ?k2 ?k3 ?kk ?k4 ?k5 ?k7 ?_ ?k6; (case k1 => k_asm); (case k2 => k_mem); (case k3 => with_reducible assumption); (case kk => first | with_reducible assumption | exact rfl); (case k4 => omega); (case k5 => omega); (case k7 => omega); (case k6 => with_unfolding_all rfl); k_whole); intro _) | ((with_reducible show wpAny _ _ (compareOp CmpOp.NotEq (Value.str _ _) (Value.str _ _)) _ _ _); refine cmp_same ?_) | (k_here; (with_reducible show wpAny _ _ (call (Value.builtin "len") [Value.ref _]) _ _ _); (refine KM.len_K (by k_asm) (by k_dflt k_mem) (by with_reducible assumption) (by omega) ?_)) | ((with_reducible show wpAny _ _ (subscriptTail _ (Expr.Slice none (some _) none _) (Value.str _ _) _) _ _ _); (with_reducible rename Fr _ _ _ _ => m_F'); (with_reducible rename News _ _ _ _ => m_N'); refine str_to (s := ⟨_, _, _, _, _⟩) m_F' m_N' (by omega) (by omega) ?_; intro m_z' m_h' m_t' m_c' m_hz' m_hzl' m_F' m_N') | ((with_reducible show wpAny _ _ (binaryOp Operator.Add (Value.str _ _) (Value.str _ _)) _ _ _); refine str_add (by omega) ?_; intro m_z' m_t' m_k' m_hz' m_hzl') | ((with_reducible show wpAny _ _ (call (Value.builtin "str.join") [Value.str _ _, Value.ref _]) _ _ _); k_dflt (refine' join_ls ?k1 ?k2 ?k3 ?k4 ?k5 ?k6 ?_; (case k1 => k_asm); (case k2 => k_mem); (case k3 => with_reducible assumption); (case k4 => with_reducible assumption); (case k5 => with_reducible assumption); (case k6 => with_reducible assumption); k_whole); intro _ _) | ((with_reducible show wpAny _ _ (call (Value.builtin "sum") [Value.ref _]) _ _ _); k_dflt (refine' sum_pick ?k0 ?k1 ?k2 ?k3 ?_; (case k0 => rfl); (case k1 => k_asm); (case k2 => k_asm); (case k3 => with_reducible assumption); k_whole); intro m_ks9 m_h9 m_tk9 m_t9 m_F9 m_N9) | walk1 | (dsimp only; walk1) | (leave1; walk_say "STEP leave1"; try dsimp only)) | fail "no step"))
              exact LCg.CompEnd.intro (by k_asm) (by k_asm) _ (fun p hp => hp) off9 trivial (kci_no (if_neg (by rw [hb]; decide)) rfl)
          · unfold KPfDone
            intro ys8 hys8 hyl8
            rw [due_fold _ _ (ow.length - 1) hdn] at hys8
            have hfin : (bds rr rr.length rr.length).map Int.ofNat = (bds ow.cps.toList ow.length ow.length).map Int.ofNat := by
              have e := hS.2.2.2
              have e2 : rr.length = ow.length := hrl
              rw [e2, bds_same (n := ow.length) (r := rr) (by intro j; have := e j; rwa [show (((List.length _ : Nat) : Int)).toNat = ow.length by omega] at this)]
            (repeat' (first | (k_unfold; (try dsimp only)) | (k_end; wrow_close) | ((fail_if_success (with_reducible show wpAny _ _ (exec (Stmt.For _ _ _ _ _) _) _ _ _)); (fail_if_success (with_reducible show wpAny _ _ (exec (Stmt.While _ _ _ _) _) _ _ _)); (fail_if_success (with_reducible show wpAny _ _ (pyIter _) _ _ _)); (fail_if_success (with_reducible show LCg.CompSrc _ _ _ _ _ _ _ _ _ _ _ _ _ _)); (fail_if_success (with_reducible show LCt.CompSrcT _ _ _ _ _ _ _ _ _ _ _ _ _ _ _)); (fail_if_success (with_reducible show wpAny _ _ (eval (Expr.ListComp _ _ _ _) _) _ _ _)); (fail_if_success (with_reducible show wpAny _ _ (exec (Stmt.Assign _ (Expr.ListComp _ _ _ _) _) _) _ _ _)); (fail_if_success (with_reducible show wpAny _ _ (storeName _ (Str.ofString "places") _) _ _ _)); (fail_if_success (with_reducible show wpAny _ _ (compareOp CmpOp.Eq (Value.str _ _) (Value.str _ _)) _ _ _)); (fail_if_success (with_reducible show wpAny _ _ (compareOp CmpOp.Eq (Value.ref _) (Value.ref _)) _ _ _)); (fail_if_success (with_reducible show wpAny _ _ (compareOp CmpOp.NotEq (Value.ref _) (Value.ref _)) _ _ _)); (fail_if_success (with_reducible show wpAny _ _ (call (Value.builtin "list.extend") _) _ _ _)); (fail_if_success (with_reducible show wpAny _ _ (call (Value.ref _) _) _ _ _)); (fail_if_success (with_reducible show wpAny _ _ (isTrue (Expr.BoolOp BoolOp.Or _ _) _ _) (fun b s₂ => if b = true then _ else _) _ _)); (fail_if_success (with_reducible show OrEnd _ _ _ _)); (fail_if_success (with_reducible show CsSrc _ _ _ _ _ _ _ _ _ _ _ _ _ _ _)); (fail_if_success (with_reducible show CnSrc _ _ _ _ _ _ _ _ _ _ _ _ _ _ _)); (fail_if_success (with_reducible show LCg.CompEnd _ _ _ _ _ _ _ _ _ _ _ _ _ _)); first | ((with_reducible show wpAny _ _ (call (Value.builtin "sum") [Value.ref _]) _ _ _); k_dflt (refine' sum_eq ?k0 ?k1 ?k2 ?k3 ?k4 ?k5 ?_; (case k0 => rfl); (case k1 => k_asm); (case k2 => k_asm); (case k3 => k_mem); (case k4 => with_reducible assumption); (case k5 => with_reducible assumption); k_whole); intro m_h9 m_tk9 m_t9 m_F9 m_N9) | ((with_reducible show wpAny _ _ (subscriptTail _ (Expr.Slice (some _) none none _) (Value.str _ _) _) _ _ _); (with_reducible rename Fr _ _ _ _ => m_F'); (with_reducible rename News _ _ _ _ => m_N'); refine str_from (s := ⟨_, _, _, _, _⟩) m_F' m_N' (by omega) (by omega) ?_; intro m_z' m_h' m_t' m_c' m_hz' m_hzl' m_F' m_N') | ((with_reducible show wpAny _ _ (subscriptTail _ _ (Value.ref _) (Value.int _ _)) _ _ _); k_dflt (refine' sub_atE ?k1 ?k2 ?k3 ?kk ?k4 ?k5 ?k7 ?_ ?k6; (case k1 => k_asm); (case k2 => k_mem); (case k3 => with_reducible assumption); (case kk => first | with_reducible assumption | exact rfl); (case k4 => omega); (case k5 => omega); (case k7 => omega); (case k6 => with_unfolding_all rfl); k_whole); intro _) | ((with_reducible show wpAny _ _ (compareOp CmpOp.NotEq (Value.str _ _) (Value.str _ _)) _ _ _); refine cmp_same ?_) | (k_here; (with_reducible show wpAny _ _ (call (Value.builtin "len") [Value.ref _]) _ _ _); (refine KM.len_K (by k_asm) (by k_dflt k_mem) (by with_reducible assumption) (by omega) ?_)) | ((with_reducible show wpAny _ _ (subscriptTail _ (Expr.Slice none (some _) none _) (Value.str _ _) _) _ _ _); (with_reducible rename Fr _ _ _ _ => m_F'); (with_reducible rename News _ _ _ _ => m_N'); refine str_to (s := ⟨_, _, _, _, _⟩) m_F' m_N' (by omega) (by omega) ?_; intro m_z' m_h' m_t' m_c' m_hz' m_hzl' m_F' m_N') | ((with_reducible show wpAny _ _ (binaryOp Operator.Add (Value.str _ _) (Value.str _ _)) _ _ _); refine str_add (by omega) ?_; intro m_z' m_t' m_k' m_hz' m_hzl') | ((with_reducible show wpAny _ _ (call (Value.builtin "str.join") [Value.str _ _, Value.ref _]) _ _ _); k_dflt (refine' join_ls ?k1 ?k2 ?k3 ?k4 ?k5 ?k6 ?_; (case k1 => k_asm); (case k2 => k_mem); (case k3 => with_reducible assumption); (case k4 => with_reducible assumption); (case k5 => with_reducible assumption); (case k6 => with_reducible assumption); k_whole); intro _ _) | ((with_reducible show wpAny _ _ (call (Value.builtin "sum") [Value.ref _]) _ _ _); k_dflt (refine' sum_pick ?k0 ?k1 ?k2 ?k3 ?_; (case k0 => rfl); (case k1 => k_asm); (case k2 => k_asm); (case k3 => with_reducible assumption); k_whole); intro m_ks9 m_h9 m_tk9 m_t9 m_F9 m_N9) | walk1 | (dsimp only; walk1) | (leave1; walk_say "STEP leave1"; try dsimp only)) | fail "no step"))
            refine eq_L (by k_asm) (by k_mem) (by k_mem) hI7 (by with_reducible assumption) (by ktr_units) ?_
            rw [decide_eq_true rfl]
            (repeat' (first | (k_unfold; (try dsimp only)) | (k_end; wrow_close) | ((fail_if_success (with_reducible show wpAny _ _ (exec (Stmt.For _ _ _ _ _) _) _ _ _)); (fail_if_success (with_reducible show wpAny _ _ (exec (Stmt.While _ _ _ _) _) _ _ _)); (fail_if_success (with_reducible show wpAny _ _ (pyIter _) _ _ _)); (fail_if_success (with_reducible show LCg.CompSrc _ _ _ _ _ _ _ _ _ _ _ _ _ _)); (fail_if_success (with_reducible show LCt.CompSrcT _ _ _ _ _ _ _ _ _ _ _ _ _ _ _)); (fail_if_success (with_reducible show wpAny _ _ (eval (Expr.ListComp _ _ _ _) _) _ _ _)); (fail_if_success (with_reducible show wpAny _ _ (exec (Stmt.Assign _ (Expr.ListComp _ _ _ _) _) _) _ _ _)); (fail_if_success (with_reducible show wpAny _ _ (storeName _ (Str.ofString "places") _) _ _ _)); (fail_if_success (with_reducible show wpAny _ _ (compareOp CmpOp.Eq (Value.str _ _) (Value.str _ _)) _ _ _)); (fail_if_success (with_reducible show wpAny _ _ (compareOp CmpOp.Eq (Value.ref _) (Value.ref _)) _ _ _)); (fail_if_success (with_reducible show wpAny _ _ (compareOp CmpOp.NotEq (Value.ref _) (Value.ref _)) _ _ _)); (fail_if_success (with_reducible show wpAny _ _ (call (Value.builtin "list.extend") _) _ _ _)); (fail_if_success (with_reducible show wpAny _ _ (call (Value.ref _) _) _ _ _)); (fail_if_success (with_reducible show wpAny _ _ (isTrue (Expr.BoolOp BoolOp.Or _ _) _ _) (fun b s₂ => if b = true then _ else _) _ _)); (fail_if_success (with_reducible show OrEnd _ _ _ _)); (fail_if_success (with_reducible show CsSrc _ _ _ _ _ _ _ _ _ _ _ _ _ _ _)); (fail_if_success (with_reducible show CnSrc _ _ _ _ _ _ _ _ _ _ _ _ _ _ _)); (fail_if_success (with_reducible show LCg.CompEnd _ _ _ _ _ _ _ _ _ _ _ _ _ _)); first | ((with_reducible show wpAny _ _ (call (Value.builtin "sum") [Value.ref _]) _ _ _); k_dflt (refine' sum_eq ?k0 ?k1 ?k2 ?k3 ?k4 ?k5 ?_; (case k0 => rfl); (case k1 => k_asm); (case k2 => k_asm); (case k3 => k_mem); (case k4 => with_reducible assumption); (case k5 => with_reducible assumption); k_whole); intro m_h9 m_tk9 m_t9 m_F9 m_N9) | ((with_reducible show wpAny _ _ (subscriptTail _ (Expr.Slice (some _) none none _) (Value.str _ _) _) _ _ _); (with_reducible rename Fr _ _ _ _ => m_F'); (with_reducible rename News _ _ _ _ => m_N'); refine str_from (s := ⟨_, _, _, _, _⟩) m_F' m_N' (by omega) (by omega) ?_; intro m_z' m_h' m_t' m_c' m_hz' m_hzl' m_F' m_N') | ((with_reducible show wpAny _ _ (subscriptTail _ _ (Value.ref _) (Value.int _ _)) _ _ _); k_dflt (refine' sub_atE ?k1 ?k2 ?k3 ?kk ?k4 ?k5 ?k7 ?_ ?k6; (case k1 => k_asm); (case k2 => k_mem); (case k3 => with_reducible assumption); (case kk => first | with_reducible assumption | exact rfl); (case k4 => omega); (case k5 => omega); (case k7 => omega); (case k6 => with_unfolding_all rfl); k_whole); intro _) | ((with_reducible show wpAny _ _ (compareOp CmpOp.NotEq (Value.str _ _) (Value.str _ _)) _ _ _); refine cmp_same ?_) | (k_here; (with_reducible show wpAny _ _ (call (Value.builtin "len") [Value.ref _]) _ _ _); (refine KM.len_K (by k_asm) (by k_dflt k_mem) (by with_reducible assumption) (by omega) ?_)) | ((with_reducible show wpAny _ _ (subscriptTail _ (Expr.Slice none (some _) none _) (Value.str _ _) _) _ _ _); (with_reducible rename Fr _ _ _ _ => m_F'); (with_reducible rename News _ _ _ _ => m_N'); refine str_to (s := ⟨_, _, _, _, _⟩) m_F' m_N' (by omega) (by omega) ?_; intro m_z' m_h' m_t' m_c' m_hz' m_hzl' m_F' m_N') | ((with_reducible show wpAny _ _ (binaryOp Operator.Add (Value.str _ _) (Value.str _ _)) _ _ _); refine str_add (by omega) ?_; intro m_z' m_t' m_k' m_hz' m_hzl') | ((with_reducible show wpAny _ _ (call (Value.builtin "str.join") [Value.str _ _, Value.ref _]) _ _ _); k_dflt (refine' join_ls ?k1 ?k2 ?k3 ?k4 ?k5 ?k6 ?_; (case k1 => k_asm); (case k2 => k_mem); (case k3 => with_reducible assumption); (case k4 => with_reducible assumption); (case k5 => with_reducible assumption); (case k6 => with_reducible assumption); k_whole); intro _ _) | ((with_reducible show wpAny _ _ (call (Value.builtin "sum") [Value.ref _]) _ _ _); k_dflt (refine' sum_pick ?k0 ?k1 ?k2 ?k3 ?_; (case k0 => rfl); (case k1 => k_asm); (case k2 => k_asm); (case k3 => with_reducible assumption); k_whole); intro m_ks9 m_h9 m_tk9 m_t9 m_F9 m_N9) | walk1 | (dsimp only; walk1) | (leave1; walk_say "STEP leave1"; try dsimp only)) | fail "no step"))
            k_dflt (refine' use_tabI hI7 hr1 ?kmp ?k1p ?k2p ?k3p ?k4p ?k5p ?kkp ?kdp ?kup ?_; (case k4p => k_asm); (case kmp => k_mem); (case k1p => k_asm); (case k2p => k_asm); (case k3p => k_asm); (case k5p => k_asm); (case kkp => exact rfl); (case kdp => first | ktr_room | omega); (case kup => first | ktr_units | omega))
            intro a8 vs8 n8 ts8 h8 tk8 F8 N8 l8 hi8 ht8
            clear l8
            (repeat' (first | (k_unfold; (try dsimp only)) | (k_end; wrow_close) | ((fail_if_success (with_reducible show wpAny _ _ (exec (Stmt.For _ _ _ _ _) _) _ _ _)); (fail_if_success (with_reducible show wpAny _ _ (exec (Stmt.While _ _ _ _) _) _ _ _)); (fail_if_success (with_reducible show wpAny _ _ (pyIter _) _ _ _)); (fail_if_success (with_reducible show LCg.CompSrc _ _ _ _ _ _ _ _ _ _ _ _ _ _)); (fail_if_success (with_reducible show LCt.CompSrcT _ _ _ _ _ _ _ _ _ _ _ _ _ _ _)); (fail_if_success (with_reducible show wpAny _ _ (eval (Expr.ListComp _ _ _ _) _) _ _ _)); (fail_if_success (with_reducible show wpAny _ _ (exec (Stmt.Assign _ (Expr.ListComp _ _ _ _) _) _) _ _ _)); (fail_if_success (with_reducible show wpAny _ _ (storeName _ (Str.ofString "places") _) _ _ _)); (fail_if_success (with_reducible show wpAny _ _ (compareOp CmpOp.Eq (Value.str _ _) (Value.str _ _)) _ _ _)); (fail_if_success (with_reducible show wpAny _ _ (compareOp CmpOp.Eq (Value.ref _) (Value.ref _)) _ _ _)); (fail_if_success (with_reducible show wpAny _ _ (compareOp CmpOp.NotEq (Value.ref _) (Value.ref _)) _ _ _)); (fail_if_success (with_reducible show wpAny _ _ (call (Value.builtin "list.extend") _) _ _ _)); (fail_if_success (with_reducible show wpAny _ _ (call (Value.ref _) _) _ _ _)); (fail_if_success (with_reducible show wpAny _ _ (isTrue (Expr.BoolOp BoolOp.Or _ _) _ _) (fun b s₂ => if b = true then _ else _) _ _)); (fail_if_success (with_reducible show OrEnd _ _ _ _)); (fail_if_success (with_reducible show CsSrc _ _ _ _ _ _ _ _ _ _ _ _ _ _ _)); (fail_if_success (with_reducible show CnSrc _ _ _ _ _ _ _ _ _ _ _ _ _ _ _)); (fail_if_success (with_reducible show LCg.CompEnd _ _ _ _ _ _ _ _ _ _ _ _ _ _)); first | ((with_reducible show wpAny _ _ (call (Value.builtin "sum") [Value.ref _]) _ _ _); k_dflt (refine' sum_eq ?k0 ?k1 ?k2 ?k3 ?k4 ?k5 ?_; (case k0 => rfl); (case k1 => k_asm); (case k2 => k_asm); (case k3 => k_mem); (case k4 => with_reducible assumption); (case k5 => with_reducible assumption); k_whole); intro m_h9 m_tk9 m_t9 m_F9 m_N9) | ((with_reducible show wpAny _ _ (subscriptTail _ (Expr.Slice (some _) none none _) (Value.str _ _) _) _ _ _); (with_reducible rename Fr _ _ _ _ => m_F'); (with_reducible rename News _ _ _ _ => m_N'); refine str_from (s := ⟨_, _, _, _, _⟩) m_F' m_N' (by omega) (by omega) ?_; intro m_z' m_h' m_t' m_c' m_hz' m_hzl' m_F' m_N') | ((with_reducible show wpAny _ _ (subscriptTail _ _ (Value.ref _) (Value.int _ _)) _ _ _); k_dflt (refine' sub_atE ?k1 ?k2 ?k3 ?kk ?k4 ?k5 ?k7 ?_ ?k6; (case k1 => k_asm); (case k2 => k_mem); (case k3 => with_reducible assumption); (case kk => first | with_reducible assumption | exact rfl); (case k4 => omega); (case k5 => omega); (case k7 => omega); (case k6 => with_unfolding_all rfl); k_whole); intro _) | ((with_reducible show wpAny _ _ (compareOp CmpOp.NotEq (Value.str _ _) (Value.str _ _)) _ _ _); refine cmp_same ?_) | (k_here; (with_reducible show wpAny _ _ (call (Value.builtin "len") [Value.ref _]) _ _ _); (refine KM.len_K (by k_asm) (by k_dflt k_mem) (by with_reducible assumption) (by omega) ?_)) | ((with_reducible show wpAny _ _ (subscriptTail _ (Expr.Slice none (some _) none _) (Value.str _ _) _) _ _ _); (with_reducible rename Fr _ _ _ _ => m_F'); (with_reducible rename News _ _ _ _ => m_N'); refine str_to (s := ⟨_, _, _, _, _⟩) m_F' m_N' (by omega) (by omega) ?_; intro m_z' m_h' m_t' m_c' m_hz' m_hzl' m_F' m_N') | ((with_reducible show wpAny _ _ (binaryOp Operator.Add (Value.str _ _) (Value.str _ _)) _ _ _); refine str_add (by omega) ?_; intro m_z' m_t' m_k' m_hz' m_hzl') | ((with_reducible show wpAny _ _ (call (Value.builtin "str.join") [Value.str _ _, Value.ref _]) _ _ _); k_dflt (refine' join_ls ?k1 ?k2 ?k3 ?k4 ?k5 ?k6 ?_; (case k1 => k_asm); (case k2 => k_mem); (case k3 => with_reducible assumption); (case k4 => with_reducible assumption); (case k5 => with_reducible assumption); (case k6 => with_reducible assumption); k_whole); intro _ _) | ((with_reducible show wpAny _ _ (call (Value.builtin "sum") [Value.ref _]) _ _ _); k_dflt (refine' sum_pick ?k0 ?k1 ?k2 ?k3 ?_; (case k0 => rfl); (case k1 => k_asm); (case k2 => k_asm); (case k3 => with_reducible assumption); k_whole); intro m_ks9 m_h9 m_tk9 m_t9 m_F9 m_N9) | walk1 | (dsimp only; walk1) | (leave1; walk_say "STEP leave1"; try dsimp only)) | fail "no step"))
            k_dflt (refine' use_ovl hi8 ht8 hr0 hr1 ?kmq ?k1q ?k2q ?k3q ?k4q ?k5q ?kkq ?kdq ?kuq ?_; (case k4q => k_asm); (case kmq => k_mem); (case k1q => k_asm); (case k2q => k_asm); (case k3q => k_asm); (case k5q => k_asm); (case kkq => exact rfl); (case kdq => first | ktr_room | omega); (case kuq => first | ktr_units | omega))
            intro a7 vs7 n7 h7 tk7 F7 N7 hi7
            (repeat' (first | (k_unfold; (try dsimp only)) | (k_end; wrow_close) | ((fail_if_success (with_reducible show wpAny _ _ (exec (Stmt.For _ _ _ _ _) _) _ _ _)); (fail_if_success (with_reducible show wpAny _ _ (exec (Stmt.While _ _ _ _) _) _ _ _)); (fail_if_success (with_reducible show wpAny _ _ (pyIter _) _ _ _)); (fail_if_success (with_reducible show LCg.CompSrc _ _ _ _ _ _ _ _ _ _ _ _ _ _)); (fail_if_success (with_reducible show LCt.CompSrcT _ _ _ _ _ _ _ _ _ _ _ _ _ _ _)); (fail_if_success (with_reducible show wpAny _ _ (eval (Expr.ListComp _ _ _ _) _) _ _ _)); (fail_if_success (with_reducible show wpAny _ _ (exec (Stmt.Assign _ (Expr.ListComp _ _ _ _) _) _) _ _ _)); (fail_if_success (with_reducible show wpAny _ _ (storeName _ (Str.ofString "places") _) _ _ _)); (fail_if_success (with_reducible show wpAny _ _ (compareOp CmpOp.Eq (Value.str _ _) (Value.str _ _)) _ _ _)); (fail_if_success (with_reducible show wpAny _ _ (compareOp CmpOp.Eq (Value.ref _) (Value.ref _)) _ _ _)); (fail_if_success (with_reducible show wpAny _ _ (compareOp CmpOp.NotEq (Value.ref _) (Value.ref _)) _ _ _)); (fail_if_success (with_reducible show wpAny _ _ (call (Value.builtin "list.extend") _) _ _ _)); (fail_if_success (with_reducible show wpAny _ _ (call (Value.ref _) _) _ _ _)); (fail_if_success (with_reducible show wpAny _ _ (isTrue (Expr.BoolOp BoolOp.Or _ _) _ _) (fun b s₂ => if b = true then _ else _) _ _)); (fail_if_success (with_reducible show OrEnd _ _ _ _)); (fail_if_success (with_reducible show CsSrc _ _ _ _ _ _ _ _ _ _ _ _ _ _ _)); (fail_if_success (with_reducible show CnSrc _ _ _ _ _ _ _ _ _ _ _ _ _ _ _)); (fail_if_success (with_reducible show LCg.CompEnd _ _ _ _ _ _ _ _ _ _ _ _ _ _)); first | ((with_reducible show wpAny _ _ (call (Value.builtin "sum") [Value.ref _]) _ _ _); k_dflt (refine' sum_eq ?k0 ?k1 ?k2 ?k3 ?k4 ?k5 ?_; (case k0 => rfl); (case k1 => k_asm); (case k2 => k_asm); (case k3 => k_mem); (case k4 => with_reducible assumption); (case k5 => with_reducible assumption); k_whole); intro m_h9 m_tk9 m_t9 m_F9 m_N9) | ((with_reducible show wpAny _ _ (subscriptTail _ (Expr.Slice (some _) none none _) (Value.str _ _) _) _ _ _); (with_reducible rename Fr _ _ _ _ => m_F'); (with_reducible rename News _ _ _ _ => m_N'); refine str_from (s := ⟨_, _, _, _, _⟩) m_F' m_N' (by omega) (by omega) ?_; intro m_z' m_h' m_t' m_c' m_hz' m_hzl' m_F' m_N') | ((with_reducible show wpAny _ _ (subscriptTail _ _ (Value.ref _) (Value.int _ _)) _ _ _); k_dflt (refine' sub_atE ?k1 ?k2 ?k3 ?kk ?k4 ?k5 ?k7 ?_ ?k6; (case k1 => k_asm); (case k2 => k_mem); (case k3 => with_reducible assumption); (case kk => first | with_reducible assumption | exact rfl); (case k4 => omega); (case k5 => omega); (case k7 => omega); (case k6 => with_unfolding_all rfl); k_whole); intro _) | ((with_reducible show wpAny _ _ (compareOp CmpOp.NotEq (Value.str _ _) (Value.str _ _)) _ _ _); refine cmp_same ?_) | (k_here; (with_reducible show wpAny _ _ (call (Value.builtin "len") [Value.ref _]) _ _ _); (refine KM.len_K (by k_asm) (by k_dflt k_mem) (by with_reducible assumption) (by omega) ?_)) | ((with_reducible show wpAny _ _ (subscriptTail _ (Expr.Slice none (some _) none _) (Value.str _ _) _) _ _ _); (with_reducible rename Fr _ _ _ _ => m_F'); (with_reducible rename News _ _ _ _ => m_N'); refine str_to (s := ⟨_, _, _, _, _⟩) m_F' m_N' (by omega) (by omega) ?_; intro m_z' m_h' m_t' m_c' m_hz' m_hzl' m_F' m_N') | ((with_reducible show wpAny _ _ (binaryOp Operator.Add (Value.str _ _) (Value.str _ _)) _ _ _); refine str_add (by omega) ?_; intro m_z' m_t' m_k' m_hz' m_hzl') | ((with_reducible show wpAny _ _ (call (Value.builtin "str.join") [Value.str _ _, Value.ref _]) _ _ _); k_dflt (refine' join_ls ?k1 ?k2 ?k3 ?k4 ?k5 ?k6 ?_; (case k1 => k_asm); (case k2 => k_mem); (case k3 => with_reducible assumption); (case k4 => with_reducible assumption); (case k5 => with_reducible assumption); (case k6 => with_reducible assumption); k_whole); intro _ _) | ((with_reducible show wpAny _ _ (call (Value.builtin "sum") [Value.ref _]) _ _ _); k_dflt (refine' sum_pick ?k0 ?k1 ?k2 ?k3 ?_; (case k0 => rfl); (case k1 => k_asm); (case k2 => k_asm); (case k3 => with_reducible assumption); k_whole); intro m_ks9 m_h9 m_tk9 m_t9 m_F9 m_N9) | walk1 | (dsimp only; walk1) | (leave1; walk_say "STEP leave1"; try dsimp only)) | fail "no step"))
            refine eq_L (by k_asm) (by k_mem) (by k_mem) hi7 hys8 (by ktr_units) ?_
            rw [hfin, decide_eq_true rfl]
            (repeat' (first | (k_unfold; (try dsimp only)) | (k_end; wrow_close) | ((fail_if_success (with_reducible show wpAny _ _ (exec (Stmt.For _ _ _ _ _) _) _ _ _)); (fail_if_success (with_reducible show wpAny _ _ (exec (Stmt.While _ _ _ _) _) _ _ _)); (fail_if_success (with_reducible show wpAny _ _ (pyIter _) _ _ _)); (fail_if_success (with_reducible show LCg.CompSrc _ _ _ _ _ _ _ _ _ _ _ _ _ _)); (fail_if_success (with_reducible show LCt.CompSrcT _ _ _ _ _ _ _ _ _ _ _ _ _ _ _)); (fail_if_success (with_reducible show wpAny _ _ (eval (Expr.ListComp _ _ _ _) _) _ _ _)); (fail_if_success (with_reducible show wpAny _ _ (exec (Stmt.Assign _ (Expr.ListComp _ _ _ _) _) _) _ _ _)); (fail_if_success (with_reducible show wpAny _ _ (storeName _ (Str.ofString "places") _) _ _ _)); (fail_if_success (with_reducible show wpAny _ _ (compareOp CmpOp.Eq (Value.str _ _) (Value.str _ _)) _ _ _)); (fail_if_success (with_reducible show wpAny _ _ (compareOp CmpOp.Eq (Value.ref _) (Value.ref _)) _ _ _)); (fail_if_success (with_reducible show wpAny _ _ (compareOp CmpOp.NotEq (Value.ref _) (Value.ref _)) _ _ _)); (fail_if_success (with_reducible show wpAny _ _ (call (Value.builtin "list.extend") _) _ _ _)); (fail_if_success (with_reducible show wpAny _ _ (call (Value.ref _) _) _ _ _)); (fail_if_success (with_reducible show wpAny _ _ (isTrue (Expr.BoolOp BoolOp.Or _ _) _ _) (fun b s₂ => if b = true then _ else _) _ _)); (fail_if_success (with_reducible show OrEnd _ _ _ _)); (fail_if_success (with_reducible show CsSrc _ _ _ _ _ _ _ _ _ _ _ _ _ _ _)); (fail_if_success (with_reducible show CnSrc _ _ _ _ _ _ _ _ _ _ _ _ _ _ _)); (fail_if_success (with_reducible show LCg.CompEnd _ _ _ _ _ _ _ _ _ _ _ _ _ _)); first | ((with_reducible show wpAny _ _ (call (Value.builtin "sum") [Value.ref _]) _ _ _); k_dflt (refine' sum_eq ?k0 ?k1 ?k2 ?k3 ?k4 ?k5 ?_; (case k0 => rfl); (case k1 => k_asm); (case k2 => k_asm); (case k3 => k_mem); (case k4 => with_reducible assumption); (case k5 => with_reducible assumption); k_whole); intro m_h9 m_tk9 m_t9 m_F9 m_N9) | ((with_reducible show wpAny _ _ (subscriptTail _ (Expr.Slice (some _) none none _) (Value.str _ _) _) _ _ _); (with_reducible rename Fr _ _ _ _ => m_F'); (with_reducible rename News _ _ _ _ => m_N'); refine str_from (s := ⟨_, _, _, _, _⟩) m_F' m_N' (by omega) (by omega) ?_; intro m_z' m_h' m_t' m_c' m_hz' m_hzl' m_F' m_N') | ((with_reducible show wpAny _ _ (subscriptTail _ _ (Value.ref _) (Value.int _ _)) _ _ _); k_dflt (refine' sub_atE ?k1 ?k2 ?k3 ?kk ?k4 ?k5 ?k7 ?_ ?k6; (case k1 => k_asm); (case k2 => k_mem); (case k3 => with_reducible assumption); (case kk => first | with_reducible assumption | exact rfl); (case k4 => omega); (case k5 => omega); (case k7 => omega); (case k6 => with_unfolding_all rfl); k_whole); intro _) | ((with_reducible show wpAny _ _ (compareOp CmpOp.NotEq (Value.str _ _) (Value.str _ _)) _ _ _); refine cmp_same ?_) | (k_here; (with_reducible show wpAny _ _ (call (Value.builtin "len") [Value.ref _]) _ _ _); (refine KM.len_K (by k_asm) (by k_dflt k_mem) (by with_reducible assumption) (by omega) ?_)) | ((with_reducible show wpAny _ _ (subscriptTail _ (Expr.Slice none (some _) none _) (Value.str _ _) _) _ _ _); (with_reducible rename Fr _ _ _ _ => m_F'); (with_reducible rename News _ _ _ _ => m_N'); refine str_to (s := ⟨_, _, _, _, _⟩) m_F' m_N' (by omega) (by omega) ?_; intro m_z' m_h' m_t' m_c' m_hz' m_hzl' m_F' m_N') | ((with_reducible show wpAny _ _ (binaryOp Operator.Add (Value.str _ _) (Value.str _ _)) _ _ _); refine str_add (by omega) ?_; intro m_z' m_t' m_k' m_hz' m_hzl') | ((with_reducible show wpAny _ _ (call (Value.builtin "str.join") [Value.str _ _, Value.ref _]) _ _ _); k_dflt (refine' join_ls ?k1 ?k2 ?k3 ?k4 ?k5 ?k6 ?_; (case k1 => k_asm); (case k2 => k_mem); (case k3 => with_reducible assumption); (case k4 => with_reducible assumption); (case k5 => with_reducible assumption); (case k6 => with_reducible assumption); k_whole); intro _ _) | ((with_reducible show wpAny _ _ (call (Value.builtin "sum") [Value.ref _]) _ _ _); k_dflt (refine' sum_pick ?k0 ?k1 ?k2 ?k3 ?_; (case k0 => rfl); (case k1 => k_asm); (case k2 => k_asm); (case k3 => with_reducible assumption); k_whole); intro m_ks9 m_h9 m_tk9 m_t9 m_F9 m_N9) | walk1 | (dsimp only; walk1) | (leave1; walk_say "STEP leave1"; try dsimp only)) | fail "no step"))

    ))
end Mine

end -- W7

set_option maxRecDepth 100000 in
set_option maxHeartbeats 8000000 in
theorem PySem.Challenge.cw_tv0022_01_holds : PySem.Challenge.rw_tv0022_01.Holds := by
  exact Mine.holds

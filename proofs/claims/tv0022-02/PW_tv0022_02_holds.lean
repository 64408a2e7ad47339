import PyProof.Rows.All
import Wide.All
import OpenK.AllK
import Wide.FinOn
import PySem.Challenge.RW_tv0022_02
set_option Elab.async false
set_option maxRecDepth 100000
set_option maxHeartbeats 8000000
set_option linter.all false

section
open PySem PySem.W PyProof.Rows
open_top hd2 for PySem.Challenge.rw_tv0022_02
end

section -- P0
namespace Mine
variable {α : Type}
/-- k is the length of a proper border of the first n of w -/
def Bd (w : List α) (n k : Nat) : Prop := k < n ∧ ∀ j, j < k → w[n - k + j]? = w[j]?
/-- the longest one -/
def LB (w : List α) (n k : Nat) : Prop := Bd w n k ∧ ∀ b, Bd w n b → b ≤ k
def IsTab (w : List α) (ts : List Int) : Prop := ts.length = w.length ∧ ∀ i, i < w.length → ∃ k : Nat, ts[i]? = some (k : Int) ∧ LB w (i + 1) k

theorem Bd.zero {w : List α} {n : Nat} (h : 0 < n) : Bd w n 0 := ⟨h, fun _ h => absurd h (Nat.not_lt_zero _)⟩
theorem Bd.up {w : List α} {k b : Nat} (h : Bd w k b) (e : w[k]? = w[b]?) : Bd w (k + 1) (b + 1) := by
  refine ⟨Nat.succ_lt_succ h.1, fun j hj => ?_⟩
  have e1 : k + 1 - (b + 1) + j = k - b + j := by omega
  rw [e1]
  by_cases hb : j < b
  · exact h.2 j hb
  · have : j = b := by omega
    subst this
    have : k - j + j = k := by have := h.1; omega
    rw [this]; exact e
theorem Bd.down {w : List α} {k b : Nat} (h : Bd w (k + 1) (b + 1)) : Bd w k b ∧ w[k]? = w[b]? := by
  have hk : b < k := Nat.lt_of_succ_lt_succ h.1
  refine ⟨⟨hk, fun j hj => ?_⟩, ?_⟩
  · have := h.2 j (by omega)
    have e1 : k + 1 - (b + 1) + j = k - b + j := by omega
    rw [e1] at this; exact this
  · have := h.2 b (by omega)
    have e1 : k + 1 - (b + 1) + b = k := by omega
    rw [e1] at this; exact this
/-- a shorter border of n is one of a longer border -/
theorem Bd.of_lt {w : List α} {n k b : Nat} (h : Bd w n k) (hb : Bd w n b) (hlt : b < k) : Bd w k b := by
  refine ⟨hlt, fun j hj => ?_⟩
  have h1 := h.2 (k - b + j) (by omega)
  have h2 := hb.2 j hj
  have hn := h.1
  have e : n - k + (k - b + j) = n - b + j := by omega
  rw [e, h2] at h1
  exact h1.symm
theorem Bd.trans {w : List α} {n k b : Nat} (h : Bd w n k) (hb : Bd w k b) : Bd w n b := by
  have hn := h.1
  have hk := hb.1
  refine ⟨by omega, fun j hj => ?_⟩
  have h1 := h.2 (k - b + j) (by omega)
  have h2 := hb.2 j hj
  have e : n - k + (k - b + j) = n - b + j := by omega
  rw [e] at h1
  rw [h1, h2]
theorem LB.one {w : List α} : LB w 1 0 := ⟨Bd.zero (by omega), fun b hb => by have := hb.1; omega⟩
theorem lb_start {w : List α} {k t : Nat} (h : LB w k t) : Bd w k t ∧ ∀ b, Bd w k b → w[k]? = w[b]? → b ≤ t := ⟨h.1, fun b hb _ => h.2 b hb⟩
theorem lb_hit {w : List α} {k t : Nat} (h : Bd w k t ∧ ∀ b, Bd w k b → w[k]? = w[b]? → b ≤ t) (e : w[k]? = w[t]?) : LB w (k + 1) (t + 1) := by
  refine ⟨h.1.up e, fun b hb => ?_⟩
  cases b with
  | zero => omega
  | succ b =>
    obtain ⟨h1, h2⟩ := hb.down
    have := h.2 b h1 h2
    omega
theorem lb_zero {w : List α} {k : Nat} (h : Bd w k 0 ∧ ∀ b, Bd w k b → w[k]? = w[b]? → b ≤ 0) (e : ¬ w[k]? = w[0]?) : LB w (k + 1) 0 := by
  refine ⟨Bd.zero (by omega), fun b hb => ?_⟩
  cases b with
  | zero => omega
  | succ b =>
    obtain ⟨h1, h2⟩ := hb.down
    have := h.2 b h1 h2
    have : b = 0 := by omega
    subst this
    exact absurd h2 e
theorem lb_fall {w : List α} {k t t' : Nat} (h : Bd w k t ∧ ∀ b, Bd w k b → w[k]? = w[b]? → b ≤ t) (e : ¬ w[k]? = w[t]?) (h' : LB w t t') : Bd w k t' ∧ ∀ b, Bd w k b → w[k]? = w[b]? → b ≤ t' := by
  refine ⟨h.1.trans h'.1, fun b hb q => ?_⟩
  have h1 := h.2 b hb q
  have h2 : b ≠ t := by rintro rfl; exact e q
  exact h'.2 b (h.1.of_lt hb (by omega))
theorem LB.uniq {w : List α} {n a b : Nat} (h : LB w n a) (h' : LB w n b) : a = b := Nat.le_antisymm (h'.2 a h.1) (h.2 b h'.1)
/-- what the for keeps: the first i entries are told -/
def TabTo (w : List α) (i : Nat) (ts : List Int) : Prop := ts.length = w.length ∧ ∀ j, j < i → ∃ k : Nat, ts[j]? = some (k : Int) ∧ LB w (j + 1) k
theorem TabTo.set {w : List α} {i : Nat} {ts : List Int} {k : Nat} (h : TabTo w i ts) (hi : i < w.length) (hk : LB w (i + 1) k) : TabTo w (i + 1) (ts.set i (k : Int)) := by
  refine ⟨by rw [List.length_set]; exact h.1, fun j hj => ?_⟩
  by_cases e : j = i
  · subst e
    exact ⟨k, by rw [List.getElem?_set_self (by rw [h.1]; exact hi)], hk⟩
  · obtain ⟨k', h1, h2⟩ := h.2 j (by omega)
    exact ⟨k', by rw [List.getElem?_set_ne (Ne.symm e)]; exact h1, h2⟩
theorem TabTo.at {w : List α} {i j : Nat} {ts : List Int} (h : TabTo w i ts) (hj : j < i) : ∃ k : Nat, ts.getD j 0 = (k : Int) ∧ LB w (j + 1) k := by
  obtain ⟨k, h1, h2⟩ := h.2 j hj
  exact ⟨k, by rw [List.getD_eq_getElem?_getD, h1]; rfl, h2⟩
theorem TabTo.start (w : List α) : TabTo w 1 (List.replicate w.length 0) ∨ w = [] := by
  cases w with
  | nil => exact .inr rfl
  | cons a r => exact .inl ⟨by simp, fun j hj => ⟨0, by have : j = 0 := by omega
                                                        subst this; simp, by have : j = 0 := by omega
                                                                             subst this; exact LB.one⟩⟩

/-- the borders of the first n, below m, the longest first -/
def bdB [DecidableEq α] (w : List α) (n k : Nat) : Bool := decide (k < n) && decide (∀ j, j < k → w[n - k + j]? = w[j]?)
theorem bdB_iff [DecidableEq α] {w : List α} {n k : Nat} : bdB w n k = true ↔ Bd w n k := by
  unfold bdB Bd
  rw [Bool.and_eq_true, decide_eq_true_eq, decide_eq_true_eq]
def bds [DecidableEq α] (w : List α) (n m : Nat) : List Nat := (List.range m).reverse.filter (fun k => decide (0 < k) && bdB w n k)
theorem bds_pos [DecidableEq α] {w : List α} {n m : Nat} (h : 0 < m ∧ Bd w n m) : bds w n (m + 1) = m :: bds w n m := by
  unfold bds
  rw [List.range_succ, List.reverse_append, List.reverse_cons, List.reverse_nil, List.nil_append, List.singleton_append, List.filter_cons, if_pos]
  rw [Bool.and_eq_true, decide_eq_true_eq, bdB_iff]
  exact h
theorem bds_neg [DecidableEq α] {w : List α} {n m : Nat} (h : ¬ (0 < m ∧ Bd w n m)) : bds w n (m + 1) = bds w n m := by
  unfold bds
  rw [List.range_succ, List.reverse_append, List.reverse_cons, List.reverse_nil, List.nil_append, List.singleton_append, List.filter_cons, if_neg]
  rw [Bool.and_eq_true, decide_eq_true_eq, bdB_iff]
  exact h
theorem bds_skip [DecidableEq α] {w : List α} {n a : Nat} (h : ∀ k, Bd w n k → k < a ∨ k = 0) : ∀ d, bds w n (a + d) = bds w n a := by
  intro d
  induction d with
  | zero => rfl
  | succ d ih =>
    rw [← Nat.add_assoc, bds_neg, ih]
    rintro ⟨h1, h2⟩
    rcases h _ h2 with h | h <;> omega
/-- the way down the table: what is laid on so far, and the borders from size down -/
def OvlInv [DecidableEq α] (w : List α) (k : Nat) (L : List Nat) : Prop := Bd w w.length k ∧ bds w w.length w.length = L ++ bds w w.length (k + 1)
theorem ovl_start [DecidableEq α] {w : List α} {k : Nat} (h : LB w w.length k) : OvlInv w k [] := by
  refine ⟨h.1, ?_⟩
  have h1 := h.1.1
  have e : w.length = k + 1 + (w.length - (k + 1)) := by omega
  rw [List.nil_append]
  conv => lhs; rw [show bds w w.length w.length = bds w w.length (k + 1 + (w.length - (k + 1))) from by rw [← e]]
  exact bds_skip (fun b hb => .inl (by have := h.2 b hb; omega)) _
theorem ovl_step [DecidableEq α] {w : List α} {k k' : Nat} {L : List Nat} (h : OvlInv w k L) (hk : 0 < k) (h' : LB w k k') : OvlInv w k' (L ++ [k]) := by
  refine ⟨h.1.trans h'.1, ?_⟩
  rw [h.2, bds_pos ⟨hk, h.1⟩, List.append_assoc, List.singleton_append]
  congr 2
  have h1 := h'.1.1
  have e : k = k' + 1 + (k - (k' + 1)) := by omega
  conv => lhs; rw [show bds w w.length k = bds w w.length (k' + 1 + (k - (k' + 1))) from by rw [← e]]
  have key : ∀ d, k' + 1 + d ≤ k → bds w w.length (k' + 1 + d) = bds w w.length (k' + 1) := by
    intro d
    induction d with
    | zero => intro _; rfl
    | succ d ih =>
      intro hd
      rw [← Nat.add_assoc, bds_neg, ih (by omega)]
      rintro ⟨h1, h2⟩
      have := h'.2 _ (h.1.of_lt h2 (by omega))
      omega
  exact key _ (by omega)
theorem ovl_end [DecidableEq α] {w : List α} {L : List Nat} (h : OvlInv w 0 L) : bds w w.length w.length = L := by
  rw [h.2]
  have : bds w w.length (0 + 1) = [] := by rw [bds_neg (by omega)]; rfl
  rw [this, List.append_nil]
theorem IsTab.at {w : List α} {ts : List Int} (h : IsTab w ts) {i : Nat} (hi : i < w.length) : ∃ k : Nat, ts.getD i 0 = (k : Int) ∧ LB w (i + 1) k := by
  obtain ⟨k, h1, h2⟩ := h.2 i hi
  exact ⟨k, by rw [List.getD_eq_getElem?_getD, h1]; rfl, h2⟩
theorem OvlInv.len [DecidableEq α] {w : List α} {k : Nat} {L : List Nat} (h : OvlInv w k L) : L.length ≤ w.length := by
  have h1 : (bds w w.length w.length).length ≤ w.length := by
    unfold bds
    refine Nat.le_trans (List.length_filter_le _ _) ?_
    simp
  rw [h.2, List.length_append] at h1
  omega

/-- the longest border, reckoned -/
def lbF [DecidableEq α] (w : List α) : Nat := (bds w w.length w.length).headD 0
theorem lbF_eq [DecidableEq α] {w : List α} {k : Nat} (h : LB w w.length k) : k = lbF w := by
  have h1 := (ovl_start h).2
  unfold lbF
  rw [h1, List.nil_append]
  by_cases hk : 0 < k
  · rw [bds_pos ⟨hk, h.1⟩]; rfl
  · have : k = 0 := by omega
    subst this
    rw [bds_neg (by omega)]; rfl
/-- the law's row, sign by sign -/
def growStep (row : List Nat) (c : Nat) : List Nat :=
  (row ++ [c]) ++ (row ++ [c]).reverse.drop (lbF ((row ++ [c]).reverse ++ [32] ++ (row ++ [c])))
def grown (half : List Nat) : List Nat := half.foldl growStep []
theorem growStep_len (row : List Nat) (c : Nat) : (growStep row c).length ≤ 2 * row.length + 2 := by
  unfold growStep
  simp only [List.length_append, List.length_drop, List.length_reverse, List.length_cons, List.length_nil]
  omega
theorem grown_len : ∀ (half row : List Nat), (half.foldl growStep row).length + 2 ≤ 2 ^ half.length * (row.length + 2)
  | [], row => by simp
  | c :: r, row => by
    rw [List.foldl_cons]
    have h1 := grown_len r (growStep row c)
    have h2 := growStep_len row c
    rw [List.length_cons, Nat.pow_succ]
    refine Nat.le_trans h1 ?_
    rw [Nat.mul_assoc]
    exact Nat.mul_le_mul_left _ (by omega)
theorem tab_last {w : List α} {ts : List Int} (h : IsTab w ts) (h0 : 0 < w.length) : ∃ k : Nat, ts.getD (ts.length - 1) 0 = (k : Int) ∧ LB w w.length k ∧ k < w.length := by
  obtain ⟨k, h1, h2⟩ := h.at (i := w.length - 1) (by omega)
  have e : w.length - 1 + 1 = w.length := by omega
  rw [e] at h2
  exact ⟨k, by rw [h.1]; exact h1, h2, h2.1.1⟩
theorem grown_snoc {l : List Nat} {i c : Nat} (h : l[i]? = some c) : grown (l.take (i + 1)) = growStep (grown (l.take i)) c := by
  unfold grown
  rw [List.take_add_one, h]
  simp
end Mine

end -- P0

section -- B0
open PySem PySem.W PyProof.Rows PySem.Spec PySem.Calls
set_option maxRecDepth 100000
set_option maxHeartbeats 8000000
namespace Mine

section
variable {prog : Program} {w : World} {A : Around} {E : Value → Shared → Prop} {Q : Flow → Shared → Prop} {s : Shared} {env : Env} {h₀ : Heap} {L : Addr}

/-- a while with an else, by an invariant over the measure, the frame and the ledger -/
theorem While_else {test : PySem.Expr} {body orelse : List Stmt} {pos : Pos} {m : Str → Option Value} {news : List (Addr × Obj)} (J : Nat → (Str → Option Value) → List (Addr × Obj) → Prop) {n₀ : Nat}
    (F : Fr h₀ L s.heap m) (N : News h₀ L s.heap news) (hJ : J n₀ m news)
    (turn : ∀ n m₁ news₁ h₁ tk₁, Fr h₀ L h₁ m₁ → News h₀ L h₁ news₁ → J n m₁ news₁ →
      wpAny (model prog w) A (isTrue test env (eval test env)) (fun b s₂ =>
        if b = true then wpAny (model prog w) A (execs body env) (WhileStep2 h₀ L s J Q n) E s₂ else wpAny (model prog w) A (execs orelse env) Q E s₂) E { s with heap := h₁, toks := tk₁ })
    (hE : PassesOwn (model prog w) A env E := by passes_own) :
    wpAny (model prog w) A (exec (.While test body orelse pos) env) Q E s := by
  refine wpAny_While (codeAny_whileLoop (fun n s' => ∃ h₁ tk₁ m₁ news₁, s' = { s with heap := h₁, toks := tk₁ } ∧ Fr h₀ L h₁ m₁ ∧ News h₀ L h₁ news₁ ∧ J n m₁ news₁) ?_ n₀ ⟨s.heap, s.toks, m, news, rfl, F, N, hJ⟩)
  rintro n s' ⟨h₁, tk₁, m₁, news₁, rfl, F₁, N₁, J₁⟩
  refine wpAny_mono (turn n m₁ news₁ h₁ tk₁ F₁ N₁ J₁) (fun b s₂ h₂ => ?_) hE
  cases b with
  | false =>
    simp only [Bool.false_eq_true, if_false] at h₂ ⊢
    exact wpAny_mono h₂ (fun _ _ x => x) hE
  | true =>
    simp only [if_true] at h₂ ⊢
    refine wpAny_mono h₂ (fun f s₃ h₃ => ?_) hE
    cases f with
    | next =>
      obtain ⟨h', tk, m₂, news₂, n', rfl, F₂, N₂, hn, J₂⟩ := h₃
      exact ⟨n', hn, h', tk, m₂, news₂, rfl, F₂, N₂, J₂⟩
    | cont =>
      obtain ⟨h', tk, m₂, news₂, n', rfl, F₂, N₂, hn, J₂⟩ := h₃
      exact ⟨n', hn, h', tk, m₂, news₂, rfl, F₂, N₂, J₂⟩
    | brk => exact h₃
    | ret v => exact h₃
end

/-- a contract of a def: at these arguments, over this ledger, it gives back what Out says, the objects tl on top -/
def Cn (prog : Program) (w : World) (K : Frag) (p : Program) (loose : List Str) (mean : ExcName → Option Value) (mg mb : Str → Option Value) (f : Addr) (sz : Nat) (vs : List Value) (news : List (Addr × Obj)) (Out : Value → List (Addr × Obj) → Prop) : Prop :=
  ∀ (dp un : Nat) (gd : Option (List Code)) (cn : Str) (cs : Scope) (a : Addr) (ccd : Value) (cl : List (Str × Addr)) (outer : List Env) (A₀ : Around) (base h₀ : Heap) (L : Addr) (m : Str → Option Value) (s : Shared)
    (Q E : Value → Shared → Prop),
    Below A₀ base outer h₀ → Fr h₀ L s.heap m → K.In h₀ → News h₀ L s.heap news → Top p loose mean mg mb h₀ → cs.kind = .function → dp + sz < recursionLimit → un + 8 * sz < cLine →
    (∀ r tl h' tk', Fr h₀ L h' m → News h₀ L h' (tl ++ news) → (∀ q ∈ news, ∀ p ∈ tl, q.1 < p.1) → Out r tl → Q r { s with heap := h', toks := tk' }) →
    wpAny (model prog w) (ktrTop dp un gd cn cs L a ccd cl outer) (call (.ref f) vs) Q E s


section
variable {prog : Program} {w : World} {A : Around} {E : Value → Shared → Prop} {s : Shared} {env : Env} {h₀ : Heap} {x : Str} {body : List Stmt} {Q : Flow → Shared → Prop}

/-- a turn's end: the list at D is another one, the names besides x and st stand -/
def RlEnd (h₀ : Heap) (L D : Addr) (c : Nat) (rest own : List (Addr × Obj)) (x : Str) (st : List Str) (m₀ : Str → Option Value) (P : List Int → Prop) (s₁ s₂ : Shared) : Prop :=
  ∃ h' tk m' news' vs' ts', s₂ = { s₁ with heap := h', toks := tk } ∧ Fr h₀ L h' m' ∧ News h₀ L h' news' ∧ (∀ p ∈ ((D, listOf vs'.toArray c) :: rest) ++ own, p ∈ news') ∧ IntsAre vs' ts' ∧ P ts' ∧ ∀ z, z ≠ x → st.contains z = false → m' z = m₀ z
def RlPost (h₀ : Heap) (L D : Addr) (c : Nat) (rest own : List (Addr × Obj)) (x : Str) (st : List Str) (m₀ : Str → Option Value) (P : List Int → Prop) (s₁ : Shared) (Q : Flow → Shared → Prop) (f : Flow) (s₂ : Shared) : Prop :=
  match f with
  | .ret v => Q (.ret v) s₂
  | .brk => Q .next s₂
  | _ => RlEnd h₀ L D c rest own x st m₀ P s₁ s₂
theorem RlEnd.intro {L D : Addr} {c : Nat} {rest own news' : List (Addr × Obj)} {st : List Str} {m₀ m' : Str → Option Value} {P : List Int → Prop} {s₁ : Shared} {h' : Heap} {tk : Nat} {vs' : List Value} {ts' : List Int}
    (F : Fr h₀ L h' m') (N : News h₀ L h' news') (hs : ∀ p ∈ ((D, listOf vs'.toArray c) :: rest) ++ own, p ∈ news') (hi : IntsAre vs' ts') (hp : P ts') (hm : ∀ z, z ≠ x → st.contains z = false → m' z = m₀ z) :
    RlEnd h₀ L D c rest own x st m₀ P s₁ { s₁ with heap := h', toks := tk } := ⟨h', tk, m', news', vs', ts', rfl, F, N, hs, hi, hp, hm⟩

/-- a for over a range whose turns change one list of ints and the names st -/
theorem range_L {r D : Addr} {c : Nat} {a₀ b₀ : Int} {t₀ u₀ v₀ : Tok} {n : Nat} {m₀ : Str → Option Value} {rest : List (Addr × Obj)} {vs : List Value} {ts : List Int} (st : List Str) (P : Nat → List Int → Prop)
    (hh : A.handled = none) (hr : IsRange s.heap r a₀ b₀ 1 t₀ u₀ v₀) (hsmall : Builtin.Range.small a₀ b₀ 1 = true) (hn : Builtin.Range.rangeSize a₀ b₀ 1 = (n : Int)) (F : Fr h₀ env.locals s.heap m₀) (N : News h₀ env.locals s.heap ((D, listOf vs.toArray c) :: rest))
    (hi : IntsAre vs ts) (hp : P 0 ts)
    (turn : ∀ (i : Nat) vs ts t (u : Str → Option Value) h tk own, i < n → P i ts → IntsAre vs ts → OwnOff own (D :: rest.map (·.1)) → Fr h₀ env.locals h (fun y => if y = x then some (.int (a₀ + (i : Int)) t) else if st.contains y then u y else m₀ y) → News h₀ env.locals h (((D, listOf vs.toArray c) :: rest) ++ own) →
      wpAny (model prog w) A (execs body env) (RlPost h₀ env.locals D c rest own x st m₀ (P (i + 1)) { s with heap := h, toks := tk } Q) E { s with heap := h, toks := tk })
    (done : ∀ vs ts (u : Str → Option Value) h tk, P n ts → IntsAre vs ts → Fr h₀ env.locals h (fun y => if y = x then u y else if st.contains y then u y else m₀ y) → News h₀ env.locals h ((D, listOf vs.toArray c) :: rest) → Q .next { s with heap := h, toks := tk }) :
    wpAny (model prog w) A (pyIter (.ref r)) (fun it s₂ => LoopAtV prog w A h₀ env x body Q E it s₂) E s := by
  refine kpr_invN (fun i m nx => ∃ vs ts, nx = (D, listOf vs.toArray c) :: rest ∧ IntsAre vs ts ∧ P i ts ∧ ∀ z, z ≠ x → st.contains z = false → m z = m₀ z) hh hr hsmall hn F N ⟨vs, ts, rfl, hi, hp, fun _ _ _ => rfl⟩ ?_ ?_
  · rintro i k t m₁ nx h tk own hk hoff ⟨vs, ts, rfl, hi', hp', hm⟩ F₁ N₁
    have hin : i < n := by
      rcases List.getElem?_eq_some_iff.mp hk with ⟨q, _⟩
      rwa [rangeKs_length] at q
    have hk' : k = a₀ + (i : Int) := by
      have : (rangeKs a₀ n)[i]? = some (a₀ + (i : Int)) := by simp [rangeKs, hin]
      rw [this] at hk
      exact (Option.some.inj hk).symm
    subst hk'
    have em : (fun y => if y = x then some (Value.int (a₀ + (i : Int)) t) else m₁ y) = fun y => if y = x then some (Value.int (a₀ + (i : Int)) t) else if st.contains y then m₁ y else m₀ y := by
      funext y
      by_cases h1 : y = x
      · simp [h1]
      · simp only [if_neg h1]
        cases h2 : st.contains y with
        | true => simp
        | false => simp only [Bool.false_eq_true, if_false]; exact hm y h1 h2
    rw [em] at F₁
    refine wpAny_mono (turn i vs ts t m₁ h tk own hin hp' hi' hoff F₁ N₁) (fun f s₂ q => ?_) fun _ _ e => e
    cases f with
    | ret v => exact q
    | brk => exact q
    | next =>
      obtain ⟨h', tk', m', news', vs', ts', rfl, F', N', hs, hi2, hp2, hm2⟩ := q
      exact ⟨h', tk', m', news', _, rfl, F', N', fun p hp => hs p (List.mem_append_left _ hp), fun p hp => hs p (List.mem_append_right _ hp), rfl, vs', ts', rfl, hi2, hp2, hm2⟩
    | cont =>
      obtain ⟨h', tk', m', news', vs', ts', rfl, F', N', hs, hi2, hp2, hm2⟩ := q
      exact ⟨h', tk', m', news', _, rfl, F', N', fun p hp => hs p (List.mem_append_left _ hp), fun p hp => hs p (List.mem_append_right _ hp), rfl, vs', ts', rfl, hi2, hp2, hm2⟩
  · rintro m₁ nx h tk ⟨vs, ts, rfl, hi', hp', hm⟩ F₁ N₁
    rw [rangeKs_length] at hp'
    refine done vs ts m₁ h tk hp' hi' ?_ N₁
    have em : (fun y => if y = x then m₁ y else if st.contains y then m₁ y else m₀ y) = m₁ := by
      funext y
      by_cases h1 : y = x
      · simp [h1]
      · simp only [if_neg h1]
        cases h2 : st.contains y with
        | true => simp
        | false => simp only [Bool.false_eq_true, if_false]; exact (hm y h1 h2).symm
    rw [em]; exact F₁

def WiEnd (h₀ : Heap) (L : Addr) (news : List (Addr × Obj)) (x : Str) (m₀ : Str → Option Value) (P : Int → Prop) (k : Int) (s : Shared) (s₂ : Shared) : Prop :=
  ∃ k' t' h' tk' m' news', s₂ = { s with heap := h', toks := tk' } ∧ Fr h₀ L h' m' ∧ News h₀ L h' news' ∧ (∀ p ∈ news, p ∈ news') ∧ m' x = some (.int k' t') ∧ (∀ z, z ≠ x → m' z = m₀ z) ∧ P k' ∧ k'.toNat < k.toNat
def WiPost (h₀ : Heap) (L : Addr) (news : List (Addr × Obj)) (x : Str) (m₀ : Str → Option Value) (P : Int → Prop) (k : Int) (s : Shared) (Q : Flow → Shared → Prop) (f : Flow) (s₂ : Shared) : Prop :=
  match f with
  | .ret v => Q (.ret v) s₂
  | .brk => Q .next s₂
  | _ => WiEnd h₀ L news x m₀ P k s s₂
/-- a while (with or without an else) whose turns change one int name, the ledger standing -/
theorem while_I {L : Addr} {test : PySem.Expr} {orelse : List Stmt} {pos : Pos} {m₀ : Str → Option Value} {news : List (Addr × Obj)} {k₀ : Int} {t₀ : Tok} (P : Int → Prop)
    (F : Fr h₀ L s.heap (fun y => if y = x then some (.int k₀ t₀) else m₀ y)) (N : News h₀ L s.heap news) (hp : P k₀)
    (turn : ∀ k t h tk, P k → Fr h₀ L h (fun y => if y = x then some (.int k t) else m₀ y) → News h₀ L h news →
      wpAny (model prog w) A (isTrue test env (eval test env)) (fun b s₂ =>
        if b = true then wpAny (model prog w) A (execs body env) (WiPost h₀ L news x m₀ P k s Q) E s₂ else wpAny (model prog w) A (execs orelse env) Q E s₂) E { s with heap := h, toks := tk })
    (hE : PassesOwn (model prog w) A env E := by passes_own) :
    wpAny (model prog w) A (exec (.While test body orelse pos) env) Q E s := by
  refine While_else (fun n m nx => nx = news ∧ ∃ k t, m = (fun y => if y = x then some (.int k t) else m₀ y) ∧ P k ∧ k.toNat = n) F N ⟨rfl, k₀, t₀, rfl, hp, rfl⟩ ?_ hE
  rintro n m₁ nx h tk F₁ N₁ ⟨rfl, k, t, rfl, hp', rfl⟩
  refine wpAny_mono (turn k t h tk hp' F₁ N₁) (fun b s₂ p => ?_) fun _ _ x => x
  cases b with
  | false => exact p
  | true =>
    simp only [if_true] at p ⊢
    refine wpAny_mono p (fun f s₃ q => ?_) fun _ _ x => x
    have fin : WiEnd h₀ L nx x m₀ P k s s₃ →
        ∃ h' tk m₂ news₂ n', s₃ = { s with heap := h', toks := tk } ∧ Fr h₀ L h' m₂ ∧ News h₀ L h' news₂ ∧ n' < k.toNat ∧ (news₂ = nx ∧ ∃ k t, m₂ = (fun y => if y = x then some (.int k t) else m₀ y) ∧ P k ∧ k.toNat = n') := by
      rintro ⟨k', t', h', tk', m', news', rfl, F', N', hs, hx, hz, hp2, hlt⟩
      refine ⟨h', tk', m', nx, k'.toNat, rfl, F', fun p hp => N' p (hs p hp), hlt, rfl, k', t', ?_, hp2, rfl⟩
      funext y
      by_cases e : y = x
      · simp [e, hx]
      · simp [e, hz y e]
    cases f with
    | ret v => exact q
    | brk => exact q
    | next => exact fin q
    | cont => exact fin q
theorem WiEnd.intro {L : Addr} {news news' : List (Addr × Obj)} {m₀ m' : Str → Option Value} {P : Int → Prop} {k k' : Int} {t' : Tok} {h' : Heap} {tk' : Nat}
    (F : Fr h₀ L h' m') (N : News h₀ L h' news') (hs : ∀ p ∈ news, p ∈ news') (hx : m' x = some (.int k' t')) (hz : ∀ z, z ≠ x → m' z = m₀ z) (hp : P k') (hlt : k'.toNat < k.toNat) :
    WiEnd h₀ L news x m₀ P k s { s with heap := h', toks := tk' } := ⟨k', t', h', tk', m', news', rfl, F, N, hs, hx, hz, hp, hlt⟩
end

section
variable {prog : Program} {w : World} {A : Around} {E : Value → Shared → Prop} {s : Shared} {h₀ : Heap} {L D : Addr} {m : Str → Option Value} {rest : List (Addr × Obj)} {vs : List Value} {ns : List Int} {n : Nat} {k x : Int} {t u : Tok}
/-- xs[k] = x upon the ledger's first object -/
theorem set_hd {Q : Unit → Shared → Prop} (F : Fr h₀ L s.heap m) (N : News h₀ L s.heap ((D, listOf vs.toArray n) :: rest)) (hne : ∀ p ∈ rest, p.1 ≠ D) (hi : IntsAre vs ns) (h0 : 0 ≤ k) (h1 : k < ns.length) (hfit : k < 2 ^ 63)
    (h : ∀ h', Fr h₀ L h' m → News h₀ L h' ((D, listOf (vs.set k.toNat (.int x u)).toArray n) :: rest) → IntsAre (vs.set k.toNat (.int x u)) (ns.set k.toNat x) → Q () { s with heap := h' }) :
    wpAny (model prog w) A (setItem (.ref D) (.int k t) (.int x u)) Q E s :=
  ksa_set F N (Upd.head hne) hi h0 h1 hfit fun h' F' N' hi' _ _ => h h' F' N' hi'
end

theorem item_nat {x : Str} {i : Nat} (h : i < x.length) : Txt.item x (i : Int) = ⟨#[x.cps.getD i 0]⟩ := PySem.W.item_meets (i := (i : Int)) ⟨by omega, by omega⟩
theorem item_ne {x : Str} {i j : Nat} (hi : i < x.length) (hj : j < x.length) : ((Txt.item x (i : Int) != Txt.item x (j : Int)) = false) ↔ x.cps.toList[i]? = x.cps.toList[j]? := by
  rw [item_nat hi, item_nat hj]
  have hi' : i < x.cps.size := hi
  have hj' : j < x.cps.size := hj
  simp [hi', hj', bne, Array.getD]
theorem news_cut {h₀ h : Heap} {L D l : Addr} {o o' : Obj} {news : List (Addr × Obj)} (N : News h₀ L h ((D, o) :: (l, o') :: news)) : News h₀ L h ([(D, o)] ++ news) := fun p hp => N p (by
  rcases List.mem_append.mp hp with hp | hp
  · exact List.mem_cons.mpr (.inl (List.mem_singleton.mp hp))
  · exact .tail _ (.tail _ hp))
theorem ord_one {D : Addr} {o : Obj} {news : List (Addr × Obj)} (h : AllLt D news) : ∀ q ∈ news, ∀ p ∈ [(D, o)], q.1 < p.1 := by
  intro q hq p hp
  rw [List.mem_singleton.mp hp]
  exact kst_ltOf h q hq

section
variable {prog : Program} {w : World} {A : Around} {E : Value → Shared → Prop} {s : Shared} {env : Env} {h₀ : Heap} {x : Str} {body : List Stmt} {Q : Flow → Shared → Prop}
def WlEnd (h₀ : Heap) (L D : Addr) (rest : List (Addr × Obj)) (x : Str) (m₀ : Str → Option Value) (P : Int → List Int → Prop) (k : Int) (s : Shared) (s₂ : Shared) : Prop :=
  ∃ k' t' h' tk' m' news' vs' c' ts', s₂ = { s with heap := h', toks := tk' } ∧ Fr h₀ L h' m' ∧ News h₀ L h' news' ∧ (∀ p ∈ (D, listOf vs' c') :: rest, p ∈ news') ∧ IntsAre vs'.toList ts' ∧ m' x = some (.int k' t') ∧ (∀ z, z ≠ x → m' z = m₀ z) ∧ P k' ts' ∧ k'.toNat < k.toNat
def WlPost (h₀ : Heap) (L D : Addr) (rest : List (Addr × Obj)) (x : Str) (m₀ : Str → Option Value) (P : Int → List Int → Prop) (k : Int) (s : Shared) (Q : Flow → Shared → Prop) (f : Flow) (s₂ : Shared) : Prop :=
  match f with
  | .ret v => Q (.ret v) s₂
  | .brk => Q .next s₂
  | _ => WlEnd h₀ L D rest x m₀ P k s s₂
theorem WlEnd.intro {L D : Addr} {rest news' : List (Addr × Obj)} {m₀ m' : Str → Option Value} {P : Int → List Int → Prop} {k k' : Int} {t' : Tok} {h' : Heap} {tk' c' : Nat} {vs' : Array Value} {ts' : List Int}
    (F : Fr h₀ L h' m') (N : News h₀ L h' news') (hs : ∀ p ∈ (D, listOf vs' c') :: rest, p ∈ news') (hi : IntsAre vs'.toList ts') (hx : m' x = some (.int k' t')) (hz : ∀ z, z ≠ x → m' z = m₀ z) (hp : P k' ts') (hlt : k'.toNat < k.toNat) :
    WlEnd h₀ L D rest x m₀ P k s { s with heap := h', toks := tk' } := ⟨k', t', h', tk', m', news', vs', c', ts', rfl, F, N, hs, hi, hx, hz, hp, hlt⟩
/-- a while whose turns change one int name and the list at the ledger's head -/
theorem while_IL {L D : Addr} {c : Nat} {test : PySem.Expr} {orelse : List Stmt} {pos : Pos} {m₀ : Str → Option Value} {rest : List (Addr × Obj)} {k₀ : Int} {t₀ : Tok} {vs : Array Value} {ts : List Int} (P : Int → List Int → Prop)
    (F : Fr h₀ L s.heap (fun y => if y = x then some (.int k₀ t₀) else m₀ y)) (N : News h₀ L s.heap ((D, listOf vs c) :: rest)) (hi : IntsAre vs.toList ts) (hp : P k₀ ts)
    (turn : ∀ k t vs c ts h tk, P k ts → IntsAre vs.toList ts → Fr h₀ L h (fun y => if y = x then some (.int k t) else m₀ y) → News h₀ L h ((D, listOf vs c) :: rest) →
      wpAny (model prog w) A (isTrue test env (eval test env)) (fun b s₂ =>
        if b = true then wpAny (model prog w) A (execs body env) (WlPost h₀ L D rest x m₀ P k s Q) E s₂ else wpAny (model prog w) A (execs orelse env) Q E s₂) E { s with heap := h, toks := tk })
    (hE : PassesOwn (model prog w) A env E := by passes_own) :
    wpAny (model prog w) A (exec (.While test body orelse pos) env) Q E s := by
  refine While_else (fun n m nx => ∃ vs c ts k t, nx = (D, listOf vs c) :: rest ∧ IntsAre vs.toList ts ∧ m = (fun y => if y = x then some (.int k t) else m₀ y) ∧ P k ts ∧ k.toNat = n) F N ⟨vs, c, ts, k₀, t₀, rfl, hi, rfl, hp, rfl⟩ ?_ hE
  rintro n m₁ nx h tk F₁ N₁ ⟨vs, c, ts, k, t, rfl, hi', rfl, hp', rfl⟩
  refine wpAny_mono (turn k t vs c ts h tk hp' hi' F₁ N₁) (fun b s₂ p => ?_) fun _ _ x => x
  cases b with
  | false => exact p
  | true =>
    simp only [if_true] at p ⊢
    refine wpAny_mono p (fun f s₃ q => ?_) fun _ _ x => x
    have fin : WlEnd h₀ L D rest x m₀ P k s s₃ →
        ∃ h' tk m₂ news₂ n', s₃ = { s with heap := h', toks := tk } ∧ Fr h₀ L h' m₂ ∧ News h₀ L h' news₂ ∧ n' < k.toNat ∧ (∃ vs c ts k t, news₂ = (D, listOf vs c) :: rest ∧ IntsAre vs.toList ts ∧ m₂ = (fun y => if y = x then some (.int k t) else m₀ y) ∧ P k ts ∧ k.toNat = n') := by
      rintro ⟨k', t', h', tk', m', news', vs', c', ts', rfl, F', N', hs, hi2, hx, hz, hp2, hlt⟩
      refine ⟨h', tk', m', _, k'.toNat, rfl, F', fun p hp => N' p (hs p hp), hlt, vs', c', ts', k', t', rfl, hi2, ?_, hp2, rfl⟩
      funext y
      by_cases e : y = x
      · simp [e, hx]
      · simp [e, hz y e]
    cases f with
    | ret v => exact q
    | brk => exact q
    | next => exact fin q
    | cont => exact fin q
end
theorem ints_push {vs : Array Value} {ts : List Int} {k : Int} {t : Tok} (h : IntsAre vs.toList ts) : IntsAre (vs.push (.int k t)).toList (ts ++ [k]) := by
  rw [Array.toList_push]
  have key : ∀ {vs : List Value} {ts : List Int}, IntsAre vs ts → IntsAre (vs ++ [.int k t]) (ts ++ [k]) := by
    intro vs ts h
    induction h with
    | nil => exact .cons _ _ .nil
    | cons i t _ ih => exact .cons _ _ ih
  exact key h

theorem ints_at : ∀ {vs : List Value} {ns : List Int}, IntsAre vs ns → ∀ {j : Nat}, j < ns.length → ∃ t, vs[j]? = some (.int (ns.getD j 0) t)
  | _, _, .nil, _, h => absurd h (Nat.not_lt_zero _)
  | _, _, .cons i t _, 0, _ => ⟨t, rfl⟩
  | _, _, .cons _ _ r, j + 1, h => ints_at r (Nat.lt_of_succ_lt_succ h)
section
variable {prog : Program} {w : World} {A : Around} {E : Value → Shared → Prop} {s : Shared} {h₀ : Heap} {L D : Addr} {news : List (Addr × Obj)} {vs : List Value} {ns : List Int} {n : Nat} {u : Tok} {value slice : PySem.Expr} {Q : Value → Shared → Prop}
/-- xs[-1] of a list of ints of the ledger -/
theorem sub_last (N : News h₀ L s.heap news) (hm : (D, listOf vs.toArray n) ∈ news) (hi : IntsAre vs ns) (h0 : 0 < ns.length) (hfit : ns.length < 2 ^ 62) (h : ∀ t, Q (.int (ns.getD (ns.length - 1) 0) t) s)
    (hs : subscripted slice false (.ref D) (.int (-1) u) = operate [.ref D, .int (-1) u] (getItem (.ref D) (.int (-1) u)) := by with_unfolding_all rfl) (hg : ∀ r, letTemporaryGo value (.ref D) r = pure () := by intro _; with_unfolding_all rfl) :
    wpAny (model prog w) A (subscriptTail value slice (.ref D) (.int (-1) u)) Q E s := by
  have hl := hi.length
  obtain ⟨t, ht⟩ := ints_at hi (j := ns.length - 1) (by omega)
  refine kim_back N hm rfl rfl (by omega) (by omega) (by omega) (x := .int (ns.getD (ns.length - 1) 0) t) ?_ (h t) hs hg
  have e : (-1 + (vs.length : Int)).toNat = ns.length - 1 := by omega
  rw [e]; exact ht
end

section
variable {prog : Program} {w : World} {A : Around} {E : Value → Shared → Prop} {s : Shared} {h₀ : Heap} {L D : Addr} {m : Str → Option Value} {rest : List (Addr × Obj)} {its : Array Value} {n : Nat} {x : Value} {Q : Value → Shared → Prop}
theorem append_hd (F : Fr h₀ L s.heap m) (N : News h₀ L s.heap ((D, listOf its n) :: rest)) (hne : ∀ p ∈ rest, p.1 ≠ D) (hsz : its.size ≤ 100000) (h : ∀ h', Fr h₀ L h' m → News h₀ L h' ((D, listOf (its.push x) (n + 1)) :: rest) → Q .none { s with heap := h' }) :
    wpAny (model prog w) A (call (.builtin "list.append") [.ref D, x]) Q E s := append_K F N (Upd.head hne) h (by rw [PySem.sizeLine_eq]; omega)
end
theorem ne_lt {D : Addr} {news : List (Addr × Obj)} (h : AllLt D news) : ∀ p ∈ news, p.1 ≠ D := fun p hp => Nat.ne_of_lt (kst_ltOf h p hp)
theorem ord_one' {D : Addr} {o : Obj} {news : List (Addr × Obj)} (h : ∀ p ∈ news, p.1 < D) : ∀ q ∈ news, ∀ p ∈ [(D, o)], q.1 < p.1 := by
  intro q hq p hp
  rw [List.mem_singleton.mp hp]
  exact h q hq

section
variable {prog : Program} {w : World} {A : Around} {E : Value → Shared → Prop} {s : Shared} {env : Env} {h₀ : Heap} {x y : Str} {body : List Stmt} {Q : Flow → Shared → Prop}
def TsEnd (h₀ : Heap) (L : Addr) (led : List (Addr × Obj)) (x y : Str) (st : List Str) (m₀ : Str → Option Value) (P : Str → Prop) (s₁ s₂ : Shared) : Prop :=
  ∃ h' tk m' news' r' t', s₂ = { s₁ with heap := h', toks := tk } ∧ Fr h₀ L h' m' ∧ News h₀ L h' news' ∧ (∀ p ∈ led, p ∈ news') ∧ m' y = some (.str r' t') ∧ P r' ∧ ∀ z, z ≠ x → z ≠ y → st.contains z = false → m' z = m₀ z
def TsPost (h₀ : Heap) (L : Addr) (led : List (Addr × Obj)) (x y : Str) (st : List Str) (m₀ : Str → Option Value) (P : Str → Prop) (s₁ : Shared) (Q : Flow → Shared → Prop) (f : Flow) (s₂ : Shared) : Prop :=
  match f with
  | .ret v => Q (.ret v) s₂
  | .brk => Q .next s₂
  | _ => TsEnd h₀ L led x y st m₀ P s₁ s₂
theorem TsEnd.intro {L : Addr} {led news' : List (Addr × Obj)} {st : List Str} {m₀ m' : Str → Option Value} {P : Str → Prop} {s₁ : Shared} {h' : Heap} {tk : Nat} {r' : Str} {t' : Tok}
    (F : Fr h₀ L h' m') (N : News h₀ L h' news') (hs : ∀ p ∈ led, p ∈ news') (hy : m' y = some (.str r' t')) (hp : P r') (hm : ∀ z, z ≠ x → z ≠ y → st.contains z = false → m' z = m₀ z) :
    TsEnd h₀ L led x y st m₀ P s₁ { s₁ with heap := h', toks := tk } := ⟨h', tk, m', news', r', t', rfl, F, N, hs, hy, hp, hm⟩
theorem ts_frame {u m₀ : Str → Option Value} {st : List Str} {v : Option Value} {r : Str} {tr : Tok} (hy : u y = some (.str r tr)) (hm : ∀ z, z ≠ x → z ≠ y → st.contains z = false → u z = m₀ z) :
    (fun z => if z = x then v else u z) = fun z => if z = x then v else if z = y then some (.str r tr) else if st.contains z then u z else m₀ z := by
  funext z
  by_cases h1 : z = x
  · simp [h1]
  · simp only [if_neg h1]
    by_cases h2 : z = y
    · rw [if_pos h2, h2, hy]
    · rw [if_neg h2]
      cases h3 : st.contains z with
      | true => simp
      | false => simp only [Bool.false_eq_true, if_false]; exact hm z h1 h2 h3
/-- a for over a text whose turns change one text's name and the names st -/
theorem text_S {xt : Str} {tx : Tok} {m₀ : Str → Option Value} {news : List (Addr × Obj)} {r₀ : Str} {t₀ : Tok} (st : List Str) (P : Nat → Str → Prop)
    (hh : A.handled = none) (F : Fr h₀ env.locals s.heap m₀) (N : News h₀ env.locals s.heap news) (hy : m₀ y = some (.str r₀ t₀)) (hp : P 0 r₀)
    (turn : ∀ (i c : Nat) r t tr (u : Str → Option Value) h tk own, xt.cps[i]? = some c → P i r → OwnOff own (news.map (·.1)) → Fr h₀ env.locals h (fun z => if z = x then some (.str ⟨#[c]⟩ t) else if z = y then some (.str r tr) else if st.contains z then u z else m₀ z) → News h₀ env.locals h (news ++ own) →
      wpAny (model prog w) A (execs body env) (TsPost h₀ env.locals (news ++ own) x y st m₀ (P (i + 1)) { s with heap := h, toks := tk } Q) E { s with heap := h, toks := tk })
    (done : ∀ r tr (u : Str → Option Value) h tk, P xt.cps.size r → Fr h₀ env.locals h (fun z => if z = x then u z else if z = y then some (.str r tr) else if st.contains z then u z else m₀ z) → News h₀ env.locals h news → Q .next { s with heap := h, toks := tk }) :
    wpAny (model prog w) A (pyIter (.str xt tx)) (fun it s₂ => LoopAtV prog w A h₀ env x body Q E it s₂) E s := by
  refine wpAny_pyIter_str fun o St hW hst => ?_
  have W := hW A hh
  refine loop_invN (fun i m nx => nx = news ∧ ∃ r tr, m y = some (.str r tr) ∧ P i r ∧ ∀ z, z ≠ x → z ≠ y → st.contains z = false → m z = m₀ z) W ?_ ?_ ?_ ?_ hst (F.push _) (fun p hp => ⟨Heap.get?_push_of_some _ (N p hp).1, (N p hp).2⟩) ⟨rfl, r₀, t₀, hy, hp, fun _ _ _ _ => rfl⟩ ?_ ?_
  · intro hm
    exact absurd F.ns.lt ((List.mem_singleton.mp hm) ▸ Nat.lt_irrefl _)
  · intro b' hb
    rw [List.mem_singleton.mp hb]
    exact next_is_new F
  · intro p hp hI
    exact absurd (Heap.lt_size (N p hp).1) ((List.mem_singleton.mp hI) ▸ Nat.lt_irrefl _)
  · intro p hp hI
    exact absurd (Heap.lt_size (N p hp).1) ((List.mem_singleton.mp hI) ▸ Nat.lt_irrefl _)
  · rintro i v m₁ nx h tk own hi ⟨c, t, hc, rfl⟩ _ hoff ⟨rfl, r, tr, hr, hp', hm⟩ F₁ N₁
    rw [ts_frame (st := st) hr hm] at F₁
    refine wpAny_mono (turn i c r t tr m₁ h tk own hc hp' hoff F₁ N₁) (fun f s₂ q => ?_) fun _ _ e => e
    have fin : TsEnd h₀ env.locals (nx ++ own) x y st m₀ (P (i + 1)) { s with heap := h, toks := tk } s₂ → InvEndN h₀ env.locals (fun m nx' => nx' = nx ∧ ∃ r tr, m y = some (.str r tr) ∧ P (i + 1) r ∧ ∀ z, z ≠ x → z ≠ y → st.contains z = false → m z = m₀ z) own (nx.map (·.1)) { s with heap := h, toks := tk } s₂ := by
      rintro ⟨h', tk', m', news', r', t', rfl, F', N', hs, hy', hp2, hm2⟩
      exact ⟨h', tk', m', news', nx, rfl, F', N', fun p hp => hs p (List.mem_append_left _ hp), fun p hp => hs p (List.mem_append_right _ hp), rfl, rfl, r', t', hy', hp2, hm2⟩
    cases f with
    | ret v => exact q
    | brk => exact q
    | next => exact fin q
    | cont => exact fin q
  · rintro m₁ nx h tk ⟨rfl, r, tr, hr, hp', hm⟩ F₁ N₁
    refine done r tr m₁ h tk hp' ?_ N₁
    have e := ts_frame (x := x) (v := m₁ x) (st := st) hr hm
    have e2 : m₁ = fun z => if z = x then m₁ z else if z = y then some (.str r tr) else if st.contains z then m₁ z else m₀ z := by
      funext z
      have := congrFun e z
      by_cases h1 : z = x
      · simp [h1]
      · simpa [h1] using this
    rw [← e2]; exact F₁
end
section
variable {prog : Program} {w : World} {K : Frag} {p : Program} {loose : List Str} {mean : ExcName → Option Value} {mg mb : Str → Option Value} {f : Addr} {sz : Nat} {vs : List Value} {news : List (Addr × Obj)} {Out : Value → List (Addr × Obj) → Prop}
theorem Cn.use {dp un : Nat} {gd : Option (List Code)} {cn : Str} {cs : Scope} {a : Addr} {ccd : Value} {cl : List (Str × Addr)} {outer : List Env} {A₀ : Around} {base h₀ : Heap} {L : Addr} {m : Str → Option Value} {s : Shared} {Q E : Value → Shared → Prop}
    (C : Cn prog w K p loose mean mg mb f sz vs news Out) (B : Below A₀ base outer h₀) (F : Fr h₀ L s.heap m) (X : K.In h₀) (N : News h₀ L s.heap news) (T : Top p loose mean mg mb h₀) (hk : cs.kind = .function) (hd : dp + sz < recursionLimit) (hu : un + 8 * sz < cLine)
    (ret : ∀ r tl h' tk', Fr h₀ L h' m → News h₀ L h' (tl ++ news) → (∀ q ∈ news, ∀ p ∈ tl, q.1 < p.1) → Out r tl → Q r { s with heap := h', toks := tk' }) :
    wpAny (model prog w) (ktrTop dp un gd cn cs L a ccd cl outer) (call (.ref f) vs) Q E s := C dp un gd cn cs a ccd cl outer A₀ base h₀ L m s Q E B F X N T hk hd hu ret
end

section
variable {prog : Program} {w : World} {A : Around} {E : Value → Shared → Prop} {s : Shared} {h₀ : Heap} {L D : Addr} {news : List (Addr × Obj)} {vs : List Value} {ns : List Int} {n : Nat} {u : Tok} {value slice : PySem.Expr} {Q : Value → Shared → Prop}
theorem sub_lastE {k : Int} (N : News h₀ L s.heap news) (hm : (D, listOf vs.toArray n) ∈ news) (hi : IntsAre vs ns) (hk : ns.getD (ns.length - 1) 0 = k) (h0 : 0 < ns.length) (hfit : ns.length < 2 ^ 62) (h : ∀ t, Q (.int k t) s)
    (hs : subscripted slice false (.ref D) (.int (-1) u) = operate [.ref D, .int (-1) u] (getItem (.ref D) (.int (-1) u)) := by with_unfolding_all rfl) :
    wpAny (model prog w) A (subscriptTail value slice (.ref D) (.int (-1) u)) Q E s := by
  have hl := hi.length
  obtain ⟨t, ht⟩ := ints_at hi (j := ns.length - 1) (by omega)
  have hL : s.heap.IsList D vs.toArray := ⟨_, (N _ hm).1, rfl, n, rfl⟩
  refine tail_any hL.typeIs slot_list_getitem.lookup (wpAny_getItem_list_neg (x := .int (ns.getD (ns.length - 1) 0) t) hL (by omega) (by rw [List.size_toArray]; omega) (by omega) ?_ (hk ▸ h t)) hs
  have e : (-1 + (vs.toArray.size : Int)).toNat = ns.length - 1 := by rw [List.size_toArray]; omega
  rw [e]; simpa using ht
theorem sub_atE {j k : Int} (N : News h₀ L s.heap news) (hm : (D, listOf vs.toArray n) ∈ news) (hi : IntsAre vs ns) (hk : ns.getD j.toNat 0 = k) (h0 : 0 ≤ j) (h1 : j < ns.length) (hfit : j < 2 ^ 63) (h : ∀ t, Q (.int k t) s)
    (hs : subscripted slice false (.ref D) (.int j u) = operate [.ref D, .int j u] (getItem (.ref D) (.int j u)) := by with_unfolding_all rfl) :
    wpAny (model prog w) A (subscriptTail value slice (.ref D) (.int j u)) Q E s := ksa_sub N hm hi h0 h1 hfit (fun t => hk ▸ h t) hs
end
end Mine

end -- B0

section -- B1
open PySem PySem.W PyProof.Rows PySem.Spec PySem.Calls
open Sem (wp)
open AutoSeq1 (wpAny_loadPart')
set_option maxRecDepth 100000
set_option maxHeartbeats 8000000
namespace Mine
section
variable {prog : Program} {w : World} {A : Around} {E : Value → Shared → Prop} {s : Shared}

/-- the next item of a tuple's iterator, asked by a built-in -/
theorem nextOf_tup {it t : Addr} {i : Nat} {items : Array Value} {x : Value} {Q : Value → Shared → Prop} (hit : s.heap.IsTupleIter it t i)
    (ht : s.heap.IsTuple t items) (hx : items[i]? = some x)
    (hQ : ∀ h', h'.IsTupleIter it t (i + 1) → Heap.SameBut it s.heap h' → Q x { s with heap := h' }) :
    wpAny (model prog w) A (Builtin.SmallTypes.nextOf (.ref it)) Q E s := by
  obtain ⟨o, ho, hc, hd⟩ := id hit
  obtain ⟨ol, hol, _, nl, hdl⟩ := ht
  unfold Builtin.SmallTypes.nextOf
  refine wpAny_bind (wpAny_callSpecial?_slot (name := Str.ofString "__next__") hit.typeIs F.slot_tuple_iterator_next
    (wpAny_call_entry F.slot_tuple_iterator_next hit.typeIs F.entry_tuple_iterator_next ?_ (F.args_tuple_iterator_next_1 _)))
  show wpAny _ _ (field (.ref it) 0 >>= _) _ _ s
  refine wpAny_bind (wpAny_field ho hd (x := .ref t) rfl ?_)
  show wpAny _ _ (if (Value.ref t == Value.none) = true then _ else _) _ _ s
  rw [if_neg (show ¬ ((Value.ref t == Value.none) = true) from Bool.false_ne_true)]
  show wpAny _ _ (field (.ref it) 1 >>= _) _ _ s
  refine wpAny_bind (wpAny_field ho hd (x := .int i 0) rfl ?_)
  show wpAny _ _ (seqItems? (.ref t) >>= _) _ _ s
  refine wpAny_bind (wpAny_seqItems hol hdl ?_)
  simp only [Int.toNat_natCast, hx]
  refine wpAny_bind (wpAny_setField ho hd (by simp) (wpAny_pure ⟨x, rfl, wpAny_pure (hQ _ ?_ (Heap.SameBut.update ..))⟩))
  exact ⟨_, Heap.get?_update_self _ ho (Obj.isFreed_of_fields (Obj.data_mapFields hd _)), (Obj.cls_mapFields ..).trans hc, by
    rw [Obj.data_mapFields hd]; simp [rawInt]⟩

theorem nextOf_tup_end {it t : Addr} {i : Nat} {items : Array Value} {Q : Value → Shared → Prop} (hh : A.handled = none)
    (hit : s.heap.IsTupleIter it t i) (ht : s.heap.IsTuple t items) (hx : items[i]? = none)
    (hE : ∀ h' e, Heap.ExtBut it s.heap h' → (∃ o, h'.get? e = some o ∧ o.cls = .type "StopIteration") → E (.ref e) { s with heap := h' }) :
    wpAny (model prog w) A (Builtin.SmallTypes.nextOf (.ref it)) Q E s := by
  obtain ⟨o, ho, hc, hd⟩ := id hit
  obtain ⟨ol, hol, _, nl, hdl⟩ := ht
  unfold Builtin.SmallTypes.nextOf
  refine wpAny_bind (wpAny_callSpecial?_slot (name := Str.ofString "__next__") hit.typeIs F.slot_tuple_iterator_next
    (wpAny_call_entry F.slot_tuple_iterator_next hit.typeIs F.entry_tuple_iterator_next ?_ (F.args_tuple_iterator_next_1 _)))
  show wpAny _ _ (field (.ref it) 0 >>= _) _ _ s
  refine wpAny_bind (wpAny_field ho hd (x := .ref t) rfl ?_)
  show wpAny _ _ (if (Value.ref t == Value.none) = true then _ else _) _ _ s
  rw [if_neg (show ¬ ((Value.ref t == Value.none) = true) from Bool.false_ne_true)]
  show wpAny _ _ (field (.ref it) 1 >>= _) _ _ s
  refine wpAny_bind (wpAny_field ho hd (x := .int i 0) rfl ?_)
  show wpAny _ _ (seqItems? (.ref t) >>= _) _ _ s
  refine wpAny_bind (wpAny_seqItems hol hdl ?_)
  simp only [Int.toNat_natCast, hx]
  refine wpAny_bind (wpAny_rule (wpAny_bind (wpAny_setField ho hd (by simp) ?_)))
  show wpAny _ _ (newExc (.type "StopIteration") [] >>= _) _ _ _
  refine wpAny_bind ?_
  simp only [newExc, newTuple]
  refine wpAny_bind (wpAny_newObj_type ?_ (by size_fits))
  refine wpAny_bind (m := firstArgMember _ _) (wpAny_of_eq (a := Value.none) (by first | rfl | (simp only [firstArgMember]; rfl)) ?_)
  refine wpAny_newObj_type ?_ (by size_fits)
  simp only [raiseNew]
  refine wpAny_bind (wpAny_handled ?_)
  first | rw [show A.in1.handled = none from hh] | rw [hh]
  refine wpAny_bind (wpAny_pure (wpAny_throw ?_))
  exact hE _ _ (((Heap.SameBut.update ..).extBut.push _).push _) ⟨_, Heap.get?_push_size _ rfl, rfl⟩

theorem draws_tup (hh : A.handled = none) (it t : Addr) (hne : t ≠ it) (items : Array Value) :
    Draws prog w A it [it, t] items.size (fun i v => items[i]? = some v) (fun i h => h.IsTupleIter it t i ∧ h.IsTuple t items) where
  live := fun _ _ st => let ⟨o, ho, _⟩ := st.1; ⟨o, ho⟩
  frame := fun _ _ _ st hk => ⟨st.1.at fun o e => hk it (by simp) o e, st.2.at fun o e => hk t (by simp) o e⟩
  item := fun i s Q E hi st hQ => by
    refine nextOf_tup st.1 st.2 (x := items[i]) (by simp [hi]) fun h' hit' hs' => ?_
    exact hQ _ h' s.toks (by simp [hi]) ⟨hit', st.2.extBut hs'.extBut hne⟩ hs'
  done := fun s Q E st hE => nextOf_tup_end hh st.1 st.2 (by simp) hE

theorem enum_newT (l : Addr) (items : Array Value) (n : Nat) (dct : Option Addr) (sl : Array (Option Value)) :
    Meets (Builtin.«enumerate.__new__» ⟨[.type "enumerate", .ref l], []⟩) (fun _ R s => s.heap.get? l = some { cls := .type "tuple", dict := dct, data := .seq items n, slots := sl } ∧
      R (.ok (.ret (.ref (s.heap.push { cls := .type "tuple_iterator", data := .fields #[.ref l, .int 0 0] }).objs.size)))
        { s with heap := (s.heap.push { cls := .type "tuple_iterator", data := .fields #[.ref l, .int 0 0] }).push { cls := .type "enumerate", data := .fields #[.none, .bool false, .ref s.heap.objs.size, rawInt 0, .none, .none] } }) :=
  .of_wp fun prog w A R s h => by
    obtain ⟨hp, g, d, tk, os⟩ := s; obtain ⟨hl, h⟩ := h
    have hsub := sub_enumerate
    have hL : Heap.IsTuple (Shared.heap ⟨hp, g, d, tk, os⟩) l items := ⟨_, hl, rfl, n, rfl⟩
    wp_walk using wpAny_loadPart' hl
    refine wpAny_stack_any fun st => wpAny_pure ?_
    split
    · rename_i c _ _ _ _ _
      cases (c == Value.type "enumerate")
      · wp_walk using wpAny_loadPart' hl, wpAny_pyIter_tuple hL
        exact ⟨_, rfl, h⟩
      · wp_walk using wpAny_loadPart' hl, wpAny_pyIter_tuple hL
        exact ⟨_, rfl, h⟩
    · wp_walk using wpAny_loadPart' hl, wpAny_pyIter_tuple hL
      exact ⟨_, rfl, h⟩

/-- enumerate(t) of a tuple -/
theorem call_enumT {l : Addr} {items : Array Value} {Q : Value → Shared → Prop} (hL : s.heap.IsTuple l items)
    (h : ∀ h', IsEnum h' (s.heap.objs.size + 1) s.heap.objs.size 0 .none → h'.IsTupleIter s.heap.objs.size l 0 → h'.objs.size = s.heap.objs.size + 2 →
      (∀ b o, s.heap.get? b = some o → h'.get? b = some o) → Q (.ref (s.heap.objs.size + 1)) { s with heap := h' }) :
    wpAny (model prog w) A (call (.type "enumerate") [.ref l]) Q E s := by
  obtain ⟨⟨c, dct, dt, sl⟩, hl, hc, n, hd⟩ := hL
  replace hc : c = .type "tuple" := hc
  replace hd : dt = .seq items n := hd
  subst hc hd
  refine callType_new F.called_enumerate (by decide) (F.typeCall_enumerate_1 _) (F.newCall_enumerate_1 _) (fun obj => F.args_object_init_2 obj _) F.entry_enumerate_new
    (enum_newT l items n dct sl) ⟨hl, ?_⟩
  have hz : (s.heap.push { cls := .type "tuple_iterator", data := .fields #[.ref l, .int 0 0] }).objs.size = s.heap.objs.size + 1 := Heap.size_push ..
  show _ ∧ _
  rw [hz]
  have he : IsEnum ((s.heap.push { cls := .type "tuple_iterator", data := .fields #[.ref l, .int 0 0] }).push
      { cls := .type "enumerate", data := .fields #[.none, .bool false, .ref s.heap.objs.size, rawInt 0, .none, .none] }) (s.heap.objs.size + 1) s.heap.objs.size 0 .none := by
    have := Heap.get?_push_size (s.heap.push { cls := .type "tuple_iterator", data := .fields #[.ref l, .int 0 0] })
      (o := { cls := .type "enumerate", data := .fields #[.none, .bool false, .ref s.heap.objs.size, rawInt 0, .none, .none] }) rfl
    rw [hz] at this; exact this
  refine ⟨⟨_, he, rfl⟩, h _ he ⟨_, Heap.get?_push_of_some _ (Heap.get?_push_size _ rfl), rfl, rfl⟩ (by rw [Heap.size_push, hz]) fun b o x => Heap.get?_push_of_some _ (Heap.get?_push_of_some _ x)⟩
end
end Mine

end -- B1

section -- B2
open PySem PySem.W PyProof.Rows PySem.Spec PySem.Calls
set_option maxRecDepth 100000
set_option maxHeartbeats 8000000
namespace Mine
section
variable {prog : Program} {w : World} {A : Around} {E : Value → Shared → Prop} {s : Shared} {env : Env} {h₀ : Heap} {target : PySem.Expr} {body orelse : List Stmt} {Q : Flow → Shared → Prop}

/-- a turn's end of a for over whatever gives items -/
def TjEnd (h₀ : Heap) (L : Addr) (own : List (Addr × Obj)) (adr : List Addr) (J : (Str → Option Value) → List (Addr × Obj) → Prop) (s s₃ : Shared) : Prop :=
  ∃ h' tk m' nx news', s₃ = { s with heap := h', toks := tk } ∧ Fr h₀ L h' m' ∧ News h₀ L h' news' ∧ (∀ p ∈ nx, p ∈ news') ∧ (∀ p ∈ own, p ∈ news') ∧ nx.map (·.1) = adr ∧ J m' nx
def TjPost (h₀ : Heap) (L : Addr) (own : List (Addr × Obj)) (adr : List Addr) (J : (Str → Option Value) → List (Addr × Obj) → Prop) (s : Shared) (Q : Flow → Shared → Prop) (f : Flow) (s₃ : Shared) : Prop :=
  match f with
  | .ret v => Q (.ret v) s₃
  | .brk => Q .next s₃
  | _ => TjEnd h₀ L own adr J s s₃
theorem TjEnd.intro {L : Addr} {own : List (Addr × Obj)} {adr : List Addr} {J : (Str → Option Value) → List (Addr × Obj) → Prop} {h' : Heap} {tk : Nat} {m' : Str → Option Value} {nx news' : List (Addr × Obj)}
    (F : Fr h₀ L h' m') (N : News h₀ L h' news') (hn : ∀ p ∈ nx, p ∈ news') (ho : ∀ p ∈ own, p ∈ news') (ha : nx.map (·.1) = adr) (hj : J m' nx) : TjEnd h₀ L own adr J s { s with heap := h', toks := tk } := ⟨h', tk, m', nx, news', rfl, F, N, hn, ho, ha, hj⟩
def TjAt (prog : Program) (w : World) (A : Around) (h₀ : Heap) (env : Env) (target : PySem.Expr) (body orelse : List Stmt) (Q : Flow → Shared → Prop) (E : Value → Shared → Prop) (it : Value) (s : Shared) : Prop :=
  ∃ (I : Addr) (fp wr : List Addr) (n : Nat) (P Md : Nat → Value → Heap → Prop) (St : Nat → Heap → Prop) (m : Str → Option Value) (news : List (Addr × Obj)) (J : Nat → (Str → Option Value) → List (Addr × Obj) → Prop),
    it = .ref I ∧ KTurns prog w A target I fp wr n P Md St ∧ env.locals ∉ fp ∧ (∀ b ∈ wr, h₀.get? b = none) ∧ (∀ p ∈ news, p.1 ∉ fp) ∧ St 0 s.heap ∧ Fr h₀ env.locals s.heap m ∧ News h₀ env.locals s.heap news ∧ J 0 m news ∧
    (∀ i v m₁ nx h₁ tk₁ own, i < n → P i v h₁ → J i m₁ nx → nx.map (·.1) = news.map (·.1) → OwnOff own (news.map (·.1)) → Fr h₀ env.locals h₁ m₁ → News h₀ env.locals h₁ (nx ++ own) →
      wpAny (model prog w) A (assign target env v) (fun _ s₂ => wpAny (model prog w) A (execs body env) (TjPost h₀ env.locals own (news.map (·.1)) (J (i + 1)) s Q) E s₂) E { s with heap := h₁, toks := tk₁ }) ∧
    ∀ h' tk m' nx, Fr h₀ env.locals h' m' → News h₀ env.locals h' nx → J n m' nx → wpAny (model prog w) A (execs orelse env) Q E { s with heap := h', toks := tk }

theorem for_tj {iter : PySem.Expr} {pos : Pos} {m₀ : Str → Option Value} (_F : Fr h₀ env.locals s.heap m₀)
    (h : wpAny (model prog w) A (eval iter env) (fun xv s₁ => wpAny (model prog w) A (pyIter xv) (fun it s₂ => TjAt prog w A h₀ env target body orelse Q E it s₂) E s₁) E s)
    (hs : ∀ x, foldedSetIterable iter env x = pure x := by intro _; rfl)
    (hE : PassesOwn (model prog w) A env E := by passes_own) :
    wpAny (model prog w) A (exec (.For target iter body orelse pos) env) Q E s := by
  refine wpAny_For (wpAny_mono h (fun xv s₁ h₁ => wpAny_mono h₁ (fun it s₂ h₂ => ?_) fun _ _ e => e) fun _ _ e => e) hs
  obtain ⟨I, fp, wr, n, P, Md, St, m, news, J, rfl, W, hLf, hwr, hnf, hst, F, N, h0, step, done⟩ := h₂
  have hLw : env.locals ∉ wr := fun h => hLf (W.sub _ h)
  have old : ∀ b o, h₀.get? b = some o → b ∉ wr := fun b o e hb => by rw [hwr b hb] at e; cases e
  refine codeAny_forLoop_any (R := fun r s' => match r with | .ok f => Q f s' | .error e => cameBackBy (model prog w) A env E e s')
    (fun k s' => ∃ h' tk m' nx i, s' = { s₂ with heap := h', toks := tk } ∧ St i h' ∧ Fr h₀ env.locals h' m' ∧ News h₀ env.locals h' nx ∧ nx.map (·.1) = news.map (·.1) ∧ J i m' nx ∧ i ≤ n ∧ k = n + 1 - i) ?_ (n + 1)
    ⟨s₂.heap, s₂.toks, m, news, 0, rfl, hst, F, N, rfl, h0, Nat.zero_le _, rfl⟩
  rintro k s' ⟨h', tk, m', nx, i, rfl, hst', F', N', hadr, hJ, hi, rfl⟩
  have hoff : ∀ p ∈ nx, p.1 ∉ fp := fun p hp => by
    have h1 : p.1 ∈ nx.map (·.1) := List.mem_map.mpr ⟨p, hp, rfl⟩
    rw [hadr] at h1
    obtain ⟨q, hq, e⟩ := List.mem_map.mp h1
    rw [← e]; exact hnf q hq
  have next : ∀ h₁ : Heap, (∀ b o, b ∉ wr → h'.get? b = some o → h₁.get? b = some o) → Fr h₀ env.locals h₁ m' ∧ News h₀ env.locals h₁ nx := fun h₁ hk₁ =>
    ⟨⟨F'.ns.at' fun o e => hk₁ _ o hLw e, fun b o e => hk₁ b o (old b o e) (F'.keep b o e), F'.above⟩, fun p hp => ⟨hk₁ _ _ (fun hb => hoff p hp (W.sub _ hb)) (N' p hp).1, (N' p hp).2⟩⟩
  by_cases hlt : i < n
  · refine W.item i _ _ _ hlt hst' fun v h₁ tk₁ hMd hk₁ => ?_
    refine W.go i v _ _ _ hMd fun h₂ hP hst₂ hk₂ => ?_
    obtain ⟨F₂, N₂⟩ := next h₂ fun b o hb x => hk₂ b o hb (hk₁ b o hb x)
    have Nown : News h₀ env.locals h₂ (PyProof.Rows.ownOf h₀ fp h₂) := news_ownOf hLf
    have N₃ : News h₀ env.locals h₂ (nx ++ PyProof.Rows.ownOf h₀ fp h₂) := fun p hp => (List.mem_append.mp hp).elim (N₂ p) (Nown p)
    have hsep : OwnOff (PyProof.Rows.ownOf h₀ fp h₂) (news.map (·.1)) := by
      intro p hp b hb e
      obtain ⟨q, hq, rfl⟩ := List.mem_map.mp hb
      exact hnf q hq (e ▸ ownOf_sub p hp)
    refine wpAny_mono (wpAny_passesOwn hE (wpAny_mono (step i v m' nx h₂ tk₁ (PyProof.Rows.ownOf h₀ fp h₂) hlt hP hJ hadr hsep F₂ N₃) (fun _ s₂' h₂' => wpAny_passesOwn hE h₂') fun _ _ e => e)) (fun _ s₂' h₂' => wpAny_mono h₂' (fun f s₃ h₃ => ?_) fun _ _ e => e) fun _ _ e => e
    have fin : TjEnd h₀ env.locals (PyProof.Rows.ownOf h₀ fp h₂) (news.map (·.1)) (J (i + 1)) s₂ s₃ → ∃ m, m < n + 1 - i ∧ ∃ h' tk m' nx i, s₃ = { s₂ with heap := h', toks := tk } ∧ St i h' ∧ Fr h₀ env.locals h' m' ∧ News h₀ env.locals h' nx ∧ nx.map (·.1) = news.map (·.1) ∧ J i m' nx ∧ i ≤ n ∧ m = n + 1 - i := by
      rintro ⟨h₃', tk₃, m₃, nx₃, news₃, rfl, F₃, N₃', hn₃, ho₃, ha₃, hJ₃⟩
      refine ⟨n + 1 - (i + 1), by omega, h₃', tk₃, m₃, nx₃, i + 1, rfl, ?_, F₃, fun p hp => N₃' p (hn₃ p hp), ha₃, hJ₃, hlt, rfl⟩
      refine W.frame _ _ _ hst₂ fun b hb o e => ?_
      cases hn : h₀.get? b with
      | some o₀ =>
        have : o₀ = o := by have q := F₂.keep b o₀ hn; rw [e] at q; exact (Option.some.inj q).symm
        exact this ▸ F₃.keep b o₀ hn
      | none => exact (N₃' _ (ho₃ _ (mem_ownOf hb hn e))).1
    cases f with
    | ret v => exact h₃
    | brk => exact h₃
    | cont => exact fin h₃
    | next => exact fin h₃
  · have hin : i = n := by omega
    subst hin
    refine W.done _ _ _ hst' fun h₁ tk₁ hk₁ => ?_
    obtain ⟨F₁, N₁⟩ := next h₁ hk₁
    exact wpAny_mono (wpAny_passesOwn hE (done h₁ tk₁ m' nx F₁ N₁ hJ)) (fun _ _ x => x) fun _ _ e => e

/-- over enumerate of a tuple of the top -/
theorem tj_enumT {elts : List PySem.Expr} {kk : Nat} {tpos : Pos} {l : Addr} {items : Array Value} {m₀ : Str → Option Value} {news : List (Addr × Obj)} (J : Nat → (Str → Option Value) → List (Addr × Obj) → Prop)
    (hh : A.handled = none) (hl : h₀.IsTuple l items) (F : Fr h₀ env.locals s.heap m₀) (N : News h₀ env.locals s.heap news) (hj : J 0 m₀ news)
    (turn : ∀ (i : Nat) T t x m nx h tk own, i < items.size → items[i]? = some x → h.IsTuple T #[.int (i : Int) t, x] → J i m nx → nx.map (·.1) = news.map (·.1) → OwnOff own (news.map (·.1)) → Fr h₀ env.locals h m → News h₀ env.locals h (nx ++ own) →
      wpAny (model prog w) A (assign (.Tuple elts kk tpos) env (.ref T)) (fun _ s₂ => wpAny (model prog w) A (execs body env) (TjPost h₀ env.locals own (news.map (·.1)) (J (i + 1)) s Q) E s₂) E { s with heap := h, toks := tk })
    (done : ∀ h tk m nx, Fr h₀ env.locals h m → News h₀ env.locals h nx → J items.size m nx → wpAny (model prog w) A (execs orelse env) Q E { s with heap := h, toks := tk }) :
    wpAny (model prog w) A (call (.type "enumerate") [.ref l]) (fun xv s₁ => wpAny (model prog w) A (pyIter xv) (fun it s₂ => TjAt prog w A h₀ env (.Tuple elts kk tpos) body orelse Q E it s₂) E s₁) E s := by
  have hls : s.heap.IsTuple l items := let ⟨o, ho, r⟩ := hl; ⟨o, F.keep _ _ ho, r⟩
  have hlt : l < h₀.objs.size := let ⟨_, ho, _⟩ := hl; Heap.lt_size ho
  have hLs : env.locals < s.heap.objs.size := F.ns.lt
  have hls' : l < s.heap.objs.size := let ⟨_, ho, _⟩ := hls; Heap.lt_size ho
  have hlL : l ≠ env.locals := Nat.ne_of_lt (Nat.lt_of_lt_of_le hlt F.above)
  refine call_enumT hls fun h' hE hI hsz hk => ?_
  refine wpAny_pyIter_enum hE ?_
  have D := draws_tup (prog := prog) (w := w) (A := A.in1) hh s.heap.objs.size l (Nat.ne_of_lt hls') items
  have W := KTurns.ofWalksU (elts := elts) (k := kk) (pos := tpos) (WalksT.enumerateD D (s.heap.objs.size + 1) (Nat.succ_ne_self _) (by
    intro hm
    rcases List.mem_cons.mp hm with e | hm
    · exact Nat.succ_ne_self _ e
    · have e := List.mem_singleton.mp hm
      rw [← e] at hls'
      exact Nat.lt_irrefl _ (Nat.lt_trans (Nat.lt_succ_self _) hls')) (by simp)).toU
  refine ⟨_, _, _, items.size, _, _, _, m₀, news, J, rfl, W, ?_, ?_, ?_, ⟨⟨_, hE⟩, hI, let ⟨o, ho, r⟩ := hls; ⟨o, hk _ _ ho, r⟩⟩, F.keeps hk, N.grown hk, hj, ?_, ?_⟩
  · intro hm
    simp only [List.mem_cons, List.not_mem_nil, or_false] at hm
    rcases hm with e | e | e
    · rw [e] at hLs; exact Nat.lt_irrefl _ (Nat.lt_trans (Nat.lt_succ_self _) hLs)
    · rw [e] at hLs; exact Nat.lt_irrefl _ hLs
    · exact hlL e.symm
  · intro b hb
    simp only [List.mem_cons, List.not_mem_nil, or_false] at hb
    rcases hb with rfl | rfl
    · exact ktu_new F (Nat.le_add_right _ _)
    · exact ktu_new F (Nat.le_refl _)
  · intro p hp hm
    have hlp := Heap.lt_size (N p hp).1
    simp only [List.mem_cons, List.not_mem_nil, or_false] at hm
    rcases hm with e | e | e
    · rw [e] at hlp; exact Nat.lt_irrefl _ (Nat.lt_trans (Nat.lt_succ_self _) hlp)
    · rw [e] at hlp; exact Nat.lt_irrefl _ hlp
    · obtain ⟨o, ho, _⟩ := hl
      have := (N p hp).2.2
      rw [e, ho] at this; cases this
  · rintro i v m₁ nx h₁ tk₁ own hin ⟨T, vals, rfl, ⟨t, x, hx, rfl⟩, hT⟩ hJ ha ho F₁ N₁
    exact turn i T t x m₁ nx h₁ tk₁ own hin hx hT hJ ha ho F₁ N₁
  · intro h₁ tk₁ m₁ nx F₁ N₁ hJ
    exact done h₁ tk₁ m₁ nx F₁ N₁ hJ

/-- over a tuple of the top -/
theorem tj_tup {l : Addr} {items : Array Value} {m₀ : Str → Option Value} {news : List (Addr × Obj)} (J : Nat → (Str → Option Value) → List (Addr × Obj) → Prop)
    (hh : A.handled = none) (hl : h₀.IsTuple l items) (F : Fr h₀ env.locals s.heap m₀) (N : News h₀ env.locals s.heap news) (hj : J 0 m₀ news)
    (turn : ∀ (i : Nat) x m nx h tk own, i < items.size → items[i]? = some x → J i m nx → nx.map (·.1) = news.map (·.1) → OwnOff own (news.map (·.1)) → Fr h₀ env.locals h m → News h₀ env.locals h (nx ++ own) →
      wpAny (model prog w) A (assign target env x) (fun _ s₂ => wpAny (model prog w) A (execs body env) (TjPost h₀ env.locals own (news.map (·.1)) (J (i + 1)) s Q) E s₂) E { s with heap := h, toks := tk })
    (done : ∀ h tk m nx, Fr h₀ env.locals h m → News h₀ env.locals h nx → J items.size m nx → wpAny (model prog w) A (execs orelse env) Q E { s with heap := h, toks := tk }) :
    wpAny (model prog w) A (pyIter (.ref l)) (fun it s₂ => TjAt prog w A h₀ env target body orelse Q E it s₂) E s := by
  have hls : s.heap.IsTuple l items := let ⟨o, ho, r⟩ := hl; ⟨o, F.keep _ _ ho, r⟩
  have hlt : l < h₀.objs.size := let ⟨_, ho, _⟩ := hl; Heap.lt_size ho
  have hLs : env.locals < s.heap.objs.size := F.ns.lt
  have hls' : l < s.heap.objs.size := let ⟨_, ho, _⟩ := hls; Heap.lt_size ho
  have hlL : l ≠ env.locals := Nat.ne_of_lt (Nat.lt_of_lt_of_le hlt F.above)
  refine wpAny_pyIter_tuple hls ?_
  refine ⟨_, _, _, items.size, _, _, _, m₀, news, J, rfl, KTurns.ofWalks (Walks.tuple hh s.heap.objs.size l (Nat.ne_of_lt hls') items) (fun i v s Q E st q => letGo_tupleiter st.1 q), ?_, ?_, ?_, ⟨⟨_, Heap.get?_push_size _ rfl, rfl, rfl⟩, hls.push _⟩, F.push _, (fun p hp => ⟨Heap.get?_push_of_some _ (N p hp).1, (N p hp).2⟩), hj, ?_, ?_⟩
  · intro hm
    simp only [List.mem_cons, List.not_mem_nil, or_false] at hm
    rcases hm with e | e
    · rw [e] at hLs; exact Nat.lt_irrefl _ hLs
    · exact hlL e.symm
  · intro b hb
    rw [List.mem_singleton.mp hb]
    exact ktu_new F (Nat.le_refl _)
  · intro p hp hm
    have hlp := Heap.lt_size (N p hp).1
    simp only [List.mem_cons, List.not_mem_nil, or_false] at hm
    rcases hm with e | e
    · rw [e] at hlp; exact Nat.lt_irrefl _ hlp
    · obtain ⟨o, ho, _⟩ := hl
      have := (N p hp).2.2
      rw [e, ho] at this; cases this
  · intro i v m₁ nx h₁ tk₁ own hin hx hJ ha ho F₁ N₁
    exact turn i v m₁ nx h₁ tk₁ own hin hx hJ ha ho F₁ N₁
  · intro h₁ tk₁ m₁ nx F₁ N₁ hJ
    exact done h₁ tk₁ m₁ nx F₁ N₁ hJ

/-- over a range by ones, whatever the target -/
theorem tj_range {x : Str} {px : Pos} {r : Addr} {a₀ b₀ : Int} {t₀ u₀ v₀ : Tok} {n : Nat} {m₀ : Str → Option Value} {news : List (Addr × Obj)} (J : Nat → (Str → Option Value) → List (Addr × Obj) → Prop)
    (hh : A.handled = none) (hr : IsRange s.heap r a₀ b₀ 1 t₀ u₀ v₀) (hsmall : Builtin.Range.small a₀ b₀ 1 = true) (hn : Builtin.Range.rangeSize a₀ b₀ 1 = (n : Int)) (F : Fr h₀ env.locals s.heap m₀) (N : News h₀ env.locals s.heap news) (hj : J 0 m₀ news)
    (turn : ∀ (i : Nat) t m nx h tk own, i < n → J i m nx → nx.map (·.1) = news.map (·.1) → OwnOff own (news.map (·.1)) → Fr h₀ env.locals h m → News h₀ env.locals h (nx ++ own) →
      wpAny (model prog w) A (assign (.Name x px) env (.int (a₀ + (i : Int)) t)) (fun _ s₂ => wpAny (model prog w) A (execs body env) (TjPost h₀ env.locals own (news.map (·.1)) (J (i + 1)) s Q) E s₂) E { s with heap := h, toks := tk })
    (done : ∀ h tk m nx, Fr h₀ env.locals h m → News h₀ env.locals h nx → J n m nx → wpAny (model prog w) A (execs orelse env) Q E { s with heap := h, toks := tk }) :
    wpAny (model prog w) A (pyIter (.ref r)) (fun it s₂ => TjAt prog w A h₀ env (.Name x px) body orelse Q E it s₂) E s := by
  refine wpAny_pyIter_range hr hsmall ?_
  have W : Walks prog w A s.heap.objs.size [s.heap.objs.size] [s.heap.objs.size] n (fun i v => i < n ∧ ∃ t, v = .int (a₀ + i * 1) t)
      (fun i h => IsRangeIter h s.heap.objs.size (a₀ + (i : Nat) * 1) ((n : Int) - (i : Nat)) 1) := (Walks.range hh _ a₀ 1 n).bound
  refine ⟨_, _, _, n, _, _, _, m₀, news, J, rfl, KTurns.ofWalks W (fun i v s Q E st q => wpAny_pure q), ?_, ?_, ?_, (by show IsRangeIter _ _ _ _ _; rw [hn]; simpa using Heap.get?_push_size _ rfl), F.push _, (fun p hp => ⟨Heap.get?_push_of_some _ (N p hp).1, (N p hp).2⟩), hj, ?_, ?_⟩
  · intro hm
    exact absurd F.ns.lt ((List.mem_singleton.mp hm) ▸ Nat.lt_irrefl _)
  · intro b hb
    rw [List.mem_singleton.mp hb]
    exact next_is_new F
  · intro p hp hI
    exact absurd (Heap.lt_size (N p hp).1) ((List.mem_singleton.mp hI) ▸ Nat.lt_irrefl _)
  · rintro i v m₁ nx h₁ tk₁ own hin ⟨_, t, rfl⟩ hJ ha ho F₁ N₁
    simp only [Int.mul_one]
    exact turn i t m₁ nx h₁ tk₁ own hin hJ ha ho F₁ N₁
  · intro h₁ tk₁ m₁ nx F₁ N₁ hJ
    exact done h₁ tk₁ m₁ nx F₁ N₁ hJ
end
end Mine

end -- B2

section -- B3
open PySem PySem.W PyProof.Rows PySem.Spec PySem.Calls
set_option maxRecDepth 100000
set_option maxHeartbeats 8000000
namespace Mine
theorem toArr_cps (l : List Nat) : (Str.mk l.toArray).cps.toList = l := rfl
theorem cps_len (x : Str) : x.cps.toList.length = x.length := by simp [Str.length]
theorem slice_from_list {x : Str} {i : Int} (h0 : 0 ≤ i) : (Txt.slice x (some i) none).cps.toList = x.cps.toList.drop i.toNat := by
  by_cases h : i ≤ x.length
  · rw [slice_from_eq h0 h rfl, toArr_cps, List.take_of_length_le]
    rw [List.length_drop, cps_len]; omega
  · rw [slice_from_beyond (by omega), List.drop_of_length_le (by rw [cps_len]; omega)]
theorem slice_to_list {x : Str} {j : Int} (h0 : 0 ≤ j) : (Txt.slice x none (some j)).cps.toList = x.cps.toList.take j.toNat := by
  by_cases h : j ≤ x.length
  · rw [eq_of_beq (slice_closes_toL h0 h), toArr_cps]
    simp
  · rw [slice_to_beyond (by omega), eq_of_beq (slice_closes_toL (by omega) (Int.le_refl _)), toArr_cps]
    have e : ((x.length : Int) - 0).toNat = x.cps.toList.length := by rw [cps_len]; omega
    rw [e, show (0 : Int).toNat = 0 from rfl, List.drop_zero, List.take_length, List.take_of_length_le (by rw [cps_len]; omega)]
theorem slice_ft_list {x : Str} {i j : Int} (h0 : 0 ≤ i) (h1 : i ≤ j) (h2 : j ≤ x.length) : (Txt.slice x (some i) (some j)).cps.toList = (x.cps.toList.drop i.toNat).take (j - i).toNat := by
  rw [eq_of_beq (slice_closesL h0 h1 h2), toArr_cps]
theorem rev_list (x : Str) (u : Tok) : (Txt.sliceBy x none none (-1, u)).cps.toList = x.cps.toList.reverse := by
  rw [step_rev_list]
  apply List.ext_getElem
  · simp [Str.length]
  · intro i h1 h2
    have hi : i < x.cps.size := by simpa [Str.length] using h1
    simp only [List.getElem_map, List.getElem_range, List.getElem_reverse]
    have h3 : x.length - 1 - i < x.cps.size := by unfold Str.length; omega
    rw [Array.getD_eq_getD_getElem?, Array.getElem?_eq_getElem h3]
    simp [Str.length]

section
variable {prog : Program} {w : World} {A : Around} {E : Value → Shared → Prop} {s : Shared} {value slice : PySem.Expr} {x y : Str} {t u : Tok} {h₀ : Heap} {L : Addr} {m : Str → Option Value} {news : List (Addr × Obj)} {Q : Value → Shared → Prop}
theorem str_add (hs : x.length + y.length ≤ 100000) (h : ∀ (z : Str) t' k, z.cps.toList = x.cps.toList ++ y.cps.toList → z.length = x.length + y.length → Q (.str z t') { s with toks := k }) :
    wpAny (model prog w) A (binaryOp .Add (.str x t) (.str y u)) Q E s :=
  PyProof.Rows.add_str (fun t' tk => h (x ++ y) t' tk (by rw [Str.cps_append, Array.toList_append]) (Str.length_append x y)) (by rw [PySem.sizeLine_eq]; omega)
theorem str_rev {uk : Tok} (hF : Fr h₀ L s.heap m) (hN : News h₀ L s.heap news) (hsz : x.length ≤ 100000) (h : ∀ (z : Str) h' t' c, z.cps.toList = x.cps.toList.reverse → z.length = x.length → Fr h₀ L h' m → News h₀ L h' news → Q (.str z t') { s with heap := h', toks := c })
    (hs : subscripted slice false (.str x t) (.ref s.heap.objs.size) = operate [.ref s.heap.objs.size, .str x t] (getItem (.str x t) (.ref s.heap.objs.size)) := by with_unfolding_all rfl)
    (ht : ∀ r, letTemporaryGo value (.str x t) r = pure () := by intro _; with_unfolding_all rfl) :
    wpAny (model prog w) A (subscriptTail value slice (.str x t) (.ref s.heap.objs.size)) Q E { s with heap := s.heap.push { cls := .type "slice", data := .fields #[.none, .none, .int (-1) uk] } } :=
  slice_strK_nn hF hN (by decide) (fun h' t' c F N => h _ h' t' c (rev_list x uk) (by rw [← cps_len, rev_list, List.length_reverse, cps_len]) F N) hs ht (by rw [PySem.sizeLine_eq]; omega)
theorem str_from {i : Int} {ui : Tok} (hF : Fr h₀ L s.heap m) (hN : News h₀ L s.heap news) (hi : 0 ≤ i) (hsz : x.length ≤ 100000) (h : ∀ (z : Str) h' t' c, z.cps.toList = x.cps.toList.drop i.toNat → z.length = x.length - i.toNat → Fr h₀ L h' m → News h₀ L h' news → Q (.str z t') { s with heap := h', toks := c })
    (hs : subscripted slice false (.str x t) (.ref s.heap.objs.size) = operate [.ref s.heap.objs.size, .str x t] (getItem (.str x t) (.ref s.heap.objs.size)) := by with_unfolding_all rfl)
    (ht : ∀ r, letTemporaryGo value (.str x t) r = pure () := by intro _; with_unfolding_all rfl) :
    wpAny (model prog w) A (subscriptTail value slice (.str x t) (.ref s.heap.objs.size)) Q E { s with heap := s.heap.push { cls := .type "slice", data := .fields #[.int i ui, .none, .none] } } :=
  slice_strN_sn hF hN (fun h' t' c F N => h _ h' t' c (slice_from_list hi) (by rw [← cps_len, slice_from_list hi, List.length_drop, cps_len]) F N) hs ht (by rw [PySem.sizeLine_eq]; omega)
theorem str_to {j : Int} {uj : Tok} (hF : Fr h₀ L s.heap m) (hN : News h₀ L s.heap news) (hj : 0 ≤ j) (hsz : x.length ≤ 100000) (h : ∀ (z : Str) h' t' c, z.cps.toList = x.cps.toList.take j.toNat → z.length = min j.toNat x.length → Fr h₀ L h' m → News h₀ L h' news → Q (.str z t') { s with heap := h', toks := c })
    (hs : subscripted slice false (.str x t) (.ref s.heap.objs.size) = operate [.ref s.heap.objs.size, .str x t] (getItem (.str x t) (.ref s.heap.objs.size)) := by with_unfolding_all rfl)
    (ht : ∀ r, letTemporaryGo value (.str x t) r = pure () := by intro _; with_unfolding_all rfl) :
    wpAny (model prog w) A (subscriptTail value slice (.str x t) (.ref s.heap.objs.size)) Q E { s with heap := s.heap.push { cls := .type "slice", data := .fields #[.none, .int j uj, .none] } } :=
  slice_strN_ns hF hN (fun h' t' c F N => h _ h' t' c (slice_to_list hj) (by rw [← cps_len, slice_to_list hj, List.length_take, cps_len]) F N) hs ht (by rw [PySem.sizeLine_eq]; omega)
theorem str_ft {i j : Int} {ui uj : Tok} (hF : Fr h₀ L s.heap m) (hN : News h₀ L s.heap news) (hi : 0 ≤ i) (hij : i ≤ j) (hj : j ≤ x.length) (hsz : x.length ≤ 100000) (h : ∀ (z : Str) h' t' c, z.cps.toList = (x.cps.toList.drop i.toNat).take (j - i).toNat → z.length = (j - i).toNat → Fr h₀ L h' m → News h₀ L h' news → Q (.str z t') { s with heap := h', toks := c })
    (hs : subscripted slice false (.str x t) (.ref s.heap.objs.size) = operate [.ref s.heap.objs.size, .str x t] (getItem (.str x t) (.ref s.heap.objs.size)) := by with_unfolding_all rfl)
    (ht : ∀ r, letTemporaryGo value (.str x t) r = pure () := by intro _; with_unfolding_all rfl) :
    wpAny (model prog w) A (subscriptTail value slice (.str x t) (.ref s.heap.objs.size)) Q E { s with heap := s.heap.push { cls := .type "slice", data := .fields #[.int i ui, .int j uj, .none] } } :=
  slice_strN_ss hF hN (fun h' t' c F N => h _ h' t' c (slice_ft_list hi hij hj) (by rw [← cps_len, slice_ft_list hi hij hj, List.length_take, List.length_drop, cps_len]; omega) F N) hs ht (by rw [PySem.sizeLine_eq]; omega)
end
end Mine

end -- B3

section -- B4
open PySem PySem.W PyProof.Rows PySem.Spec PySem.Calls
set_option maxRecDepth 100000
set_option maxHeartbeats 8000000
namespace Mine
theorem ints_any : ∀ {ys : List Value}, (∀ v ∈ ys, ∃ k t, v = Value.int k t) → ∃ ns, IntsAre ys ns
  | [], _ => ⟨[], .nil⟩
  | v :: r, h => by
    obtain ⟨k, t, e⟩ := h v List.mem_cons_self
    obtain ⟨ns, hns⟩ := ints_any fun v hv => h v (.tail _ hv)
    exact ⟨k :: ns, e ▸ .cons k t hns⟩
theorem pick_ints {vs : List Value} {ns : List Int} {lo hi st : Option Int} (h : IntsAre vs ns) : ∃ ms, IntsAre (slicePick vs.toArray lo hi st).toList ms := by
  refine ints_any fun v hv => ?_
  unfold slicePick at hv
  rw [List.mem_filterMap] at hv
  obtain ⟨i, _, hi⟩ := hv
  have hi' : vs[i]? = some v := by simpa using hi
  obtain ⟨n, t, e, _⟩ := h.at i v hi'
  exact ⟨n, t, e⟩
section
variable {prog : Program} {w : World} {A : Around} {E : Value → Shared → Prop} {s : Shared} {h₀ : Heap} {L D : Addr} {m : Str → Option Value} {news : List (Addr × Obj)} {vs : List Value} {ns : List Int} {n : Nat} {Q : Value → Shared → Prop}
theorem sum_pick {lo hi st : Option Int} (hh : A.handled = none) (F : Fr h₀ L s.heap m) (N : News h₀ L s.heap ((D, ({ cls := .type "list", data := .seq (slicePick vs.toArray lo hi st) n } : Obj)) :: news)) (hi' : IntsAre vs ns)
    (h : ∀ (k : Int) h' tk t', Fr h₀ L h' m → News h₀ L h' news → Q (.int k t') { s with heap := h', toks := tk }) :
    wpAny (model prog w) A (call (.builtin "sum") [.ref D]) Q E s := by
  obtain ⟨ms, hms⟩ := pick_ints (lo := lo) (hi := hi) (st := st) hi'
  have hL : s.heap.IsList D (slicePick vs.toArray lo hi st).toList.toArray := ⟨_, (N _ List.mem_cons_self).1, rfl, n, rfl⟩
  exact sumK hh F N hL hms fun h' tk t' F' N' => h _ h' tk t' F' fun p hp => N' p (.tail _ hp)
end
section
variable {prog : Program} {w : World} {A : Around} {E : Value → Shared → Prop} {s : Shared} {env : Env} {h₀ : Heap} {target : PySem.Expr} {body orelse : List Stmt} {Q : Flow → Shared → Prop}
/-- over a tuple that the call made -/
theorem tj_tupN {l : Addr} {items : Array Value} {n : Nat} {m₀ : Str → Option Value} {news : List (Addr × Obj)} (J : Nat → (Str → Option Value) → List (Addr × Obj) → Prop)
    (hh : A.handled = none) (F : Fr h₀ env.locals s.heap m₀) (N : News h₀ env.locals s.heap ((l, ({ cls := .type "tuple", data := .seq items n } : Obj)) :: news)) (hne : ∀ p ∈ news, p.1 ≠ l) (hj : J 0 m₀ news)
    (turn : ∀ (i : Nat) x m nx h tk own, i < items.size → items[i]? = some x → J i m nx → nx.map (·.1) = news.map (·.1) → OwnOff own (news.map (·.1)) → Fr h₀ env.locals h m → News h₀ env.locals h (nx ++ own) →
      wpAny (model prog w) A (assign target env x) (fun _ s₂ => wpAny (model prog w) A (execs body env) (TjPost h₀ env.locals own (news.map (·.1)) (J (i + 1)) s Q) E s₂) E { s with heap := h, toks := tk })
    (done : ∀ h tk m nx, Fr h₀ env.locals h m → News h₀ env.locals h nx → J items.size m nx → wpAny (model prog w) A (execs orelse env) Q E { s with heap := h, toks := tk }) :
    wpAny (model prog w) A (pyIter (.ref l)) (fun it s₂ => TjAt prog w A h₀ env target body orelse Q E it s₂) E s := by
  have hl := N _ List.mem_cons_self
  have hls : s.heap.IsTuple l items := ⟨_, hl.1, rfl, n, rfl⟩
  have hLs : env.locals < s.heap.objs.size := F.ns.lt
  have hls' : l < s.heap.objs.size := Heap.lt_size hl.1
  have hlL : l ≠ env.locals := hl.2.1
  refine wpAny_pyIter_tuple hls ?_
  refine ⟨_, _, _, items.size, _, _, _, m₀, news, J, rfl, KTurns.ofWalks (Walks.tuple hh s.heap.objs.size l (Nat.ne_of_lt hls') items) (fun i v s Q E st q => letGo_tupleiter st.1 q), ?_, ?_, ?_, ⟨⟨_, Heap.get?_push_size _ rfl, rfl, rfl⟩, hls.push _⟩, F.push _, (fun p hp => ⟨Heap.get?_push_of_some _ (N p (.tail _ hp)).1, (N p (.tail _ hp)).2⟩), hj, ?_, ?_⟩
  · intro hm
    simp only [List.mem_cons, List.not_mem_nil, or_false] at hm
    rcases hm with e | e
    · rw [e] at hLs; exact Nat.lt_irrefl _ hLs
    · exact hlL e.symm
  · intro b hb
    rw [List.mem_singleton.mp hb]
    exact ktu_new F (Nat.le_refl _)
  · intro p hp hm
    have hlp := Heap.lt_size (N p (.tail _ hp)).1
    simp only [List.mem_cons, List.not_mem_nil, or_false] at hm
    rcases hm with e | e
    · rw [e] at hlp; exact Nat.lt_irrefl _ hlp
    · exact hne p hp e
  · intro i v m₁ nx h₁ tk₁ own hin hx hJ ha ho F₁ N₁
    exact turn i v m₁ nx h₁ tk₁ own hin hx hJ ha ho F₁ N₁
  · intro h₁ tk₁ m₁ nx F₁ N₁ hJ
    exact done h₁ tk₁ m₁ nx F₁ N₁ hJ
end
section
variable {prog : Program} {w : World} {A : Around} {E : Value → Shared → Prop} {s : Shared} {Q : Value → Shared → Prop}
theorem cmp_same {x : Str} {t u : Tok} (h : Q (.bool false) s) : wpAny (model prog w) A (compareOp .NotEq (.str x t) (.str x u)) Q E s := ne_str (by rw [bne_self_eq_false]; exact h)
theorem ne_same_ints {a b : Addr} {xs ys : List Value} {ns : List Int} (ha : s.heap.IsList a xs.toArray) (hb : s.heap.IsList b ys.toArray) (hi : IntsAre xs ns) (hj : IntsAre ys ns) (hu : A.units + 64 < cLine) (h : Q (.bool false) s) :
    wpAny (model prog w) A (compareOp .NotEq (.ref a) (.ref b)) Q E s := ke_ne_ints ha hb hi hj hu (by rw [decide_eq_true rfl]; exact h)
end
theorem pick_rev5 {vs : List Value} (h : vs.length = 5) : (slicePick vs.toArray none (some 0) (some (-1))).toList = (vs.drop 1).reverse := by
  match vs, h with
  | [a, b, c, d, e], _ =>
    have h1 : sliceRange (sliceBounds none (some 0) (some (-1)) 5).1 (sliceBounds none (some 0) (some (-1)) 5).2.1 (sliceBounds none (some 0) (some (-1)) 5).2.2 = [4, 3, 2, 1] := by decide +kernel
    show (((sliceRange (sliceBounds none (some 0) (some (-1)) 5).1 (sliceBounds none (some 0) (some (-1)) 5).2.1 (sliceBounds none (some 0) (some (-1)) 5).2.2).filterMap (fun i => #[a, b, c, d, e][i]?)).toArray).toList = _
    rw [h1]; rfl
theorem ints_rev {vs : List Value} {ns : List Int} : IntsAre vs ns → IntsAre vs.reverse ns.reverse := by
  intro h
  induction h with
  | nil => exact .nil
  | cons n t h ih =>
    rw [List.reverse_cons, List.reverse_cons]
    exact IntsAre.append ih (.cons _ _ .nil)
theorem ints_tail {vs : List Value} {ns : List Int} (h : IntsAre vs ns) : IntsAre (vs.drop 1) (ns.drop 1) := by
  cases h with
  | nil => exact .nil
  | cons n t h => exact h
theorem cmp_lens {prog : Program} {w : World} {A : Around} {E : Value → Shared → Prop} {s : Shared} {Q : Value → Shared → Prop} {h₀ : Heap} {L a b : Addr} {vA : Array Value} {vs : List Value} {nA nB : Nat} {bs : List Int} {lens : List Nat} {rest : List (Addr × Obj)}
    (N : News h₀ L s.heap ((b, ({ cls := .type "list", data := .seq (slicePick vs.toArray none (some 0) (some (-1))) nB } : Obj)) :: (a, listOf vA nA) :: rest)) (hi : IntsAre vs (lens.map Int.ofNat)) (hl : lens.length = 5) (hj : IntsAre vA.toList bs)
    (e : bs = ((lens.map Int.ofNat).drop 1).reverse) (hu : A.units + 64 < cLine) (h : Q (.bool false) s) :
    wpAny (model prog w) A (compareOp .NotEq (.ref a) (.ref b)) Q E s := by
  have h1 : s.heap.IsList a vA.toList.toArray := ⟨_, (N _ (.tail _ List.mem_cons_self)).1, rfl, nA, rfl⟩
  have h2 : s.heap.IsList b (slicePick vs.toArray none (some 0) (some (-1))).toList.toArray := ⟨_, (N _ List.mem_cons_self).1, rfl, nB, rfl⟩
  refine ne_same_ints h1 h2 (e ▸ hj) ?_ hu h
  have hv : vs.length = 5 := by rw [hi.length, List.length_map, hl]
  rw [pick_rev5 hv]
  exact ints_rev (ints_tail hi)
end Mine

end -- B4

section -- P1
open PySem PySem.W PyProof.Rows
set_option maxRecDepth 100000
namespace Mine
def brE (s : List Nat) (i : Nat) : List Nat := (List.range i).filter (fun j => decide (s[j]? = s[i]?))
def brL (s : List Nat) (i : Nat) : Nat := (brE s i).getD ((brE s i).length - 1) 0
def brStep (s : List Nat) (st : List Nat × List Nat) (i : Nat) : List Nat × List Nat :=
  (if brE s i = [] then st.1 ++ [s.getD i 0] ++ st.1 else st.1 ++ st.1.drop ((st.2 ++ [st.1.length]).getD (brL s i) 0), st.2 ++ [st.1.length])
def byRule (s : List Nat) (k : Nat) : List Nat × List Nat := (List.range k).foldl (brStep s) ([], [])
theorem byRule_succ (s : List Nat) (k : Nat) : byRule s (k + 1) = brStep s (byRule s k) k := by
  unfold byRule; rw [List.range_succ, List.foldl_append]; rfl
theorem br_len2 (s : List Nat) : ∀ k, (byRule s k).2.length = k
  | 0 => rfl
  | k + 1 => by rw [byRule_succ]; simp [brStep, br_len2 s k]
theorem br_len1 (s : List Nat) : ∀ k, (byRule s k).1.length + 1 ≤ 2 ^ k
  | 0 => by simp [byRule]
  | k + 1 => by
    have h := br_len1 s k
    rw [byRule_succ]
    unfold brStep
    dsimp only
    rw [Nat.pow_succ]
    split
    · simp only [List.length_append, List.length_cons, List.length_nil]; omega
    · simp only [List.length_append, List.length_drop]; omega
theorem brE_lt {s : List Nat} {i j : Nat} (h : j ∈ brE s i) : j < i := by
  unfold brE at h
  exact List.mem_range.mp (List.mem_filter.mp h).1
theorem brL_lt {s : List Nat} {i : Nat} (h : brE s i ≠ []) : brL s i < i := by
  have h0 : 0 < (brE s i).length := List.length_pos_iff.mpr h
  have h1 : (brE s i).length - 1 < (brE s i).length := by omega
  unfold brL
  rw [List.getD_eq_getElem?_getD, List.getElem?_eq_getElem h1]
  exact brE_lt (List.getElem_mem h1)
theorem filt_fold (p : Int → Bool) : ∀ (l acc : List Int), l.foldl (fun l j => if p j = true then l ++ [j] else l) acc = acc ++ l.filter p
  | [], acc => by simp
  | a :: l, acc => by
    rw [List.foldl_cons, filt_fold p l]
    by_cases h : p a = true
    · simp [h]
    · simp [h]
def brG (s : List Nat) (i : Nat) (l : List Int) (j : Int) : List Int := if decide (s[j.toNat]? = s[i]?) = true then l ++ [j] else l
theorem brG_grows (s : List Nat) (i : Nat) : KPfGrows (brG s i) := by
  intro l k
  unfold brG
  split
  · simp
  · omega
theorem brG_fold (s : List Nat) (i n : Nat) (hn : n = i) : (rangeKs 0 n).foldl (brG s i) [] = (brE s i).map Int.ofNat := by
  subst hn
  unfold brG
  rw [filt_fold (fun j => decide (s[j.toNat]? = s[n]?))]
  unfold rangeKs brE
  rw [List.nil_append, List.filter_map]
  have e : (fun (j : Nat) => (0 : Int) + (j : Int)) = Int.ofNat := by funext j; simp
  rw [e]
  congr 1
theorem br_last {s : List Nat} {i : Nat} (h : brE s i ≠ []) : ((brE s i).map Int.ofNat).getD (((brE s i).map Int.ofNat).length - 1) 0 = (brL s i : Int) := by
  have h0 : 0 < (brE s i).length := List.length_pos_iff.mpr h
  have h1 : (brE s i).length - 1 < (brE s i).length := by omega
  unfold brL
  rw [List.length_map, List.getD_eq_getElem?_getD, List.getElem?_map, List.getD_eq_getElem?_getD, List.getElem?_eq_getElem h1]
  rfl
theorem map_getD (l : List Nat) (i : Nat) : (l.map Int.ofNat).getD i 0 = ((l.getD i 0 : Nat) : Int) := by
  rw [List.getD_eq_getElem?_getD, List.getElem?_map, List.getD_eq_getElem?_getD]
  cases l[i]? <;> rfl
theorem br_pos {s : List Nat} {i : Nat} (h : decide ((brE s i).map Int.ofNat = []) = false) : 0 < ((brE s i).map Int.ofNat).length := by
  refine List.length_pos_iff.mpr ?_
  simpa using h
theorem br_nil {s : List Nat} {i : Nat} (h : decide ((brE s i).map Int.ofNat = []) = true) : brE s i = [] := by simpa using h
theorem br_cons {s : List Nat} {i : Nat} (h : decide ((brE s i).map Int.ofNat = []) = false) : brE s i ≠ [] := by simpa using h
theorem brL_le (s : List Nat) (i : Nat) : brL s i < i + 1 := by
  by_cases h : brE s i = []
  · unfold brL; rw [h]; simp
  · exact Nat.lt_succ_of_lt (brL_lt h)
theorem br_last' (s : List Nat) (i : Nat) : ((brE s i).map Int.ofNat).getD (((brE s i).map Int.ofNat).length - 1) 0 = (brL s i : Int) := by
  by_cases h : brE s i = []
  · unfold brL; rw [h]; simp
  · exact br_last h
theorem brE_len (s : List Nat) (i : Nat) : ((brE s i).map Int.ofNat).length ≤ i := by
  rw [List.length_map]
  unfold brE
  exact Nat.le_trans (List.length_filter_le _ _) (by simp)
theorem brG_yes {x : Str} {i : Nat} {l : List Int} {k : Int} (hi : i < x.length) (h0 : 0 ≤ k) (h1 : k < x.length) (h : (Txt.item x k == Txt.item x (0 + (i : Int))) = true) : brG x.cps.toList i l k = l ++ [k] := by
  obtain ⟨j, rfl⟩ := Int.eq_ofNat_of_zero_le h0
  rw [Int.zero_add] at h
  have hn : (Txt.item x ((j : Nat) : Int) != Txt.item x ((i : Nat) : Int)) = false := by simp [bne, h]
  have := (item_ne (by omega) hi).mp hn
  unfold brG
  rw [if_pos]
  simpa using this
theorem brG_no {x : Str} {i : Nat} {l : List Int} {k : Int} (hi : i < x.length) (h0 : 0 ≤ k) (h1 : k < x.length) (h : (Txt.item x k == Txt.item x (0 + (i : Int))) = false) : brG x.cps.toList i l k = l := by
  obtain ⟨j, rfl⟩ := Int.eq_ofNat_of_zero_le h0
  rw [Int.zero_add] at h
  have hn : ¬ (Txt.item x ((j : Nat) : Int) != Txt.item x ((i : Nat) : Int)) = false := by simp [bne, h]
  have := fun q => hn ((item_ne (by omega) hi).mpr q)
  unfold brG
  rw [if_neg]
  simpa using this
theorem br_fr {a b u v c : Option Value} : (fun y : Str => if y = Str.ofString "row" then a else if y = Str.ofString "earlier" then b else (fun y : Str => if y = Str.ofString "earlier" then u else if y = Str.ofString "row" then v else if y = Str.ofString "lengths" then c else none) y) = fun y : Str => if y = Str.ofString "earlier" then b else if y = Str.ofString "row" then a else if y = Str.ofString "lengths" then c else none := by
  funext y
  by_cases h1 : y = Str.ofString "row"
  · have h2 : y ≠ Str.ofString "earlier" := by rw [h1]; decide +kernel
    simp only [h1, if_true]
    rw [if_neg (h1 ▸ h2)]
  · by_cases h2 : y = Str.ofString "earlier"
    · simp only [h1, h2, if_true, if_false]
      rw [if_neg (h2 ▸ h1)]
    · simp only [h1, h2, if_false]
theorem sub_lastL {prog : Program} {w : World} {A : Around} {E : Value → Shared → Prop} {s : Shared} {h₀ : Heap} {L D : Addr} {news : List (Addr × Obj)} {vs : List Value} {ns : List Int} {value slice : PySem.Expr} {Q : Value → Shared → Prop} {u : Tok} {k : Int} (N : News h₀ L s.heap news) (hm : (D, LCg.lst vs) ∈ news) (hi : IntsAre vs ns) (hk : ns.getD (ns.length - 1) 0 = k) (h0 : 0 < ns.length) (hfit : ns.length < 2 ^ 62) (h : ∀ t, Q (.int k t) s)
    (hs : subscripted slice false (.ref D) (.int (-1) u) = operate [.ref D, .int (-1) u] (getItem (.ref D) (.int (-1) u)) := by with_unfolding_all rfl) :
    wpAny (model prog w) A (subscriptTail value slice (.ref D) (.int (-1) u)) Q E s := sub_lastE (n := vs.length) N hm hi hk h0 hfit h hs
theorem ints_snoc {vs : List Value} {ts : List Nat} {k : Nat} (h : IntsAre vs (ts.map Int.ofNat)) (t : Tok) : IntsAre (vs ++ [Value.int (k : Int) t]) ((ts ++ [k]).map Int.ofNat) := by
  rw [List.map_append]
  exact IntsAre.append h (.cons _ _ .nil)
end Mine

end -- P1

section -- T3a
open PySem PySem.W PyProof.Rows PySem.Spec PySem.Calls
set_option maxRecDepth 100000
set_option maxHeartbeats 8000000
set_option pp.deepTerms false
set_option pp.deepTerms.threshold 8
set_option pp.proofs.threshold 2
namespace Mine
/-- walk until a loop -/
local macro_rules | `(tactic| k_steps) => `(tactic| repeat' (first | (k_unfold; (try dsimp only)) | (k_end; wrow_close) | ((fail_if_success (with_reducible show wpAny _ _ (exec (Stmt.For _ _ _ _ _) _) _ _ _)); (fail_if_success (with_reducible show wpAny _ _ (exec (Stmt.While _ _ _ _) _) _ _ _)); (fail_if_success (with_reducible show wpAny _ _ (call (Value.type "enumerate") _) _ _ _)); (fail_if_success (with_reducible show wpAny _ _ (pyIter _) _ _ _)); first | walk1 | (dsimp only; walk1) | (leave1; walk_say "STEP leave1"; try dsimp only)) | fail "no step"))
local macro_rules | `(tactic| k_mem) => `(tactic| first | exact List.mem_cons_self | with_reducible assumption | (refine List.mem_cons_of_mem _ ?_; k_mem))
local macro_rules | `(tactic| walk_at "TjPost") => `(tactic| (dsimp only [TjPost]))
local macro_rules | `(tactic| walk_at "call builtin:list.append") => `(tactic| (k_here; (with_reducible show wpAny _ _ (call (Value.builtin _) [Value.ref _, _]) _ _ _); refine append_hd (by k_asm) (by k_asm) (by assumption) (by omega) ?_; intro h' F' N'))
local macro_rules | `(tactic| k_room) => `(tactic| ktr_room)

def pick (idx mode : Int) : List (Int × Str) → Str
  | [] => if idx = 0 then Str.ofString "?" else Str.ofString "-"
  | (b, c) :: r => if (if idx = 0 then Builtin.bitAnd mode 61440 = b else Builtin.bitAnd mode b = b) then c else pick idx mode r
def ftab : Nat → List (Int × Str)
  | 0 => [(40960, Str.ofString "l"), (49152, Str.ofString "s"), (32768, Str.ofString "-"), (24576, Str.ofString "b"), (16384, Str.ofString "d"), (8192, Str.ofString "c"), (4096, Str.ofString "p")]
  | 1 => [(256, Str.ofString "r")]
  | 2 => [(128, Str.ofString "w")]
  | 3 => [(2112, Str.ofString "s"), (2048, Str.ofString "S"), (64, Str.ofString "x")]
  | 4 => [(32, Str.ofString "r")]
  | 5 => [(16, Str.ofString "w")]
  | 6 => [(1032, Str.ofString "s"), (1024, Str.ofString "S"), (8, Str.ofString "x")]
  | 7 => [(4, Str.ofString "r")]
  | 8 => [(2, Str.ofString "w")]
  | _ => [(513, Str.ofString "t"), (512, Str.ofString "T"), (1, Str.ofString "x")]
def fmSign (mode : Int) (i : Nat) : Str := pick (i : Int) mode (ftab i)
def fmSigns (mode : Int) (i : Nat) : List Str := (List.range i).map (fmSign mode)
def fmStored : List Str := [Str.ofString "index", Str.ofString "table", Str.ofString "bit", Str.ofString "char"]
def FmRow (g : Heap) (i : Nat) (x : Value) : Prop := ∃ (a : Addr) (its : Array Value), x = Value.ref a ∧ g.IsTuple a its ∧ its.size = (ftab i).length ∧
  ∀ (k : Nat) (v : Value), its[k]? = some v → ∃ b bt ch ct q, v = Value.ref q ∧ g.IsTuple q #[.int b bt, .str ch ct] ∧ (ftab i)[k]? = some (b, ch)
def fmItems : Array Value := #[Value.ref 36, Value.ref 38, Value.ref 40, Value.ref 44, Value.ref 46, Value.ref 48, Value.ref 52, Value.ref 54, Value.ref 56, Value.ref 60]
theorem fm_rows {w : World} {g : Heap} (hrow : PySem.Challenge.rw_tv0022_02.prog = PySem.Challenge.rw_tv0022_02.prog) (X : (hd2.heap_39 w.params).In g) {i : Nat} {x : Value} (hx : fmItems[i]? = some x) : FmRow g i x := by
  revert hrow X
  k_fill
  intro hrow X
  have hin : i < 10 := by
    rcases Array.getElem?_eq_some_iff.mp hx with ⟨q, _⟩
    exact q
  have hex : x = fmItems.getD i .none := by
    rw [Array.getD_eq_getD_getElem?, hx]; rfl
  clear hx
  subst hex
  have hc : i = 0 ∨ i = 1 ∨ i = 2 ∨ i = 3 ∨ i = 4 ∨ i = 5 ∨ i = 6 ∨ i = 7 ∨ i = 8 ∨ i = 9 := by omega
  rcases hc with rfl | rfl | rfl | rfl | rfl | rfl | rfl | rfl | rfl | rfl
  · have ho := X 36 _ (by k_is)
    have h29 := X 29 _ (by k_is)
    have h30 := X 30 _ (by k_is)
    have h31 := X 31 _ (by k_is)
    have h32 := X 32 _ (by k_is)
    have h33 := X 33 _ (by k_is)
    have h34 := X 34 _ (by k_is)
    have h35 := X 35 _ (by k_is)
    refine ⟨_, _, rfl, ⟨_, ho, rfl, _, rfl⟩, rfl, fun k v hv => ?_⟩
    have hk : k < 7 := (Array.getElem?_eq_some_iff.mp hv).1
    have hc : k = 0 ∨ k = 1 ∨ k = 2 ∨ k = 3 ∨ k = 4 ∨ k = 5 ∨ k = 6 := by omega
    rcases hc with rfl | rfl | rfl | rfl | rfl | rfl | rfl
    · obtain rfl := Option.some.inj hv
      exact ⟨_, _, _, _, _, rfl, ⟨_, h29, rfl, _, rfl⟩, rfl⟩
    · obtain rfl := Option.some.inj hv
      exact ⟨_, _, _, _, _, rfl, ⟨_, h30, rfl, _, rfl⟩, rfl⟩
    · obtain rfl := Option.some.inj hv
      exact ⟨_, _, _, _, _, rfl, ⟨_, h31, rfl, _, rfl⟩, rfl⟩
    · obtain rfl := Option.some.inj hv
      exact ⟨_, _, _, _, _, rfl, ⟨_, h32, rfl, _, rfl⟩, rfl⟩
    · obtain rfl := Option.some.inj hv
      exact ⟨_, _, _, _, _, rfl, ⟨_, h33, rfl, _, rfl⟩, rfl⟩
    · obtain rfl := Option.some.inj hv
      exact ⟨_, _, _, _, _, rfl, ⟨_, h34, rfl, _, rfl⟩, rfl⟩
    · obtain rfl := Option.some.inj hv
      exact ⟨_, _, _, _, _, rfl, ⟨_, h35, rfl, _, rfl⟩, rfl⟩
  · have ho := X 38 _ (by k_is)
    have h37 := X 37 _ (by k_is)
    refine ⟨_, _, rfl, ⟨_, ho, rfl, _, rfl⟩, rfl, fun k v hv => ?_⟩
    have hk : k < 1 := (Array.getElem?_eq_some_iff.mp hv).1
    obtain rfl : k = 0 := by omega
    obtain rfl := Option.some.inj hv
    exact ⟨_, _, _, _, _, rfl, ⟨_, h37, rfl, _, rfl⟩, rfl⟩
  · have ho := X 40 _ (by k_is)
    have h39 := X 39 _ (by k_is)
    refine ⟨_, _, rfl, ⟨_, ho, rfl, _, rfl⟩, rfl, fun k v hv => ?_⟩
    have hk : k < 1 := (Array.getElem?_eq_some_iff.mp hv).1
    obtain rfl : k = 0 := by omega
    obtain rfl := Option.some.inj hv
    exact ⟨_, _, _, _, _, rfl, ⟨_, h39, rfl, _, rfl⟩, rfl⟩
  · have ho := X 44 _ (by k_is)
    have h41 := X 41 _ (by k_is)
    have h42 := X 42 _ (by k_is)
    have h43 := X 43 _ (by k_is)
    refine ⟨_, _, rfl, ⟨_, ho, rfl, _, rfl⟩, rfl, fun k v hv => ?_⟩
    have hk : k < 3 := (Array.getElem?_eq_some_iff.mp hv).1
    have hc : k = 0 ∨ k = 1 ∨ k = 2 := by omega
    rcases hc with rfl | rfl | rfl
    · obtain rfl := Option.some.inj hv
      exact ⟨_, _, _, _, _, rfl, ⟨_, h41, rfl, _, rfl⟩, rfl⟩
    · obtain rfl := Option.some.inj hv
      exact ⟨_, _, _, _, _, rfl, ⟨_, h42, rfl, _, rfl⟩, rfl⟩
    · obtain rfl := Option.some.inj hv
      exact ⟨_, _, _, _, _, rfl, ⟨_, h43, rfl, _, rfl⟩, rfl⟩
  · have ho := X 46 _ (by k_is)
    have h45 := X 45 _ (by k_is)
    refine ⟨_, _, rfl, ⟨_, ho, rfl, _, rfl⟩, rfl, fun k v hv => ?_⟩
    have hk : k < 1 := (Array.getElem?_eq_some_iff.mp hv).1
    obtain rfl : k = 0 := by omega
    obtain rfl := Option.some.inj hv
    exact ⟨_, _, _, _, _, rfl, ⟨_, h45, rfl, _, rfl⟩, rfl⟩
  · have ho := X 48 _ (by k_is)
    have h47 := X 47 _ (by k_is)
    refine ⟨_, _, rfl, ⟨_, ho, rfl, _, rfl⟩, rfl, fun k v hv => ?_⟩
    have hk : k < 1 := (Array.getElem?_eq_some_iff.mp hv).1
    obtain rfl : k = 0 := by omega
    obtain rfl := Option.some.inj hv
    exact ⟨_, _, _, _, _, rfl, ⟨_, h47, rfl, _, rfl⟩, rfl⟩
  · have ho := X 52 _ (by k_is)
    have h49 := X 49 _ (by k_is)
    have h50 := X 50 _ (by k_is)
    have h51 := X 51 _ (by k_is)
    refine ⟨_, _, rfl, ⟨_, ho, rfl, _, rfl⟩, rfl, fun k v hv => ?_⟩
    have hk : k < 3 := (Array.getElem?_eq_some_iff.mp hv).1
    have hc : k = 0 ∨ k = 1 ∨ k = 2 := by omega
    rcases hc with rfl | rfl | rfl
    · obtain rfl := Option.some.inj hv
      exact ⟨_, _, _, _, _, rfl, ⟨_, h49, rfl, _, rfl⟩, rfl⟩
    · obtain rfl := Option.some.inj hv
      exact ⟨_, _, _, _, _, rfl, ⟨_, h50, rfl, _, rfl⟩, rfl⟩
    · obtain rfl := Option.some.inj hv
      exact ⟨_, _, _, _, _, rfl, ⟨_, h51, rfl, _, rfl⟩, rfl⟩
  · have ho := X 54 _ (by k_is)
    have h53 := X 53 _ (by k_is)
    refine ⟨_, _, rfl, ⟨_, ho, rfl, _, rfl⟩, rfl, fun k v hv => ?_⟩
    have hk : k < 1 := (Array.getElem?_eq_some_iff.mp hv).1
    obtain rfl : k = 0 := by omega
    obtain rfl := Option.some.inj hv
    exact ⟨_, _, _, _, _, rfl, ⟨_, h53, rfl, _, rfl⟩, rfl⟩
  · have ho := X 56 _ (by k_is)
    have h55 := X 55 _ (by k_is)
    refine ⟨_, _, rfl, ⟨_, ho, rfl, _, rfl⟩, rfl, fun k v hv => ?_⟩
    have hk : k < 1 := (Array.getElem?_eq_some_iff.mp hv).1
    obtain rfl : k = 0 := by omega
    obtain rfl := Option.some.inj hv
    exact ⟨_, _, _, _, _, rfl, ⟨_, h55, rfl, _, rfl⟩, rfl⟩
  · have ho := X 60 _ (by k_is)
    have h57 := X 57 _ (by k_is)
    have h58 := X 58 _ (by k_is)
    have h59 := X 59 _ (by k_is)
    refine ⟨_, _, rfl, ⟨_, ho, rfl, _, rfl⟩, rfl, fun k v hv => ?_⟩
    have hk : k < 3 := (Array.getElem?_eq_some_iff.mp hv).1
    have hc : k = 0 ∨ k = 1 ∨ k = 2 := by omega
    rcases hc with rfl | rfl | rfl
    · obtain rfl := Option.some.inj hv
      exact ⟨_, _, _, _, _, rfl, ⟨_, h57, rfl, _, rfl⟩, rfl⟩
    · obtain rfl := Option.some.inj hv
      exact ⟨_, _, _, _, _, rfl, ⟨_, h58, rfl, _, rfl⟩, rfl⟩
    · obtain rfl := Option.some.inj hv
      exact ⟨_, _, _, _, _, rfl, ⟨_, h59, rfl, _, rfl⟩, rfl⟩
theorem stored_eq {st : List Str} {m' base : Str → Option Value} (h : ∀ y, st.contains y = false → m' y = base y) : m' = fun y => if st.contains y then m' y else base y := by
  funext y
  cases e : st.contains y with
  | true => simp
  | false => simp only [Bool.false_eq_true, if_false]; exact h y e

theorem pick_hit {idx mode b : Int} {c : Str} {r : List (Int × Str)} (h : if idx = 0 then Builtin.bitAnd mode 61440 = b else Builtin.bitAnd mode b = b) : pick idx mode ((b, c) :: r) = c := by
  unfold pick; rw [if_pos h]
theorem pick_miss {idx mode b : Int} {c : Str} {r : List (Int × Str)} (h : ¬ if idx = 0 then Builtin.bitAnd mode 61440 = b else Builtin.bitAnd mode b = b) : pick idx mode ((b, c) :: r) = pick idx mode r := by
  conv => lhs; unfold pick
  rw [if_neg h]
theorem fmSigns_succ {mode : Int} {i : Nat} : fmSigns mode (i + 1) = fmSigns mode i ++ [fmSign mode i] := by
  unfold fmSigns; rw [List.range_succ, List.map_append]; rfl
theorem strs_push {vs : Array Value} {ys : List Str} {x : Str} {t : Tok} (h : StrsAre vs.toList ys) : StrsAre (vs.push (.str x t)).toList (ys ++ [x]) := by
  rw [Array.toList_push]
  have key : ∀ {vs : List Value} {ys : List Str}, StrsAre vs ys → StrsAre (vs ++ [.str x t]) (ys ++ [x]) := by
    intro vs ys h
    induction h with
    | nil => exact .cons _ _ .nil
    | cons i t _ ih => exact .cons _ _ ih
  exact key h
theorem strs_len : ∀ {vs : List Value} {ys : List Str}, StrsAre vs ys → vs.length = ys.length
  | _, _, .nil => rfl
  | _, _, .cons _ _ h => congrArg (· + 1) (strs_len h)

theorem foldl_cps : ∀ (ys : List Str) (acc : Array Nat), (ys.foldl (fun acc p => acc ++ (Str.ofString "").cps ++ p.cps) acc).toList = acc.toList ++ (ys.map (fun y => y.cps.toList)).flatten
  | [], acc => by simp
  | y :: r, acc => by
    rw [List.foldl_cons, foldl_cps r]
    have e : (Str.ofString "").cps = #[] := by decide +kernel
    rw [e]
    simp
theorem join_cps (ys : List Str) : (Txt.join (Str.ofString "") ys).cps.toList = (ys.map (fun y => y.cps.toList)).flatten := by
  show (Builtin.Str.glued (Str.ofString "") ys).cps.toList = _
  unfold Builtin.Str.glued
  rw [foldl_cps]
  cases ys with
  | nil => rfl
  | cons y r => simp
theorem pick_one {idx mode : Int} : ∀ {l : List (Int × Str)}, (∀ p ∈ l, p.2.cps.size = 1) → (pick idx mode l).cps.size = 1
  | [], _ => by unfold pick; split <;> decide +kernel
  | (b, c) :: r, h => by
    by_cases hc : (if idx = 0 then Builtin.bitAnd mode 61440 = b else Builtin.bitAnd mode b = b)
    · rw [pick_hit hc]; exact h _ (.head _)
    · rw [pick_miss hc]; exact pick_one fun p hp => h p (.tail _ hp)
theorem ftab_one : ∀ i, ∀ p ∈ ftab i, p.2.cps.size = 1
  | 0 => by decide +kernel
  | 1 => by decide +kernel
  | 2 => by decide +kernel
  | 3 => by decide +kernel
  | 4 => by decide +kernel
  | 5 => by decide +kernel
  | 6 => by decide +kernel
  | 7 => by decide +kernel
  | 8 => by decide +kernel
  | n + 9 => by show ∀ p ∈ [(513, Str.ofString "t"), (512, Str.ofString "T"), (1, Str.ofString "x")], (p : Int × Str).2.cps.size = 1; decide +kernel
theorem fmSign_one (mode : Int) (i : Nat) : (fmSign mode i).cps.size = 1 := pick_one (ftab_one i)
def fmCode (mode : Int) (i : Nat) : Nat := (fmSign mode i).cps.getD 0 0
def fmCodes (mode : Int) : List Nat := (List.range 10).map (fmCode mode)
theorem one_list {a : Array Nat} (h : a.size = 1) : a.toList = [a.getD 0 0] := by
  obtain ⟨l⟩ := a
  cases l with
  | nil => simp at h
  | cons x r =>
    cases r with
    | nil => rfl
    | cons y q => simp at h
theorem fm_flat (mode : Int) (n : Nat) : ((fmSigns mode n).map (fun y => y.cps.toList)).flatten = (List.range n).map (fmCode mode) := by
  unfold fmSigns
  rw [List.map_map]
  induction (List.range n) with
  | nil => rfl
  | cons i r ih =>
    rw [List.map_cons, List.flatten_cons, ih, List.map_cons]
    show (fmSign mode i).cps.toList ++ _ = _
    rw [one_list (fmSign_one mode i)]
    rfl
theorem fm_weight (mode : Int) (n : Nat) : ((fmSigns mode n).map (·.length)).sum = n := by
  unfold fmSigns
  rw [List.map_map]
  have : ∀ l : List Nat, (l.map ((·.length) ∘ fmSign mode)).sum = l.length := by
    intro l
    induction l with
    | nil => rfl
    | cons i r ih =>
      rw [List.map_cons, List.sum_cons, ih, List.length_cons]
      show (fmSign mode i).cps.size + _ = _
      rw [fmSign_one]; omega
  rw [this, List.length_range]
end Mine

end -- T3a

section -- P2
open PySem PySem.W PyProof.Rows
set_option maxRecDepth 100000
namespace Mine
def bdsGo (w : List Nat) : List Nat → List Nat
  | [] => []
  | a :: s => if (a :: s).isPrefixOf w then (s.length + 1) :: bdsGo w s else bdsGo w s
def bdsF (w : List Nat) : List Nat := bdsGo w w.tail
theorem bd_pre {p s w : List Nat} (hw : w = p ++ s) (hp : 0 < p.length) : Bd w w.length s.length ↔ s.isPrefixOf w = true := by
  rw [List.isPrefixOf_iff_prefix, List.prefix_iff_getElem?]
  have hl : w.length = p.length + s.length := by rw [hw, List.length_append]
  have key : ∀ j, w[w.length - s.length + j]? = s[j]? := by
    intro j
    have e : w.length - s.length + j = p.length + j := by omega
    rw [e, hw, List.getElem?_append_right (by omega)]
    congr 1
    omega
  constructor
  · intro h i hi
    have := h.2 i hi
    rw [key] at this
    rw [← this, List.getElem?_eq_getElem hi]
  · intro h
    refine ⟨by omega, fun j hj => ?_⟩
    rw [key, List.getElem?_eq_getElem hj, h j hj]
theorem bds_go (w : List Nat) : ∀ (s p : List Nat), w = p ++ s → 0 < p.length → bds w w.length (s.length + 1) = bdsGo w s
  | [], p, hw, hp => by
    rw [List.length_nil, bds_neg (by omega)]
    rfl
  | a :: s, p, hw, hp => by
    have ih := bds_go w s (p ++ [a]) (by rw [hw]; simp) (by simp)
    unfold bdsGo
    by_cases h : Bd w w.length (a :: s).length
    · rw [bds_pos ⟨by simp, h⟩, if_pos ((bd_pre hw hp).mp h), List.length_cons, ih]
    · rw [bds_neg (fun q => h q.2), if_neg (fun q => h ((bd_pre hw hp).mpr q)), List.length_cons, ih]
theorem bds_eq (w : List Nat) : bds w w.length w.length = bdsF w := by
  cases w with
  | nil => rfl
  | cons a s => exact bds_go (a :: s) s [a] rfl (by simp)
def growF (row : List Nat) (c : Nat) : List Nat :=
  (row ++ [c]) ++ (row ++ [c]).reverse.drop ((bdsF ((row ++ [c]).reverse ++ [32] ++ (row ++ [c]))).headD 0)
theorem growF_eq (row : List Nat) (c : Nat) : growStep row c = growF row c := by
  unfold growStep growF lbF
  rw [bds_eq]
def okHalf (h : List Nat) : Bool :=
  decide (h.foldl growF [] = (byRule h h.length).1) && decide (bdsF (h.foldl growF []) = ((byRule h h.length).2.drop 1).reverse)
theorem okHalf_tells {h : List Nat} (q : okHalf h = true) : grown h = (byRule h h.length).1 ∧ bds (grown h) (grown h).length (grown h).length = ((byRule h h.length).2.drop 1).reverse := by
  have e : grown h = h.foldl growF [] := by
    unfold grown
    congr 1
    funext r c
    exact growF_eq r c
  unfold okHalf at q
  rw [Bool.and_eq_true, decide_eq_true_eq, decide_eq_true_eq] at q
  rw [bds_eq, e]
  exact q
def prod5 (a b c d e : List Nat) : List (List Nat) := a.flatMap fun x => b.flatMap fun y => c.flatMap fun z => d.flatMap fun u => e.map fun v => [x, y, z, u, v]
theorem prod5_mem {a b c d e : List Nat} {x y z u v : Nat} (h1 : x ∈ a) (h2 : y ∈ b) (h3 : z ∈ c) (h4 : u ∈ d) (h5 : v ∈ e) : [x, y, z, u, v] ∈ prod5 a b c d e :=
  List.mem_flatMap.mpr ⟨x, h1, List.mem_flatMap.mpr ⟨y, h2, List.mem_flatMap.mpr ⟨z, h3, List.mem_flatMap.mpr ⟨u, h4, List.mem_map.mpr ⟨v, h5, rfl⟩⟩⟩⟩⟩
theorem okA0 : (prod5 [108, 115] [114, 45] [119, 45] [115, 83, 120, 45] [114, 45]).all okHalf = true := by decide +kernel
theorem okA1 : (prod5 [45, 98] [114, 45] [119, 45] [115, 83, 120, 45] [114, 45]).all okHalf = true := by decide +kernel
theorem okA2 : (prod5 [100, 99] [114, 45] [119, 45] [115, 83, 120, 45] [114, 45]).all okHalf = true := by decide +kernel
theorem okA3 : (prod5 [112, 63] [114, 45] [119, 45] [115, 83, 120, 45] [114, 45]).all okHalf = true := by decide +kernel
theorem okB0 : (prod5 [119, 45] [115, 83] [114, 45] [119, 45] [116, 84, 120, 45]).all okHalf = true := by decide +kernel
theorem okB1 : (prod5 [119, 45] [120, 45] [114, 45] [119, 45] [116, 84, 120, 45]).all okHalf = true := by decide +kernel
theorem pick_in {idx mode : Int} : ∀ {l : List (Int × Str)} {b : List Nat}, (∀ p ∈ l, p.2.cps.getD 0 0 ∈ b) → (if idx = 0 then (Str.ofString "?").cps.getD 0 0 ∈ b else (Str.ofString "-").cps.getD 0 0 ∈ b) → (pick idx mode l).cps.getD 0 0 ∈ b
  | [], b, _, h => by
    unfold pick
    split <;> simp_all
  | (c, y) :: l, b, h, h0 => by
    by_cases hc : (if idx = 0 then Builtin.bitAnd mode 61440 = c else Builtin.bitAnd mode c = c)
    · rw [pick_hit hc]; exact h _ List.mem_cons_self
    · rw [pick_miss hc]; exact pick_in (fun q hq => h q (.tail _ hq)) h0
theorem mem_all {l : List (Int × Str)} {b : List Nat} (h : l.all (fun p => decide (p.2.cps.getD 0 0 ∈ b)) = true) : ∀ p ∈ l, p.2.cps.getD 0 0 ∈ b := fun p hp => by
  have := List.all_eq_true.mp h p hp
  simpa using this
theorem half1 (mode : Int) : okHalf [fmCode mode 0, fmCode mode 1, fmCode mode 2, fmCode mode 3, fmCode mode 4] = true := by
  have h0 : fmCode mode 0 ∈ [108, 115] ++ [45, 98] ++ [100, 99] ++ [112, 63] := pick_in (mem_all (by decide +kernel)) (by decide +kernel)
  have h1 : fmCode mode 1 ∈ [114, 45] := pick_in (mem_all (by decide +kernel)) (by decide +kernel)
  have h2 : fmCode mode 2 ∈ [119, 45] := pick_in (mem_all (by decide +kernel)) (by decide +kernel)
  have h3 : fmCode mode 3 ∈ [115, 83, 120, 45] := pick_in (mem_all (by decide +kernel)) (by decide +kernel)
  have h4 : fmCode mode 4 ∈ [114, 45] := pick_in (mem_all (by decide +kernel)) (by decide +kernel)
  rcases List.mem_append.mp h0 with h0 | h0
  · rcases List.mem_append.mp h0 with h0 | h0
    · rcases List.mem_append.mp h0 with h0 | h0
      · exact List.all_eq_true.mp okA0 _ (prod5_mem h0 h1 h2 h3 h4)
      · exact List.all_eq_true.mp okA1 _ (prod5_mem h0 h1 h2 h3 h4)
    · exact List.all_eq_true.mp okA2 _ (prod5_mem h0 h1 h2 h3 h4)
  · exact List.all_eq_true.mp okA3 _ (prod5_mem h0 h1 h2 h3 h4)
theorem half2 (mode : Int) : okHalf [fmCode mode 5, fmCode mode 6, fmCode mode 7, fmCode mode 8, fmCode mode 9] = true := by
  have h0 : fmCode mode 5 ∈ [119, 45] := pick_in (mem_all (by decide +kernel)) (by decide +kernel)
  have h1 : fmCode mode 6 ∈ [115, 83] ++ [120, 45] := pick_in (mem_all (by decide +kernel)) (by decide +kernel)
  have h2 : fmCode mode 7 ∈ [114, 45] := pick_in (mem_all (by decide +kernel)) (by decide +kernel)
  have h3 : fmCode mode 8 ∈ [119, 45] := pick_in (mem_all (by decide +kernel)) (by decide +kernel)
  have h4 : fmCode mode 9 ∈ [116, 84, 120, 45] := pick_in (mem_all (by decide +kernel)) (by decide +kernel)
  rcases List.mem_append.mp h1 with h1 | h1
  · exact List.all_eq_true.mp okB0 _ (prod5_mem h0 h1 h2 h3 h4)
  · exact List.all_eq_true.mp okB1 _ (prod5_mem h0 h1 h2 h3 h4)
theorem halves (mode : Int) (c : Nat) (hc : c = 0 ∨ c = 5) : okHalf (((fmCodes mode).drop c).take 5) = true := by
  rcases hc with rfl | rfl
  · exact half1 mode
  · exact half2 mode
end Mine

end -- P2

section -- T1
open PySem PySem.W PyProof.Rows PySem.Spec PySem.Calls
set_option maxRecDepth 100000
set_option maxHeartbeats 8000000
set_option pp.deepTerms false
set_option pp.deepTerms.threshold 8
set_option pp.proofs.threshold 2
namespace Mine
/-- walk until a loop -/
local macro_rules | `(tactic| k_steps) => `(tactic| repeat' (first | (k_unfold; (try dsimp only)) | (k_end; wrow_close) | ((fail_if_success (with_reducible show wpAny _ _ (exec (Stmt.For _ _ _ _ _) _) _ _ _)); (fail_if_success (with_reducible show wpAny _ _ (exec (Stmt.While _ _ _ _) _) _ _ _)); (fail_if_success (with_reducible show wpAny _ _ (pyIter _) _ _ _)); first | walk1 | (dsimp only; walk1) | (leave1; walk_say "STEP leave1"; try dsimp only)) | fail "no step"))

local macro_rules | `(tactic| walk_at "setItem ref int") => `(tactic| (k_here; (with_reducible show wpAny _ _ (setItem (Value.ref _) (Value.int _ _) (Value.int _ _)) _ _ _); refine set_hd (by k_asm) (by k_asm) (by assumption) (by assumption) (by omega) (by omega) (by omega) ?_; intro h' F' N' hi'))

local macro_rules | `(tactic| walk_at "WiPost") => `(tactic| (dsimp only [WiPost]))
local macro_rules | `(tactic| walk_at "RlPost") => `(tactic| (dsimp only [RlPost]))

theorem rep_flat {α : Type} (n : Nat) (a : α) : (List.replicate n [a]).flatten = List.replicate n a := by
  induction n with
  | zero => rfl
  | succ n ih => rw [List.replicate_succ, List.flatten_cons, ih, List.replicate_succ]; rfl

theorem ne_rest {l D : Addr} {news own : List (Addr × Obj)} {o : Obj} (lD : l < D ∧ AllLt D news) (hoff : OwnOff own (D :: ((l, o) :: news).map (·.1))) : ∀ p ∈ (l, o) :: (news ++ own), p.1 ≠ D := by
  intro p hp
  rcases List.mem_cons.mp hp with rfl | hp
  · exact Nat.ne_of_lt lD.1
  · rcases List.mem_append.mp hp with hp | hp
    · exact Nat.ne_of_lt (kst_ltOf lD.2 p hp)
    · exact hoff p hp D (.head _)
def TabOut (ws : List Nat) (r : Value) (tl : List (Addr × Obj)) : Prop := ∃ a vs n ts, r = .ref a ∧ tl = [(a, listOf vs.toArray n)] ∧ IntsAre vs ts ∧ IsTab ws ts
theorem TabTo.whole {α : Type} {w : List α} {ts : List Int} {n : Nat} (h : TabTo w n ts) (hn : w.length ≤ n) : IsTab w ts := ⟨h.1, fun i hi => h.2 i (by omega)⟩
theorem tab_str (w : World) (loose : List Str) (mean : ExcName → Option Value) (mg mb : Str → Option Value) (x : Str) (t : Tok) (hx : x.length ≤ 1000) (news : List (Addr × Obj)) :
    Cn PySem.Challenge.rw_tv0022_02.row.prog w (hd2.heap_39 w.params) hd2.view_39 loose mean mg mb 21 5 [.str x t] news
      (TabOut x.cps.toList) := by
  k_fill
  w_top off
  intro dp un gd cn cs a ccd cl outer A₀ base h₀ L m s Q E B F X N T hk hd hu hret
  refine wpAny_call ?_
  k_dflt ktr_enter
  k_steps
  rename Fr _ _ _ _ => F1
  rename News _ _ _ _ => N1
  rename IntsAre _ _ => hi
  rename _ ∧ AllLt _ _ => lD
  simp only [rep_flat] at hi N1
  have hn : (x.length : Int).toNat = x.cps.toList.length := by simp [Str.length]
  rw [hn] at hi N1
  generalize hvs : List.replicate x.cps.toList.length (Value.int 0 _) = vs0 at hi N1
  refine For_invVF F1 (by rfl) (by rfl) ?_
  k_steps
  (try clear F1); (try clear N1)
  rename Fr _ _ _ _ => F1
  rename News _ _ _ _ => N1
  rename IsRange _ _ _ _ _ _ _ _ => R1
  rename IntsAre _ _ => hi
  have hxl : x.cps.toList.length = x.length := by simp [Str.length]
  refine range_L (n := x.cps.toList.length - 1) [Str.ofString "idx"] (fun i ts => ts.length = x.cps.toList.length ∧ (TabTo x.cps.toList (i + 1) ts ∨ x.cps.toList = [])) (by rfl) R1 ?_ ?_ F1 N1 hi ⟨List.length_replicate, TabTo.start _⟩ ?_ ?_
  · exact small_one (by omega) (by omega) (by omega) (by omega)
  · rw [rangeSize_nat]
    omega
  · intro i vs ts t1 u h tk own hin hP hi1 hoff F2 N2
    have hP := hP.2.resolve_right (by intro e; rw [e] at hin; simp at hin)
    have hlen := hP.1
    have hlen2 := hi1.length
    simp only [List.cons_append] at N2
    have hne : ∀ p ∈ (_, _) :: (news ++ own), p.1 ≠ _ := ne_rest lD hoff
    k_steps
    rename Fr _ _ _ _ => F3
    rename News _ _ _ _ => N3
    obtain ⟨k1, hk1, hk2⟩ := hP.at (j := i) (by omega)
    have ei : (1 + (i : Int) - 1).toNat = i := by omega
    rw [ei, hk1] at F3
    refine while_I (fun k => ∃ n : Nat, k = (n : Int) ∧ Bd x.cps.toList (i + 1) n ∧ ∀ b, Bd x.cps.toList (i + 1) b → x.cps.toList[i + 1]? = x.cps.toList[b]? → b ≤ n) F3 N3 ⟨k1, rfl, lb_start hk2⟩ ?_
    rintro k tk2 h2 tk3 ⟨n, rfl, hb1, hb2⟩ F4 N4
    have hnlt := hb1.1
    have hil : i + 1 < x.cps.toList.length := by omega
    have hset : ∀ v : Nat, LB x.cps.toList (i + 1 + 1) v → ∀ y : Int, y = (v : Int) → (ts.set (1 + (i : Int)).toNat y).length = x.cps.toList.length ∧ (TabTo x.cps.toList (i + 1 + 1) (ts.set (1 + (i : Int)).toNat y) ∨ x.cps.toList = []) := fun v hv y hy => by
      have e1 : (1 + (i : Int)).toNat = i + 1 := by omega
      rw [e1, hy]
      exact ⟨by rw [List.length_set]; exact hlen, .inl (hP.set hil hv)⟩
    have hne1 : (1 + (i : Int)) = ((i + 1 : Nat) : Int) := by omega
    k_steps
    · rename (_ != _) = true => hd1
      rename _ = 0 => hd2
      refine RlEnd.intro (by k_asm) (by k_asm) (by intro p hp; simpa using hp) (by k_asm) (hset 0 (lb_zero ?_ ?_) _ rfl) (by intro z h1 h2; (simp only [List.contains_cons, List.contains_nil, Bool.or_false, beq_eq_false_iff_ne, ne_eq] at h2); simp [h1, h2])
      · have : n = 0 := by omega
        subst this
        exact ⟨hb1, hb2⟩
      · have : n = 0 := by omega
        subst this
        rw [hne1] at hd1
        intro e
        have := (item_ne (x := x) (by omega) (by omega)).mpr e
        rw [this] at hd1
        cases hd1
    · rename (_ != _) = true => hd1
      rename _ ≠ 0 => hd2
      obtain ⟨k', hk', hL'⟩ := hP.at (j := n - 1) (by omega)
      have e1 : ((n : Int) - 1).toNat = n - 1 := by omega
      have e2 : n - 1 + 1 = n := by omega
      rw [e2] at hL'
      have hlt' := hL'.1.1
      rw [hne1] at hd1
      refine WiEnd.intro (k' := (k' : Int)) (by k_asm) (by k_asm) (by intro p hp; exact hp) (by show some (Value.int (ts.getD ((n : Int) - 1).toNat 0) _) = _; rw [e1, hk']) (by intro z h1; simp [h1]) ⟨k', rfl, lb_fall ⟨hb1, hb2⟩ ?_ hL'⟩ (by omega)
      intro e
      have := (item_ne (x := x) (by omega) (by omega)).mpr e
      rw [this] at hd1
      cases hd1
    · rename (_ != _) = false => hd1
      rw [hne1] at hd1
      refine RlEnd.intro (by k_asm) (by k_asm) (by intro p hp; simpa using hp) (by k_asm) (hset (n + 1) (lb_hit ⟨hb1, hb2⟩ ?_) _ (by omega)) (by intro z h1 h2; (simp only [List.contains_cons, List.contains_nil, Bool.or_false, beq_eq_false_iff_ne, ne_eq] at h2); simp [h1, h2])
      exact (item_ne (x := x) (by omega) (by omega)).mp hd1
  · intro vs ts u h tk hP hi1 F2 N2
    k_steps
    rename News _ _ _ _ => N3
    refine hret _ _ _ _ (by k_asm) (news_cut N3) (ord_one lD.2) ⟨_, _, _, _, rfl, rfl, hi1, ?_⟩
    · rcases hP.2 with hP2 | hP2
      · exact hP2.whole (by omega)
      · exact ⟨hP.1, fun i hi => by rw [hP2] at hi; exact absurd hi (Nat.not_lt_zero _)⟩
end Mine

end -- T1

section -- T2
open PySem PySem.W PyProof.Rows PySem.Spec PySem.Calls
set_option maxRecDepth 100000
set_option maxHeartbeats 8000000
set_option pp.deepTerms false
set_option pp.deepTerms.threshold 8
set_option pp.proofs.threshold 2
namespace Mine
/-- walk until a loop -/
local macro_rules | `(tactic| k_steps) => `(tactic| repeat' (first | (k_unfold; (try dsimp only)) | (k_end; wrow_close) | ((fail_if_success (with_reducible show wpAny _ _ (exec (Stmt.For _ _ _ _ _) _) _ _ _)); (fail_if_success (with_reducible show wpAny _ _ (exec (Stmt.While _ _ _ _) _) _ _ _)); (fail_if_success (with_reducible show wpAny _ _ (pyIter _) _ _ _)); first | walk1 | (dsimp only; walk1) | (leave1; walk_say "STEP leave1"; try dsimp only)) | fail "no step"))
local macro_rules | `(tactic| walk_at "WlPost") => `(tactic| (dsimp only [WlPost]))

local macro_rules | `(tactic| k_mem) => `(tactic| first | exact List.mem_cons_self | with_reducible assumption | (refine List.mem_cons_of_mem _ ?_; k_mem))
local macro_rules | `(tactic| walk_at "subscriptTail") => `(tactic| (k_here; (with_reducible show wpAny _ _ (subscriptTail _ _ (Value.ref _) (Value.int (-1) _)) _ _ _); k_dflt (refine' sub_last ?k1 ?k2 ?k3 ?k4 ?k5 ?_ ?k6 ?k7; (case k1 => k_asm); (case k2 => k_mem); (case k3 => with_reducible assumption); (case k4 => omega); (case k5 => omega); (case k6 => with_unfolding_all rfl); (case k7 => (intro _; with_unfolding_all rfl)); k_whole); intro _))
local macro_rules | `(tactic| walk_at "call builtin:list.append") => `(tactic| (k_here; (try dsimp only [List.cons_append, List.nil_append]); (with_reducible show wpAny _ _ (call (Value.builtin _) [Value.ref _, _]) _ _ _); refine append_hd (by k_asm) (by k_asm) (by assumption) (by omega) ?_; intro h' F' N'))
def OvlOut (ws : List Nat) (r : Value) (tl : List (Addr × Obj)) : Prop := ∃ a vs n, r = .ref a ∧ tl = [(a, listOf vs n)] ∧ IntsAre vs.toList ((bds ws ws.length ws.length).map Int.ofNat)
theorem ovl_tells (w : World) (loose : List Str) (mean : ExcName → Option Value) (mg mb : Str → Option Value) (l : Addr) (vs : List Value) (c : Nat) (ts : List Int) (ws : List Nat) (hi : IntsAre vs ts) (ht : IsTab ws ts) (hw0 : 0 < ws.length) (hw1 : ws.length ≤ 1000) (news : List (Addr × Obj)) (hm : (l, listOf vs.toArray c) ∈ news) :
    Cn PySem.Challenge.rw_tv0022_02.row.prog w (hd2.heap_39 w.params) hd2.view_39 loose mean mg mb 82 5 [.ref l] news (OvlOut ws) := by
  k_fill
  w_top off
  intro dp un gd cn cs a ccd cl outer A₀ base h₀ L m s Q E B F X N T hk hd hu hret
  have hl1 := ht.1
  have hl2 := hi.length
  refine wpAny_call ?_
  k_dflt ktr_enter
  k_steps
  rename Fr _ _ _ _ => F1
  rename News _ _ _ _ => N1
  rename (∀ p : Addr × Obj, p ∈ news → p.1 < _) => l1
  obtain ⟨k1, hk1, hk2⟩ := ht.at (i := ts.length - 1) (by omega)
  rw [hk1] at F1
  have e1 : ts.length - 1 + 1 = ws.length := by omega
  rw [e1] at hk2
  refine while_IL (fun k os => ∃ (n : Nat) (L : List Nat), k = (n : Int) ∧ os = L.map Int.ofNat ∧ OvlInv ws n L) F1 N1 .nil ⟨k1, [], rfl, rfl, ovl_start hk2⟩ ?_
  rintro k t vs2 c2 ts2 h2 tk2 ⟨n, Ls, rfl, rfl, hI⟩ hi2 F2 N2
  have hnlt := hI.1.1
  have hlen := hI.len
  have hl3 := hi2.length
  rw [Array.length_toList, List.length_map] at hl3
  have hne : ∀ p ∈ news, p.1 ≠ _ := fun p hp => Nat.ne_of_lt (l1 p hp)
  k_steps
  · rename 0 < _ => hpos
    obtain ⟨k', hk', hL'⟩ := ht.at (i := n - 1) (by omega)
    have e1 : ((n : Int) - 1).toNat = n - 1 := by omega
    have e2 : n - 1 + 1 = n := by omega
    rw [e2] at hL'
    have hlt' := hL'.1.1
    refine WlEnd.intro (k' := (k' : Int)) (by k_asm) (by k_asm) (by intro p hp; exact hp) (ints_push hi2) (by show some (Value.int (ts.getD ((n : Int) - 1).toNat 0) _) = _; rw [e1, hk']) (by intro z h1; simp [h1]) ⟨k', Ls ++ [n], rfl, by simp, ovl_step hI (by omega) hL'⟩ (by omega)
  · rename ¬ _ => hpos
    have : n = 0 := by omega
    subst this
    rw [← ovl_end hI] at hi2
    rename News _ _ _ _ => N3
    exact hret _ [_] _ _ (by k_asm) N3 (ord_one' l1) ⟨_, _, _, rfl, rfl, hi2⟩
end Mine

end -- T2

section -- T3
open PySem PySem.W PyProof.Rows PySem.Spec PySem.Calls
set_option maxRecDepth 100000
set_option maxHeartbeats 8000000
set_option pp.deepTerms false
set_option pp.deepTerms.threshold 8
set_option pp.proofs.threshold 2
namespace Mine
/-- walk until a loop -/
local macro_rules | `(tactic| k_steps) => `(tactic| repeat' (first | (k_unfold; (try dsimp only)) | (k_end; wrow_close) | ((fail_if_success (with_reducible show wpAny _ _ (exec (Stmt.For _ _ _ _ _) _) _ _ _)); (fail_if_success (with_reducible show wpAny _ _ (exec (Stmt.While _ _ _ _) _) _ _ _)); (fail_if_success (with_reducible show wpAny _ _ (call (Value.type "enumerate") _) _ _ _)); (fail_if_success (with_reducible show wpAny _ _ (pyIter _) _ _ _)); first | walk1 | (dsimp only; walk1) | (leave1; walk_say "STEP leave1"; try dsimp only)) | fail "no step"))
local macro_rules | `(tactic| k_mem) => `(tactic| first | exact List.mem_cons_self | with_reducible assumption | (refine List.mem_cons_of_mem _ ?_; k_mem))
local macro_rules | `(tactic| walk_at "TjPost") => `(tactic| (dsimp only [TjPost]))
local macro_rules | `(tactic| walk_at "call builtin:list.append") => `(tactic| (k_here; (with_reducible show wpAny _ _ (call (Value.builtin _) [Value.ref _, _]) _ _ _); refine append_hd (by k_asm) (by k_asm) (by assumption) (by omega) ?_; intro h' F' N'))
local macro_rules | `(tactic| walk_at "call builtin:str.join") => `(tactic| (k_here; (with_reducible show wpAny _ _ (call (Value.builtin "str.join") [Value.str _ _, Value.ref _]) _ _ _); refine join_listW (by assumption) (by assumption) (by decide +kernel) (by assumption) ?_; intro _ _))
local macro_rules | `(tactic| k_room) => `(tactic| ktr_room)

def FmOut (mode : Int) (r : Value) (tl : List (Addr × Obj)) : Prop := ∃ x t, r = .str x t ∧ tl = [] ∧ x.cps.toList = fmCodes mode
def bcStored : List Str := [Str.ofString "bit", Str.ofString "char"]
theorem ne_rest2 {D : Addr} {o : Obj} {news own : List (Addr × Obj)} (l1 : ∀ p ∈ news, p.1 < D) (hoff : OwnOff own (((D, o) :: news).map (·.1))) : ∀ p ∈ news ++ own, p.1 ≠ D := by
  intro p hp
  rcases List.mem_append.mp hp with hp | hp
  · exact Nat.ne_of_lt (l1 p hp)
  · exact hoff p hp D (.head _)
section
variable {D : Addr} {o : Obj} {news own own3 : List (Addr × Obj)}
theorem fm_sub1 : ∀ p ∈ (D, o) :: news, p ∈ (D, o) :: (news ++ own ++ own3) := by
  intro p hp; simp only [List.mem_cons, List.mem_append] at hp ⊢; rcases hp with h | h <;> simp [h]
theorem fm_sub2 : ∀ p ∈ own, p ∈ (D, o) :: (news ++ own ++ own3) := by
  intro p hp; simp only [List.mem_cons, List.mem_append] at hp ⊢; simp [hp]
theorem fm_sub3 : ∀ p ∈ (D, o) :: (news ++ own), p ∈ (D, o) :: (news ++ own ++ own3) := by
  intro p hp; simp only [List.mem_cons, List.mem_append] at hp ⊢; rcases hp with h | h | h <;> simp [h]
theorem fm_sub4 : ∀ p ∈ own3, p ∈ (D, o) :: (news ++ own ++ own3) := by
  intro p hp; simp only [List.mem_cons, List.mem_append] at hp ⊢; simp [hp]
theorem fm_sub5 : ∀ p ∈ (D, o) :: news, p ∈ (D, o) :: (news ++ own) := by
  intro p hp; simp only [List.mem_cons, List.mem_append] at hp ⊢; rcases hp with h | h <;> simp [h]
theorem fm_sub6 : ∀ p ∈ own, p ∈ (D, o) :: (news ++ own) := by
  intro p hp; simp only [List.mem_cons, List.mem_append] at hp ⊢; simp [hp]
end
theorem drop_at {α : Type} : ∀ {l : List α} {k : Nat} {x : α}, l[k]? = some x → l.drop k = x :: l.drop (k + 1)
  | [], _, _, h => by simp at h
  | a :: r, 0, x, h => by simp at h; subst h; rfl
  | a :: r, k + 1, x, h => by
    have h' : r[k]? = some x := by simpa using h
    exact drop_at (l := r) h'
theorem bc_unstored {y : Str} (h : bcStored.contains y = false) : y ≠ Str.ofString "char" ∧ y ≠ Str.ofString "bit" := by
  simp only [bcStored, List.contains_cons, List.contains_nil, Bool.or_false, Bool.or_eq_false_iff, beq_eq_false_iff_ne, ne_eq] at h
  exact ⟨h.2, h.1⟩
theorem fm_unstored {y : Str} (h : fmStored.contains y = false) : y ≠ Str.ofString "char" ∧ y ≠ Str.ofString "bit" ∧ y ≠ Str.ofString "table" ∧ y ≠ Str.ofString "index" ∧ bcStored.contains y = false := by
  simp only [fmStored, List.contains_cons, List.contains_nil, Bool.or_false, Bool.or_eq_false_iff, beq_eq_false_iff_ne, ne_eq] at h
  refine ⟨h.2.2.2, h.2.2.1, h.2.1, h.1, ?_⟩
  simp only [bcStored, List.contains_cons, List.contains_nil, Bool.or_false, Bool.or_eq_false_iff, beq_eq_false_iff_ne, ne_eq]
  exact ⟨h.2.2.1, h.2.2.2⟩
theorem fm_tells (w : World) (loose : List Str) (mean : ExcName → Option Value) (mg mb : Str → Option Value) (mode : Int) (t : Tok) (h0 : 0 ≤ mode) (h1 : mode < 2 ^ 40) (news : List (Addr × Obj)) :
    Cn PySem.Challenge.rw_tv0022_02.row.prog w (hd2.heap_39 w.params) hd2.view_39 loose mean mg mb 68 5 [.int mode t] news (FmOut mode) := by
  k_fill
  w_top off
  intro dp un gd cn cs a ccd cl outer A₀ base h₀ L m s Q E B F X N T hk hd hu hret
  refine wpAny_call ?_
  k_dflt ktr_enter
  k_steps
  rename Fr _ _ _ _ => F1
  rename News _ _ _ _ => N1
  rename (∀ p : Addr × Obj, p ∈ news → p.1 < _) => l1
  refine for_tj F1 ?_
  k_steps
  rename Frag.In _ _ => X1
  have hT61 : Heap.IsTuple _ 61 _ := ⟨_, X1 61 _ (by k_is), rfl, _, rfl⟩
  refine tj_enumT (fun i m nx => ∃ (D : Addr) (vs : Array Value) (c : Nat) (u : Str → Option Value), nx = (D, listOf vs c) :: news ∧ StrsAre vs.toList (fmSigns mode i) ∧ m = fun y => if fmStored.contains y then u y else (fun y => if y = Str.ofString "perm" then some (Value.ref D) else List.lookup y [(Str.ofString "mode", Value.int mode t)]) y) (by rfl) hT61 F1 N1 ?_ ?_ ?_
  · exact ⟨_, _, _, _, rfl, .nil, stored_eq (fun y hy => rfl)⟩
  · rintro i T t2 x m2 nx h2 tk2 own hin hx hT ⟨D, vs, c, u, rfl, hs, rfl⟩ hadr hoff F2 N2
    simp only [List.cons_append] at N2
    k_steps
    obtain ⟨a2, its, rfl, hta, hsz, hrow⟩ := fm_rows rfl X1 hx
    rename Fr _ _ _ _ => F3
    rename News _ _ _ _ => N3
    have hDe : D = _ := (List.cons.inj hadr).1
    have hne : ∀ p ∈ news ++ own, p.1 ≠ D := by
      rw [hDe]
      exact ne_rest2 l1 hoff
    have hvl := strs_len hs
    have hi10 : i < 10 := hin
    rw [Array.length_toList, fmSigns, List.length_map, List.length_range] at hvl
    refine for_tj F3 ?_
    k_steps
    refine tj_tup (fun k m nx => ∃ (u2 : Str → Option Value), nx = (D, listOf vs c) :: (news ++ own) ∧ fmSign mode i = pick (i : Int) mode ((ftab i).drop k) ∧ m = fun y => if bcStored.contains y then u2 y else (fun y => if y = Str.ofString "table" then some (Value.ref a2) else if y = Str.ofString "index" then some (Value.int (i : Int) t2) else if fmStored.contains y then u y else (fun y => if y = Str.ofString "perm" then some (Value.ref D) else List.lookup y [(Str.ofString "mode", Value.int mode t)]) y) y) (by rfl) hta F3 N3 ?_ ?_ ?_
    · refine ⟨_, rfl, rfl, stored_eq (fun y hy => rfl)⟩
    · rintro k x3 m3 nx3 h3 tk3 own3 hkin hkx ⟨u2, rfl, hpk, rfl⟩ hadr3 hoff3 F4 N4
      obtain ⟨b, bt, ch, ct, q, rfl, htq, hfk⟩ := hrow k _ hkx
      obtain ⟨oq, hoq, hoq2⟩ := htq
      have htq2 : IsTup h3 q #[.int b bt, .str ch ct] := ⟨oq, F4.keep _ _ hoq, hoq2⟩
      have hdr : (ftab i).drop k = (b, ch) :: (ftab i).drop (k + 1) := drop_at hfk
      rw [hdr] at hpk
      have hne3 : ∀ p ∈ news ++ own ++ own3, p.1 ≠ D := fun p hp => (List.mem_append.mp hp).elim (hne p) (fun h => hoff3 p h D (.head _))
      simp only [List.cons_append] at N4
      k_steps
      · rename Builtin.bitAnd _ _ = _ => hd1
        rename (i : Int) = 0 => hd2
        rw [pick_hit (by rw [if_pos hd2]; exact hd1)] at hpk
        exact TjEnd.intro (nx := (D, listOf (vs.push (.str _ _)) (c + 1)) :: news) (by k_asm) (by k_asm) fm_sub1 fm_sub2 hadr ⟨D, _, _, _, rfl, by rw [fmSigns_succ, hpk]; exact strs_push hs, stored_eq fun y hy => by obtain ⟨e1, e2, e3, e4, e5⟩ := fm_unstored hy; simp only [if_neg e1, if_neg e2, if_neg e3, if_neg e4, e5, hy, Bool.false_eq_true, if_false]⟩
      · rename Builtin.bitAnd _ _ ≠ _ => hd1
        rename (i : Int) = 0 => hd2
        rw [pick_miss (by rw [if_pos hd2]; exact hd1)] at hpk
        exact TjEnd.intro (nx := (D, listOf vs c) :: (news ++ own)) (by k_asm) (by k_asm) fm_sub3 fm_sub4 rfl ⟨_, rfl, hpk, stored_eq fun y hy => by obtain ⟨e1, e2⟩ := bc_unstored hy; simp only [if_neg e1, if_neg e2, hy, Bool.false_eq_true, if_false]⟩
      · rename Builtin.bitAnd _ _ = _ => hd1
        rename (i : Int) ≠ 0 => hd2
        rw [pick_hit (by rw [if_neg hd2]; exact hd1)] at hpk
        exact TjEnd.intro (nx := (D, listOf (vs.push (.str _ _)) (c + 1)) :: news) (by k_asm) (by k_asm) fm_sub1 fm_sub2 hadr ⟨D, _, _, _, rfl, by rw [fmSigns_succ, hpk]; exact strs_push hs, stored_eq fun y hy => by obtain ⟨e1, e2, e3, e4, e5⟩ := fm_unstored hy; simp only [if_neg e1, if_neg e2, if_neg e3, if_neg e4, e5, hy, Bool.false_eq_true, if_false]⟩
      · rename Builtin.bitAnd _ _ ≠ _ => hd1
        rename (i : Int) ≠ 0 => hd2
        rw [pick_miss (by rw [if_neg hd2]; exact hd1)] at hpk
        exact TjEnd.intro (nx := (D, listOf vs c) :: (news ++ own)) (by k_asm) (by k_asm) fm_sub3 fm_sub4 rfl ⟨_, rfl, hpk, stored_eq fun y hy => by obtain ⟨e1, e2⟩ := bc_unstored hy; simp only [if_neg e1, if_neg e2, hy, Bool.false_eq_true, if_false]⟩
    · rintro h3 tk3 m3 nx3 F4 N4 ⟨u2, rfl, hpk, rfl⟩
      have hdr : (ftab i).drop its.size = [] := by rw [hsz]; exact List.drop_length
      rw [hdr] at hpk
      k_steps
      · rename (i : Int) = 0 => hd2
        rw [pick, if_pos hd2] at hpk
        exact TjEnd.intro (nx := (D, listOf (vs.push (.str _ _)) (c + 1)) :: news) (by k_asm) (by k_asm) fm_sub5 fm_sub6 hadr ⟨D, _, _, _, rfl, by rw [fmSigns_succ, hpk]; exact strs_push hs, stored_eq fun y hy => by obtain ⟨e1, e2, e3, e4, e5⟩ := fm_unstored hy; simp only [if_neg e1, if_neg e2, if_neg e3, if_neg e4, e5, hy, Bool.false_eq_true, if_false]⟩
      · rename (i : Int) ≠ 0 => hd2
        rw [pick, if_neg hd2] at hpk
        exact TjEnd.intro (nx := (D, listOf (vs.push (.str _ _)) (c + 1)) :: news) (by k_asm) (by k_asm) fm_sub5 fm_sub6 hadr ⟨D, _, _, _, rfl, by rw [fmSigns_succ, hpk]; exact strs_push hs, stored_eq fun y hy => by obtain ⟨e1, e2, e3, e4, e5⟩ := fm_unstored hy; simp only [if_neg e1, if_neg e2, if_neg e3, if_neg e4, e5, hy, Bool.false_eq_true, if_false]⟩
  · rintro h2 tk2 m2 nx F2 N2 ⟨D, vs, c, u, rfl, hs, rfl⟩
    have hs' : StrsAre vs.toList (fmSigns mode 10) := hs
    have hw : ((fmSigns mode 10).map (·.length)).sum + (fmSigns mode 10).length ≤ 1048576 := by
      rw [fm_weight, fmSigns, List.length_map, List.length_range]; decide
    have hl : Heap.IsList h2 D vs := ⟨_, (N2 _ (.head _)).1, rfl, _, rfl⟩
    k_steps
    rename News _ _ _ _ => N3
    exact hret _ [] _ _ (by k_asm) (fun p hp => N3 p (.tail _ hp)) (fun _ _ _ h => nomatch h) ⟨_, _, rfl, rfl, by rw [join_cps, fm_flat]; rfl⟩
end Mine

end -- T3

section -- T4
open PySem PySem.W PyProof.Rows PySem.Spec PySem.Calls
set_option maxRecDepth 100000
set_option maxHeartbeats 8000000
set_option pp.deepTerms false
set_option pp.deepTerms.threshold 8
set_option pp.proofs.threshold 2
namespace Mine
local macro_rules | `(tactic| k_steps) => `(tactic| repeat' (first | (k_unfold; (try dsimp only)) | (k_end; wrow_close) | ((fail_if_success (with_reducible show wpAny _ _ (exec (Stmt.For _ _ _ _ _) _) _ _ _)); (fail_if_success (with_reducible show wpAny _ _ (exec (Stmt.While _ _ _ _) _) _ _ _)); (fail_if_success (with_reducible show wpAny _ _ (pyIter _) _ _ _)); first | walk1 | (dsimp only; walk1) | (leave1; walk_say "STEP leave1"; try dsimp only)) | fail "no step"))
/-- a contract of a def that makes a text and leaves every object as it stood -/
def CnK (prog : Program) (w : World) (K : Frag) (p : Program) (loose : List Str) (mean : ExcName → Option Value) (mg mb : Str → Option Value) (f : Addr) (sz : Nat) (vs : List Value) (x : Str) : Prop :=
  ∀ (dp un : Nat) (gd : Option (List Code)) (cn : Str) (cs : Scope) (a : Addr) (ccd : Value) (cl : List (Str × Addr)) (outer : List Env) (A₀ : Around) (base h₀ : Heap) (L : Addr) (m : Str → Option Value) (news : List (Addr × Obj)) (s : Shared)
    (Q E : Value → Shared → Prop),
    Below A₀ base outer h₀ → Fr h₀ L s.heap m → K.In h₀ → News h₀ L s.heap news → Top p loose mean mg mb h₀ → cs.kind = .function → dp + sz < recursionLimit → un + 8 * sz < cLine →
    (∀ t h' tk', Fr h₀ L h' m → News h₀ L h' news → (∀ b o, s.heap.get? b = some o → h'.get? b = some o) → Q (.str x t) { s with heap := h', toks := tk' }) →
    wpAny (model prog w) (ktrTop dp un gd cn cs L a ccd cl outer) (call (.ref f) vs) Q E s

def lsText (mode p : Int) : Str :=
  if p = 0 then Txt.item (Str.ofString "?pc?d?b?-?l?s???") ((mode.fdiv 4096).fmod 16)
  else if p.fmod 3 = 1 then Txt.item (Str.ofString "-r") ((mode.fdiv (2 ^ (9 - p).toNat)).fmod 2)
  else if p.fmod 3 = 2 then Txt.item (Str.ofString "-w") ((mode.fdiv (2 ^ (9 - p).toNat)).fmod 2)
  else if p = 9 then Txt.item (Str.ofString "-xTt") ((mode.fdiv (2 ^ (9 - p).toNat)).fmod 2 + 2 * (mode.fdiv (2 ^ (12 - p.fdiv 3).toNat)).fmod 2)
  else Txt.item (Str.ofString "-xSs") ((mode.fdiv (2 ^ (9 - p).toNat)).fmod 2 + 2 * (mode.fdiv (2 ^ (12 - p.fdiv 3).toNat)).fmod 2)
theorem ls_tells (w : World) (loose : List Str) (mean : ExcName → Option Value) (mg mb : Str → Option Value) (mode : Int) (t t2 : Tok) (h0 : 0 ≤ mode) (h1 : mode < 2 ^ 40) (p : Int) (hp0 : 0 ≤ p) (hp1 : p < 10) :
    CnK PySem.Challenge.rw_tv0022_02.row.prog w (hd2.heap_39 w.params) hd2.view_39 loose mean mg mb 75 5 [.int mode t, .int p t2] (lsText mode p) := by
  k_fill
  w_top off
  intro dp un gd cn cs a ccd cl outer A₀ base h₀ L m news s Q E B F X N T hk hd hu hret
  refine wpAny_call ?_
  k_dflt (refine' code_defG ?k1 ?k2 ?k3 ?k4 ?k5 ?kA ?kF ?kK ?k6 ?k7 ?k8 ?k9 ?kB ?_ ?c2 ?c3 ?c4 ?c5; (case kA => exact rfl); (case kF => exact rfl); (case kK => assumption); (case k1 => k_asm); (case k2 => k_asm); (case k3 => k_asm); (case k4 => k_asm); (case k5 => k_asm); (case k6 => k_is); (case k7 => k_is); (case k8 => ktr_room); (case k9 => exact BindsTo.of_eq rfl); (case c5 => decide); (case kB => exact locs rfl); (case c2 => exact rfl); (case c3 => exact rfl); (case c4 => exact rfl); k_whole; intro g' L' h' FG' F' N' B' X' T' kG'; (try dsimp only); (try k_fold))
  k_steps
  · rename p = 0 => e1
    rename News g' _ _ _ => N9
    rw [lsText, if_pos e1] at hret
    exact hret _ _ _ (by k_asm) (by k_asm) (elt_after (InElt.start _) kG' N (by k_asm) N9 (fun _ h => h))
  · rename p ≠ 0 => e1
    rename p.fmod 3 = 1 => e2
    rename News g' _ _ _ => N9
    rw [lsText, if_neg e1, if_pos e2] at hret
    exact hret _ _ _ (by k_asm) (by k_asm) (elt_after (InElt.start _) kG' N (by k_asm) N9 (fun _ h => h))
  · rename p ≠ 0 => e1
    rename p.fmod 3 ≠ 1 => e2
    rename p.fmod 3 = 2 => e3
    rename News g' _ _ _ => N9
    rw [lsText, if_neg e1, if_neg e2, if_pos e3] at hret
    exact hret _ _ _ (by k_asm) (by k_asm) (elt_after (InElt.start _) kG' N (by k_asm) N9 (fun _ h => h))
  · rename p ≠ 0 => e1
    rename p.fmod 3 ≠ 1 => e2
    rename p.fmod 3 ≠ 2 => e3
    rename p = 9 => e4
    rename News g' _ _ _ => N9
    rw [lsText, if_neg e1, if_neg e2, if_neg e3, if_pos e4] at hret
    exact hret _ _ _ (by k_asm) (by k_asm) (elt_after (InElt.start _) kG' N (by k_asm) N9 (fun _ h => h))
  · rename p ≠ 0 => e1
    rename p.fmod 3 ≠ 1 => e2
    rename p.fmod 3 ≠ 2 => e3
    rename p ≠ 9 => e4
    rename News g' _ _ _ => N9
    rw [lsText, if_neg e1, if_neg e2, if_neg e3, if_neg e4] at hret
    exact hret _ _ _ (by k_asm) (by k_asm) (elt_after (InElt.start _) kG' N (by k_asm) N9 (fun _ h => h))
end Mine

end -- T4

section -- P3
open PySem PySem.W PyProof.Rows
set_option maxRecDepth 100000
namespace Mine
theorem fdm (m k r : Nat) : ((m : Int).fdiv (k : Int)).fmod (r : Int) = ((m / k % r : Nat) : Int) := by
  rw [Int.fdiv_eq_ediv_of_nonneg _ (by omega), Int.fmod_eq_emod_of_nonneg _ (by omega)]
  norm_cast
theorem band_nat (m b : Nat) : Builtin.bitAnd (m : Int) (b : Int) = ((m &&& b : Nat) : Int) := by
  unfold Builtin.bitAnd
  have h1 : decide ((0 : Int) ≤ (m : Int)) = true := by simp
  have h2 : decide ((0 : Int) ≤ (b : Int)) = true := by simp
  rw [h1, h2]
  simp
theorem and_pow (m k : Nat) : m &&& 2 ^ k = m / 2 ^ k % 2 * 2 ^ k := by
  have hb := @Nat.testBit_eq_decide_div_mod_eq k m
  apply Nat.eq_of_testBit_eq
  intro i
  rw [Nat.testBit_and, Nat.testBit_two_pow]
  rcases Nat.mod_two_eq_zero_or_one (m / 2 ^ k) with h | h
  · rw [h, Nat.zero_mul, Nat.zero_testBit]
    by_cases e : k = i
    · subst e; rw [hb, h]; simp
    · simp [e]
  · rw [h, Nat.one_mul, Nat.testBit_two_pow]
    by_cases e : k = i
    · subst e; rw [hb, h]; simp
    · simp [e]
theorem hit1 {m : Nat} {i b : Int} {c : Str} {r : List (Int × Str)} (hi : ¬ i = 0) (h : Builtin.bitAnd m b = b) : pick i m ((b, c) :: r) = c := pick_hit (by rw [if_neg hi]; exact h)
theorem miss1 {m : Nat} {i b : Int} {c : Str} {r : List (Int × Str)} (hi : ¬ i = 0) (h : ¬ Builtin.bitAnd m b = b) : pick i m ((b, c) :: r) = pick i m r := pick_miss (by rw [if_neg hi]; exact h)
theorem end1 {m : Nat} {i : Int} (hi : ¬ i = 0) : pick i m [] = Str.ofString "-" := by
  unfold pick
  rw [if_neg hi]
theorem and_two (m j k : Nat) : m &&& (2 ^ j ||| 2 ^ k) = (m / 2 ^ j % 2 * 2 ^ j) ||| (m / 2 ^ k % 2 * 2 ^ k) := by
  rw [Nat.and_or_distrib_left, and_pow, and_pow]
theorem m2 (n : Nat) : n % 2 = 0 ∨ n % 2 = 1 := Nat.mod_two_eq_zero_or_one n
theorem yes_bit {m k : Nat} (h : m / 2 ^ k % 2 = 1) : Builtin.bitAnd (m : Int) ((2 ^ k : Nat) : Int) = ((2 ^ k : Nat) : Int) := by rw [band_nat, and_pow, h, Nat.one_mul]
theorem no_bit {m k : Nat} (h : m / 2 ^ k % 2 = 0) : ¬ Builtin.bitAnd (m : Int) ((2 ^ k : Nat) : Int) = ((2 ^ k : Nat) : Int) := by
  rw [band_nat, and_pow, h, Nat.zero_mul]
  have hp : 0 < 2 ^ k := Nat.pos_of_ne_zero (by simp)
  omega
/-- one bit -/
theorem sign_one (m : Nat) (i : Int) (k : Nat) (c : Str) (S : Str) (hi : ¬ i = 0) (h0 : Txt.item S 0 = Str.ofString "-") (h1 : Txt.item S 1 = c) :
    Txt.item S (((m : Int).fdiv ((2 ^ k : Nat) : Int)).fmod 2) = pick i m [(((2 ^ k : Nat) : Int), c)] := by
  have e := fdm m (2 ^ k) 2
  rw [show ((2 : Nat) : Int) = 2 from rfl] at e
  rw [e]
  rcases m2 (m / 2 ^ k) with h | h
  · rw [miss1 hi (no_bit h), end1 hi, h]; exact h0
  · rw [hit1 hi (yes_bit h), h]; exact h1
theorem sign_two (m : Nat) (i : Int) (j k : Nat) (b : Nat) (cb cj ck : Str) (S : Str) (hi : ¬ i = 0) (hjk : b = (2 ^ j ||| 2 ^ k)) (hb : b ≠ 2 ^ j ∧ b ≠ 2 ^ k ∧ b ≠ 0) (h0 : Txt.item S 0 = Str.ofString "-") (h1 : Txt.item S 1 = ck) (h2 : Txt.item S 2 = cj) (h3 : Txt.item S 3 = cb) :
    Txt.item S (((m : Int).fdiv ((2 ^ k : Nat) : Int)).fmod 2 + 2 * ((m : Int).fdiv ((2 ^ j : Nat) : Int)).fmod 2) = pick i m [((b : Int), cb), (((2 ^ j : Nat) : Int), cj), (((2 ^ k : Nat) : Int), ck)] := by
  have e := fdm m (2 ^ k) 2
  have e' := fdm m (2 ^ j) 2
  rw [show ((2 : Nat) : Int) = 2 from rfl] at e e'
  rw [e, e']
  have ha : m &&& b = (m / 2 ^ j % 2 * 2 ^ j) ||| (m / 2 ^ k % 2 * 2 ^ k) := by rw [hjk, and_two]
  have hB : Builtin.bitAnd (m : Int) (b : Int) = (((m / 2 ^ j % 2 * 2 ^ j) ||| (m / 2 ^ k % 2 * 2 ^ k) : Nat) : Int) := by rw [band_nat, ha]
  rcases m2 (m / 2 ^ k) with hk | hk <;> rcases m2 (m / 2 ^ j) with hj | hj
  · rw [miss1 hi (by rw [hB, hk, hj, Nat.zero_mul, Nat.zero_mul]; simp; omega), miss1 hi (no_bit hj), miss1 hi (no_bit hk), end1 hi, hk, hj]; exact h0
  · rw [miss1 hi (by rw [hB, hk, hj, Nat.zero_mul, Nat.one_mul, Nat.or_zero]; omega), hit1 hi (yes_bit hj), hk, hj]; exact h2
  · rw [miss1 hi (by rw [hB, hk, hj, Nat.zero_mul, Nat.one_mul, Nat.zero_or]; omega), miss1 hi (no_bit hj), hit1 hi (yes_bit hk), hk, hj]; exact h1
  · rw [hit1 hi (by rw [hB, hk, hj, Nat.one_mul, Nat.one_mul, hjk]), hk, hj]; exact h3
theorem and_kind (m : Nat) : m &&& 61440 = m / 4096 % 16 * 4096 := by
  have e : 61440 = ((2 ^ 15 ||| 2 ^ 14) ||| (2 ^ 13 ||| 2 ^ 12)) := by decide
  rw [e, Nat.and_or_distrib_left, and_two, and_two]
  have h : m / 4096 % 16 = m / 2 ^ 12 % 2 + 2 * (m / 2 ^ 13 % 2) + 4 * (m / 2 ^ 14 % 2) + 8 * (m / 2 ^ 15 % 2) := by omega
  rw [h]
  rcases m2 (m / 2 ^ 12) with h1 | h1 <;> rcases m2 (m / 2 ^ 13) with h2 | h2 <;> rcases m2 (m / 2 ^ 14) with h3 | h3 <;> rcases m2 (m / 2 ^ 15) with h4 | h4 <;> rw [h1, h2, h3, h4] <;> rfl
def pickK (v : Int) : List (Int × Str) → Str
  | [] => Str.ofString "?"
  | (b, c) :: r => if v = b then c else pickK v r
theorem pickK_eq (m : Nat) : ∀ l, pick 0 m l = pickK ((m / 4096 % 16 * 4096 : Nat) : Int) l
  | [] => by unfold pick pickK; rfl
  | (b, c) :: r => by
    have e := band_nat m 61440
    rw [show ((61440 : Nat) : Int) = 61440 from rfl, and_kind] at e
    unfold pickK
    by_cases h : ((m / 4096 % 16 * 4096 : Nat) : Int) = b
    · rw [if_pos h, pick_hit (by rw [if_pos rfl, e]; exact h)]
    · rw [if_neg h, pick_miss (by rw [if_pos rfl, e]; exact h)]
      exact pickK_eq m r
theorem kinds : ∀ v, v < 16 → Txt.item (Str.ofString "?pc?d?b?-?l?s???") ((v : Nat) : Int) = pickK ((v * 4096 : Nat) : Int) (ftab 0) := by decide +kernel
theorem ls_is (m i : Nat) (hi : i < 10) : lsText m i = fmSign m i := by
  have hc : i = 0 ∨ i = 1 ∨ i = 2 ∨ i = 3 ∨ i = 4 ∨ i = 5 ∨ i = 6 ∨ i = 7 ∨ i = 8 ∨ i = 9 := by omega
  rcases hc with rfl | rfl | rfl | rfl | rfl | rfl | rfl | rfl | rfl | rfl
  · show Txt.item (Str.ofString "?pc?d?b?-?l?s???") (((m : Int).fdiv ((4096 : Nat) : Int)).fmod ((16 : Nat) : Int)) = pick 0 m (ftab 0)
    rw [fdm, pickK_eq]
    exact kinds _ (Nat.mod_lt _ (by decide))
  · exact sign_one m 1 8 (Str.ofString "r") (Str.ofString "-r") (by decide) (by decide +kernel) (by decide +kernel)
  · exact sign_one m 2 7 (Str.ofString "w") (Str.ofString "-w") (by decide) (by decide +kernel) (by decide +kernel)
  · exact sign_two m 3 11 6 2112 (Str.ofString "s") (Str.ofString "S") (Str.ofString "x") (Str.ofString "-xSs") (by decide) (by decide) (by decide) (by decide +kernel) (by decide +kernel) (by decide +kernel) (by decide +kernel)
  · exact sign_one m 4 5 (Str.ofString "r") (Str.ofString "-r") (by decide) (by decide +kernel) (by decide +kernel)
  · exact sign_one m 5 4 (Str.ofString "w") (Str.ofString "-w") (by decide) (by decide +kernel) (by decide +kernel)
  · exact sign_two m 6 10 3 1032 (Str.ofString "s") (Str.ofString "S") (Str.ofString "x") (Str.ofString "-xSs") (by decide) (by decide) (by decide) (by decide +kernel) (by decide +kernel) (by decide +kernel) (by decide +kernel)
  · exact sign_one m 7 2 (Str.ofString "r") (Str.ofString "-r") (by decide) (by decide +kernel) (by decide +kernel)
  · exact sign_one m 8 1 (Str.ofString "w") (Str.ofString "-w") (by decide) (by decide +kernel) (by decide +kernel)
  · exact sign_two m 9 9 0 513 (Str.ofString "t") (Str.ofString "T") (Str.ofString "x") (Str.ofString "-xTt") (by decide) (by decide) (by decide) (by decide +kernel) (by decide +kernel) (by decide +kernel) (by decide +kernel)
end Mine

end -- P3

section -- T5
open PySem PySem.W PyProof.Rows PySem.Spec PySem.Calls
set_option maxRecDepth 100000
set_option maxHeartbeats 8000000
set_option pp.deepTerms false
set_option pp.deepTerms.threshold 8
set_option pp.proofs.threshold 2
namespace Mine
local macro_rules | `(tactic| k_steps) => `(tactic| repeat' (first | (k_unfold; (try dsimp only)) | (k_end; wrow_close) | ((fail_if_success (with_reducible show wpAny _ _ (exec (Stmt.For _ _ _ _ _) _) _ _ _)); (fail_if_success (with_reducible show wpAny _ _ (exec (Stmt.While _ _ _ _) _) _ _ _)); (fail_if_success (with_reducible show wpAny _ _ (pyIter _) _ _ _)); first | walk_at "mine" | walk1 | (dsimp only; walk1) | (leave1; walk_say "STEP leave1"; try dsimp only)) | fail "no step"))
local macro_rules | `(tactic| walk_at "TsPost") => `(tactic| (dsimp only [TsPost]))
local macro_rules | `(tactic| k_mem) => `(tactic| first | exact List.mem_cons_self | with_reducible assumption | (refine List.mem_cons_of_mem _ ?_; k_mem))
local macro_rules | `(tactic| walk_at "mine") => `(tactic| ((with_reducible show wpAny _ _ (subscriptTail _ _ (Value.ref _) (Value.int (-1) _)) _ _ _); k_dflt (refine' sub_lastE ?k1 ?k2 ?k3 ?kk ?k4 ?k5 ?_ ?k6; (case k1 => k_asm); (case k2 => k_mem); (case k3 => with_reducible assumption); (case kk => with_reducible assumption); (case k4 => omega); (case k5 => omega); (case k6 => with_unfolding_all rfl); k_whole); intro _))
local macro_rules | `(tactic| walk_at "mine") => `(tactic| ((with_reducible show wpAny _ _ (binaryOp Operator.Add (Value.str _ _) (Value.str _ _)) _ _ _); refine str_add (by omega) ?_; intro z' t' k' hz' hzl'))
local macro_rules | `(tactic| walk_at "mine") => `(tactic| ((with_reducible show wpAny _ _ (subscriptTail _ (Expr.Slice none none (some _) _) (Value.str _ _) _) _ _ _); (with_reducible rename Fr _ _ _ _ => F'); (with_reducible rename News _ _ _ _ => N'); refine str_rev (s := ⟨_, _, _, _, _⟩) F' N' (by omega) ?_; intro z' h' t' c' hz' hzl' F' N'))
local macro_rules | `(tactic| walk_at "mine") => `(tactic| ((with_reducible show wpAny _ _ (subscriptTail _ (Expr.Slice (some _) none none _) (Value.str _ _) _) _ _ _); (with_reducible rename Fr _ _ _ _ => F'); (with_reducible rename News _ _ _ _ => N'); refine str_from (s := ⟨_, _, _, _, _⟩) F' N' (by omega) (by omega) ?_; intro z' h' t' c' hz' hzl' F' N'))
local macro_rules | `(tactic| walk_at "mine") => `(tactic| ((with_reducible show wpAny _ _ (call (Value.ref _) [Value.str _ _]) _ _ _); k_dflt (refine' Cn.use (tab_str _ _ _ _ _ _ _ ?kx _) ?k1 ?k2 ?k3 ?k4 ?k5 ?kk ?kd ?ku ?_; (case kx => omega); (case k1 => k_asm); (case k2 => k_asm); (case k3 => k_asm); (case k4 => k_asm); (case k5 => k_asm); (case kk => exact rfl); (case kd => ktr_room); (case ku => ktr_units)); intro r9 tl9 h9 tk9 F9 N9 l9 o9; obtain ⟨a9, vs9, n9, ts9, q9, q8, hi9, ht9⟩ := o9; subst q9; subst q8; (simp only [List.cons_append, List.nil_append] at N9); (have hl9 := ht9.1); (rw [cps_len] at hl9); (have hz9 := tab_last ht9 (by rw [cps_len]; omega)); obtain ⟨k9, hk9, hL9, hlt9⟩ := hz9; (rw [cps_len] at hlt9)))

def GrOut (ws : List Nat) (r : Value) (tl : List (Addr × Obj)) : Prop := ∃ x t, r = .str x t ∧ tl = [] ∧ x.cps.toList = ws
theorem gr_tells (w : World) (loose : List Str) (mean : ExcName → Option Value) (mg mb : Str → Option Value) (x : Str) (t : Tok) (hx : x.length ≤ 5) (news : List (Addr × Obj)) :
    Cn PySem.Challenge.rw_tv0022_02.row.prog w (hd2.heap_39 w.params) hd2.view_39 loose mean mg mb 89 10 [.str x t] news (GrOut (grown x.cps.toList)) := by
  k_fill
  w_top off
  intro dp un gd cn cs a ccd cl outer A₀ base h₀ L m s Q E B F X N T hk hd hu hret
  refine wpAny_call ?_
  k_dflt ktr_enter
  k_steps
  rename Fr _ _ _ _ => F1
  refine For_invVF F1 (by rfl) (by rfl) ?_
  k_steps
  rename Fr _ _ _ _ => F1
  rename News _ _ _ _ => N1
  have hone : ∀ c : Nat, (Str.mk #[c]).length = 1 := fun _ => rfl
  have hsp : (Str.ofString " ").length = 1 := by decide +kernel
  refine text_S (y := Str.ofString "row") [Str.ofString "back", Str.ofString "mirrored"] (fun i r => r.cps.toList = grown (x.cps.toList.take i)) (by rfl) F1 N1 (by rfl) ?_ ?_ ?_
  · show (Str.ofString "").cps.toList = _
    rw [show (Str.ofString "").cps = #[] by decide +kernel]; rfl
  · intro i c r t1 tr u h tk own hc hP hoff F2 N2
    have hi5 : i < 5 := Nat.lt_of_lt_of_le (Array.getElem?_eq_some_iff.mp hc).1 hx
    have hr5 : r.length ≤ 30 := by
      have h1 := grown_len (x.cps.toList.take i) []
      rw [← cps_len, hP]
      have h2 : (x.cps.toList.take i).length ≤ 4 := by rw [List.length_take]; omega
      have h3 : 2 ^ (x.cps.toList.take i).length ≤ 2 ^ 4 := Nat.pow_le_pow_right (by decide) h2
      unfold grown
      simp only [List.length_nil] at h1
      omega
    have hc1 := hone c
    k_steps
    rename LB _ _ _ => hL9
    have hk := lbF_eq hL9
    refine TsEnd.intro (by k_asm) (by k_asm) (fun p hp => .tail _ hp) (by rfl) ?_ ?_
    · have hsp2 : (Str.ofString " ").cps.toList = [32] := by decide +kernel
      rw [grown_snoc (c := c) (by simpa using hc), ← hP, growStep]
      simp only [*, Int.toNat_natCast]
    · intro z h1 h2 h3
      simp only [List.contains_cons, List.contains_nil, Bool.or_false, Bool.or_eq_false_iff, beq_eq_false_iff_ne, ne_eq] at h3
      simp [h1, h2, h3]
  · intro r tr u h tk hP F2 N2
    k_steps
    rename News _ _ _ _ => N3
    exact hret _ [] _ _ (by k_asm) (fun p hp => N3 p hp) (fun _ _ _ h => nomatch h) ⟨_, _, rfl, rfl, by rw [hP, List.take_of_length_le (by simp)]⟩
end Mine

end -- T5

section -- T6
open PySem PySem.W PyProof.Rows PySem.Spec PySem.Calls
set_option maxRecDepth 100000
set_option maxHeartbeats 8000000
set_option pp.deepTerms false
set_option pp.deepTerms.threshold 8
set_option pp.proofs.threshold 2
namespace Mine
local macro_rules | `(tactic| k_steps) => `(tactic| repeat' (first | (k_unfold; (try dsimp only)) | (k_end; wrow_close) | ((fail_if_success (with_reducible show wpAny _ _ (exec (Stmt.For _ _ _ _ _) _) _ _ _)); (fail_if_success (with_reducible show wpAny _ _ (exec (Stmt.While _ _ _ _) _) _ _ _)); (fail_if_success (with_reducible show wpAny _ _ (pyIter _) _ _ _)); (fail_if_success (with_reducible show LCt.CompSrcT _ _ _ _ _ _ _ _ _ _ _ _ _ _ _)); (fail_if_success (with_reducible show LCg.CompEnd _ _ _ _ _ _ _ _ _ _ _ _ _ _)); first | walk_at "mine" | walk1 | (dsimp only; walk1) | (leave1; walk_say "STEP leave1"; try dsimp only)) | fail "no step"))
local macro_rules | `(tactic| k_mem) => `(tactic| first | exact List.mem_cons_self | with_reducible assumption | (refine List.mem_cons_of_mem _ ?_; k_mem))
local macro_rules | `(tactic| k_room) => `(tactic| ktr_room)

local macro_rules | `(tactic| k_all) => `(tactic| with_reducible assumption)
local macro_rules | `(tactic| walk_at "call builtin:list.append") => `(tactic| (k_here; (with_reducible show wpAny _ _ (call (Value.builtin _) [Value.ref _, _]) _ _ _); refine append_hd (by k_asm) (by k_asm) (List.forall_mem_cons.mpr ⟨Nat.ne_of_lt (by with_reducible assumption), by with_reducible assumption⟩) (by omega) ?_; intro h' F' N'; simp only [List.push_toArray] at N'))
local macro_rules | `(tactic| walk_at "mine") => `(tactic| ((with_reducible show wpAny _ _ (subscriptTail _ _ (Value.ref _) (Value.int (-1) _)) _ _ _); k_dflt (refine' sub_lastL ?k1 ?k2 ?k3 ?kk ?k4 ?k5 ?_ ?k6; (case k1 => k_asm); (case k2 => k_mem); (case k3 => with_reducible assumption); (case kk => with_reducible assumption); (case k4 => exact br_pos (by with_reducible assumption)); (case k5 => omega); (case k6 => with_unfolding_all rfl); k_whole); intro _))
local macro_rules | `(tactic| walk_at "mine") => `(tactic| ((with_reducible show wpAny _ _ (binaryOp Operator.Add (Value.str _ _) (Value.str _ _)) _ _ _); refine str_add (by omega) ?_; intro z' t' k' hz' hzl'))
local macro_rules | `(tactic| walk_at "mine") => `(tactic| ((with_reducible show wpAny _ _ (subscriptTail _ (Expr.Slice (some _) none none _) (Value.str _ _) _) _ _ _); (with_reducible rename Fr _ _ _ _ => F'); (with_reducible rename News _ _ _ _ => N'); refine str_from (s := ⟨_, _, _, _, _⟩) F' N' (by omega) (by omega) ?_; intro z' h' t' c' hz' hzl' F' N'))
local macro_rules | `(tactic| walk_at "mine") => `(tactic| ((with_reducible show wpAny _ _ (subscriptTail _ _ (Value.ref _) (Value.int _ _)) _ _ _); k_dflt (refine' sub_atE ?k1 ?k2 ?k3 ?kk ?k4 ?k5 ?k7 ?_ ?k6; (case k1 => k_asm); (case k2 => k_mem); (case k3 => exact (by with_reducible assumption : ∀ t, IntsAre (_ ++ [Value.int _ t]) _) _); (case kk => with_reducible assumption); (case k4 => omega); (case k5 => omega); (case k7 => omega); (case k6 => with_unfolding_all rfl); k_whole); intro _))
local macro_rules | `(tactic| walk_at "TjPost") => `(tactic| (dsimp only [TjPost]))
local macro_rules | `(tactic| walk_at "CompSrcT") => `(tactic| (k_dflt (refine LCt.CompSrcT.range (by rfl) (by k_asm) (by k_asm) (by assumption) (by exact small_one (by omega) (by omega) (by omega) (by omega)) (by exact rangeSize_nat _ _) (by rw [PySem.sizeLine_eq]; omega) ?_); intro g9; (with_reducible rename KPfGrows _ => hG9); refine' kci_range _ (fun k9 t9 I9 oI9 C9 oC9 D9 m9 ys9 l9 h9 tk9 E9 hlo9 hhi9 hI9 hC9 hx9 F9 N9 off9 ne9 hm9 => ?kturn) ?kfin hG9; (case' kturn => (have off8 := off9; (try simp only [LCg.Off3, and_true] at off8); (try k_fold))); (case' kfin => (unfold KPfDone; intro ys9 hys9 hyl9; (rw [brG_fold _ _ _ (by omega)] at hys9); (try k_fold)))))
def BrOut (p : List Nat × List Nat) (r : Value) (tl : List (Addr × Obj)) : Prop := ∃ (a D : Addr) (x : Str) (t : Tok) (vs : List Value) (c : Nat), r = .ref a ∧ tl = [(a, { cls := .type "tuple", data := .seq #[.str x t, .ref D] }), (D, listOf vs.toArray c)] ∧ IntsAre vs (p.2.map Int.ofNat) ∧ x.cps.toList = p.1
theorem br_tells (w : World) (loose : List Str) (mean : ExcName → Option Value) (mg mb : Str → Option Value) (x : Str) (t : Tok) (hx : x.length ≤ 5) (news : List (Addr × Obj)) :
    Cn PySem.Challenge.rw_tv0022_02.row.prog w (hd2.heap_39 w.params) hd2.view_39 loose mean mg mb 94 10 [.str x t] news (BrOut (byRule x.cps.toList x.length)) := by
  k_fill
  w_top off
  intro dp un gd cn cs a ccd cl outer A₀ base h₀ L m s Q E B F X N T hk hd hu hret
  refine wpAny_call ?_
  k_dflt (refine' code_defC ?k1 ?k2 ?k3 ?k4 ?k5 ?kA ?kF ?kK ?k6 ?k7 ?k8 ?k9 ?kB ?kD ?_ ?c2 ?c3 ?c4; (case kA => exact rfl); (case kF => exact rfl); (case kK => assumption); (case k1 => k_asm); (case k2 => k_asm); (case k3 => k_asm); (case k4 => k_asm); (case k5 => k_asm); (case k6 => k_is); (case k7 => k_is); (case k8 => ktr_room); (case k9 => exact BindsTo.of_eq rfl); (case kB => exact rfl); (case kD => decide +kernel); (case c2 => exact rfl); (case c3 => exact rfl); (case c4 => exact rfl); k_whole; intro g' L' h' tk' cells' FG' F' N' Y' B' X' T' l1; (try k_lt l1); k_cells Y'; (try simp only [List.cons_append, List.nil_append] at N'); (try dsimp only); (try k_lift B'); (try k_fold))
  rename_i o1 o2 d1 d2
  have dk : o1.data = Data.cell none := d1
  have dh : o2.data = Data.cell (some (.str x t)) := d2
  clear d1 d2
  k_steps
  rename Fr _ _ _ _ => F1
  rename News _ _ _ _ => N1
  refine for_tj F1 ?_
  k_steps
  rename Fr _ _ _ _ => F1
  rename News _ _ _ _ => N1
  rename IsRange _ _ _ _ _ _ _ _ => R1
  rename_i h4 l' h5 l4 h6 F5 N5 h7 tk6 tt uu vv aa
  obtain ⟨lt1, lt2, lt3⟩ := l4
  have hlt3 : ∀ p ∈ news, p.1 ≠ l' := ne_lt lt3
  refine tj_range (n := x.length) (fun i m nx => ∃ (vs : List Value) (c : Nat) (row : Str) (tr : Tok) (o : Obj) (ov : Option Value) (ue : Option Value), nx = (l', listOf vs.toArray c) :: (L' + 1 + 1, o) :: (L' + 1, o2) :: news ∧ o.data = Data.cell ov ∧ row.cps.toList = (byRule x.cps.toList i).1 ∧ IntsAre vs ((byRule x.cps.toList i).2.map Int.ofNat) ∧
    m = (fun y => if y = Str.ofString "earlier" then ue else if y = Str.ofString "row" then some (Value.str row tr) else if y = Str.ofString "lengths" then some (Value.ref l') else none)) (by rfl) R1 ?_ ?_ F1 N1 ?_ ?_ ?_
  · exact small_one (by omega) (by omega) (by omega) (by omega)
  · rw [rangeSize_nat]; omega
  · refine ⟨[], 0, Str.ofString "", tk', o1, none, none, rfl, dk, ?_, .nil, ?_⟩
    · rw [show (Str.ofString "").cps = #[] by decide +kernel]; rfl
    · funext y
      by_cases h1 : y = Str.ofString "lengths"
      · subst h1; rfl
      · by_cases h2 : y = Str.ofString "row"
        · subst h2; rfl
        · simp only [h1, h2, if_false]
          show bindL _ _ _ y = _
          have : (if y = Str.ofString "earlier" then (none : Option Value) else none) = none := by split <;> rfl
          rw [this]
          with_unfolding_all rfl
  · rintro i t2 m2 nx h2 tk2 own hin ⟨vs, c, row, tr, o, ov, ue, rfl, hov, hrow, hvi, rfl⟩ hadr hoff F2 N2
    simp only [List.cons_append] at N2
    have hnk : ∀ p ∈ news ++ own, p.1 ≠ L' + 1 + 1 := by
      intro p hp
      rcases List.mem_append.mp hp with hp | hp
      · exact Nat.ne_of_lt (Nat.lt_of_lt_of_le (l1 p hp) (by omega))
      · exact hoff p hp _ (by simp)
    have hvs : vs.length = i := by rw [hvi.length, List.length_map, br_len2]
    have hvs2 : vs.toArray.size ≤ 100000 := by rw [List.size_toArray]; omega
    have hrl : row.length + 1 ≤ 2 ^ i := by
      rw [← cps_len, hrow]; exact br_len1 _ i
    have hi4 : 2 ^ i ≤ 2 ^ 4 := Nat.pow_le_pow_right (by decide) (by omega)
    have hne : ∀ p ∈ (L' + 1, o2) :: (news ++ own), p.1 ≠ l' := by
      intro p hp
      rcases List.mem_cons.mp hp with rfl | hp
      · exact Nat.ne_of_lt lt2
      rcases List.mem_append.mp hp with hp | hp
      · exact hlt3 p hp
      · exact hoff p hp _ (by simp)
    have hG := brG_grows x.cps.toList i
    have hpv : ∀ t, IntsAre (vs ++ [Value.int (row.length : Int) t]) (((byRule x.cps.toList i).2 ++ [row.length]).map Int.ofNat) := ints_snoc hvi
    have hpl : (((byRule x.cps.toList i).2 ++ [row.length]).map Int.ofNat).length = i + 1 := by simp [br_len2]
    have hbl := brL_le x.cps.toList i
    have hbe := brE_len x.cps.toList i
    have hbz := br_last' x.cps.toList i
    have hat : (((byRule x.cps.toList i).2 ++ [row.length]).map Int.ofNat).getD ((brL x.cps.toList i : Nat) : Int).toNat 0 = ((((byRule x.cps.toList i).2 ++ [row.length]).getD (brL x.cps.toList i) 0 : Nat) : Int) := by rw [map_getD, Int.toNat_natCast]
    have hrow1 : (byRule x.cps.toList i).1.length = row.length := by rw [← hrow, cps_len]
    change Fr g' L' h2 _ at F2
    change News g' L' h2 _ at N2
    k_steps
    · rename decide (List.map Int.ofNat (brE x.cps.toList i) = []) = true => hE
      rename News g' L' _ _ => N9
      rename Fr g' L' _ _ => F9
      rename Str => z9
      rename z9.cps.toList = _ => hz9
      rename _ = row.cps.toList ++ _ => hz8
      rename Obj => o9
      rename o9.data = _ => d9
      refine TjEnd.intro (nx := (l', _) :: (L' + 1 + 1, _) :: (L' + 1, o2) :: news) F9 N9 (fun p hp => .tail _ (.tail _ (List.mem_append_left own hp))) (fun p hp => .tail _ (.tail _ (List.mem_append_right ((l', _) :: (L' + 1 + 1, _) :: (L' + 1, o2) :: news) hp))) rfl ⟨_, _, _, _, _, _, _, rfl, d9, ?_, ?_, br_fr⟩
      · rw [hz9, hz8, hrow, byRule_succ, brStep, if_pos (br_nil hE)]
        congr 1
        congr 1
        rw [Int.zero_add, item_nat hin]
        have hin' : i < x.cps.size := hin
        simp [Array.getD, hin']
      · rw [byRule_succ, brStep]
        dsimp only
        rw [hrow1]
        exact hpv _
    · rename decide (List.map Int.ofNat (brE x.cps.toList i) = []) = false => hE
      rename News g' L' _ _ => N9
      rename Fr g' L' _ _ => F9
      rename Str => z9
      rename z9.cps.toList = _ => hz9
      rename _ = row.cps.toList.drop _ => hz8
      rename Obj => o9
      rename o9.data = _ => d9
      refine TjEnd.intro (nx := (l', _) :: (L' + 1 + 1, _) :: (L' + 1, o2) :: news) F9 N9 (fun p hp => .tail _ (.tail _ (List.mem_append_left own hp))) (fun p hp => .tail _ (.tail _ (List.mem_append_right ((l', _) :: (L' + 1 + 1, _) :: (L' + 1, o2) :: news) hp))) rfl ⟨_, _, _, _, _, _, _, rfl, d9, ?_, ?_, br_fr⟩
      · rw [hz9, hz8, hrow, byRule_succ, brStep, if_neg (br_cons hE), hrow1]
        rw [Int.toNat_natCast]
      · rw [byRule_succ, brStep]
        dsimp only
        rw [hrow1]
        exact hpv _
    · rename (Txt.item x _ == Txt.item x _) = true => hE
      rename LCg.Off3 _ _ _ ((l', _) :: _) => o9
      exact ⟨_, _, _, rfl, by k_asm, by k_asm, o9, trivial, kci_el (brG_yes hin (by assumption) (by omega) hE) rfl rfl⟩
    · rename (Txt.item x _ == Txt.item x _) = false => hE
      rename LCg.Off3 _ _ _ ((l', _) :: _) => o9
      exact ⟨_, _, _, rfl, by k_asm, by k_asm, o9, trivial, kci_no (brG_no hin (by assumption) (by omega) hE) rfl⟩
  · rintro h2 tk2 m2 nx F2 N2 ⟨vs, c, row, tr, o, ov, ue, rfl, hov, hrow, hvi, rfl⟩
    rename Fr _ _ _ _ => F2
    rename News _ _ _ _ => N2
    change Fr g' L' h2 _ at F2
    change News g' L' h2 _ at N2
    k_steps
    rename News h₀ _ _ _ => N9
    rename _ ∧ _ ∧ _ ∧ AllLt _ news => hl9
    obtain ⟨hl1, hl2, hl3, hl4⟩ := hl9
    refine hret _ [(_, _), (l', _)] _ _ (by k_asm) ?_ ?_ ⟨_, _, row, tr, vs, c, rfl, rfl, hvi, hrow⟩
    · intro p hp
      rcases List.mem_cons.mp hp with rfl | hp
      · exact N9 _ List.mem_cons_self
      rcases List.mem_cons.mp hp with rfl | hp
      · exact N9 _ (.tail _ List.mem_cons_self)
      · exact N9 _ (.tail _ (.tail _ (.tail _ (.tail _ hp))))
    · intro q hq p hp
      rcases List.mem_cons.mp hp with rfl | hp
      · exact kst_ltOf hl4 q hq
      rcases List.mem_cons.mp hp with rfl | hp
      · exact kst_ltOf lt3 q hq
      · cases hp
end Mine

end -- T6

section -- T7
open PySem PySem.W PyProof.Rows PySem.Spec PySem.Calls
set_option maxRecDepth 100000
set_option maxHeartbeats 8000000
set_option pp.deepTerms false
set_option pp.deepTerms.threshold 8
set_option pp.proofs.threshold 2
namespace Mine
local macro_rules | `(tactic| k_steps) => `(tactic| repeat' (first | (k_unfold; (try dsimp only)) | (k_end; wrow_close) | ((fail_if_success (with_reducible show wpAny _ _ (exec (Stmt.For _ _ _ _ _) _) _ _ _)); (fail_if_success (with_reducible show wpAny _ _ (exec (Stmt.While _ _ _ _) _) _ _ _)); (fail_if_success (with_reducible show wpAny _ _ (pyIter _) _ _ _)); (fail_if_success (with_reducible show wpAny _ _ (compareOp CmpOp.NotEq (Value.str _ _) (Value.str _ _)) _ _ _)); (fail_if_success (with_reducible show wpAny _ _ (compareOp CmpOp.NotEq (Value.ref _) (Value.ref _)) _ _ _)); first | walk_at "mine" | walk1 | (dsimp only; walk1) | (leave1; walk_say "STEP leave1"; try dsimp only)) | fail "no step"))
local macro_rules | `(tactic| k_mem) => `(tactic| first | exact List.mem_cons_self | with_reducible assumption | (refine List.mem_cons_of_mem _ ?_; k_mem))
local macro_rules | `(tactic| k_room) => `(tactic| ktr_room)
theorem strs_of {g : Int → Str} : ∀ {ks : List Int} {vs : List Value}, CarriedAll vs (ks.map fun k => PyData.str (g k)) → StrsAre vs (ks.map g)
  | [], _, .nil => .nil
  | _ :: _, _, .cons (.str _ t) r => .cons _ t (strs_of r)
theorem sign_row {mode : Int} (h0 : 0 ≤ mode) : (rangeKs 0 10).map (lsText mode) = fmSigns mode 10 := by
  obtain ⟨m, rfl⟩ := Int.eq_ofNat_of_zero_le h0
  unfold rangeKs fmSigns
  rw [List.map_map]
  refine List.map_congr_left fun i hi => ?_
  have e : (0 : Int) + ((i : Nat) : Int) = (i : Int) := by omega
  show lsText _ ((0 : Int) + ((i : Nat) : Int)) = _
  rw [e]
  exact ls_is m i (List.mem_range.mp hi)
theorem str_eq {x y : Str} (h : x.cps.toList = y.cps.toList) : x = y := by
  cases x; cases y
  simp only [Str.mk.injEq]
  exact Array.ext' h
theorem join_own {prog : Program} {w : World} {A : Around} {E : Value → Shared → Prop} {s : Shared} {h₀ : Heap} {L D : Addr} {news : List (Addr × Obj)} {ys : List Value} {n : Nat} {mode : Int} {z : Str} {t : Tok} {Q : Value → Shared → Prop}
    (N : News h₀ L s.heap news) (hm : (D, LCg.lst ys) ∈ news) (hc : CarriedAll ys ((rangeKs 0 n).map fun k => PyData.str (lsText mode k))) (hn : n = 10) (h0 : 0 ≤ mode) (hz : z.cps.toList = fmCodes mode) (h : ∀ t' k, Q (.str z t') { s with toks := k }) :
    wpAny (model prog w) A (call (.builtin "str.join") [.str (Str.ofString "") t, .ref D]) Q E s := by
  subst hn
  have hs := strs_of hc
  rw [sign_row h0] at hs
  have hL : s.heap.IsList D ys.toArray := ⟨_, (N _ hm).1, rfl, _, rfl⟩
  have hw := fm_weight mode 10
  have hl : (fmSigns mode 10).length = 10 := by simp [fmSigns]
  refine join_listW hL hs (by decide +kernel) (by omega) fun t' k => ?_
  have e : Txt.join (Str.ofString "") (fmSigns mode 10) = z := str_eq (by rw [join_cps, fm_flat, hz]; rfl)
  rw [e]; exact h t' k
abbrev modeOf {l : List Nat} {mode : Int} (_ : l = fmCodes mode) : Int := mode
theorem CnK.use {prog : Program} {w : World} {K : Frag} {p : Program} {loose : List Str} {mean : ExcName → Option Value} {mg mb : Str → Option Value} {f : Addr} {sz : Nat} {vs : List Value} {x : Str} {news : List (Addr × Obj)} {dp un : Nat} {gd : Option (List Code)} {cn : Str} {cs : Scope} {a : Addr} {ccd : Value} {cl : List (Str × Addr)} {outer : List Env} {A₀ : Around} {base h₀ : Heap} {L : Addr} {m : Str → Option Value} {s : Shared} {Q E : Value → Shared → Prop}
    (C : CnK prog w K p loose mean mg mb f sz vs x) (B : Below A₀ base outer h₀) (F : Fr h₀ L s.heap m) (X : K.In h₀) (N : News h₀ L s.heap news) (T : Top p loose mean mg mb h₀) (hk : cs.kind = .function) (hd : dp + sz < recursionLimit) (hu : un + 8 * sz < cLine)
    (ret : ∀ t h' tk', Fr h₀ L h' m → News h₀ L h' news → (∀ b o, s.heap.get? b = some o → h'.get? b = some o) → Q (.str x t) { s with heap := h', toks := tk' }) :
    wpAny (model prog w) (ktrTop dp un gd cn cs L a ccd cl outer) (call (.ref f) vs) Q E s := C dp un gd cn cs a ccd cl outer A₀ base h₀ L m news s Q E B F X N T hk hd hu ret
theorem fm_lo (a : Int) : 0 ≤ a.fmod (2 ^ Int.toNat 32) := Int.fmod_nonneg_of_pos a (by decide)
theorem fm_hi (a : Int) : a.fmod (2 ^ Int.toNat 32) < 2 ^ 40 := Int.lt_trans (Int.fmod_lt_of_pos a (by decide)) (by decide)
theorem fm_len {x : Str} {mode : Int} (h : x.cps.toList = fmCodes mode) : x.length = 10 := by
  rw [← cps_len, h]; simp [fmCodes]
local macro_rules | `(tactic| walk_at "mine") => `(tactic| ((with_reducible show wpAny _ _ (call (Value.builtin "sum") [Value.ref _]) _ _ _); k_dflt (refine' sum_pick ?k0 ?k1 ?k2 ?k3 ?_; (case k0 => rfl); (case k1 => k_asm); (case k2 => k_asm); (case k3 => with_reducible assumption); k_whole); intro ks9 h9 tk9 t9 F9 N9))
local macro_rules | `(tactic| walk_at "mine") => `(tactic| ((with_reducible show wpAny _ _ (call (Value.ref _) [Value.int _ _]) _ _ _); k_dflt (refine' Cn.use (fm_tells _ _ _ _ _ _ _ ?ka ?kb _) ?k1 ?k2 ?k3 ?k4 ?k5 ?kk ?kd ?ku ?_; (case ka => exact fm_lo _); (case kb => exact fm_hi _); (case k1 => k_asm); (case k2 => k_asm); (case k3 => k_asm); (case k4 => k_asm); (case k5 => k_asm); (case kk => exact rfl); (case kd => ktr_room); (case ku => ktr_units)); intro r9 tl9 h9 tk9 F9 N9 l9 o9; obtain ⟨z9, t9, q9, q8, hz9⟩ := o9; subst q9; subst q8; (simp only [List.cons_append, List.nil_append] at N9); (have hl9 := fm_len hz9)))
local macro_rules | `(tactic| walk_at "CompSrc") => `(tactic| (k_dflt (refine LCg.CompSrc.range (by rfl) (by k_asm) (by k_asm) (by assumption) (by decide) (by exact rangeSize_nat _ _) (by rw [PySem.sizeLine_eq]; decide) ?_); intro g9; (with_reducible rename _ = fmCodes _ => hq9); refine' kct_range (lsText (modeOf hq9)) (fun k9 t9 I9 oI9 C9 oC9 D9 m9 ys9 h9 tk9 E9 hlo9 hhi9 hC9 hx9 F9 N9 off9 ne9 hm9 => ?kturn) ?kfin; (case' kturn => (have off8 := off9; (try simp only [LCg.Off3, and_true] at off8); (try k_fold))); (case' kfin => (unfold KPfDone; intro ys9 hys9 hyl9; (try k_fold)))))
local macro_rules | `(tactic| walk_at "mine") => `(tactic| ((with_reducible show wpAny _ _ (call (Value.ref _) [Value.int _ _, Value.int _ _]) _ _ _); k_dflt (refine' CnK.use (ls_tells _ _ _ _ _ _ _ _ ?ka ?kb _ ?kc ?ke) ?k1 ?k2 ?k3 ?k4 ?k5 ?kk ?kd ?ku ?_; (case ka => exact fm_lo _); (case kb => exact fm_hi _); (case kc => omega); (case ke => omega); (case k1 => k_asm); (case k2 => k_asm); (case k3 => k_asm); (case k4 => k_asm); (case k5 => k_asm); (case kk => exact rfl); (case kd => ktr_room); (case ku => ktr_units)); intro t9 h9 tk9 F9 N9 k9))
local macro_rules | `(tactic| walk_at "mine") => `(tactic| ((with_reducible show LCg.CompEnd _ _ _ _ _ _ _ _ _ _ _ _ _ _); exact ⟨_, _, _, rfl, by k_asm, by k_asm, by with_reducible assumption, trivial, kct_el rfl rfl rfl⟩))
local macro_rules | `(tactic| walk_at "mine") => `(tactic| ((with_reducible show wpAny _ _ (call (Value.builtin "str.join") [Value.str _ _, Value.ref _]) _ _ _); k_dflt (refine' join_own ?k1 ?k2 ?k3 ?k4 ?k5 ?k6 ?_; (case k1 => k_asm); (case k2 => k_mem); (case k3 => with_reducible assumption); (case k4 => rfl); (case k5 => exact fm_lo _); (case k6 => with_reducible assumption); k_whole); intro _ _))
theorem gr_ge : ∀ (l row : List Nat), row.length + l.length ≤ (l.foldl growStep row).length
  | [], row => by simp
  | c :: r, row => by
    have h1 := gr_ge r (growStep row c)
    have h2 : row.length + 1 ≤ (growStep row c).length := by
      unfold growStep
      simp only [List.length_append, List.length_cons, List.length_nil]
      omega
    rw [List.foldl_cons, List.length_cons]
    omega
theorem gr_len {x z : Str} (h : x.cps.toList = grown z.cps.toList) (hz : z.length = 5) : 5 ≤ x.length ∧ x.length ≤ 62 := by
  rw [← cps_len] at hz
  rw [← cps_len x, h]
  have h1 := grown_len z.cps.toList []
  have h2 := gr_ge z.cps.toList []
  rw [hz] at h1 h2
  unfold grown
  simp only [List.length_nil] at h1 h2
  omega
local macro_rules | `(tactic| walk_at "mine") => `(tactic| ((with_reducible show wpAny _ _ (subscriptTail _ (Expr.Slice (some _) (some _) none _) (Value.str _ _) _) _ _ _); (with_reducible rename Fr _ _ _ _ => F'); (with_reducible rename News _ _ _ _ => N'); refine str_ft (s := ⟨_, _, _, _, _⟩) F' N' (by omega) (by omega) (by omega) (by omega) ?_; intro z' h' t' c' hz' hzl' F' N'))
local macro_rules | `(tactic| walk_at "mine") => `(tactic| ((with_reducible show wpAny _ _ (call (Value.ref _) [Value.str _ _]) _ _ _); first
  | (k_dflt (refine' Cn.use (gr_tells _ _ _ _ _ _ _ ?ka _) ?k1 ?k2 ?k3 ?k4 ?k5 ?kk ?kd ?ku ?_; (case ka => omega); (case k1 => k_asm); (case k2 => k_asm); (case k3 => k_asm); (case k4 => k_asm); (case k5 => k_asm); (case kk => exact rfl); (case kd => ktr_room); (case ku => ktr_units)); intro r9 tl9 h9 tk9 F9 N9 l9 o9; obtain ⟨x9, t9, q9, q8, hx9⟩ := o9; subst q9; subst q8; (simp only [List.cons_append, List.nil_append] at N9); (have hxl9 := gr_len hx9 (by omega)))
  | (k_dflt (refine' Cn.use (br_tells _ _ _ _ _ _ _ ?ka _) ?k1 ?k2 ?k3 ?k4 ?k5 ?kk ?kd ?ku ?_; (case ka => omega); (case k1 => k_asm); (case k2 => k_asm); (case k3 => k_asm); (case k4 => k_asm); (case k5 => k_asm); (case kk => exact rfl); (case kd => ktr_room); (case ku => ktr_units)); intro r9 tl9 h9 tk9 F9 N9 l9 o9; obtain ⟨a9, D9, x9, t9, vs9, c9, q9, q8, hi9, hx9⟩ := o9; subst q9; subst q8; (simp only [List.cons_append, List.nil_append] at N9))
  | (k_dflt (refine' Cn.use (tab_str _ _ _ _ _ _ _ ?kx _) ?k1 ?k2 ?k3 ?k4 ?k5 ?kk ?kd ?ku ?_; (case kx => omega); (case k1 => k_asm); (case k2 => k_asm); (case k3 => k_asm); (case k4 => k_asm); (case k5 => k_asm); (case kk => exact rfl); (case kd => ktr_room); (case ku => ktr_units)); intro r9 tl9 h9 tk9 F9 N9 l9 o9; obtain ⟨a9, vs9, n9, ts9, q9, q8, hi9, ht9⟩ := o9; subst q9; subst q8; (simp only [List.cons_append, List.nil_append] at N9))))
local macro_rules | `(tactic| walk_at "mine") => `(tactic| ((with_reducible show wpAny _ _ (call (Value.ref _) [Value.ref _]) _ _ _); k_dflt (refine' Cn.use (ovl_tells _ _ _ _ _ _ _ _ _ _ ?ka ?kb ?kc ?kf _ ?km) ?k1 ?k2 ?k3 ?k4 ?k5 ?kk ?kd ?ku ?_; (case k4 => k_asm); (case km => k_mem); (case ka => with_reducible assumption); (case kb => with_reducible assumption); (case kc => (rw [cps_len]; omega)); (case kf => (rw [cps_len]; omega)); (case k1 => k_asm); (case k2 => k_asm); (case k3 => k_asm); (case k5 => k_asm); (case kk => exact rfl); (case kd => ktr_room); (case ku => ktr_units)); intro r9 tl9 h9 tk9 F9 N9 l9 o9; obtain ⟨a9, vs9, n9, q9, q8, hi9⟩ := o9; subst q9; subst q8; (simp only [List.cons_append, List.nil_append] at N9)))
local macro_rules | `(tactic| walk_at "TjPost") => `(tactic| (dsimp only [TjPost]))
theorem fr2 {m : Str → Option Value} {x y : Str} {a b : Option Value} (h1 : m x = a) (h2 : m y = b) : m = fun z => if z = x then a else if z = y then b else m z := by
  funext z
  by_cases e1 : z = x
  · subst e1; simp [h1]
  · by_cases e2 : z = y
    · subst e2; simp [e1, h2]
    · simp [e1, e2]
theorem news_lt {h₀ h : Heap} {L : Addr} {news : List (Addr × Obj)} (N : News h₀ L h news) : ∀ p ∈ news, p.1 ≠ h.objs.size := fun p hp => Nat.ne_of_lt (Heap.lt_size (N p hp).1)
theorem half_cmp {prog : Program} {w : World} {A : Around} {E : Value → Shared → Prop} {s : Shared} {Q : Value → Shared → Prop} {x y z z1 z2 : Str} {t u : Tok} {mode : Int} {c : Nat}
    (hg : x.cps.toList = grown z1.cps.toList) (hb : y.cps.toList = (byRule z2.cps.toList z2.length).1)
    (hz1 : z1.cps.toList = (z.cps.toList.drop ((c : Nat) : Int).toNat).take (((c : Nat) : Int) + 5 - ((c : Nat) : Int)).toNat)
    (hz2 : z2.cps.toList = (z.cps.toList.drop ((c : Nat) : Int).toNat).take (((c : Nat) : Int) + 5 - ((c : Nat) : Int)).toNat)
    (hq : z.cps.toList = fmCodes mode) (hc : c = 0 ∨ c = 5)
    (h : y = x → (bds x.cps.toList x.cps.toList.length x.cps.toList.length).map Int.ofNat = (((byRule z2.cps.toList z2.length).2.map Int.ofNat).drop 1).reverse → (byRule z2.cps.toList z2.length).2.length = 5 → Q (.bool false) s) :
    wpAny (model prog w) A (compareOp .NotEq (.str x t) (.str y u)) Q E s := by
  have e5 : (((c : Nat) : Int) + 5 - ((c : Nat) : Int)).toNat = 5 := by omega
  rw [Int.toNat_natCast, e5, hq] at hz1 hz2
  have ok := okHalf_tells (halves mode c hc)
  have hl2 : z2.length = (((fmCodes mode).drop c).take 5).length := by rw [← cps_len, hz2]
  have hl5 : z2.length = 5 := by
    rw [hl2]
    rcases hc with rfl | rfl <;> simp [fmCodes]
  have e : y = x := str_eq (by rw [hb, hg, hz1, ok.1, hl2, hz2])
  subst e
  refine cmp_same (h rfl ?_ ?_)
  · rw [hg, hz1, ok.2, hl2, hz2, List.map_reverse, List.map_drop]
  · rw [br_len2, hl5]
theorem fr4 {m : Str → Option Value} {x y x' y' : Str} {a b a' b' : Option Value} (h1 : m x = a) (h2 : m y = b) (h3 : m x' = a') (h4 : m y' = b') : m = fun z => if z = x then a else if z = y then b else if z = x' then a' else if z = y' then b' else m z := by
  funext z
  by_cases e1 : z = x
  · subst e1; simp [h1]
  · by_cases e2 : z = y
    · subst e2; simp [e1, h2]
    · by_cases e3 : z = x'
      · subst e3; simp [e1, e2, h3]
      · by_cases e4 : z = y'
        · subst e4; simp [e1, e2, e3, h4]
        · simp [e1, e2, e3, e4]
theorem holds : PySem.Challenge.rw_tv0022_02.Holds := hd2 (by
  w_strict (
    k_go0
    (all_goals try k_fold)
    k_steps
    rename Fr _ _ _ _ => F1
    rename News _ _ _ _ => N1
    refine for_tj F1 ?_
    k_steps
    rename IsRange _ _ _ _ _ _ _ _ => R1
    rename Fr _ _ _ _ => F2
    rename News _ _ _ _ => N2
    refine tj_range (n := 2) (fun i m nx => ∃ (u : Str → Option Value) (o : Obj) (ov : Option Value), nx = [(_, _), (_, o)] ∧ o.data = Data.cell ov ∧ m = fun y => if y = Str.ofString "starts" then some (Value.ref _) else if y = Str.ofString "script" then some (Value.ref _) else u y) (by rfl) R1 (by decide) (by rfl) F2 N2 ⟨_, _, _, rfl, by with_unfolding_all assumption, fr2 (by rfl) (by with_unfolding_all rfl)⟩ ?_ ?_
    · rintro i t2 m2 nx h3 tk3 own hin ⟨u, o, ov, e1, hov, e2⟩ hadr hoff F3 N3
      subst e1
      subst e2
      simp only [List.cons_append, List.nil_append] at N3
      k_steps
      refine cmp_same ?_
      k_steps
      rename Fr _ _ _ _ => F4
      refine for_tj F4 ?_
      k_steps
      rename Fr _ _ _ _ => F5
      rename News _ _ _ _ => N5
      refine tj_tupN (fun i m nx => nx = _ ∧ ∃ (u : Str → Option Value), m = fun y => if y = Str.ofString "starts" then some (Value.ref _) else if y = Str.ofString "script" then some (Value.ref _) else if y = Str.ofString "listing" then some (Value.str _ _) else if y = Str.ofString "own" then some (Value.str _ _) else u y) (by rfl) F5 N5 ?hne ⟨rfl, _, fr4 (by rfl) (by rfl) (by rfl) (by rfl)⟩ ?_ ?_
      case hne => exact news_lt (by assumption)
      · rintro i4 v4 m4 nx4 h4 tk4 own4 hin4 hv4 ⟨e4, u4, e5⟩ hadr4 hoff4 F6 N6
        subst e4
        subst e5
        simp only [List.cons_append, List.nil_append] at N6
        have hv : ∃ (c : Nat) (tc : Tok), v4 = Value.int (c : Int) tc ∧ (c = 0 ∨ c = 5) := by
          have h2 : i4 = 0 ∨ i4 = 1 := by
            have : i4 < 2 := hin4
            omega
          rcases h2 with rfl | rfl
          · exact ⟨0, _, (Option.some.inj hv4).symm, .inl rfl⟩
          · exact ⟨5, _, (Option.some.inj hv4).symm, .inr rfl⟩
        obtain ⟨c, tc, hvc, hc⟩ := hv
        subst hvc
        k_steps
        refine half_cmp (by assumption) (by assumption) (by assumption) (by assumption) (by assumption) hc ?_
        intro ey hbd hb5
        subst ey
        k_steps
        refine cmp_lens (by assumption) (by assumption) hb5 (by assumption) hbd (by ktr_units) ?_
        k_steps
        rename Fr _ _ _ _ => F7
        rename News _ _ _ _ => N7
        refine TjEnd.intro F7 N7 ?hn ?ho ?ha ⟨rfl, _, fr4 (by rfl) (by rfl) (by rfl) (by rfl)⟩
        case ha => rfl
        case hn => exact fun p hp => .tail _ (.tail _ (.tail _ (.tail _ (.tail _ (List.mem_append_left own4 hp)))))
        case ho => exact fun p hp => .tail _ (.tail _ (.tail _ (.tail _ (.tail _ (List.mem_append_right (_ :: _ :: _ :: own) hp)))))
      · rintro h4 tk4 m4 nx4 F6 N6 ⟨e4, u4, e5⟩
        subst e4
        subst e5
        k_steps
        rename Fr _ _ _ _ => F7
        rename News _ _ _ _ => N7
        refine TjEnd.intro F7 N7 ?hn ?ho ?ha ⟨_, _, _, rfl, by assumption, fr2 (by rfl) (by rfl)⟩
        case ha => rfl
        case hn => exact fun p hp => .tail _ (List.mem_append_left own hp)
        case ho => exact fun p hp => .tail _ (.tail _ (.tail _ hp))
    · rintro h4 tk4 m4 nx4 F6 N6 ⟨u, o, ov, e1, hov, e2⟩
      subst e1
      subst e2
      k_steps))
end Mine

end -- T7

set_option maxRecDepth 100000 in
set_option maxHeartbeats 8000000 in
theorem PySem.Challenge.cw_tv0022_02_holds : PySem.Challenge.rw_tv0022_02.Holds := by
  exact Mine.holds

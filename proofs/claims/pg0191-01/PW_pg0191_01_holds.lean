import PyProof.Rows.All
import Wide.All
import OpenK.AllK
import Wide.FinOn
import PySem.Challenge.RW_pg0191_01
open PySem PySem.W PyProof.Rows PySem.Calls PySem.Spec PyProof.V
set_option Elab.async false
namespace Mine
set_option maxRecDepth 100000 in
set_option maxHeartbeats 8000000 in
open_top hd for PySem.Challenge.rw_pg0191_01
end Mine
namespace Mine
/-! a loop whose ledger may grow: any state -/
def TurnPost {σ : Type} (h₀ : Heap) (L : Addr) (x : Str) (wr : List Addr) (own : List (Addr × Obj)) (Led : σ → List (Addr × Obj)) (M : σ → Str → Option Value) (J : σ → Prop) (s₁ : Shared) (Q : Flow → Shared → Prop) (f : Flow) (s₂ : Shared) : Prop :=
  match f with
  | .ret v => Q (.ret v) s₂
  | .brk => Q .next s₂
  | _ => ∃ c h' tk m', s₂ = { s₁ with heap := h', toks := tk } ∧ Fr h₀ L h' m' ∧ (∀ y, y ≠ x → m' y = M c y) ∧ News h₀ L h' (Led c ++ own) ∧ (∀ p ∈ Led c, p.1 ∉ wr) ∧ J c
section
variable {prog : Program} {w : World} {A : Around} {E : Value → Shared → Prop} {s : Shared} {env : Env} {h₀ : Heap} {x : Str} {body : List Stmt} {Q : Flow → Shared → Prop}
theorem loop_any {σ : Type} {I : Addr} {fp wr : List Addr} {n : Nat} {P : Nat → Value → Prop} {St : Nat → Heap → Prop} {m₀ : Str → Option Value} (Led : σ → List (Addr × Obj)) (M : σ → Str → Option Value) (J : Nat → σ → Prop) (c₀ : σ)
    (W : Walks prog w A I fp wr n P St) (hLf : env.locals ∉ fp) (hwr : ∀ b ∈ wr, h₀.get? b = none) (hnw : ∀ p ∈ Led c₀, p.1 ∉ wr) (hst : St 0 s.heap) (F : Fr h₀ env.locals s.heap m₀) (hm : ∀ y, y ≠ x → m₀ y = M c₀ y) (N : News h₀ env.locals s.heap (Led c₀)) (hj : J 0 c₀)
    (turn : ∀ i v c h tk own, i < n → P i v → J i c → (∀ p ∈ Led c, p.1 ∉ wr) → (∀ b ∈ fp, h₀.get? b = none → ∀ o, h.get? b = some o → (b, o) ∈ own) → St (i + 1) h → Fr h₀ env.locals h (fun y => if y = x then some v else M c y) → News h₀ env.locals h (Led c ++ own) →
      wpAny (model prog w) A (execs body env) (TurnPost h₀ env.locals x wr own Led M (J (i + 1)) { s with heap := h, toks := tk } Q) E { s with heap := h, toks := tk })
    (done : ∀ c (u : Str → Option Value) h tk, J n c → Fr h₀ env.locals h (fun y => if y = x then u y else M c y) → News h₀ env.locals h (Led c) → Q .next { s with heap := h, toks := tk }) :
    LoopAtV prog w A h₀ env x body Q E (.ref I) s := by
  let J' : Nat → (Str → Option Value) → List (Addr × Obj) → Prop := fun i m₁ news₁ => ∃ c, news₁ = Led c ∧ (∀ y, y ≠ x → m₁ y = M c y) ∧ (∀ p ∈ Led c, p.1 ∉ wr) ∧ J i c
  refine ⟨I, fp, wr, n, P, St, m₀, Led c₀, J', rfl, W, hLf, hwr, hnw, hst, F, N, ⟨c₀, rfl, hm, hnw, hj⟩, ?_, ?_⟩
  · rintro i v m₁ news₁ s₁ own ⟨hh', tk', rfl⟩ hin hP ⟨c, rfl, hmc, hlw, hJ⟩ hoff hown hheap hfp hst' F₁ N₁
    have em : (fun y => if y = x then some v else m₁ y) = (fun y => if y = x then some v else M c y) := by
      funext y
      by_cases hy : y = x
      · rw [if_pos hy, if_pos hy]
      · rw [if_neg hy, if_neg hy]; exact hmc y hy
    rw [em] at F₁
    have N₂ : News h₀ env.locals hh' (Led c ++ own) := fun p hp => N₁ p ((List.mem_append.mp hp).elim (fun h => List.mem_append.mpr (.inr h)) fun h => List.mem_append.mpr (.inl h))
    refine wpAny_mono (turn i v c hh' tk' own hin hP hJ hlw hfp hst' F₁ N₂) (fun f s₂ p => ?_) fun _ _ e => e
    have fin : (∃ c h' tk m', s₂ = { ({ s with heap := hh', toks := tk' } : Shared) with heap := h', toks := tk } ∧ Fr h₀ env.locals h' m' ∧ (∀ y, y ≠ x → m' y = M c y) ∧ News h₀ env.locals h' (Led c ++ own) ∧ (∀ p ∈ Led c, p.1 ∉ wr) ∧ J (i + 1) c) →
        LoopStepU h₀ env.locals wr own (J' (i + 1)) { s with heap := hh', toks := tk' } .next s₂ := by
      rintro ⟨c', h', tk, m', e, F', hm', N', hw', hj'⟩
      exact ⟨rfl, h', tk, m', Led c', e, F', fun p hp => N' p ((List.mem_append.mp hp).elim (fun h => List.mem_append.mpr (.inr h)) fun h => List.mem_append.mpr (.inl h)), hw', c', rfl, hm', hw', hj'⟩
    cases f with
    | ret v => exact .ret p
    | brk => exact .brk p
    | next => exact .next (fin p)
    | cont => exact .cont (fin p)
  · rintro h' tk m' news' F' N' _ ⟨c, rfl, hmc, _, hJ⟩
    refine done c m' h' tk hJ ?_ N'
    have em : (fun y => if y = x then m' y else M c y) = m' := by
      funext y
      by_cases hy : y = x
      · rw [if_pos hy]
      · rw [if_neg hy]; exact (hmc y hy).symm
    rw [em]; exact F'

theorem allLt_mem {d : Addr} : ∀ {l : List (Addr × Obj)}, AllLt d l → ∀ p ∈ l, p.1 < d
  | [], _, _, hp => nomatch hp
  | _ :: _, ⟨h, _⟩, _, .head _ => h
  | _ :: _, ⟨_, h⟩, _, .tail _ hp => allLt_mem h _ hp

theorem loop_textC {σ : Type} {xt : Str} {o : Obj} {St : Nat → Heap → Prop} {m₀ : Str → Option Value} (Led : σ → List (Addr × Obj)) (M : σ → Str → Option Value) (J : Nat → σ → Prop) (c₀ : σ)
    (W : Walks prog w A s.heap.objs.size [s.heap.objs.size] [s.heap.objs.size] xt.cps.size (SignAt xt) St) (hst : St 0 (s.heap.push o)) (hSt : ∀ i h, St i h → ∃ o, h.get? s.heap.objs.size = some o)
    (F : Fr h₀ env.locals s.heap m₀) (N : News h₀ env.locals s.heap (Led c₀)) (hm : ∀ y, y ≠ x → m₀ y = M c₀ y) (hj : J 0 c₀)
    (turn : ∀ (i k : Nat) t c h tk I oI own, xt.cps[i]? = some k → J i c → (∀ p ∈ Led c, p.1 ∉ [I]) → (I, oI) ∈ own → Fr h₀ env.locals h (fun y => if y = x then some (.str ⟨#[k]⟩ t) else M c y) → News h₀ env.locals h (Led c ++ own) →
      wpAny (model prog w) A (execs body env) (TurnPost h₀ env.locals x [I] own Led M (J (i + 1)) { s with heap := h, toks := tk } Q) E { s with heap := h, toks := tk })
    (done : ∀ c (u : Str → Option Value) h tk, J xt.cps.size c → Fr h₀ env.locals h (fun y => if y = x then u y else M c y) → News h₀ env.locals h (Led c) → Q .next { s with heap := h, toks := tk }) :
    LoopAtV prog w A h₀ env x body Q E (.ref s.heap.objs.size) { s with heap := s.heap.push o } := by
  refine loop_any Led M J c₀ W ?_ ?_ ?_ hst (F.push _) hm (fun p hp => ⟨Heap.get?_push_of_some _ (N p hp).1, (N p hp).2⟩) hj ?_ ?_
  · intro hm
    exact absurd F.ns.lt ((List.mem_singleton.mp hm) ▸ Nat.lt_irrefl _)
  · intro b' hb
    rw [List.mem_singleton.mp hb]
    exact next_is_new F
  · intro p hp hI
    exact absurd (Heap.lt_size (N p hp).1) ((List.mem_singleton.mp hI) ▸ Nat.lt_irrefl _)
  · rintro i v c h tk own hi ⟨k, u, hk, rfl⟩ hJ hlw hfp hst' F₁ N₁
    obtain ⟨oI, ho⟩ := hSt _ _ hst'
    exact turn i k u c h tk _ oI own hk hJ hlw (hfp _ (.head _) (next_is_new F) _ ho) F₁ N₁
  · intro c u h tk hJ F₁ N₁
    exact done c u h tk hJ F₁ N₁
/-- the loop over a text's signs; own holds the iterator's own entry -/
theorem loop_text {σ : Type} {xt : Str} {tx : Tok} {m₀ : Str → Option Value} (Led : σ → List (Addr × Obj)) (M : σ → Str → Option Value) (J : Nat → σ → Prop) (c₀ : σ)
    (hh : A.handled = none) (F : Fr h₀ env.locals s.heap m₀) (N : News h₀ env.locals s.heap (Led c₀)) (hm : ∀ y, y ≠ x → m₀ y = M c₀ y) (hj : J 0 c₀)
    (turn : ∀ (i k : Nat) t c h tk I oI own, xt.cps[i]? = some k → J i c → (∀ p ∈ Led c, p.1 ∉ [I]) → (I, oI) ∈ own → Fr h₀ env.locals h (fun y => if y = x then some (.str ⟨#[k]⟩ t) else M c y) → News h₀ env.locals h (Led c ++ own) →
      wpAny (model prog w) A (execs body env) (TurnPost h₀ env.locals x [I] own Led M (J (i + 1)) { s with heap := h, toks := tk } Q) E { s with heap := h, toks := tk })
    (done : ∀ c (u : Str → Option Value) h tk, J xt.cps.size c → Fr h₀ env.locals h (fun y => if y = x then u y else M c y) → News h₀ env.locals h (Led c) → Q .next { s with heap := h, toks := tk }) :
    wpAny (model prog w) A (pyIter (.str xt tx)) (fun it s₂ => LoopAtV prog w A h₀ env x body Q E it s₂) E s := by
  cases ha : xt.cps.all (· < 128)
  · refine wpAny_pyIter_wide ha ?_
    exact loop_textC Led M J c₀ (Walks.strWide hh _ xt tx) ⟨_, Heap.get?_push_size _ rfl, rfl, rfl⟩ (fun i h ⟨o, ho, _⟩ => ⟨o, ho⟩) F N hm hj turn done
  · refine wpAny_pyIter_ascii ha ?_
    exact loop_textC Led M J c₀ (Walks.strAscii hh _ xt tx) ⟨_, Heap.get?_push_size _ rfl, rfl, rfl⟩ (fun i h ⟨o, ho, _⟩ => ⟨o, ho⟩) F N hm hj turn done

/-- the loop over a range, any step; own holds the iterator's own entry -/
theorem loop_range {σ : Type} {r : Addr} {a₀ b₀ d : Int} {t₀ u₀ v₀ : Tok} {m₀ : Str → Option Value} (Led : σ → List (Addr × Obj)) (M : σ → Str → Option Value) (J : Nat → σ → Prop) (c₀ : σ)
    (hh : A.handled = none) (hr : IsRange s.heap r a₀ b₀ d t₀ u₀ v₀) (hsmall : Builtin.Range.small a₀ b₀ d = true) (F : Fr h₀ env.locals s.heap m₀) (N : News h₀ env.locals s.heap (Led c₀)) (hm : ∀ y, y ≠ x → m₀ y = M c₀ y) (hj : J 0 c₀)
    (turn : ∀ (i : Nat) t c h tk I oI own, i < (Builtin.Range.rangeSize a₀ b₀ d).toNat → J i c → (∀ p ∈ Led c, p.1 ∉ [I]) → (I, oI) ∈ own → Fr h₀ env.locals h (fun y => if y = x then some (.int (a₀ + (i : Int) * d) t) else M c y) → News h₀ env.locals h (Led c ++ own) →
      wpAny (model prog w) A (execs body env) (TurnPost h₀ env.locals x [I] own Led M (J (i + 1)) { s with heap := h, toks := tk } Q) E { s with heap := h, toks := tk })
    (done : ∀ c (u : Str → Option Value) h tk, J (Builtin.Range.rangeSize a₀ b₀ d).toNat c → Fr h₀ env.locals h (fun y => if y = x then u y else M c y) → News h₀ env.locals h (Led c) → Q .next { s with heap := h, toks := tk }) :
    wpAny (model prog w) A (pyIter (.ref r)) (fun it s₂ => LoopAtV prog w A h₀ env x body Q E it s₂) E s := by
  refine wpAny_pyIter_range hr hsmall ?_
  have hn := rangeSize_toNat a₀ b₀ d
  have W : Walks prog w A s.heap.objs.size [s.heap.objs.size] [s.heap.objs.size] (Builtin.Range.rangeSize a₀ b₀ d).toNat (fun i v => ∃ t, v = .int (a₀ + i * d) t)
      (fun i h => IsRangeIter h s.heap.objs.size (a₀ + (i : Nat) * d) (((Builtin.Range.rangeSize a₀ b₀ d).toNat : Int) - (i : Nat)) d) := (Walks.range hh _ a₀ d _)
  refine loop_any Led M J c₀ W ?_ ?_ ?_ (by show IsRangeIter _ _ _ _ _; rw [← hn]; simpa using Heap.get?_push_size _ rfl) (F.push _) hm (fun p hp => ⟨Heap.get?_push_of_some _ (N p hp).1, (N p hp).2⟩) hj ?_ ?_
  · intro hm
    exact absurd F.ns.lt ((List.mem_singleton.mp hm) ▸ Nat.lt_irrefl _)
  · intro b' hb
    rw [List.mem_singleton.mp hb]
    exact next_is_new F
  · intro p hp hI
    exact absurd (Heap.lt_size (N p hp).1) ((List.mem_singleton.mp hI) ▸ Nat.lt_irrefl _)
  · rintro i v c h tk own hi ⟨t, rfl⟩ hJ hlw hfp hst' F₁ N₁
    exact turn i t c h tk _ _ own hi hJ hlw (hfp _ (.head _) (next_is_new F) _ hst') F₁ N₁
  · intro c u h tk hJ F₁ N₁
    exact done c u h tk hJ F₁ N₁
end
section
variable {s : Shared} {L : Addr} {h₀ : Heap} {x : Str} {Q : Flow → Shared → Prop}
/-- a turn's end: the names that a turn changes, the others as they stood -/
theorem turn_end {σ : Type} {I : Addr} {own : List (Addr × Obj)} {Led : σ → List (Addr × Obj)} {ps : σ → List (Str × Value)} {J : σ → Prop} {m₀ m' : Str → Option Value} {h h' : Heap} {tk tk' : Nat} (c : σ)
    (F : Fr h₀ L h' m') (h1 : ∀ p ∈ ps c, m' p.1 = some p.2) (h2 : ∀ y, y ≠ x → (∀ p ∈ ps c, y ≠ p.1) → m' y = m₀ y) (N : News h₀ L h' (Led c ++ own)) (hw : ∀ p ∈ Led c, p.1 ∉ [I]) (hJ : J c) :
    TurnPost h₀ L x [I] own Led (fun c => kstB m₀ (ps c)) J { s with heap := h, toks := tk } Q .next { s with heap := h', toks := tk' } :=
  ⟨c, h', tk', m', rfl, F, fun y hy => (kstB_eq h1 fun hn => (h2 y hy hn).symm).symm, N, hw, hJ⟩
theorem start_map {ps : List (Str × Value)} {m₀ : Str → Option Value} (h1 : ∀ p ∈ ps, m₀ p.1 = some p.2) (y : Str) (_ : y ≠ x) : m₀ y = kstB m₀ ps y := (kstB_eq h1 fun _ => rfl).symm
end
section
variable {prog : Program} {w : World} {A : Around} {E : Value → Shared → Prop} {s : Shared} {env : Env} {h₀ : Heap} {x : Str} {body : List Stmt} {Q : Flow → Shared → Prop}
abbrev IntTurn (h₀ : Heap) (L : Addr) (x y : Str) (I : Addr) (own news : List (Addr × Obj)) (m₀ : Str → Option Value) (J : Int → Prop) (s₁ : Shared) (Q : Flow → Shared → Prop) : Flow → Shared → Prop :=
  TurnPost (σ := Int × Tok) h₀ L x [I] own (fun _ => news) (fun c => kstB m₀ [(y, .int c.1 c.2)]) (fun c => J c.1) s₁ Q
theorem range_int {r : Addr} {a₀ b₀ d : Int} {t₀ u₀ v₀ tv₀ : Tok} {m₀ : Str → Option Value} {news : List (Addr × Obj)} {w₀ : Int} (y : Str) (J : Nat → Int → Prop)
    (hh : A.handled = none) (hr : IsRange s.heap r a₀ b₀ d t₀ u₀ v₀) (hsmall : Builtin.Range.small a₀ b₀ d = true) (F : Fr h₀ env.locals s.heap m₀) (N : News h₀ env.locals s.heap news) (hy : m₀ y = some (.int w₀ tv₀)) (hj : J 0 w₀)
    (turn : ∀ (i : Nat) t v tv h tk I oI own, i < (Builtin.Range.rangeSize a₀ b₀ d).toNat → J i v → (∀ p ∈ news, p.1 ∉ [I]) → (I, oI) ∈ own → Fr h₀ env.locals h (fun z => if z = x then some (.int (a₀ + (i : Int) * d) t) else if z = y then some (.int v tv) else m₀ z) → News h₀ env.locals h (news ++ own) →
      wpAny (model prog w) A (execs body env) (IntTurn h₀ env.locals x y I own news m₀ (J (i + 1)) { s with heap := h, toks := tk } Q) E { s with heap := h, toks := tk })
    (done : ∀ v tv (u : Str → Option Value) h tk, J (Builtin.Range.rangeSize a₀ b₀ d).toNat v → Fr h₀ env.locals h (fun z => if z = x then u z else if z = y then some (.int v tv) else m₀ z) → News h₀ env.locals h news → Q .next { s with heap := h, toks := tk }) :
    wpAny (model prog w) A (pyIter (.ref r)) (fun it s₂ => LoopAtV prog w A h₀ env x body Q E it s₂) E s :=
  loop_range (σ := Int × Tok) (fun _ => news) (fun c => kstB m₀ [(y, .int c.1 c.2)]) (fun i c => J i c.1) (w₀, tv₀) hh hr hsmall F N
    (start_map (by intro p hp; rw [List.mem_singleton.mp hp]; exact hy)) hj (fun i t c h tk I oI own hi hJ hw hI F₁ N₁ => turn i t c.1 c.2 h tk I oI own hi hJ hw hI F₁ N₁) fun c u h tk hJ F₁ N₁ => done c.1 c.2 u h tk hJ F₁ N₁
theorem int_end {I L : Addr} {y : Str} {own news : List (Addr × Obj)} {J : Int → Prop} {m₀ m' : Str → Option Value} {h h' : Heap} {tk tk' : Nat} {v : Int} {tv : Tok}
    (F : Fr h₀ L h' m') (h1 : m' y = some (.int v tv)) (h2 : ∀ z, z ≠ x → z ≠ y → m' z = m₀ z) (N : News h₀ L h' (news ++ own)) (hw : ∀ p ∈ news, p.1 ∉ [I]) (hJ : J v) :
    IntTurn h₀ L x y I own news m₀ J { s with heap := h, toks := tk } Q .next { s with heap := h', toks := tk' } :=
  turn_end (σ := Int × Tok) (ps := fun c => [(y, .int c.1 c.2)]) (v, tv) F (by intro p hp; rw [List.mem_singleton.mp hp]; exact h1) (fun z hz hn => h2 z hz (hn _ (.head _))) N hw hJ
end
theorem small_of {a b d : Int} (ha0 : 0 ≤ a) (ha1 : a ≤ 1000) (hb0 : 0 ≤ b) (hb1 : b ≤ 1000) (hd0 : 1 ≤ d) (hd1 : d ≤ 1000) : Builtin.Range.small a b d = true := by
  have hs : 0 ≤ Builtin.Range.rangeSize a b d ∧ Builtin.Range.rangeSize a b d ≤ 100000 := by
    unfold Builtin.Range.rangeSize
    rw [if_pos (by omega)]
    split
    · have h1 : 0 ≤ (b - a - 1) / d := Int.ediv_nonneg (by omega) (by omega)
      have h2 : (b - a - 1) / d ≤ b - a - 1 := Int.ediv_le_self _ (by omega)
      omega
    · omega
  unfold Builtin.Range.small
  simp only [Builtin.Range.rangeFitsLong, Bool.and_eq_true, Bool.or_eq_true, beq_iff_eq, decide_eq_true_eq]
  refine ⟨by omega, .inr ?_⟩
  rw [if_pos (by omega)]
  simp only [Bool.and_eq_true, decide_eq_true_eq]
  omega
end Mine
namespace Mine
theorem flat_at : ∀ {kvs : List (Int × Value)} {c : List (Int × Int)} {i : Nat} {k : Int} {v : Value}, FlatPairs PyData.int kvs (kdfD c) → kvs[i]? = some (k, v) → ∃ x t, c[i]? = some (k, x) ∧ v = .int x t
  | [], _, _, _, _, _, e => by simp at e
  | (k', v') :: kvs, [], _, _, _, h, _ => by cases h
  | (k', v') :: kvs, (k2, x2) :: c, i, k, v, h, e => by
    obtain ⟨hv, hr, hk⟩ : Flat v' (PyData.int x2) ∧ FlatPairs PyData.int kvs (kdfD c) ∧ k' = k2 := by
      cases h with
      | cons a b => exact ⟨a, b, rfl⟩
    cases i with
    | zero =>
      obtain ⟨t, ht⟩ := PyProof.V.Flat.int_inv hv
      simp at e
      exact ⟨x2, t, by simp [← e.1, hk], by rw [← e.2, ht]⟩
    | succ i =>
      obtain ⟨x, t, h1, h2⟩ := flat_at hr (by simpa using e)
      exact ⟨x, t, by simpa using h1, h2⟩
theorem flat_len : ∀ {kvs : List (Int × Value)} {c : List (Int × Int)}, FlatPairs PyData.int kvs (kdfD c) → kvs.length = c.length
  | [], [], _ => rfl
  | [], _ :: _, h => by cases h
  | _ :: _, [], h => by cases h
  | _ :: kvs, _ :: c, h => by
    cases h with
    | cons a b => rw [List.length_cons, List.length_cons, flat_len b]
theorem int_key {prog : Program} {w : World} {k : Int} {key : Value} (h : (intKind prog w).is k key = true) : ∃ t, key = .int k t := by
  cases key <;> simp [intKind, Value.isInt] at h
  exact ⟨_, by rw [h]⟩
section
variable {prog : Program} {w : World} {A : Around} {E : Value → Shared → Prop} {s : Shared} {env : Env} {h₀ : Heap} {Q : Flow → Shared → Prop}
def itObj (d : Addr) (i n ep : Nat) (ok ov : Value) : Obj := { cls := .type "dict_itemiterator", data := .fields #[.none, .bool false, .ref d, .int i 0, .int n 0, .int ep 0, ok, ov] }
def ItemsPost (h₀ : Heap) (L : Addr) (xk xv : Str) (D I : Addr) (oI : Obj) (rest : List (Addr × Obj)) (m₀ : Str → Option Value) (J : Obj → Prop) (s₁ : Shared) (f : Flow) (s₂ : Shared) : Prop :=
  f = .next ∧ ∃ o h' tk m', s₂ = { s₁ with heap := h', toks := tk } ∧ Fr h₀ L h' m' ∧ (∀ y, y ≠ xk → y ≠ xv → m' y = m₀ y) ∧ News h₀ L h' ((D, o) :: (I, oI) :: rest) ∧ J o
theorem items_loop {R : Result → Shared → Prop} {xk xv : Str} {pk pv pt : Pos} {x1} {body : List Stmt} {it D d : Addr} {od o₀ : Obj} {rest : List (Addr × Obj)} {kvs : List (Int × Value)} {c : List (Int × Int)} {ep : Nat} {m₀ m₁ : Str → Option Value} (J : Nat → Obj → Prop)
    (hh : A.handled = none) (hxk : env.kindOf xk = some .local) (hxv : env.kindOf xv = some .local) (hp : (env.scope.kind == .class || (env.scope.kind == .module && env.locals != env.globals)) = false)
    (hiL : it ≠ env.locals) (hi0 : h₀.get? it = none) (hine : ∀ o, ∀ p ∈ (D, o) :: rest, p.1 ≠ it) (hmem : (d, od) ∈ rest) (hka : KdkAt (intKind prog w) od kvs ep) (hf : FlatPairs PyData.int kvs (kdfD c))
    (hit : IsItemIter s.heap it d 0 kvs.length ep .none .none) (F : Fr h₀ env.locals s.heap m₁) (hm : ∀ y, y ≠ xk → y ≠ xv → m₁ y = m₀ y) (N : News h₀ env.locals s.heap ((D, o₀) :: rest)) (hj : J 0 o₀)
    (turn : ∀ i k x t1 t2 o h tk oI, c[i]? = some (k, x) → J i o → Fr h₀ env.locals h (fun y => if y = xv then some (.int x t2) else if y = xk then some (.int k t1) else m₀ y) → News h₀ env.locals h ((D, o) :: (it, oI) :: rest) →
      wpAny (model prog w) A (execs body env) (ItemsPost h₀ env.locals xk xv D it oI rest m₀ (J (i + 1)) { s with heap := h, toks := tk }) (notedBy (model prog w) A env fun e s' => R (.error e) s') { s with heap := h, toks := tk })
    (done : ∀ o (u : Str → Option Value) h tk, J c.length o → Fr h₀ env.locals h u → (∀ y, y ≠ xk → y ≠ xv → u y = m₀ y) → News h₀ env.locals h ((D, o) :: rest) → R (.ok .next) { s with heap := h, toks := tk }) :
    codeAny (model prog w) A (.forLoop (.Tuple [.Name xk pk, .Name xv pv] x1 pt) (.ref it) body [] env) R s := by
  have hlen := flat_len hf
  refine codeAny_forLoop_any
    (fun n s' => ∃ h' tk m' i ok ov o, s' = { s with heap := h', toks := tk } ∧ IsItemIter h' it d i kvs.length ep ok ov ∧ Fr h₀ env.locals h' m' ∧ (∀ y, y ≠ xk → y ≠ xv → m' y = m₀ y) ∧ News h₀ env.locals h' ((D, o) :: rest) ∧ J i o ∧ i ≤ kvs.length ∧
      n = kvs.length + 1 - i) ?_ (kvs.length + 1)
    ⟨s.heap, s.toks, m₁, 0, .none, .none, o₀, rfl, hit, F, hm, N, hj, Nat.zero_le _, rfl⟩
  rintro n s' ⟨H, tk, m', i, ok, ov, o, rfl, hit', F', hm', N', hJ, hi, rfl⟩
  have hda : H.DictAt (intKind prog w) d kvs ep := hka.dictAt (N' _ (.tail _ hmem)).1
  have hiH : it < H.objs.size := Heap.lt_size hit'
  have hLH : env.locals < H.objs.size := F'.ns.lt
  have h0it : ∀ b ob, h₀.get? b = some ob → b ≠ it := fun b ob e q => by rw [q, hi0] at e; cases e
  have h0L : ∀ b ob, h₀.get? b = some ob → b ≠ env.locals := fun b ob e => Nat.ne_of_lt (Nat.lt_of_lt_of_le (Heap.lt_size e) F'.above)
  cases hv : kvs[i]? with
  | none =>
    have hsz : i = kvs.length := Nat.le_antisymm hi (by simpa using hv)
    refine wpAny_pyNext_items_end hh hit' hda hv fun h₁ he₁ => wpAny_execs_nil ?_
    refine done o m' h₁ tk (by rw [← hlen, ← hsz]; exact hJ) ⟨F'.ns.extBut he₁ (Ne.symm hiL), fun b ob e => he₁ b ob (h0it b ob e) (F'.keep b ob e), F'.above⟩ hm' fun p hp => ⟨he₁ _ _ (hine o p hp) (N' p hp).1, (N' p hp).2⟩
  | some kv =>
    obtain ⟨k, v⟩ := kv
    have hlt : i < kvs.length := (List.getElem?_eq_some_iff.mp hv).1
    obtain ⟨x, tx, hcx, rfl⟩ := flat_at hf hv
    refine wpAny_pyNext_items_item hit' hda hv fun key h₁ hkey heo ht₁ hz₁ hk₁ => ?_
    obtain ⟨tkey, rfl⟩ := int_key hkey
    refine wpAny_letOwnedTupleGo_items heo fun h₂ he₂ hs₂ => ?_
    replace hs₂ : Heap.SameBut it h₁ h₂ := hs₂
    have ht₂ : h₂.IsTuple H.objs.size #[.int k tkey, .int x tx] := ⟨_, (hs₂.2 _ (Nat.ne_of_gt hiH)).trans ht₁, rfl, _, rfl⟩
    have hz₂ : h₂.objs.size = H.objs.size + 1 := hs₂.1.trans hz₁
    refine wpAny_assign_Tuple hh ht₂ rfl rfl fun h₃ hx₃ => ?_
    replace hx₃ : Heap.ExtBut h₂.objs.size h₂ h₃ := hx₃
    have old₃ : ∀ b o, b < H.objs.size → h₂.get? b = some o → h₃.get? b = some o := fun b o hb x => hx₃ b o (by rw [hz₂]; exact Nat.ne_of_lt (Nat.lt_succ_of_lt hb)) x
    have hn₃ : h₃.Ns env.locals m' := (F'.ns.at fun o x => hk₁ _ o (Ne.symm hiL) x).sameBut hs₂ (Ne.symm hiL) |>.at fun o x => old₃ _ o hLH x
    show wpAny _ _ (do holding [.int x tx] (assign (.Name xk pk) env (.int k tkey)); do holding [] (assign (.Name xv pv) env (.int x tx)); pure ()) _ _ _
    refine wpAny_bind (wpAny_holding (wpAny_assign_Name (wpAny_storeName_local hxk hn₃ (fun h₄ hn₄ hs₄ => ?_) hp)))
    replace hs₄ : Heap.SameBut env.locals h₃ h₄ := hs₄
    refine wpAny_bind (wpAny_holding (wpAny_assign_Name (wpAny_storeName_local hxv hn₄ (fun h₅ hn₅ hs₅ => wpAny_pure ?_) hp)))
    replace hs₅ : Heap.SameBut env.locals h₄ h₅ := hs₅
    have up₅ : ∀ b o, b ≠ env.locals → b < H.objs.size → h₂.get? b = some o → h₅.get? b = some o := fun b o hbL hb x => hs₅.extBut b o hbL (hs₄.extBut b o hbL (old₃ b o hb x))
    have all₅ : ∀ b ob, b ≠ env.locals → b ≠ it → H.get? b = some ob → h₅.get? b = some ob := fun b ob hbL hbi e => up₅ b ob hbL (Heap.lt_size e) (hs₂.extBut b ob hbi (hk₁ b ob hbi e))
    have em : (fun y => if y = xv then some (Value.int x tx) else if y = xk then some (Value.int k tkey) else m' y) = fun y => if y = xv then some (Value.int x tx) else if y = xk then some (Value.int k tkey) else m₀ y := by
      funext y
      by_cases q1 : y = xv
      · rw [if_pos q1, if_pos q1]
      · rw [if_neg q1, if_neg q1]
        by_cases q2 : y = xk
        · rw [if_pos q2, if_pos q2]
        · rw [if_neg q2, if_neg q2]; exact hm' y q2 q1
    have hn₅' : h₅.Ns env.locals (fun y => if y = xv then some (Value.int x tx) else if y = xk then some (Value.int k tkey) else m' y) := hn₅
    rw [em] at hn₅'
    have F₅ : Fr h₀ env.locals h₅ (fun y => if y = xv then some (Value.int x tx) else if y = xk then some (Value.int k tkey) else m₀ y) :=
      ⟨hn₅', fun b ob e => all₅ b ob (h0L b ob e) (h0it b ob e) (F'.keep b ob e), F'.above⟩
    have hio : h₅.get? it = some (itObj d (i + 1) kvs.length ep (.int k tkey) (.int x tx)) := up₅ it _ hiL hiH he₂
    refine wpAny_mono (turn i k x tkey tx o h₅ _ (itObj d (i + 1) kvs.length ep (.int k tkey) (.int x tx)) hcx hJ F₅ fun p hp => ?_) (fun f s₃ h₆ => ?_) fun _ _ x => x
    · rcases List.mem_cons.mp hp with rfl | hp
      · have q := N' (D, o) (.head _)
        exact ⟨all₅ _ _ q.2.1 (hine o _ (.head _)) q.1, q.2⟩
      · rcases List.mem_cons.mp hp with rfl | hp
        · exact ⟨hio, hiL, hi0⟩
        · have q := N' p (.tail _ hp)
          exact ⟨all₅ _ _ q.2.1 (hine o _ (.tail _ hp)) q.1, q.2⟩
    · obtain ⟨rfl, o', h₆, tk₆, m₂, rfl, F₆, hm₆, N₆, hJ₆⟩ := h₆
      refine ⟨kvs.length + 1 - (i + 1), by omega, h₆, tk₆, m₂, i + 1, _, _, o', rfl, (N₆ _ (.tail _ (.head _))).1, F₆, hm₆, fun p hp => ?_, hJ₆, hlt, rfl⟩
      rcases List.mem_cons.mp hp with rfl | hp
      · exact N₆ _ (.head _)
      · exact N₆ _ (.tail _ (.tail _ hp))
theorem allLt_of' {d : Addr} : ∀ {l : List (Addr × Obj)}, (∀ p ∈ l, p.1 < d) → AllLt d l
  | [], _ => trivial
  | p :: _, h => ⟨h p (.head _), allLt_of' fun q hq => h q (.tail _ hq)⟩
theorem For_items {E : Value → Shared → Prop} {xk xv : Str} {pk pv pt pos apos cpos : Pos} {x1} {oE : Expr} {body : List Stmt} {D d : Addr} {od o₀ : Obj} {rest : List (Addr × Obj)} {kvs : List (Int × Value)} {c : List (Int × Int)} {m₀ : Str → Option Value} (J : Nat → Obj → Prop)
    (hh : A.handled = none) (F : Fr h₀ env.locals s.heap m₀) (N : News h₀ env.locals s.heap ((D, o₀) :: rest)) (hmem : (d, od) ∈ rest) (hd : od.IsDictOf (intKind prog w) kvs) (hf : FlatPairs PyData.int kvs (kdfD c)) (hdS : (d == sysModules) = false)
    (hxk : env.kindOf xk = some .local) (hxv : env.kindOf xv = some .local) (hp : (env.scope.kind == .class || (env.scope.kind == .module && env.locals != env.globals)) = false)
    (hbase : attributeBase oE "items" env (eval oE env) = eval oE env) (hline : (apos.endLine == cpos.line) = true)
    (ho : ∀ Q' : Value → Shared → Prop, Q' (.ref d) s → wpAny (model prog w) A (eval oE env) Q' E s) (hj : J 0 o₀)
    (turn : ∀ i k x t1 t2 o h tk it oI, c[i]? = some (k, x) → J i o → D < it → AllLt it rest → Fr h₀ env.locals h (fun y => if y = xv then some (.int x t2) else if y = xk then some (.int k t1) else m₀ y) → News h₀ env.locals h ((D, o) :: (it, oI) :: rest) →
      wpAny (model prog w) A (execs body env) (ItemsPost h₀ env.locals xk xv D it oI rest m₀ (J (i + 1)) { s with heap := h, toks := tk }) E { s with heap := h, toks := tk })
    (done : ∀ o (u : Str → Option Value) h tk, J c.length o → Fr h₀ env.locals h (fun y => if y = xv then u y else if y = xk then u y else m₀ y) → News h₀ env.locals h ((D, o) :: rest) → Q .next { s with heap := h, toks := tk })
    (hs : ∀ x, foldedSetIterable (.Call (.Attribute oE "items" apos) [] [] cpos) env x = pure x := by intro _; rfl)
    (hE : PassesOwn (model prog w) A env E := by passes_own) :
    wpAny (model prog w) A (exec (.For (.Tuple [.Name xk pk, .Name xv pv] x1 pt) (.Call (.Attribute oE "items" apos) [] [] cpos) body [] pos) env) Q E s := by
  obtain ⟨ep, hka⟩ := KdkAt.of hd
  have hda : s.heap.DictAt (intKind prog w) d kvs ep := hka.dictAt (N _ (.tail _ hmem)).1
  refine wpAny_For (wpAny_Call_items hdS hda.dictOf hbase hline ho ?_) hs
  have hLs : env.locals < s.heap.objs.size := F.ns.lt
  refine wpAny_pyIter_items (knd := intKind prog w) (d := d) (kvs := kvs) (ep := ep) ⟨_, Heap.get?_push_size _ rfl, rfl, rfl⟩ (hda.push _) ?_
  have hsz : (s.heap.push { cls := .type "dict_items", data := .fields #[.ref d] }).objs.size = s.heap.objs.size + 1 := Heap.size_push ..
  have hlt : ∀ p ∈ (D, o₀) :: rest, p.1 < s.heap.objs.size := fun p hp => Heap.lt_size (N p hp).1
  refine items_loop (od := od) (R := fun r s' => match r with | .ok f => Q f s' | .error e => cameBackBy (model prog w) A env E e s') J hh hxk hxv hp ?_ ?_ ?_ hmem hka hf (Heap.get?_push_size _ rfl) ((F.push _).push _) (fun _ _ _ => rfl)
    (fun p hp => ⟨Heap.get?_push_of_some _ (Heap.get?_push_of_some _ (N p hp).1), (N p hp).2⟩) hj (fun i k x t1 t2 o h tk oI hc hJ F₁ N₁ => wpAny_passesOwn hE (turn i k x t1 t2 o h tk _ oI hc hJ ?_ ?_ F₁ N₁)) fun o u h tk hJ F₁ hu N₁ => ?_
  · show (s.heap.push _).objs.size ≠ env.locals
    rw [hsz]; exact Nat.ne_of_gt (Nat.lt_succ_of_lt hLs)
  · show h₀.get? (s.heap.push _).objs.size = none
    cases q : h₀.get? (s.heap.push { cls := .type "dict_items", data := .fields #[.ref d] }).objs.size with
    | none => rfl
    | some ob =>
      have h1 := Heap.lt_size q
      rw [hsz] at h1
      have h2 : h₀.objs.size ≤ env.locals := F.above
      exact absurd (Nat.lt_of_lt_of_le h1 h2) (Nat.not_lt.mpr (Nat.le_succ_of_le (Nat.le_of_lt hLs)))
  · intro o p hp
    show p.1 ≠ (s.heap.push _).objs.size
    rw [hsz]
    rcases List.mem_cons.mp hp with rfl | hp
    · exact Nat.ne_of_lt (Nat.lt_succ_of_lt (hlt (D, o₀) (.head _)))
    · exact Nat.ne_of_lt (Nat.lt_succ_of_lt (hlt p (.tail _ hp)))
  · show D < (s.heap.push _).objs.size
    rw [hsz]; exact Nat.lt_succ_of_lt (hlt (D, o₀) (.head _))
  · show AllLt (s.heap.push _).objs.size rest
    rw [hsz]; exact allLt_of' fun p hp => Nat.lt_succ_of_lt (hlt p (.tail _ hp))
  · have em : (fun y => if y = xv then u y else if y = xk then u y else m₀ y) = u := by
      funext y
      by_cases q1 : y = xv
      · rw [if_pos q1]
      · rw [if_neg q1]
        by_cases q2 : y = xk
        · rw [if_pos q2]
        · rw [if_neg q2]; exact (hu y q2 q1).symm
    exact done o u h tk hJ (by rw [em]; exact F₁) N₁
end
end Mine
namespace Mine

local macro_rules | `(tactic| k_room) => `(tactic| ((try simp only [depth_under_make, depth_under_kw, depth_in1, depth_deeper, depth_caller, recursionLimit]); omega))
local macro_rules | `(tactic| k_units) => `(tactic| ((try simp only [units_in1, units_deeper, Around.mark_units, units_caller, cLine]); omega))

def putC (c : List (Int × Int)) (p : Int × Int) : List (Int × Int) := kdfPut c p.1 p.2
def addP (c : List (Int × Int)) (p : Int × Int) : List (Int × Int) := kdfPut c p.1 (if kdfHas c p.1 = true then kdfLook c p.1 0 + p.2 else p.2)
theorem putC_len (l : List (Int × Int)) : ∀ c, (l.foldl putC c).length ≤ c.length + l.length := by
  induction l with
  | nil => intro c; simp
  | cons p l ih =>
    intro c
    have h1 := kdfPut_len c p.1 p.2
    have h2 := ih (putC c p)
    rw [List.foldl_cons, List.length_cons]
    unfold putC at h2 ⊢
    omega
theorem addP_len (l : List (Int × Int)) : ∀ c, (l.foldl addP c).length ≤ c.length + l.length := by
  induction l with
  | nil => intro c; simp
  | cons p l ih =>
    intro c
    have h1 := kdfPut_len c p.1 (if kdfHas c p.1 = true then kdfLook c p.1 0 + p.2 else p.2)
    have h2 := ih (addP c p)
    rw [List.foldl_cons, List.length_cons]
    unfold addP at h2 ⊢
    omega
theorem addP_yes {c : List (Int × Int)} {k x : Int} (h : kdfHas c k = true) : addP c (k, x) = kdfPut c k (kdfLook c k 0 + x) := by
  unfold addP; rw [if_pos h]
theorem addP_no {c : List (Int × Int)} {k x : Int} (h : kdfHas c k = false) : addP c (k, x) = kdfPut c k x := by
  unfold addP; rw [if_neg (by rw [h]; exact Bool.false_ne_true)]
theorem take_snoc {α : Type} {l : List α} {i : Nat} {p : α} (h : l[i]? = some p) : l.take (i + 1) = l.take i ++ [p] := by
  rw [List.take_add_one, h]; rfl
def IsMap (prog : Program) (w : World) (c : List (Int × Int)) (o : Obj) : Prop := ∃ kvs : List (Int × Value), o.IsDictOf (PySem.intKind prog w) kvs ∧ FlatPairs PyData.int kvs (kdfD c)
theorem kdf_getI {prog : Program} {w : World} {A : Around} {E : Value → Shared → Prop} {s : Shared} {d : Addr} {c : List (Int × Int)} {k : Int} {tk : Tok} {Q : Value → Shared → Prop} (T : IntTab prog w s.heap d (kdfD c)) (hk : kdfHas c k = true) (h : ∀ t, Q (.int (kdfLook c k 0) t) { s with toks := s.toks + 1 }) :
    wpAny (model prog w) A (getItem (.ref d) (.int k tk)) Q E s :=
  getItem_tab PyProof.V.same_int (intKind_is _ _ _ _) T (kdfD_item hk) fun v hv => by
    obtain ⟨t, ht⟩ := PyProof.V.Flat.int_inv hv
    rw [ht]
    exact h t
local macro_rules | `(tactic| walk_at "getItem ref int") => `(tactic| (k_here; k_dflt (refine kdf_getI (by k_tabat) (by with_reducible assumption) ?_); intro t'))
theorem off_of {D I : Addr} {oI : Obj} {news : List (Addr × Obj)} (h : D < I) (l : ∀ p ∈ news, p.1 < D) : ∀ p ∈ (I, oI) :: news, p.1 ≠ D := List.forall_mem_cons.mpr ⟨Nat.ne_of_gt h, fun p hp => Nat.ne_of_lt (l p hp)⟩
local macro_rules | `(tactic| walk_at "setItem ref int") => `(tactic| (k_here; (with_reducible show wpAny _ _ (setItem (Value.ref _) (Value.int _ _) (Value.int _ _)) _ _ _); k_dflt (refine' kdf_setItem ?F ?N ?U ?d ?f ?z ?_; (case F => k_asm); (case N => k_asm); (case U => exact UpdF.head (off_of (by assumption) (by assumption))); (case d => with_reducible assumption); (case f => with_reducible assumption); (case z => omega)); intro h' o' kvs' F' N' hd' hf'; (try dsimp only at N')))
set_option maxRecDepth 100000 in
set_option maxHeartbeats 8000000 in
theorem add_C {prog : Program} {w : World} {p : Program} {loose : List Str} {mean : ExcName → Option Value} {mg mb : Str → Option Value} {news : List (Addr × Obj)}
   {d1 d2 : Addr} {o1 o2 : Obj} {kvs1 kvs2 : List (Int × Value)} {c1 c2 : List (Int × Int)} {dp un : Nat} {gd : Option (List Code)} {cn : Str} {cs : Scope} {a : Addr} {ccd : Value} {cl : List (Str × Addr)} {outer : List Env} {A₀ : Around} {base h₀ : Heap} {L : Addr} {m : Str → Option Value} {s : Shared} {Q E : Value → Shared → Prop}
    (B : Below A₀ base outer h₀) (F : Fr h₀ L s.heap m) (X : (hd.heap_39 w.params).In h₀) (N : News h₀ L s.heap news) (T : Top p loose mean mg mb h₀) (hk : cs.kind = .function)
    (hdp : dp + 10 < 1000) (hun : un + 50 < 9900)
    (hm1 : (d1, o1) ∈ news) (hm2 : (d2, o2) ∈ news) (hd1 : o1.IsDictOf (PySem.intKind prog w) kvs1) (hf1 : FlatPairs PyData.int kvs1 (kdfD c1)) (hd2 : o2.IsDictOf (PySem.intKind prog w) kvs2) (hf2 : FlatPairs PyData.int kvs2 (kdfD c2))
    (hz1 : c1.length ≤ 100) (hz2 : c2.length ≤ 100) (hs1 : (d1 == sysModules) = false) (hs2 : (d2 == sysModules) = false)
    (hret : ∀ D o h' tk', Fr h₀ L h' m → News h₀ L h' ((D, o) :: news) → IsMap prog w (c2.foldl addP (c1.foldl putC [])) o → (D == sysModules) = false → (∀ p ∈ news, p.1 < D) → Q (.ref D) { s with heap := h', toks := tk' })
    :
      wpAny (model prog w) (ktrTop dp un gd cn cs L a ccd cl outer) (call (.ref 108) [.ref d1, .ref d2]) Q E s := by
  refine wpAny_call ?_
  (first | k_dflt cell_enter | fail "not entered")
  k_steps
  (with_reducible rename Fr _ _ _ _ => lF')
  (with_reducible rename News _ _ _ _ => lN')
  with_unfolding_all refine' For_items (hE := ?hE) (fun i o => IsMap prog w ((c1.take i).foldl putC []) o) ?k0 lF' lN' hm1 hd1 hf1 hs1 ?k1 ?k2 ?k3 ?k4 ?k5 ?k6 ?k7 ?_ ?_
  case k0 => with_unfolding_all rfl
  case hE => first | passes_own | with_unfolding_all passes_own
  case k1 => exact rfl
  case k2 => exact rfl
  case k3 => exact rfl
  case k4 => exact rfl
  case k5 => exact rfl
  case k6 => intro Q' hq; exact ld lF' rfl hq
  case k7 => exact ⟨[], by assumption, by assumption⟩
  · clear lF' lN'
    intro i k x t1 t2 o h tk it oI hc hJ hDI hlt F₁ N₁
    dsimp only [envOf] at F₁ N₁
    k_fold
    obtain ⟨kvs, hd, hf⟩ := hJ
    have hlen : ((c1.take i).foldl putC []).length ≤ 200 := by
      have h1 := putC_len (c1.take i) []
      have h2 : (c1.take i).length ≤ c1.length := by rw [List.length_take]; omega
      simp only [List.length_nil] at h1
      omega
    k_steps
    all_goals exact ⟨rfl, _, _, _, _, rfl, by assumption, fun y q1 q2 => by simp only [q1, q2, if_false], by assumption, _, by assumption, by rw [take_snoc hc, List.foldl_append]; assumption⟩
  · clear lF' lN'
    intro o u h tk hJ F₁ N₁
    (try dsimp only)
    k_steps
    with_unfolding_all refine' For_items (hE := ?hE) (fun i o => IsMap prog w ((c2.take i).foldl addP (c1.foldl putC [])) o) ?k0 F₁ N₁ hm2 hd2 hf2 hs2 ?k1 ?k2 ?k3 ?k4 ?k5 ?k6 ?k7 ?_ ?_
    case k0 => with_unfolding_all rfl
    case hE => first | passes_own | with_unfolding_all passes_own
    case k1 => exact rfl
    case k2 => exact rfl
    case k3 => exact rfl
    case k4 => exact rfl
    case k5 => exact rfl
    case k6 => intro Q' hq; exact ld F₁ rfl hq
    case k7 => rw [List.take_length] at hJ; exact hJ
    · clear F₁ N₁
      intro i k x t1 t2 o h tk it oI hc hJ2 hDI hlt F₁ N₁
      dsimp only [envOf] at F₁ N₁
      k_fold
      obtain ⟨kvs, hd, hf⟩ := hJ2
      have hlen : ((c2.take i).foldl addP (c1.foldl putC [])).length ≤ 400 := by
        have h1 := addP_len (c2.take i) (c1.foldl putC [])
        have h2 : (c2.take i).length ≤ c2.length := by rw [List.length_take]; omega
        have h3 := putC_len c1 []
        simp only [List.length_nil] at h3
        omega
      k_steps
      · exact ⟨rfl, _, _, _, _, rfl, by assumption, fun y q1 q2 => by simp only [q1, q2, if_false], by assumption, _, by assumption, by rw [take_snoc hc, List.foldl_append]; show FlatPairs _ _ (kdfD (addP _ _)); rw [addP_yes (by assumption)]; assumption⟩
      · exact ⟨rfl, _, _, _, _, rfl, by assumption, fun y q1 q2 => by simp only [q1, q2, if_false], by assumption, _, by assumption, by rw [take_snoc hc, List.foldl_append]; show FlatPairs _ _ (kdfD (addP _ _)); rw [addP_no (by assumption)]; assumption⟩
    · clear F₁ N₁
      intro o u h tk hJ2 F₁ N₁
      dsimp only [envOf] at F₁ N₁
      (try dsimp only)
      k_steps
      rw [List.take_length] at hJ2
      exact hret _ _ _ _ (by assumption) (by assumption) hJ2 (by assumption) (by assumption)
end Mine
namespace Mine
def onesOf (ks : List Int) : List (Int × Int) := ks.foldl (fun c k => kdfPut c k 1) []
theorem ones_snoc (ks : List Int) (k : Int) : onesOf (ks ++ [k]) = kdfPut (onesOf ks) k 1 := by
  unfold onesOf; rw [List.foldl_append]; rfl
def IsK (v : Value) (k : Int) : Prop := ∃ t, v = .int k t
def IsOne (_ y : Value) : Prop := ∃ t, y = .int 1 t
/-- what was stored, key by key -/
theorem ones_stored {l : List Value} {kvs : List (Int × Value)} (x : StoredAll IsK IsOne l kvs) :
    ∀ ks : List Int, (∀ (j : Nat) (v : Value), l[j]? = some v → ∃ k t, ks[j]? = some k ∧ v = Value.int k t) → ks.length = l.length → FlatPairs PyData.int kvs (kdfD (onesOf ks)) := by
  induction x with
  | nil =>
    intro ks _ hl
    have : ks = [] := List.length_eq_zero_iff.mp (by simpa using hl)
    subst this
    exact .nil
  | @snoc l kvs v k y _ hk hy ih =>
    intro ks hi hl
    rw [List.length_append, List.length_singleton] at hl
    obtain ⟨k', t, hk', hv⟩ := hi l.length v (by simp)
    obtain ⟨t2, hv2⟩ := hk
    obtain ⟨t3, rfl⟩ := hy
    have hkk : k' = k := by rw [hv] at hv2; cases hv2; rfl
    have e : ks = ks.take l.length ++ [k] := by
      have h1 : ks.take (l.length + 1) = ks := List.take_of_length_le (by omega)
      have h2 : ks.take (l.length + 1) = ks.take l.length ++ [k] := by rw [List.take_add_one, hk', hkk]; rfl
      rw [← h2, h1]
    rw [e, ones_snoc, ← kdfD_put]
    refine PyProof.V.FlatPairs.stored PyProof.V.same_int (ih _ (fun j v' hj => ?_) ?_) _ (PyProof.V.Flat.int 1 t3)
    · have hlt : j < l.length := by
        rw [List.getElem?_eq_some_iff] at hj
        exact hj.1
      obtain ⟨k2, t4, h1, h2⟩ := hi j v' (by rw [List.getElem?_append_left hlt]; exact hj)
      exact ⟨k2, t4, by rw [List.getElem?_take_of_lt hlt]; exact h1, h2⟩
    · rw [List.length_take]; omega
def rangeK (a₀ d : Int) (n : Nat) : List Int := (List.range n).map fun (j : Nat) => a₀ + (j : Int) * d
section
variable {prog : Program} {w : World} {A : Around} {E : Value → Shared → Prop} {s : Shared} {env : Env} {h₀ : Heap} {L : Addr} {m : Str → Option Value} {news : List (Addr × Obj)}
/-- the comprehension's own loop, behind its new dict and its new names -/
theorem dc_run {iter : Expr} {x : Str} {px p1 p2 pos : Pos} {scope : Scope} {cl : List (Str × Addr)} {s₃ : Shared} {I D C : Addr} {n : Nat} {P : Nat → Value → Prop} {St : Nat → Heap → Prop} {none₀ : Str → Option Value} {R : Result → Shared → Prop}
    (W : Walks prog w A I [I] [I] n P St) (hP : ∀ i v, P i v → ∃ k t, v = .int k t) (hsz : n ≤ sizeLine) (hkind : scope.kind = .function) (hx : scope.names.lookup x = some .local) (hxd : (x == ("__debug__" : Str)) = false)
    (hDC : D ≠ C) (hDI : D ≠ I) (hCI : C ≠ I) (hst : St 0 s₃.heap) (hd : s₃.heap.DictOf (intKind prog w) D []) (hns : s₃.heap.Ns C none₀)
    (hR : ∀ h' tk m' kvs (vs : List Value), h'.Ns C m' → h'.DictOf (intKind prog w) D kvs → vs.length = n → (∀ j v, vs[j]? = some v → P j v) → StoredAll IsK IsOne vs kvs →
      (∀ b o, b ≠ C → b ∉ [I] → b ≠ D → s₃.heap.get? b = some o → h'.get? b = some o) → R (.ok .next) { s₃ with heap := h', toks := tk }) :
    codeAny (model prog w) A (.compStart (.DictComp (.Name x p1) (.Constant (.int 1) 0 p2) [⟨.Name x px, iter, [], 0⟩] scope pos) 0 (.ref I) (.ref D) (compEnvC scope cl C env)) R s₃ := by
  have fn : (compEnvC scope cl C env).scope.kind = .function := hkind
  have kx : (compEnvC scope cl C env).kindOf x = some .local := lookup_relabel_local hx
  have go : codeAny (model prog w) A (.compLoop (.DictComp (.Name x p1) (.Constant (.int 1) 0 p2) [⟨.Name x px, iter, [], 0⟩] scope pos) 0 (.ref I) (.ref D) (compEnvC scope cl C env)) R s₃ :=
    codeAny_compLoop_walkD (knd := intKind prog w) (cenv := compEnvC scope cl C env) W (fun _ => true) IsK IsOne kx (by rw [fn]; rfl) hDC (fun q => hDI (List.mem_singleton.mp q)) (fun q => hCI (List.mem_singleton.mp q)) hst hd hns
      (htests := fun _ _ _ _ _ _ _ _ => wpAny_pure ⟨rfl, _, _, rfl, fun _ _ q => q⟩)
      (hkey := fun i v _ _ hv _ hn hm _ => by
        obtain ⟨a, u, rfl⟩ := hP i v hv
        exact wpAny_Name (wpAny_loadName_local fn kx hn hm ⟨⟨a, by simp [intKind, Value.isInt], u, rfl⟩, _, _, rfl, fun _ _ q => q⟩) hxd)
      (hval := fun _ _ _ _ _ _ _ _ _ => wpAny_Constant_int ⟨⟨_, rfl⟩, _, _, rfl, fun _ _ q => q⟩)
      (hR := fun h' tk m' kvs vs q1 q2 q3 q4 q5 q6 => hR h' tk m' kvs vs q1 q2 q3 q4 ((show vs.filter (fun _ => true) = vs from List.filter_eq_self.mpr fun _ _ => rfl) ▸ q5) q6) (hsz := hsz)
  exact codeAny_compStart_dict go (W.self 0 _ _ _ hst go)
theorem dc_block {iter : Expr} {x : Str} {px p1 p2 pos : Pos} {scope : Scope} {cl : List (Str × Addr)} {s₂ : Shared} {I : Addr} {n : Nat} {P : Nat → Value → Prop} {St : Nat → Heap → Prop} (W : Walks prog w A I [I] [I] n P St) (hP : ∀ i v, P i v → ∃ k t, v = .int k t)
    (hsz : n ≤ sizeLine) {RR : Value → Addr → Result → Shared → Prop} (hcell : ∀ y ∈ scope.names, y.2 ≠ .cell) (hkind : scope.kind = .function) (hx : scope.names.lookup x = some .local) (hxd : (x == ("__debug__" : Str)) = false)
    (hst : St 0 s₂.heap) (hI : I < s₂.heap.objs.size)
    (hRR : ∀ D h' tk m' kvs (vs : List Value), D = s₂.heap.objs.size → h'.Ns (D + 1) m' → h'.DictOf (intKind prog w) D kvs → vs.length = n → (∀ j v, vs[j]? = some v → P j v) → StoredAll IsK IsOne vs kvs →
      (∀ b o, b ≠ I → s₂.heap.get? b = some o → h'.get? b = some o) → RR (.ref D) (D + 1) (.ok .next) { s₂ with heap := h', toks := tk }) :
    wpAny (model prog w) A newDict (fun acc s₃ => wpAny (model prog w) A (newFunctionEnv scope env.globals cl [] env.qual none .none (some env)) (fun cenv s₄ =>
      codeAny (model prog w) A (.compStart (.DictComp (.Name x p1) (.Constant (.int 1) 0 p2) [⟨.Name x px, iter, [], 0⟩] scope pos) 0 (.ref I) acc { cenv with scope := relabel scope env }) (RR acc cenv.locals) s₄) E s₃) E s₂ := by
  have up : ∀ (o : Obj) (g : Heap), (g.push o).objs.size = g.objs.size + 1 := fun o g => Heap.size_push ..
  have cz : (s₂.heap.push { cls := .type "dict", dict := none, data := .dict #[] }).objs.size = s₂.heap.objs.size + 1 := up _ _
  refine wpAny_newObj_type (wpAny_newFunctionEnv hcell (fun _ q => nomatch q) (fun g ns but => ?_) hkind)
  dsimp only at ns but ⊢
  rw [cz] at ns but ⊢
  -- what stood ahead of both stands behind them
  have stands : ∀ b o, s₂.heap.get? b = some o → g.get? b = some o := fun b o q =>
    but.extBut b o (Nat.ne_of_lt (Nat.lt_succ_of_lt (Heap.lt_size q))) (Heap.get?_push_of_some _ (Heap.get?_push_of_some _ q))
  have far : ∀ b o, s₂.heap.get? b = some o → b ≠ s₂.heap.objs.size + 1 ∧ b ≠ s₂.heap.objs.size := fun b o q => ⟨Nat.ne_of_lt (Nat.lt_succ_of_lt (Heap.lt_size q)), Nat.ne_of_lt (Heap.lt_size q)⟩
  have hd : g.DictOf (intKind prog w) s₂.heap.objs.size [] := (Heap.DictOf.new s₂.heap).at fun o q => but.extBut _ _ (Nat.ne_of_lt (Nat.lt_succ_self _)) (Heap.get?_push_of_some _ q)
  refine dc_run W hP hsz hkind hx hxd (Nat.ne_of_lt (Nat.lt_succ_self _)) (Nat.ne_of_gt hI) (Nat.ne_of_gt (Nat.lt_succ_of_lt hI)) (W.frame _ _ _ hst fun b _ o q => stands b o q) hd ns
    fun h' tk m' kvs vs q1 q2 q3 q4 q5 q6 => hRR _ h' tk m' kvs vs rfl q1 q2 q3 q4 q5 fun b o nI q => ?_
  exact q6 b o (far b o q).1 (fun e => nI (List.mem_singleton.mp e)) (far b o q).2 (stands b o q)
theorem dictcomp_range {iter : Expr} {x : Str} {px p1 p2 pos : Pos} {scope : Scope} {cl : List (Str × Addr)} {Q : Value → Shared → Prop} {a₀ b₀ d : Int}
    (_F : Fr h₀ L s.heap m) (_N : News h₀ L s.heap news) (hh : A.handled = none) (hclos : closureFor scope env = pure cl) (hcell : ∀ y ∈ scope.names, y.2 ≠ .cell) (hkind : scope.kind = .function)
    (hnames : ∀ y ∈ scope.names, y.2 = .local → scope.names.lookup y.1 = some .local) (hx : scope.names.lookup x = some .local) (hxd : (x == ("__debug__" : Str)) = false)
    (hsmall : Builtin.Range.small a₀ b₀ d = true) (hsz : (Builtin.Range.rangeSize a₀ b₀ d).toNat ≤ sizeLine) (hlow : sysModules < h₀.objs.size)
    (h : wpAny (model prog w) A (eval iter env) (fun xv s₁ => ∃ r t u v, xv = .ref r ∧ IsRange s₁.heap r a₀ b₀ d t u v ∧ Fr h₀ L s₁.heap m ∧ News h₀ L s₁.heap news ∧
      (∀ D o h' tk, Fr h₀ L h' m → News h₀ L h' ((D, o) :: news) → (∃ kvs : List (Int × Value), o.IsDictOf (intKind prog w) kvs ∧ FlatPairs PyData.int kvs (kdfD (onesOf (rangeK a₀ d (Builtin.Range.rangeSize a₀ b₀ d).toNat)))) → (D == sysModules) = false → (∀ p ∈ news, p.1 < D) → Q (.ref D) { s₁ with heap := h', toks := tk })) E s)
    (hs : ∀ x, foldedSetIterable iter env x = pure x := by intro _; rfl) :
    wpAny (model prog w) A (eval (.DictComp (.Name x p1) (.Constant (.int 1) 0 p2) [⟨.Name x px, iter, [], 0⟩] scope pos) env) Q E s := by
  rw [arm_eval_DictComp]
  refine wpAny_comprehension_free (use := none) rfl hs hclos hkind hnames (wpAny_mono h (fun xv s₁ h₁ => ?_) fun _ _ e => e)
  obtain ⟨r, t, u, v, rfl, hr, F, N, hQ⟩ := h₁
  refine wpAny_pyIter_range hr hsmall ?_
  have hn := rangeSize_toNat a₀ b₀ d
  generalize hnn : (Builtin.Range.rangeSize a₀ b₀ d).toNat = n at *
  have W : Walks prog w A s₁.heap.objs.size [s₁.heap.objs.size] [s₁.heap.objs.size] n (fun i v => ∃ t, v = .int (a₀ + i * d) t)
      (fun i h => IsRangeIter h s₁.heap.objs.size (a₀ + (i : Nat) * d) ((n : Int) - (i : Nat)) d) := (Walks.range hh _ a₀ d _)
  have hLs : L < s₁.heap.objs.size := F.ns.lt
  refine dc_block (RR := fun acc C => compPost (model prog w) A E none Q acc C) W (fun i v ⟨t, e⟩ => ⟨_, t, e⟩) hsz hcell hkind hx hxd ?_ ?_ ?_
  · show IsRangeIter _ _ _ _ _
    rw [← hn]; simpa using Heap.get?_push_size _ rfl
  · show s₁.heap.objs.size < (s₁.heap.push _).objs.size
    rw [Heap.size_push]; exact Nat.lt_succ_self _
  intro D h' tk m' kvs vs hD hns hd hlen hP hF hk
  have hD' : D = s₁.heap.objs.size + 1 := by rw [hD]; exact Heap.size_push ..
  refine ⟨m', hns, fun h'' hs'' => ?_⟩
  have keep : ∀ b o, s₁.heap.get? b = some o → h''.get? b = some o := fun b o e => by
    have hb := Heap.lt_size e
    refine hs''.extBut b o ?_ (hk b o (Nat.ne_of_lt hb) (Heap.get?_push_of_some _ e))
    rw [hD']; exact Nat.ne_of_lt (Nat.lt_succ_of_lt (Nat.lt_succ_of_lt hb))
  have hd'' : h''.DictOf (intKind prog w) D kvs := hd.extBut hs''.extBut (Nat.ne_of_lt (Nat.lt_succ_self _))
  obtain ⟨o, ho, hdo⟩ := Heap.dictOf_iff.mp hd''
  refine hQ D o h'' tk (F.keeps keep) ?_ ⟨kvs, hdo, ?_⟩ ?_ ?_
  · intro p hp
    rcases List.mem_cons.mp hp with rfl | hp
    · refine ⟨ho, ?_, ?_⟩
      · show D ≠ L
        rw [hD']; exact Nat.ne_of_gt (Nat.lt_succ_of_lt hLs)
      · show h₀.get? D = none
        cases q : h₀.get? D with
        | none => rfl
        | some ob =>
          have h1 := Heap.lt_size q
          rw [hD'] at h1
          exact absurd (Nat.lt_of_lt_of_le h1 F.above) (Nat.not_lt.mpr (Nat.le_succ_of_le (Nat.le_of_lt hLs)))
    · exact ⟨keep _ _ (N p hp).1, (N p hp).2⟩
  · refine ones_stored hF _ (fun j v hj => ?_) (by simp [rangeK, hlen])
    obtain ⟨t, e⟩ := hP j v hj
    have hlt : j < n := by
      rw [List.getElem?_eq_some_iff] at hj
      rw [← hlen]; exact hj.1
    exact ⟨_, t, by simp [rangeK, hlt], e⟩
  · refine beq_eq_false_iff_ne.mpr (Nat.ne_of_gt ?_)
    rw [hD']
    exact Nat.lt_succ_of_lt (Nat.lt_trans hlow (Nat.lt_of_le_of_lt F.above hLs))
  · intro p hp
    rw [hD']; exact Nat.lt_succ_of_lt (Heap.lt_size (N p hp).1)
end
end Mine
namespace Mine

local macro_rules | `(tactic| k_room) => `(tactic| ((try simp only [depth_under_make, depth_under_kw, depth_in1, depth_deeper, depth_caller, recursionLimit]); omega))
local macro_rules | `(tactic| k_units) => `(tactic| ((try simp only [units_in1, units_deeper, Around.mark_units, units_caller, cLine]); omega))
local macro_rules | `(tactic| walk_at "call ref") => `(tactic| (k_here; (with_reducible show wpAny _ _ (call (Value.ref 108) _) _ _ _); k_dflt (refine' add_C ?kB ?kF ?kX ?kN ?kT ?kK ?kd ?ku ?km1 ?km2 ?kd1 ?kf1 ?kd2 ?kf2 ?kz1 ?kz2 ?ks1 ?ks2 ?_; (case kB => k_asm); (case kF => k_asm); (case kX => k_asm); (case kN => k_asm); (case kT => k_asm); (case kK => first | exact rfl | assumption); (case kd => k_room); (case ku => k_units); (case km1 => k_mem); (case km2 => k_mem); (case kd1 => with_reducible assumption); (case kf1 => with_reducible assumption); (case kd2 => with_reducible assumption); (case kf2 => with_reducible assumption); (case kz1 => with_reducible assumption); (case kz2 => with_reducible assumption); (case ks1 => with_reducible assumption); (case ks2 => with_reducible assumption)); intro D' o' h' tk' F' N' im' lo' l1; (try k_lt l1); (try k_sweep); (try dsimp only)))

def rowC (other first : Int) : List (Int × Int) := onesOf (rangeK first other (Builtin.Range.rangeSize first 36 other).toNat)
def waysC (one other : Int) (n : Nat) : List (Int × Int) := Nat.rec (motive := fun _ => List (Int × Int)) [] (fun i c => (rowC other (0 + (i : Int) * one)).foldl addP (c.foldl putC [])) n
theorem ones_len (ks : List Int) : ∀ c : List (Int × Int), (ks.foldl (fun c k => kdfPut c k 1) c).length ≤ c.length + ks.length := by
  induction ks with
  | nil => intro c; exact Nat.le_refl _
  | cons k ks ih =>
    intro c
    have h1 := kdfPut_len c k 1
    have h2 := ih (kdfPut c k 1)
    rw [List.foldl_cons, List.length_cons]
    omega
/-- a row has nine columns at most -/
theorem row_len {other first : Int} (h2 : 4 ≤ other) (h3 : other ≤ 7) (hf : 0 ≤ first) : (rowC other first).length ≤ 9 := by
  have h := ones_len (rangeK first other (Builtin.Range.rangeSize first 36 other).toNat) []
  have e : (rangeK first other (Builtin.Range.rangeSize first 36 other).toNat).length = (Builtin.Range.rangeSize first 36 other).toNat := by simp [rangeK]
  have hb : (Builtin.Range.rangeSize first 36 other).toNat ≤ 9 := by
    unfold Builtin.Range.rangeSize
    rw [if_pos (by omega)]
    split
    · have : (36 - first - 1) / other ≤ 8 := by
        rcases (by omega : other = 4 ∨ other = 5 ∨ other = 6 ∨ other = 7) with rfl | rfl | rfl | rfl <;> omega
      omega
    · decide
  unfold rowC onesOf
  rw [e] at h
  have z : ([] : List (Int × Int)).length = 0 := rfl
  omega
theorem ways_len9 {one other : Int} (h0 : 0 ≤ one) (h2 : 4 ≤ other) (h3 : other ≤ 7) : ∀ i : Nat, (waysC one other i).length ≤ 9 * i
  | 0 => Nat.le_refl _
  | i + 1 => by
    have ih := ways_len9 h0 h2 h3 i
    have hr := row_len h2 h3 (first := 0 + (i : Int) * one) (by have := Int.mul_nonneg (Int.natCast_nonneg i) h0; omega)
    have h4 := addP_len (rowC other (0 + (i : Int) * one)) ((waysC one other i).foldl putC [])
    have h5 := putC_len (waysC one other i) []
    have z : ([] : List (Int × Int)).length = 0 := rfl
    show ((rowC other (0 + (i : Int) * one)).foldl addP ((waysC one other i).foldl putC [])).length ≤ _
    omega
theorem ways_len {one other : Int} {i : Nat} (h0 : 3 ≤ one) (h1 : one ≤ 6) (h2 : 4 ≤ other) (h3 : other ≤ 7) (hi : i < (Builtin.Range.rangeSize 0 36 one).toNat) : (waysC one other i).length ≤ 100 ∧ (rowC other (0 + (i : Int) * one)).length ≤ 100 := by
  have hb : i < 12 := by
    have h := rangeSize_toNat 0 36 one
    unfold Builtin.Range.rangeSize at h hi
    rw [if_pos (by omega), if_pos (by omega)] at h hi
    have h4 : (36 - 0 - 1) / one ≤ 35 / 3 := by
      rcases (by omega : one = 3 ∨ one = 4 ∨ one = 5 ∨ one = 6) with rfl | rfl | rfl | rfl <;> decide
    omega
  have h5 := ways_len9 (one := one) (by omega) h2 h3 i
  have h6 := row_len h2 h3 (first := 0 + (i : Int) * one) (by have := Int.mul_nonneg (Int.natCast_nonneg i) (show 0 ≤ one by omega); omega)
  exact ⟨by omega, by omega⟩
theorem first_in {one : Int} {i : Nat} (h0 : 3 ≤ one) (hi : i < (Builtin.Range.rangeSize 0 36 one).toNat) : 0 ≤ 0 + (i : Int) * one ∧ 0 + (i : Int) * one ≤ 35 := by
  have h := start_inside (len := 36) (c := one) (v := (i : Int)) (by omega) (by omega) (by omega) (by have := rangeSize_toNat 0 36 one; omega)
  omega
section
variable {prog : Program} {w : World} {A : Around} {E : Value → Shared → Prop} {s : Shared} {env : Env} {h₀ : Heap} {x : Str} {body : List Stmt} {Q : Flow → Shared → Prop}
abbrev WaysTurn (prog : Program) (w : World) (h₀ : Heap) (L : Addr) (x : Str) (I : Addr) (own news : List (Addr × Obj)) (m₀ : Str → Option Value) (c : List (Int × Int)) (s₁ : Shared) (Q : Flow → Shared → Prop) : Flow → Shared → Prop :=
  TurnPost (σ := Addr × Obj) h₀ L x [I] own (fun c => (c.1, c.2) :: news) (fun c => kstB m₀ [(Str.ofString "ways", .ref c.1)]) (fun d => IsMap prog w c d.2 ∧ (d.1 == sysModules) = false ∧ ∀ p ∈ news, p.1 < d.1) s₁ Q
theorem ways_loop {r : Addr} {a₀ b₀ d : Int} {t₀ u₀ v₀ : Tok} {m₀ : Str → Option Value} {news : List (Addr × Obj)} {D₀ : Addr} {o₀ : Obj} {C : Nat → List (Int × Int)}
    (hh : A.handled = none) (hr : IsRange s.heap r a₀ b₀ d t₀ u₀ v₀) (hsmall : Builtin.Range.small a₀ b₀ d = true) (F : Fr h₀ env.locals s.heap m₀) (N : News h₀ env.locals s.heap ((D₀, o₀) :: news)) (hy : m₀ (Str.ofString "ways") = some (.ref D₀)) (hj : IsMap prog w (C 0) o₀) (hD : (D₀ == sysModules) = false) (hDl : ∀ p ∈ news, p.1 < D₀)
    (turn : ∀ (i : Nat) t D o h tk I oI own, i < (Builtin.Range.rangeSize a₀ b₀ d).toNat → IsMap prog w (C i) o → (D == sysModules) = false → (∀ p ∈ news, p.1 < D) → D ≠ I → (∀ p ∈ news, p.1 ∉ [I]) → (I, oI) ∈ own → Fr h₀ env.locals h (fun z => if z = x then some (.int (a₀ + (i : Int) * d) t) else if z = Str.ofString "ways" then some (.ref D) else m₀ z) → News h₀ env.locals h ((D, o) :: (news ++ own)) →
      wpAny (model prog w) A (execs body env) (WaysTurn prog w h₀ env.locals x I own news m₀ (C (i + 1)) { s with heap := h, toks := tk } Q) E { s with heap := h, toks := tk })
    (done : ∀ D o (u : Str → Option Value) h tk, IsMap prog w (C (Builtin.Range.rangeSize a₀ b₀ d).toNat) o → (D == sysModules) = false → (∀ p ∈ news, p.1 < D) → Fr h₀ env.locals h (fun z => if z = x then u z else if z = Str.ofString "ways" then some (.ref D) else m₀ z) → News h₀ env.locals h ((D, o) :: news) → Q .next { s with heap := h, toks := tk }) :
    wpAny (model prog w) A (pyIter (.ref r)) (fun it s₂ => LoopAtV prog w A h₀ env x body Q E it s₂) E s :=
  loop_range (σ := Addr × Obj) (fun c => (c.1, c.2) :: news) (fun c => kstB m₀ [(Str.ofString "ways", .ref c.1)]) (fun i d => IsMap prog w (C i) d.2 ∧ (d.1 == sysModules) = false ∧ ∀ p ∈ news, p.1 < d.1) (D₀, o₀) hh hr hsmall F N
    (start_map (by intro p hp; rw [List.mem_singleton.mp hp]; exact hy)) ⟨hj, hD, hDl⟩
    (fun i t c h tk I oI own hi hJ hw hI F₁ N₁ => turn i t c.1 c.2 h tk I oI own hi hJ.1 hJ.2.1 hJ.2.2 (fun e => hw (c.1, c.2) (.head _) (List.mem_singleton.mpr e)) (fun p hp => hw p (.tail _ hp)) hI F₁ N₁)
    fun c u h tk hJ F₁ N₁ => done c.1 c.2 u h tk hJ.1 hJ.2.1 hJ.2.2 F₁ N₁
end
theorem ways_end {prog : Program} {w : World} {s : Shared} {L : Addr} {h₀ : Heap} {x : Str} {Q : Flow → Shared → Prop} {I D : Addr} {oI o : Obj} {own news : List (Addr × Obj)} {m₀ m' : Str → Option Value} {c : List (Int × Int)} {h h' : Heap} {tk tk' : Nat} {g1 g2 : Addr × Obj}
    (hw : ∀ p ∈ news, p.1 ∉ [I]) (hI : (I, oI) ∈ own) (F : Fr h₀ L h' m') (h1 : m' (Str.ofString "ways") = some (.ref D)) (h2 : ∀ y, y ≠ x → y ≠ Str.ofString "ways" → m' y = m₀ y)
    (N : News h₀ L h' ((D, o) :: g1 :: g2 :: (news ++ own))) (hl : AllLt D (news ++ own)) (hM : IsMap prog w c o) (lo : (D == sysModules) = false) :
    WaysTurn prog w h₀ L x I own news m₀ c { s with heap := h, toks := tk } Q .next { s with heap := h', toks := tk' } := by
  refine turn_end (σ := Addr × Obj) (Led := fun c => (c.1, c.2) :: news) (ps := fun c => [(Str.ofString "ways", .ref c.1)]) (D, o) F (by intro p hp; rw [List.mem_singleton.mp hp]; exact h1) (fun z hz hn => h2 z hz (hn _ (.head _)))
    (fun p hp => N p ((List.mem_cons.mp hp).elim (fun e => e ▸ .head _) fun hp => .tail _ (.tail _ (.tail _ hp)))) ?_ ⟨hM, lo, fun p hp => allLt_mem hl p (List.mem_append_left _ hp)⟩
  intro p hp
  rcases List.mem_cons.mp hp with rfl | hp
  · intro hm
    have e : D = I := List.mem_singleton.mp hm
    have h2 : I < D := allLt_mem hl (I, oI) (List.mem_append_right _ hI)
    exact absurd (e ▸ h2) (Nat.lt_irrefl _)
  · exact hw p hp
local macro_rules | `(tactic| walk_at "eval DictComp") => `(tactic| (k_here; k_dflt (refine' dictcomp_range (b₀ := 36) ?kF ?kN ?k0 ?k1 ?k2 ?k3 ?k4 ?k5 ?k6 ?k7 ?k8 ?k9 ?_ ?k10; (case kF => k_asm); (case kN => k_asm); (case k0 => with_unfolding_all rfl); (case k1 => with_unfolding_all rfl); (case k2 => decide); (case k3 => with_unfolding_all rfl); (case k4 => decide); (case k5 => with_unfolding_all rfl); (case k6 => decide); (case k7 => with_reducible assumption); (case k8 => with_reducible assumption); (case k9 => with_reducible assumption); (case k10 => intro _; with_unfolding_all rfl))))
local macro_rules | `(tactic| walk_at "Exists") => `(tactic| (k_here; refine ⟨_, _, _, _, rfl, by with_reducible assumption, by with_reducible assumption, by with_reducible assumption, ?_⟩; intro D' o' h' tk' F' N' im' lo' l1'; obtain ⟨kvs', hd', hf'⟩ := im'; (try k_lt l1')))
set_option maxRecDepth 100000 in
set_option maxHeartbeats 8000000 in
theorem ways_C {prog : Program} {w : World} {p : Program} {loose : List Str} {mean : ExcName → Option Value} {mg mb : Str → Option Value} {news : List (Addr × Obj)}
   {one other : Int} {t1 t2 : Tok} {dp un : Nat} {gd : Option (List Code)} {cn : Str} {cs : Scope} {a : Addr} {ccd : Value} {cl : List (Str × Addr)} {outer : List Env} {A₀ : Around} {base h₀ : Heap} {L : Addr} {m : Str → Option Value} {s : Shared} {Q E : Value → Shared → Prop}
    (B : Below A₀ base outer h₀) (F : Fr h₀ L s.heap m) (X : (hd.heap_39 w.params).In h₀) (N : News h₀ L s.heap news) (T : Top p loose mean mg mb h₀) (hk : cs.kind = .function)
    (hdp : dp + 20 < 1000) (hun : un + 100 < 9900) (ho0 : 3 ≤ one) (ho1 : one ≤ 6) (hm0 : 4 ≤ other) (hm1 : other ≤ 7)
    (hret : ∀ D o h' tk', Fr h₀ L h' m → News h₀ L h' ((D, o) :: news) → IsMap prog w (waysC one other (Builtin.Range.rangeSize 0 36 one).toNat) o → (D == sysModules) = false → (∀ p ∈ news, p.1 < D) → Q (.ref D) { s with heap := h', toks := tk' }) :
      wpAny (model prog w) (ktrTop dp un gd cn cs L a ccd cl outer) (call (.ref 127) [.int one t1, .int other t2]) Q E s := by
  refine wpAny_call ?_
  (first | k_dflt cell_enter | fail "not entered")
  k_steps
  (with_reducible rename Fr _ _ _ _ => lF')
  (with_reducible rename News _ _ _ _ => lN')
  (with_reducible rename IsRange _ _ _ _ _ _ _ _ => rgX)
  with_unfolding_all refine' ways_loop (prog := prog) (w := w) (C := waysC one other) ?k0 rgX ?k1 lF' lN' ?k2 ?k3 ?k4 ?k5 ?_ ?_
  case k0 => with_unfolding_all rfl
  case k1 => exact small_of (by omega) (by omega) (by omega) (by omega) (by omega) (by omega)
  case k2 => exact rfl
  case k3 => exact ⟨[], by assumption, by assumption⟩
  case k4 => assumption
  case k5 => assumption
  · clear lF' lN'
    intro i t D o h tk I oI own hi him hD hDl hDI hlw hown F₁ N₁
    dsimp only [envOf] at F₁ N₁
    k_fold
    obtain ⟨kvs, hdo, hfo⟩ := him
    obtain ⟨hlen, hlen2⟩ := ways_len ho0 ho1 hm0 hm1 hi
    unfold rowC at hlen2
    obtain ⟨hf0, hf1⟩ := first_in ho0 hi
    have hsm : Builtin.Range.small (0 + (i : Int) * one) 36 other = true := small_of hf0 (by omega) (by omega) (by omega) (by omega) (by omega)
    have hszl : (Builtin.Range.rangeSize (0 + (i : Int) * one) 36 other).toNat ≤ sizeLine := by
      have := rangeSize_toNat_le (0 + (i : Int) * one) 36 other
      rw [sizeLine_eq]; omega
    (with_reducible rename Top _ _ _ _ _ _ => tT')
    have hlow := modules_low tT'.nolimit
    k_steps
    (with_reducible rename _ ∧ _ ∧ AllLt _ _ => hl9)
    exact ways_end hlw hown (by k_asm) rfl (fun y q1 q2 => by simp only [q1, q2, if_false]) (by k_asm) hl9.2.2 (by show IsMap prog w ((onesOf (rangeK (0 + (i : Int) * one) other (Builtin.Range.rangeSize (0 + (i : Int) * one) 36 other).toNat)).foldl addP ((waysC one other i).foldl putC [])) _; assumption) (by with_reducible assumption)
  · clear lF' lN'
    intro D o u h tk him hD hDl F₁ N₁
    dsimp only [envOf] at F₁ N₁
    (try dsimp only)
    k_steps
    exact hret _ _ _ _ (by k_asm) (by k_asm) him hD hDl
end Mine
namespace Mine
section
variable {prog : Program} {w : World} {A : Around} {E : Value → Shared → Prop} {s : Shared} {env : Env} {test : PySem.Expr} {body orelse : List Stmt} {Q : Flow → Shared → Prop}
theorem whl_inv (I : Nat → Shared → Prop) (hE : PassesOwn (model prog w) A env E)
    (turn : ∀ n s, I n s → wpAny (model prog w) A (isTrue test env (eval test env)) (fun b s₂ => WhlIf b (wpAny (model prog w) A (execs body env) (fun f s₃ => f = .next ∧ ∃ m, m < n ∧ I m s₃) E s₂) (wpAny (model prog w) A (execs orelse env) Q E s₂)) E s) :
    ∀ n s, I n s → WhlRest prog w A E env test body orelse Q 0 s := by
  intro n
  induction n using Nat.strongRecOn with
  | _ n ih =>
    intro s h
    refine whl_turn (k := 0) hE (wpAny_mono (turn n s h) (fun b s₂ h₂ => ?_) fun _ _ e => e)
    cases b with
    | false => exact WhlIf.no rfl h₂
    | true =>
      refine WhlIf.yes rfl (wpAny_mono (show wpAny (model prog w) A (execs body env) (fun f s₃ => f = .next ∧ ∃ m, m < n ∧ I m s₃) E s₂ from h₂) (fun f s₃ h₃ => ?_) fun _ _ e => e)
      obtain ⟨rfl, m, hm, hI⟩ := h₃
      exact ih m hm s₃ hI
/-- a while that turns one cell's int, four to seven -/
def CellTurn (h₀ : Heap) (L c : Addr) (m : Str → Option Value) (pre post : List (Addr × Obj)) (s₀ : Shared) (v : Int) (f : Flow) (s : Shared) : Prop :=
  f = .next ∧ ∃ h' tk o v' t, s = { s₀ with heap := h', toks := tk } ∧ Fr h₀ L h' m ∧ News h₀ L h' (pre ++ (c, o) :: post) ∧ o.data = Data.cell (some (.int v' t)) ∧ v < v' ∧ v' ≤ 7
theorem while_cell {h₀ : Heap} {L c : Addr} {m : Str → Option Value} {pre post : List (Addr × Obj)} {o₀ : Obj} {v₀ : Int} {t₀ : Tok} {pos : Pos}
    (F : Fr h₀ L s.heap m) (N : News h₀ L s.heap (pre ++ (c, o₀) :: post)) (hd : o₀.data = Data.cell (some (.int v₀ t₀))) (h4 : 4 ≤ v₀) (h7 : v₀ ≤ 7) (hE : PassesOwn (model prog w) A env E)
    (turn : ∀ v t o h tk, 4 ≤ v → v ≤ 7 → o.data = Data.cell (some (.int v t)) → Fr h₀ L h m → News h₀ L h (pre ++ (c, o) :: post) →
      wpAny (model prog w) A (isTrue test env (eval test env)) (fun b s₂ => WhlIf b (wpAny (model prog w) A (execs body env) (CellTurn h₀ L c m pre post s v) E s₂) (wpAny (model prog w) A (execs orelse env) Q E s₂)) E { s with heap := h, toks := tk }) :
    wpAny (model prog w) A (exec (.While test body orelse pos) env) Q E s := by
  refine whl_start 0 (whl_inv (fun n s' => ∃ h' tk o v t, s' = { s with heap := h', toks := tk } ∧ Fr h₀ L h' m ∧ News h₀ L h' (pre ++ (c, o) :: post) ∧ o.data = Data.cell (some (.int v t)) ∧ 4 ≤ v ∧ v ≤ 7 ∧ (n : Int) = 7 - v) hE ?_ (7 - v₀).toNat s
    ⟨s.heap, s.toks, o₀, v₀, t₀, rfl, F, N, hd, h4, h7, by omega⟩)
  rintro n s' ⟨h', tk, o, v, t, rfl, F', N', hd', h4', h7', hn⟩
  refine wpAny_mono (turn v t o h' tk h4' h7' hd' F' N') (fun b s₂ h₂ => ?_) fun _ _ e => e
  cases b with
  | false => exact WhlIf.no rfl h₂
  | true =>
    refine WhlIf.yes rfl (wpAny_mono (show wpAny (model prog w) A (execs body env) (CellTurn h₀ L c m pre post s v) E s₂ from h₂) (fun f s₃ h₃ => ?_) fun _ _ e => e)
    obtain ⟨rfl, h'', tk'', o'', v'', t'', rfl, F'', N'', hd'', hlt, hle⟩ := h₃
    exact ⟨rfl, (7 - v'').toNat, by omega, h'', tk'', o'', v'', t'', rfl, F'', N'', hd'', by omega, hle, by omega⟩
end
end Mine
namespace Mine
section
variable {prog : Program} {w : World} {A : Around} {E : Value → Shared → Prop} {s : Shared} {env : Env} {h₀ : Heap} {Q : Flow → Shared → Prop}
def CTurn (h₀ : Heap) (L : Addr) (st : List Str) (m₀ : Str → Option Value) (led : List (Addr × Obj)) (s₁ : Shared) (f : Flow) (s₂ : Shared) : Prop :=
  f = .next ∧ ∃ h' tk m', s₂ = { s₁ with heap := h', toks := tk } ∧ Fr h₀ L h' m' ∧ (∀ y, st.contains y = false → m' y = m₀ y) ∧ News h₀ L h' led
/-- a loop over a made list of ints whose target is a cell -/
theorem cell_iter {x : Str} {px : Pos} {body : List Stmt} {c l : Addr} {o₀ : Obj} {pre post : List (Addr × Obj)} {vs : List Value} {ns : List Int} {kk : Nat} {m₀ : Str → Option Value} {v₀ : Option Value} (st : List Str)
    (hh : A.handled = none) (hk : env.scope.kind = .function) (hxc : env.kindOf x = some .cell) (hcl : env.cells.lookup x = some c) (F : Fr h₀ env.locals s.heap m₀) (N : News h₀ env.locals s.heap (pre ++ (c, o₀) :: post)) (hd : o₀.data = Data.cell v₀)
    (hpre : ∀ p ∈ pre, p.1 ≠ c) (hpost : ∀ p ∈ post, p.1 ≠ c) (hmem : (l, W.listOf vs.toArray kk) ∈ pre) (hi : IntsAre vs ns) (hE : PassesOwn (model prog w) A env E)
    (turn : ∀ (i : Nat) (n : Int) t o h tk I oI (u : Str → Option Value), ns[i]? = some n → o.data = Data.cell (some (.int n t)) → Fr h₀ env.locals h (fun y => if st.contains y = true then u y else m₀ y) → News h₀ env.locals h ((I, oI) :: (pre ++ (c, o) :: post)) →
      wpAny (model prog w) A (execs body env) (CTurn h₀ env.locals st m₀ ((I, oI) :: (pre ++ (c, o) :: post)) { s with heap := h, toks := tk }) E { s with heap := h, toks := tk })
    (done : ∀ o (u : Str → Option Value) h tk, Fr h₀ env.locals h (fun y => if st.contains y = true then u y else m₀ y) → News h₀ env.locals h (pre ++ (c, o) :: post) → Q .next { s with heap := h, toks := tk }) :
    wpAny (model prog w) A (pyIter (.ref l)) (fun it s₂ => codeAny (model prog w) A (.forLoop (.Name x px) it body [] env) (fun r s' => match r with | .ok f => Q f s' | .error e => cameBackBy (model prog w) A env E e s') s₂) E s := by
  have hLs : s.heap.IsList l vs.toArray := News.isList N (List.mem_append_left _ hmem)
  have hlL : l ≠ env.locals := (N _ (List.mem_append_left _ hmem)).2.1
  have hl0 : l < s.heap.objs.size := Heap.lt_size (N _ (List.mem_append_left _ hmem)).1
  have hLl : env.locals < s.heap.objs.size := F.ns.lt
  have hcN := N (c, o₀) (List.mem_append_right _ (.head _))
  have hlc : l ≠ c := hpre _ hmem
  have hcs : c < s.heap.objs.size := Heap.lt_size hcN.1
  have hcL : c ≠ env.locals := hcN.2.1
  have hc0 : h₀.get? c = none := hcN.2.2
  have hlt : ∀ o, ∀ p ∈ pre ++ (c, o) :: post, p.1 < s.heap.objs.size := by
    intro o p hp
    rcases List.mem_append.mp hp with hp | hp
    · exact Heap.lt_size (N p (List.mem_append_left _ hp)).1
    · rcases List.mem_cons.mp hp with rfl | hp
      · exact hcs
      · exact Heap.lt_size (N p (List.mem_append_right _ (.tail _ hp))).1
  refine wpAny_pyIter_list hLs ?_
  have W := Walks.list (prog := prog) (w := w) hh s.heap.objs.size l (Nat.ne_of_lt hl0) vs.toArray
  have hn : vs.toArray.size = ns.length := by simp [hi.length]
  rw [hn] at W
  have hI0 : h₀.get? s.heap.objs.size = none := next_is_new F
  have hIL : s.heap.objs.size ≠ env.locals := Nat.ne_of_gt hLl
  have hIne : ∀ o, ∀ p ∈ pre ++ (c, o) :: post, p.1 ≠ s.heap.objs.size := fun o p hp => Nat.ne_of_lt (hlt o p hp)
  have hcI : c ≠ s.heap.objs.size := Nat.ne_of_lt hcs
  generalize hIe : s.heap.objs.size = I at *
  have old : ∀ b ob, h₀.get? b = some ob → b ≠ I := fun b ob e q => by rw [q, hI0] at e; cases e
  have oldL : ∀ b ob, h₀.get? b = some ob → b ≠ env.locals := fun b ob e => Nat.ne_of_lt (Nat.lt_of_lt_of_le (Heap.lt_size e) F.above)
  have oldc : ∀ b ob, h₀.get? b = some ob → b ≠ c := fun b ob e q => by rw [q, hc0] at e; cases e
  refine codeAny_forLoop
    (fun k s' => ∃ h' tk m' i o v, s' = { s with heap := h', toks := tk } ∧ (h'.IsListIter I l i ∧ h'.IsList l vs.toArray) ∧ Fr h₀ env.locals h' m' ∧ (∀ y, st.contains y = false → m' y = m₀ y) ∧ News h₀ env.locals h' (pre ++ (c, o) :: post) ∧ o.data = Data.cell v ∧ i ≤ ns.length ∧ k = ns.length + 1 - i) ?_ (ns.length + 1)
    ⟨_, s.toks, m₀, 0, o₀, v₀, rfl, ⟨⟨_, by rw [← hIe]; exact Heap.get?_push_size _ rfl, rfl, rfl⟩, hLs.at fun o e => Heap.get?_push_of_some _ e⟩, F.push _, fun _ _ => rfl, fun p hp => ⟨Heap.get?_push_of_some _ (N p hp).1, (N p hp).2⟩, hd, Nat.zero_le _, rfl⟩
  rintro k s' ⟨h', tk, m', i, o, v, rfl, hst', F', hm', N', hd', hile, rfl⟩
  have next : ∀ h₁ : Heap, (∀ b ob, b ∉ [I] → h'.get? b = some ob → h₁.get? b = some ob) → Fr h₀ env.locals h₁ m' ∧ News h₀ env.locals h₁ (pre ++ (c, o) :: post) := fun h₁ hk₁ =>
    ⟨⟨F'.ns.at' fun ob e => hk₁ _ ob (fun hm => hIL (List.mem_singleton.mp hm).symm) e, fun b ob e => hk₁ b ob (fun hm => old b ob e (List.mem_singleton.mp hm)) (F'.keep b ob e), F'.above⟩,
      fun p hp => ⟨hk₁ _ _ (fun hm => hIne o p hp (List.mem_singleton.mp hm)) (N' p hp).1, (N' p hp).2⟩⟩
  by_cases hlt' : i < ns.length
  · refine W.item i _ _ _ hlt' hst' fun v h₁ tk₁ hP hst₁ hk₁ => ?_
    obtain ⟨F₁, N₁⟩ := next h₁ hk₁
    obtain ⟨t, hx⟩ := hi.get i ns[i] (by simp [hlt'])
    have hv : v = .int ns[i] t := by
      have hP' : vs[i]? = some v := by simpa using hP
      rw [hx] at hP'; exact (Option.some.inj hP').symm
    subst hv
    have hcN₁ := N₁ (c, o) (List.mem_append_right _ (.head _))
    refine wpAny_assign_Name (wpAny_storeName_cell hk hxc hcl ⟨o, hcN₁.1, hd'⟩ fun h₂ hv₂ hs₂ => ?_)
    obtain ⟨o₂, ho₂, hd₂⟩ := hv₂
    have keep₂ : ∀ b ob, b ≠ c → h₁.get? b = some ob → h₂.get? b = some ob := fun b ob hb e => (hs₂.2 b hb).trans e
    have F₂ : Fr h₀ env.locals h₂ m' := ⟨F₁.ns.sameBut hs₂ (Ne.symm hcL), fun b ob e => keep₂ b ob (oldc b ob e) (F₁.keep b ob e), F₁.above⟩
    have em : (fun y => if st.contains y = true then m' y else m₀ y) = m' := by
      funext y
      cases hy : st.contains y with
      | true => rw [if_pos rfl]
      | false => rw [if_neg Bool.false_ne_true]; exact (hm' y hy).symm
    have F₂' : Fr h₀ env.locals h₂ (fun y => if st.contains y = true then m' y else m₀ y) := by rw [em]; exact F₂
    obtain ⟨oI, hoI, hcI', hdI'⟩ := hst₁.1
    have hoI₂ := keep₂ I oI (Ne.symm hcI) hoI
    have N₂ : News h₀ env.locals h₂ ((I, oI) :: (pre ++ (c, o₂) :: post)) := by
      intro p hp
      rcases List.mem_cons.mp hp with rfl | hp
      · exact ⟨hoI₂, hIL, hI0⟩
      · rcases List.mem_append.mp hp with hp | hp
        · have q := N₁ p (List.mem_append_left _ hp); exact ⟨keep₂ _ _ (hpre p hp) q.1, q.2⟩
        · rcases List.mem_cons.mp hp with rfl | hp
          · exact ⟨ho₂, hcL, hc0⟩
          · have q := N₁ p (List.mem_append_right _ (.tail _ hp)); exact ⟨keep₂ _ _ (hpost p hp) q.1, q.2⟩
    refine wpAny_mono (wpAny_passesOwn hE (turn i ns[i] t o₂ h₂ tk₁ I oI m' (by simp [hlt']) hd₂ F₂' N₂)) (fun f s₃ h₃ => ?_) fun _ _ e => e
    obtain ⟨rfl, h₃, tk₃, m₃, rfl, F₃, hm₃, N₃⟩ := h₃
    refine ⟨ns.length + 1 - (i + 1), by omega, h₃, tk₃, m₃, i + 1, o₂, _, rfl, ⟨⟨oI, (N₃ _ (.head _)).1, hcI', hdI'⟩, News.isList N₃ (.tail _ (List.mem_append_left _ hmem))⟩, F₃, hm₃, fun p hp => N₃ p (.tail _ hp), hd₂, hlt', rfl⟩
  · have hin : i = ns.length := by omega
    subst hin
    refine W.done _ _ _ hst' fun h₁ tk₁ hk₁ => wpAny_execs_nil ?_
    obtain ⟨F₁, N₁⟩ := next h₁ hk₁
    refine done o m' h₁ tk₁ ?_ N₁
    have em : (fun y => if st.contains y = true then m' y else m₀ y) = m' := by
      funext y
      cases hy : st.contains y with
      | true => rw [if_pos rfl]
      | false => rw [if_neg Bool.false_ne_true]; exact (hm' y hy).symm
    rw [em]; exact F₁
end
end Mine
namespace Mine
section
variable {prog : Program} {w : World} {A : Around} {E : Value → Shared → Prop} {s : Shared} {env : Env} {h₀ : Heap} {L : Addr} {m : Str → Option Value} {news : List (Addr × Obj)}
def pS (n d : Int) : Value → Bool
  | .int k _ => (n - k).fmod d == 0
  | _ => false
theorem pS_count {n v a₀ d : Int} {c : Nat} : ∀ vs : List Value, vs.length = c → (∀ (j : Nat) (u : Value), vs[j]? = some u → ∃ t, u = .int (a₀ + (j : Int) * d) t) →
    (vs.filter (pS n v)).length = ((rangeK a₀ d c).filter (fun k => (n - k).fmod v == 0)).length := by
  intro vs hl hP
  have e : rangeK a₀ d c = vs.map fun u => match u with | .int k _ => k | _ => 0 := by
    apply List.ext_getElem?
    intro j
    unfold rangeK
    rw [List.getElem?_map, List.getElem?_map]
    by_cases h : j < c
    · have h2 : j < vs.length := by omega
      obtain ⟨t, e⟩ := hP j vs[j] (List.getElem?_eq_getElem h2)
      rw [List.getElem?_eq_getElem h2, e, List.getElem?_range h]
      rfl
    · rw [List.getElem?_eq_none (by simp; omega), List.getElem?_eq_none (by omega)]; rfl
  rw [e, List.filter_map, List.length_map]
  congr 1
  apply List.filter_congr
  intro u hu
  obtain ⟨j, hj⟩ := List.getElem?_of_mem hu
  obtain ⟨t, rfl⟩ := hP j u hj
  rfl
theorem lookup_keyed {α β γ : Type} [BEq α] [LawfulBEq α] (f : α → β → γ) (x : α) : ∀ l : List (α × β), (l.map fun p => (p.1, f p.1 p.2)).lookup x = (l.lookup x).map (f x) := by
  intro l
  induction l with
  | nil => rfl
  | cons p l ih =>
    obtain ⟨n, b⟩ := p
    rw [List.map_cons, List.lookup_cons, List.lookup_cons]
    by_cases q : (x == n) = true
    · rw [q, eq_of_beq q]; rfl
    · rw [Bool.not_eq_true] at q
      rw [q]; exact ih
theorem lookup_relabel_cell {env : Env} (hk : env.scope.kind = .function) {names : List (Str × NameKind)} {x : Str} (hx : env.kindOf x = some .cell) (hf : names.lookup x = some .free) :
    (names.map fun (n, k) => if (k == NameKind.free && env.scope.kind == .function && env.kindOf n == some .cell) then (n, NameKind.cell) else (n, k)).lookup x = some .cell := by
  have e : ∀ p : Str × NameKind, (match p with | (n, k) => if (k == NameKind.free && env.scope.kind == ScopeKind.function && env.kindOf n == some NameKind.cell) then (n, NameKind.cell) else (n, k))
      = (p.1, if (p.2 == NameKind.free && env.scope.kind == ScopeKind.function && env.kindOf p.1 == some NameKind.cell) then NameKind.cell else p.2) := fun p => by
    by_cases q : (p.2 == NameKind.free && env.scope.kind == ScopeKind.function && env.kindOf p.1 == some NameKind.cell) = true
    · exact (if_pos q).trans (by rw [if_pos q])
    · exact (if_neg q).trans (by rw [if_neg q])
  rw [List.map_congr_left fun p _ => e p, lookup_keyed (fun n k => if (k == NameKind.free && env.scope.kind == ScopeKind.function && env.kindOf n == some NameKind.cell) then NameKind.cell else k), hf, Option.map_some, hk, hx]
  rfl
theorem listcomp_stride {iter : Expr} {x c o : Str} {px p1 pos pc px' po q1 q2 q3 q4 : Pos} {kd : Nat} {scope : Scope} {cl : List (Str × Addr)} {Q : Value → Shared → Prop} {a₀ b₀ d n v : Int} {ca oa : Addr} {oc oo : Obj} {tn tv : Tok}
    {z : Int} (_F : Fr h₀ L s.heap m) (hh : A.handled = none) (hclos : closureFor scope env = pure cl) (hcell : ∀ y ∈ scope.names, y.2 ≠ .cell) (hkind : scope.kind = .function)
    (hnames : ∀ y ∈ scope.names, y.2 = .local → scope.names.lookup y.1 = some .local) (hx : scope.names.lookup x = some .local) (hxd : (x == ("__debug__" : Str)) = false)
    (hcd : (c == ("__debug__" : Str)) = false) (hod : (o == ("__debug__" : Str)) = false)
    (hek : env.scope.kind = .function) (hcf : scope.names.lookup c = some .free) (hof : scope.names.lookup o = some .free) (hec : env.kindOf c = some .cell) (heo : env.kindOf o = some .cell)
    (hcc : cl.lookup c = some ca) (hoc : cl.lookup o = some oa) (N₀ : News h₀ L s.heap news) (hmc : (ca, oc) ∈ news) (hmo : (oa, oo) ∈ news) (hdc : oc.data = .cell (some (.int n tn))) (hdo : oo.data = .cell (some (.int v tv))) (hv : v ≠ 0)
    (hsmall : Builtin.Range.small a₀ b₀ d = true) (hsz : (Builtin.Range.rangeSize a₀ b₀ d).toNat ≤ sizeLine) (hz : z = (((rangeK a₀ d (Builtin.Range.rangeSize a₀ b₀ d).toNat).filter (fun k => (n - k).fmod v == 0)).length : Int)) (hzb : z < 2 ^ 63)
    (h : wpAny (model prog w) A (eval iter env) (fun xv s₁ => ∃ r t u v', xv = .ref r ∧ IsRange s₁.heap r a₀ b₀ d t u v' ∧ Fr h₀ L s₁.heap m ∧ News h₀ L s₁.heap news ∧
      (∀ D h' tk nn ys, Fr h₀ L h' m → News h₀ L h' ((D, W.listOf ys nn) :: news) → z = (ys.size : Int) → (ys.size : Int) < 2 ^ 63 → Q (.ref D) { s₁ with heap := h', toks := tk })) E s)
    (hs : ∀ x, foldedSetIterable iter env x = pure x := by intro _; rfl) :
    wpAny (model prog w) A (eval (.ListComp (.Name x p1) [⟨.Name x px, iter, [.Compare (.BinOp (.BinOp (.Name c pc) .Sub (.Name x px') q1) .Mod (.Name o po) q2) [.Eq] [.Constant (.int 0) kd q3] q4], 0⟩] scope pos) env) Q E s := by
  refine wpAny_ListComp_free (pS n v) (fun _ _ => True) hclos hcell hkind hnames hx (wpAny_mono h (fun xv s₁ h₁ => ?_) fun _ _ e => e) hs
  obtain ⟨r, t, u, v', rfl, hr, F, N, hQ⟩ := h₁
  refine wpAny_pyIter_range hr hsmall ?_
  have hn := rangeSize_toNat a₀ b₀ d
  generalize hnn : (Builtin.Range.rangeSize a₀ b₀ d).toNat = cnt at *
  have hLs : L < s₁.heap.objs.size := F.ns.lt
  refine ⟨s₁.heap.objs.size, [s₁.heap.objs.size], [s₁.heap.objs.size], cnt, (fun i v => ∃ t, v = .int (a₀ + i * d) t),
      (fun i h => IsRangeIter h s₁.heap.objs.size (a₀ + (i : Nat) * d) ((cnt : Int) - (i : Nat)) d), rfl, Walks.range hh _ a₀ d _, hsz, ?_, ?_, ?_, ?_⟩
  · show IsRangeIter _ _ _ _ _
    rw [← hn]; simpa using Heap.get?_push_size _ rfl
  · intro b hb
    rw [List.mem_singleton.mp hb]
    show s₁.heap.objs.size < (s₁.heap.push _).objs.size
    rw [Heap.size_push]; exact Nat.lt_succ_self _
  · have cellAt : ∀ {o' : Obj} {s₃ : Shared} {b : Addr} {ob : Obj}, (∀ (b : Addr) (o : Obj), b ∉ [s₁.heap.objs.size] → (s₁.heap.push o').get? b = some o → s₃.heap.get? b = some o) → (b, ob) ∈ news → s₃.heap.get? b = some ob := fun hk hm =>
      hk _ _ (fun e => Nat.lt_irrefl _ ((List.mem_singleton.mp e) ▸ Heap.lt_size (N _ hm).1)) (Heap.get?_push_of_some _ (N _ hm).1)
    constructor
    · rintro C i _ s₃ m₃ E' hC ⟨t, rfl⟩ hns hm hk htk
      refine wpAny_tests_one ?_
      refine wpAny_isTrue_Compare1 (wpAny_BinOp (wpAny_BinOp (wpAny_Name (wpAny_loadName_cell hkind (lookup_relabel_cell hek hec hcf) hcc ⟨oc, cellAt hk hmc, hdc⟩ ?_) hcd)))
      refine wpAny_Name (wpAny_loadName_local hkind (lookup_relabel_local hx) hns hm ?_) hxd
      refine sub_int ?_
      refine wpAny_Name (wpAny_loadName_cell hkind (lookup_relabel_cell hek heo hof) hoc ⟨oo, cellAt hk hmo, hdo⟩ ?_) hod
      refine mod_int hv ?_
      refine wpAny_Constant_int ?_
      refine eq_int (wpAny_truthy_bool ?_)
      exact ⟨rfl, _, _, rfl, fun _ _ e => e⟩
    · rintro C i _ s₃ m₃ E' hC ⟨t, rfl⟩ hp hns hm hk htk
      exact wpAny_Name (wpAny_loadName_local hkind (lookup_relabel_local hx) hns hm ⟨trivial, _, _, rfl, fun _ _ e => e⟩) hxd
  · intro D h' tk ys vs hD _ hpl hlen hP hF hk
    obtain ⟨nn, hpl⟩ := hpl
    have keep : ∀ b o, s₁.heap.get? b = some o → h'.get? b = some o := fun b o e => hk b o (fun q => Nat.lt_irrefl _ ((List.mem_singleton.mp q) ▸ Heap.lt_size e)) (Heap.get?_push_of_some _ e)
    have hDn : ∀ o, s₁.heap.get? D ≠ some o := fun o e => by
      have q := hD.symm.trans (Heap.get?_push_of_some _ e)
      cases q
    have hlz : z = (ys.size : Int) := by
      have q := hF.length
      rw [pS_count vs hlen hP] at q
      rw [hz, q]
      simp
    refine hQ D h' tk nn ys (F.keeps keep) ?_ hlz (hlz ▸ hzb)
    · intro p hp
      rcases List.mem_cons.mp hp with rfl | hp
      · refine ⟨hpl, ?_, ?_⟩
        · rintro rfl
          obtain ⟨o, _, _, ho, _⟩ := F.ns
          exact hDn o ho
        · show h₀.get? D = none
          cases q : h₀.get? D with
          | none => rfl
          | some ob => exact absurd (F.keep D ob q) (hDn ob)
      · exact ⟨keep _ _ (N p hp).1, (N p hp).2⟩
theorem len_own {l : Addr} {ys : Array Value} {nn : Nat} {Q : Value → Shared → Prop} (N : News h₀ L s.heap news) (hm : (l, W.listOf ys nn) ∈ news) (hfit : (ys.size : Int) < 2 ^ 63)
    (h : Q (.int ys.size (s.toks + 1)) { s with toks := s.toks + 1 + 1 }) : wpAny (model prog w) A (call (.builtin "len") [.ref l]) Q E s :=
  Calls.call_len_list ⟨_, (N _ hm).1, rfl, _, rfl⟩ hfit h
end
end Mine
namespace Mine

local macro_rules | `(tactic| k_room) => `(tactic| ((try simp only [depth_under_make, depth_under_kw, depth_in1, depth_deeper, depth_caller, recursionLimit]); omega))
local macro_rules | `(tactic| k_units) => `(tactic| ((try simp only [units_in1, units_deeper, Around.mark_units, units_caller, cLine]); omega))

/-! floats: the colour functions as plain functions -/
def hI (h : UInt64) : Int := Flt.toInt Float64.truncOf (Float64.mul h 4618441417868443648)
def fF (h : UInt64) : UInt64 := Float64.sub (Float64.mul h 4618441417868443648) (Float64.ofInt (hI h))
def fP : UInt64 := Float64.mul 4607182418800017408 (Float64.sub 4607182418800017408 4607182418800017408)
def fQ (h : UInt64) : UInt64 := Float64.mul 4607182418800017408 (Float64.sub 4607182418800017408 (Float64.mul 4607182418800017408 (fF h)))
def fT (h : UInt64) : UInt64 := Float64.mul 4607182418800017408 (Float64.sub 4607182418800017408 (Float64.mul 4607182418800017408 (Float64.sub 4607182418800017408 (fF h))))
def hsv3 (h : UInt64) : UInt64 × UInt64 × UInt64 :=
  if (hI h).fmod 6 = 0 then (4607182418800017408, fT h, fP)
  else if (hI h).fmod 6 = 1 then (fQ h, 4607182418800017408, fP)
  else if (hI h).fmod 6 = 2 then (fP, 4607182418800017408, fT h)
  else if (hI h).fmod 6 = 3 then (fP, fQ h, 4607182418800017408)
  else if (hI h).fmod 6 = 4 then (fT h, fP, 4607182418800017408)
  else (4607182418800017408, fP, fQ h)
theorem hsv3_0 {h : UInt64} (e : (hI h).fmod 6 = 0) : hsv3 h = (4607182418800017408, fT h, fP) := by unfold hsv3; rw [if_pos e]
theorem hsv3_1 {h : UInt64} (e : (hI h).fmod 6 = 1) : hsv3 h = (fQ h, 4607182418800017408, fP) := by unfold hsv3; rw [e]; rfl
theorem hsv3_2 {h : UInt64} (e : (hI h).fmod 6 = 2) : hsv3 h = (fP, 4607182418800017408, fT h) := by unfold hsv3; rw [e]; rfl
theorem hsv3_3 {h : UInt64} (e : (hI h).fmod 6 = 3) : hsv3 h = (fP, fQ h, 4607182418800017408) := by unfold hsv3; rw [e]; rfl
theorem hsv3_4 {h : UInt64} (e : (hI h).fmod 6 = 4) : hsv3 h = (fT h, fP, 4607182418800017408) := by unfold hsv3; rw [e]; rfl
theorem hsv3_5 {h : UInt64} (e : (hI h).fmod 6 = 5) : hsv3 h = (4607182418800017408, fP, fQ h) := by unfold hsv3; rw [e]; rfl

theorem absurd6 {x : Int} {P : Prop} (h0 : x.fmod 6 ≠ 0) (h1 : x.fmod 6 ≠ 1) (h2 : x.fmod 6 ≠ 2) (h3 : x.fmod 6 ≠ 3) (h4 : x.fmod 6 ≠ 4) (h5 : x.fmod 6 ≠ 5) : P := by
  exfalso
  rw [Int.fmod_eq_emod_of_nonneg x (by decide)] at *
  omega
abbrev tup3 (x y z : Value) : Obj := { cls := .type "tuple", data := .seq #[x, y, z] }
theorem hsv_end {h₀ h' : Heap} {L D : Addr} {m : Str → Option Value} {s : Shared} {Q : Value → Shared → Prop} {news : List (Addr × Obj)} {h x y z : UInt64} {u1 u2 u3 : Tok} {tk : Nat}
   (hret : ∀ D h' tk' u1 u2 u3, Fr h₀ L h' m → News h₀ L h' ((D, tup3 (.float (hsv3 h).1 u1) (.float (hsv3 h).2.1 u2) (.float (hsv3 h).2.2 u3)) :: news) → (∀ p ∈ news, p.1 < D) → Q (.ref D) { s with heap := h', toks := tk' })
   (e : hsv3 h = (x, y, z)) (F : Fr h₀ L h' m) (N : News h₀ L h' ((D, tup3 (.float x u1) (.float y u2) (.float z u3)) :: news)) (l : ∀ p ∈ news, p.1 < D) : Q (.ref D) { s with heap := h', toks := tk } := by
  have := hret D h' tk u1 u2 u3
  rw [e] at this
  exact this F N l

set_option maxRecDepth 100000 in
set_option maxHeartbeats 8000000 in
theorem hsv_C {prog : Program} {w : World} {p : Program} {loose : List Str} {mean : ExcName → Option Value} {mg mb : Str → Option Value} {news : List (Addr × Obj)}
   {h : UInt64} {t1 t2 t3 : Tok} {dp un : Nat} {gd : Option (List Code)} {cn : Str} {cs : Scope} {a : Addr} {ccd : Value} {cl : List (Str × Addr)} {outer : List Env} {A₀ : Around} {base h₀ : Heap} {L : Addr} {m : Str → Option Value} {s : Shared} {Q E : Value → Shared → Prop}
    (B : Below A₀ base outer h₀) (F : Fr h₀ L s.heap m) (X : (hd.heap_39 w.params).In h₀) (N : News h₀ L s.heap news) (T : Top p loose mean mg mb h₀) (hk : cs.kind = .function)
    (hdp : dp + 10 < 1000) (hun : un + 50 < 9900)
    (hnan : ¬ Float64.isNaN (Float64.mul h 4618441417868443648) = true) (hinf : ¬ Float64.isInf (Float64.mul h 4618441417868443648) = true) (hbig : ¬ 2 ^ 1024 - 2 ^ 970 ≤ (Flt.toInt Float64.truncOf (Float64.mul h 4618441417868443648)).natAbs)
    (hret : ∀ D h' tk' u1 u2 u3, Fr h₀ L h' m → News h₀ L h' ((D, tup3 (.float (hsv3 h).1 u1) (.float (hsv3 h).2.1 u2) (.float (hsv3 h).2.2 u3)) :: news) → (∀ p ∈ news, p.1 < D) → Q (.ref D) { s with heap := h', toks := tk' }) :
      wpAny (model prog w) (ktrTop dp un gd cn cs L a ccd cl outer) (call (.ref 101) [.float h t1, .float 4607182418800017408 t2, .float 4607182418800017408 t3]) Q E s := by
  refine wpAny_call ?_
  (first | k_dflt cell_enter | fail "not entered")
  k_steps
  all_goals first
    | exact absurd (by assumption) hnan
    | exact absurd (by assumption) hinf
    | exact absurd (by assumption) hbig
    | (exfalso; exact absurd (by assumption) (show ¬ (Float64.cmp 4607182418800017408 0 == some Ordering.eq) = true by decide +kernel))
    | exact hsv_end hret (hsv3_0 (by assumption)) (by assumption) (by assumption) (by assumption)
    | exact hsv_end hret (hsv3_1 (by assumption)) (by assumption) (by assumption) (by assumption)
    | exact hsv_end hret (hsv3_2 (by assumption)) (by assumption) (by assumption) (by assumption)
    | exact hsv_end hret (hsv3_3 (by assumption)) (by assumption) (by assumption) (by assumption)
    | exact hsv_end hret (hsv3_4 (by assumption)) (by assumption) (by assumption) (by assumption)
    | exact hsv_end hret (hsv3_5 (by assumption)) (by assumption) (by assumption) (by assumption)
    | exact absurd6 (by assumption) (by assumption) (by assumption) (by assumption) (by assumption) (by assumption)

/-! max, min of three floats -/
def max3 (x y z : UInt64) : UInt64 := if (Float64.cmp (if (Float64.cmp x y == some .lt) = true then y else x) z == some .lt) = true then z else (if (Float64.cmp x y == some .lt) = true then y else x)
def min3 (x y z : UInt64) : UInt64 := if (Float64.cmp z (if (Float64.cmp y x == some .lt) = true then y else x) == some .lt) = true then z else (if (Float64.cmp y x == some .lt) = true then y else x)
section
variable {prog : Program} {w : World} {A : Around} {E : Value → Shared → Prop} {s : Shared} {Q : Value → Shared → Prop} {x y z : UInt64} {t u v : Tok} {h₀ : Heap} {L : Addr} {m : Str → Option Value} {news : List (Addr × Obj)}
/-- the place that three turns of a search end at, read off -/
theorem best_of3 {bt : Nat → Nat → Bool} {a b c v : Value} (h : #[a, b, c][argBest bt 2]? = some v) : v = if bt 2 (if bt 1 0 then 1 else 0) then c else if bt 1 0 then b else a := by
  have e : argBest bt 2 = if bt 2 (if bt 1 0 then 1 else 0) then 2 else if bt 1 0 then 1 else 0 := rfl
  rw [e] at h
  by_cases q1 : bt 1 0 = true
  · simp only [if_pos q1] at h ⊢
    by_cases q2 : bt 2 1 = true
    · simp only [if_pos q2] at h ⊢; exact (Option.some.inj h).symm
    · simp only [if_neg q2] at h ⊢; exact (Option.some.inj h).symm
  · simp only [if_neg q1] at h ⊢
    by_cases q2 : bt 2 0 = true
    · simp only [if_pos q2] at h ⊢; exact (Option.some.inj h).symm
    · simp only [if_neg q2] at h ⊢; exact (Option.some.inj h).symm
/-- a search by one comparison through a new tuple of three -/
theorem three_tuple {op : CmpOp} {bt : Nat → Nat → Bool} {a b c : Value} (hh : A.handled = none) (hb : CmpOf prog w A.in1 op (fun i v => #[a, b, c][i]? = some v) bt)
    (h : ∀ h' tk, (∀ d o, s.heap.get? d = some o → h'.get? d = some o) → Q (if bt 2 (if bt 1 0 then 1 else 0) then c else if bt 1 0 then b else a) { s with heap := h', toks := tk }) :
    wpAny (model prog w) A.in1 (pyIter (.ref s.heap.objs.size)) (fun it s₂ => ∃ I fp wr n P St bt', it = .ref I ∧ Walks prog w A.in1 I fp wr n P St ∧ St 0 s₂.heap ∧ (∀ b ∈ fp, b < s₂.heap.objs.size) ∧ 0 < n ∧ CmpOf prog w A.in1 op P bt' ∧
      ∀ v h' tk, P (argBest bt' (n - 1)) v → (∀ b o, b ∉ wr → s₂.heap.get? b = some o → h'.get? b = some o) → Q v { s₂ with heap := h', toks := tk }) E
      { s with heap := s.heap.push { cls := .type "tuple", data := .seq #[a, b, c] } } := by
  generalize hH : s.heap.push { cls := .type "tuple", data := .seq #[a, b, c] } = H
  have n1 : H.objs.size = s.heap.objs.size + 1 := by rw [← hH]; exact Heap.size_push ..
  have n1' : s.heap.objs.size < H.objs.size := n1 ▸ Nat.lt_succ_self _
  have tup : H.IsTuple s.heap.objs.size #[a, b, c] := ⟨_, by rw [← hH]; exact Heap.get?_push_size _ rfl, rfl, 0, rfl⟩
  have kept : ∀ d o, s.heap.get? d = some o → H.get? d = some o := fun d o e => by rw [← hH]; exact Heap.get?_push_of_some _ e
  have walk := Walks.tuple (prog := prog) (w := w) (A := A.in1) hh H.objs.size s.heap.objs.size (fun q => Nat.lt_irrefl _ (Nat.lt_of_lt_of_eq n1' q.symm)) #[a, b, c]
  refine wpAny_pyIter_tuple tup ⟨H.objs.size, _, _, 3, _, _, bt, rfl, walk, ?start, ?foot, by decide, hb, ?last⟩
  case start => exact ⟨⟨_, Heap.get?_push_size _ rfl, rfl, rfl⟩, tup.push _⟩
  case foot =>
    intro d hd
    have n2 : ∀ o, (H.push o).objs.size = H.objs.size + 1 := fun o => Heap.size_push ..
    refine Nat.lt_of_le_of_lt (m := H.objs.size) ?_ (n2 _ ▸ Nat.lt_succ_self _)
    rcases List.mem_cons.mp hd with q | q
    · exact Nat.le_of_eq q
    · exact Nat.le_of_lt (List.mem_singleton.mp q ▸ n1')
  case last =>
    intro v h' tk hP hk
    rw [best_of3 hP]
    refine h h' tk fun d o e => hk d o ?_ (Heap.get?_push_of_some _ (kept d o e))
    exact fun q => Nat.lt_irrefl _ (Nat.lt_trans n1' (List.mem_singleton.mp q ▸ Heap.lt_size e))
theorem max_three_val (hh : A.handled = none) (a b c : Value) (ha : Flt.NumV a) (hb : Flt.NumV b) (hc : Flt.NumV c)
    (h : ∀ h' tk, (∀ d o, s.heap.get? d = some o → h'.get? d = some o) → Q (if Flt.ltV (if Flt.ltV a b then b else a) c then c else (if Flt.ltV a b then b else a)) { s with heap := h', toks := tk }) :
    wpAny (model prog w) A (call (.builtin "max") [a, b, c]) Q E s := by
  refine call_max_three (three_tuple hh (Flt.cmpOf_gt #[a, b, c] (by simp [ha, hb, hc])) fun h' tk k => ?_)
  have := h h' tk k
  cases q : Flt.ltV a b <;> simpa [q] using this
theorem min_three_val (hh : A.handled = none) (a b c : Value) (ha : Flt.NumV a) (hb : Flt.NumV b) (hc : Flt.NumV c)
    (h : ∀ h' tk, (∀ d o, s.heap.get? d = some o → h'.get? d = some o) → Q (if Flt.ltV c (if Flt.ltV b a then b else a) then c else (if Flt.ltV b a then b else a)) { s with heap := h', toks := tk }) :
    wpAny (model prog w) A (call (.builtin "min") [a, b, c]) Q E s := by
  refine call_min_three (three_tuple hh (Flt.cmpOf_lt #[a, b, c] (by simp [ha, hb, hc])) fun h' tk k => ?_)
  have := h h' tk k
  cases q : Flt.ltV b a <;> simpa [q] using this
theorem max_three_ff (hh : A.handled = none) (F : Fr h₀ L s.heap m) (N : News h₀ L s.heap news)
    (h : ∀ h' tk v', Fr h₀ L h' m → News h₀ L h' news → Q (.float (max3 x y z) v') { s with heap := h', toks := tk }) :
    wpAny (model prog w) A (call (.builtin "max") [.float x t, .float y u, .float z v]) Q E s := by
  refine max_three_val hh _ _ _ (.float ..) (.float ..) (.float ..) fun h' tk kp => ?_
  have := fun v' => h h' tk v' (F.grownK kp) (N.grown kp)
  unfold max3 at this
  cases h1 : Flt.ltV (.float x t) (.float y u)
  · have h1' : (Float64.cmp x y == some .lt) = false := h1
    simp only [h1'] at this
    simp only [Bool.false_eq_true, if_false] at this ⊢
    cases h2 : Flt.ltV (.float x t) (.float z v)
    · have h2' : (Float64.cmp x z == some .lt) = false := h2
      simp only [h2', Bool.false_eq_true, if_false] at this ⊢
      exact this t
    · have h2' : (Float64.cmp x z == some .lt) = true := h2
      simp only [h2', if_true] at this ⊢
      exact this v
  · have h1' : (Float64.cmp x y == some .lt) = true := h1
    simp only [h1', if_true] at this ⊢
    cases h2 : Flt.ltV (.float y u) (.float z v)
    · have h2' : (Float64.cmp y z == some .lt) = false := h2
      simp only [h2', Bool.false_eq_true, if_false] at this ⊢
      exact this u
    · have h2' : (Float64.cmp y z == some .lt) = true := h2
      simp only [h2', if_true] at this ⊢
      exact this v
theorem min_three_ff (hh : A.handled = none) (F : Fr h₀ L s.heap m) (N : News h₀ L s.heap news)
    (h : ∀ h' tk v', Fr h₀ L h' m → News h₀ L h' news → Q (.float (min3 x y z) v') { s with heap := h', toks := tk }) :
    wpAny (model prog w) A (call (.builtin "min") [.float x t, .float y u, .float z v]) Q E s := by
  refine min_three_val hh _ _ _ (.float ..) (.float ..) (.float ..) fun h' tk kp => ?_
  have := fun v' => h h' tk v' (F.grownK kp) (N.grown kp)
  unfold min3 at this
  cases h1 : Flt.ltV (.float y u) (.float x t)
  · have h1' : (Float64.cmp y x == some .lt) = false := h1
    simp only [h1'] at this
    simp only [Bool.false_eq_true, if_false] at this ⊢
    cases h2 : Flt.ltV (.float z v) (.float x t)
    · have h2' : (Float64.cmp z x == some .lt) = false := h2
      simp only [h2', Bool.false_eq_true, if_false] at this ⊢
      exact this t
    · have h2' : (Float64.cmp z x == some .lt) = true := h2
      simp only [h2', if_true] at this ⊢
      exact this v
  · have h1' : (Float64.cmp y x == some .lt) = true := h1
    simp only [h1', if_true] at this ⊢
    cases h2 : Flt.ltV (.float z v) (.float y u)
    · have h2' : (Float64.cmp z y == some .lt) = false := h2
      simp only [h2', Bool.false_eq_true, if_false] at this ⊢
      exact this u
    · have h2' : (Float64.cmp z y == some .lt) = true := h2
      simp only [h2', if_true] at this ⊢
      exact this v
end
local macro_rules | `(tactic| walk_at "call builtin:max") => `(tactic| (k_here; (with_reducible show wpAny _ _ (call (Value.builtin _) [Value.float _ _, Value.float _ _, Value.float _ _]) _ _ _); (with_unfolding_all refine' max_three_ff ?k0 ?k1 ?k2 ?_); (case k0 => with_unfolding_all rfl); (case k1 => k_asm); (case k2 => k_asm); intro h' tk' v' F' N'; (try k_sweep)))
local macro_rules | `(tactic| walk_at "call builtin:min") => `(tactic| (k_here; (with_reducible show wpAny _ _ (call (Value.builtin _) [Value.float _ _, Value.float _ _, Value.float _ _]) _ _ _); (with_unfolding_all refine' min_three_ff ?k0 ?k1 ?k2 ?_); (case k0 => with_unfolding_all rfl); (case k1 => k_asm); (case k2 => k_asm); intro h' tk' v' F' N'; (try k_sweep)))


def dMM (r g b : UInt64) : UInt64 := Float64.sub (max3 r g b) (min3 r g b)
def cOf (x r g b : UInt64) : UInt64 := Float64.div (Float64.sub (max3 r g b) x) (Float64.sub (max3 r g b) (min3 r g b))
def hueF (r g b : UInt64) : UInt64 :=
  if (Float64.cmp (min3 r g b) (max3 r g b) == some Ordering.eq) = true then 0
  else (Float64.divmod (Float64.div (if (Float64.cmp r (max3 r g b) == some Ordering.eq) = true then Float64.sub (cOf b r g b) (cOf g r g b)
    else if (Float64.cmp g (max3 r g b) == some Ordering.eq) = true then Float64.sub (Float64.add 4611686018427387904 (cOf r r g b)) (cOf b r g b)
    else Float64.sub (Float64.add 4616189618054758400 (cOf g r g b)) (cOf r r g b)) 4618441417868443648) 4607182418800017408).2
theorem rgb_end {h₀ h' : Heap} {L D : Addr} {m : Str → Option Value} {s : Shared} {Q : Value → Shared → Prop} {news : List (Addr × Obj)} {r g b x y z : UInt64} {u1 u2 u3 : Tok} {tk : Nat}
   (hret : ∀ D h' tk' u1 u2 u3 y z, Fr h₀ L h' m → News h₀ L h' ((D, tup3 (.float (hueF r g b) u1) (.float y u2) (.float z u3)) :: news) → (∀ p ∈ news, p.1 < D) → Q (.ref D) { s with heap := h', toks := tk' })
   (e : hueF r g b = x) (F : Fr h₀ L h' m) (N : News h₀ L h' ((D, tup3 (.float x u1) (.float y u2) (.float z u3)) :: news)) (l : ∀ p ∈ news, p.1 < D) : Q (.ref D) { s with heap := h', toks := tk } := by
  have := hret D h' tk u1 u2 u3 y z
  rw [e] at this
  exact this F N l
theorem hue_0 {r g b : UInt64} (e : (Float64.cmp (min3 r g b) (max3 r g b) == some Ordering.eq) = true) : hueF r g b = 0 := by unfold hueF; rw [if_pos e]
theorem hue_r {r g b : UInt64} (e : (Float64.cmp (min3 r g b) (max3 r g b) == some Ordering.eq) = false) (e1 : (Float64.cmp r (max3 r g b) == some Ordering.eq) = true) :
    hueF r g b = (Float64.divmod (Float64.div (Float64.sub (cOf b r g b) (cOf g r g b)) 4618441417868443648) 4607182418800017408).2 := by
  unfold hueF; rw [if_neg (by rw [e]; decide), if_pos e1]
theorem hue_g {r g b : UInt64} (e : (Float64.cmp (min3 r g b) (max3 r g b) == some Ordering.eq) = false) (e1 : (Float64.cmp r (max3 r g b) == some Ordering.eq) = false) (e2 : (Float64.cmp g (max3 r g b) == some Ordering.eq) = true) :
    hueF r g b = (Float64.divmod (Float64.div (Float64.sub (Float64.add 4611686018427387904 (cOf r r g b)) (cOf b r g b)) 4618441417868443648) 4607182418800017408).2 := by
  unfold hueF; rw [if_neg (by rw [e]; decide), if_neg (by rw [e1]; decide), if_pos e2]
theorem hue_b {r g b : UInt64} (e : (Float64.cmp (min3 r g b) (max3 r g b) == some Ordering.eq) = false) (e1 : (Float64.cmp r (max3 r g b) == some Ordering.eq) = false) (e2 : (Float64.cmp g (max3 r g b) == some Ordering.eq) = false) :
    hueF r g b = (Float64.divmod (Float64.div (Float64.sub (Float64.add 4616189618054758400 (cOf g r g b)) (cOf r r g b)) 4618441417868443648) 4607182418800017408).2 := by
  unfold hueF; rw [if_neg (by rw [e]; decide), if_neg (by rw [e1]; decide), if_neg (by rw [e2]; decide)]

set_option maxRecDepth 100000 in
set_option maxHeartbeats 8000000 in
theorem rgb_C {prog : Program} {w : World} {p : Program} {loose : List Str} {mean : ExcName → Option Value} {mg mb : Str → Option Value} {news : List (Addr × Obj)}
   {r g b : UInt64} {t1 t2 t3 : Tok} {dp un : Nat} {gd : Option (List Code)} {cn : Str} {cs : Scope} {a : Addr} {ccd : Value} {cl : List (Str × Addr)} {outer : List Env} {A₀ : Around} {base h₀ : Heap} {L : Addr} {m : Str → Option Value} {s : Shared} {Q E : Value → Shared → Prop}
    (B : Below A₀ base outer h₀) (F : Fr h₀ L s.heap m) (X : (hd.heap_39 w.params).In h₀) (N : News h₀ L s.heap news) (T : Top p loose mean mg mb h₀) (hk : cs.kind = .function)
    (hdp : dp + 10 < 1000) (hun : un + 50 < 9900)
    (hz1 : ¬ Float64.isZero (max3 r g b) = true) (hz2 : ¬ Float64.isZero (Float64.sub (max3 r g b) (min3 r g b)) = true)
    (hret : ∀ D h' tk' u1 u2 u3 y z, Fr h₀ L h' m → News h₀ L h' ((D, tup3 (.float (hueF r g b) u1) (.float y u2) (.float z u3)) :: news) → (∀ p ∈ news, p.1 < D) → Q (.ref D) { s with heap := h', toks := tk' }) :
      wpAny (model prog w) (ktrTop dp un gd cn cs L a ccd cl outer) (call (.ref 94) [.float r t1, .float g t2, .float b t3]) Q E s := by
  refine wpAny_call ?_
  (first | k_dflt cell_enter | fail "not entered")
  k_steps
  all_goals first
    | exact absurd (by assumption) hz1
    | exact absurd (by assumption) hz2
    | exact rgb_end hret (hue_0 (by assumption)) (by assumption) (by assumption) (by assumption)
    | exact rgb_end hret (hue_r (by assumption) (by assumption)) (by assumption) (by assumption) (by assumption)
    | exact rgb_end hret (hue_g (by assumption) (by assumption) (by assumption)) (by assumption) (by assumption) (by assumption)
    | exact rgb_end hret (hue_b (by assumption) (by assumption) (by assumption)) (by assumption) (by assumption) (by assumption)

local macro_rules | `(tactic| walk_at "call ref") => `(tactic| (k_here; (with_reducible show wpAny _ _ (call (Value.ref 101) _) _ _ _); k_dflt (refine' hsv_C ?kB ?kF ?kX ?kN ?kT ?kK ?kd ?ku ?kh1 ?kh2 ?kh3 ?_; (case kB => k_asm); (case kF => k_asm); (case kX => k_asm); (case kN => k_asm); (case kT => k_asm); (case kK => first | exact rfl | assumption); (case kd => k_room); (case ku => k_units); (case kh1 => with_reducible assumption); (case kh2 => with_reducible assumption); (case kh3 => with_reducible assumption)); intro D' h' tk' u1 u2 u3 F' N' l1; (try k_lt l1); (try k_sweep); (try dsimp only)))
local macro_rules | `(tactic| walk_at "call ref") => `(tactic| (k_here; (with_reducible show wpAny _ _ (call (Value.ref 94) _) _ _ _); k_dflt (refine' rgb_C ?kB ?kF ?kX ?kN ?kT ?kK ?kd ?ku ?kh1 ?kh2 ?_; (case kB => k_asm); (case kF => k_asm); (case kX => k_asm); (case kN => k_asm); (case kT => k_asm); (case kK => first | exact rfl | assumption); (case kd => k_room); (case ku => k_units); (case kh1 => with_reducible assumption); (case kh2 => with_reducible assumption)); intro D' h' tk' u1 u2 u3 y' z' F' N' l1; (try k_lt l1); (try k_sweep); (try dsimp only)))

theorem no_of {b : Bool} (h : (!b) = true) : ¬ b = true := by cases b <;> simp at h ⊢
def stOk (t n : Int) : Bool :=
  (!Float64.isNaN (Float64.mul (Float64.ofFrac (decide (t < 0) != decide (n < 0)) t.natAbs n.natAbs) 4618441417868443648)) && ((!Float64.isInf (Float64.mul (Float64.ofFrac (decide (t < 0) != decide (n < 0)) t.natAbs n.natAbs) 4618441417868443648)) &&
  ((!decide (2 ^ 1024 - 2 ^ 970 ≤ (Flt.toInt Float64.truncOf (Float64.mul (Float64.ofFrac (decide (t < 0) != decide (n < 0)) t.natAbs n.natAbs) 4618441417868443648)).natAbs)) && ((!Float64.isZero (max3 (hsv3 (Float64.ofFrac (decide (t < 0) != decide (n < 0)) t.natAbs n.natAbs)).1 (hsv3 (Float64.ofFrac (decide (t < 0) != decide (n < 0)) t.natAbs n.natAbs)).2.1 (hsv3 (Float64.ofFrac (decide (t < 0) != decide (n < 0)) t.natAbs n.natAbs)).2.2)) &&
  ((!Float64.isZero (Float64.sub (max3 (hsv3 (Float64.ofFrac (decide (t < 0) != decide (n < 0)) t.natAbs n.natAbs)).1 (hsv3 (Float64.ofFrac (decide (t < 0) != decide (n < 0)) t.natAbs n.natAbs)).2.1 (hsv3 (Float64.ofFrac (decide (t < 0) != decide (n < 0)) t.natAbs n.natAbs)).2.2) (min3 (hsv3 (Float64.ofFrac (decide (t < 0) != decide (n < 0)) t.natAbs n.natAbs)).1 (hsv3 (Float64.ofFrac (decide (t < 0) != decide (n < 0)) t.natAbs n.natAbs)).2.1 (hsv3 (Float64.ofFrac (decide (t < 0) != decide (n < 0)) t.natAbs n.natAbs)).2.2))) && ((!Float64.isNaN (Float64.mul (hueF (hsv3 (Float64.ofFrac (decide (t < 0) != decide (n < 0)) t.natAbs n.natAbs)).1 (hsv3 (Float64.ofFrac (decide (t < 0) != decide (n < 0)) t.natAbs n.natAbs)).2.1 (hsv3 (Float64.ofFrac (decide (t < 0) != decide (n < 0)) t.natAbs n.natAbs)).2.2) (Float64.ofInt n))) && ((!Float64.isInf (Float64.mul (hueF (hsv3 (Float64.ofFrac (decide (t < 0) != decide (n < 0)) t.natAbs n.natAbs)).1 (hsv3 (Float64.ofFrac (decide (t < 0) != decide (n < 0)) t.natAbs n.natAbs)).2.1 (hsv3 (Float64.ofFrac (decide (t < 0) != decide (n < 0)) t.natAbs n.natAbs)).2.2) (Float64.ofInt n))) && (decide ((Flt.toInt Float64.nearestOf (Float64.mul (hueF (hsv3 (Float64.ofFrac (decide (t < 0) != decide (n < 0)) t.natAbs n.natAbs)).1 (hsv3 (Float64.ofFrac (decide (t < 0) != decide (n < 0)) t.natAbs n.natAbs)).2.1 (hsv3 (Float64.ofFrac (decide (t < 0) != decide (n < 0)) t.natAbs n.natAbs)).2.2) (Float64.ofInt n))).fmod n = t % n))))))))
/-- hand a number on, reckoned out -/
def fU {α : Type} (x : UInt64) (k : UInt64 → α) : α := Nat.rec (motive := fun _ => α) (k 0) (fun m _ => k (UInt64.ofNat (m + 1))) x.toNat
theorem fU_eq {α : Type} (x : UInt64) (k : UInt64 → α) : fU x k = k x := by
  have e : x = UInt64.ofNat x.toNat := by simp
  unfold fU
  generalize x.toNat = n at e
  subst e
  cases n <;> rfl
def hsvS {α : Type} (h : UInt64) (k : UInt64 → UInt64 → UInt64 → α) : α :=
  fU (Float64.mul h 4618441417868443648) fun c => fU (Float64.sub c (Float64.ofInt (Flt.toInt Float64.truncOf c))) fun f => fU fP fun p =>
  fU (Float64.mul 4607182418800017408 (Float64.sub 4607182418800017408 (Float64.mul 4607182418800017408 f))) fun q =>
  fU (Float64.mul 4607182418800017408 (Float64.sub 4607182418800017408 (Float64.mul 4607182418800017408 (Float64.sub 4607182418800017408 f)))) fun t =>
  if (Flt.toInt Float64.truncOf c).fmod 6 = 0 then k 4607182418800017408 t p
  else if (Flt.toInt Float64.truncOf c).fmod 6 = 1 then k q 4607182418800017408 p
  else if (Flt.toInt Float64.truncOf c).fmod 6 = 2 then k p 4607182418800017408 t
  else if (Flt.toInt Float64.truncOf c).fmod 6 = 3 then k p q 4607182418800017408
  else if (Flt.toInt Float64.truncOf c).fmod 6 = 4 then k t p 4607182418800017408
  else k 4607182418800017408 p q
theorem hsvS_eq {α : Type} (h : UInt64) (k : UInt64 → UInt64 → UInt64 → α) : hsvS h k = k (hsv3 h).1 (hsv3 h).2.1 (hsv3 h).2.2 := by
  unfold hsvS
  simp only [fU_eq]
  show (if (hI h).fmod 6 = 0 then k 4607182418800017408 (fT h) fP else if (hI h).fmod 6 = 1 then k (fQ h) 4607182418800017408 fP else if (hI h).fmod 6 = 2 then k fP 4607182418800017408 (fT h)
    else if (hI h).fmod 6 = 3 then k fP (fQ h) 4607182418800017408 else if (hI h).fmod 6 = 4 then k (fT h) fP 4607182418800017408 else k 4607182418800017408 fP (fQ h)) = _
  unfold hsv3
  by_cases h0 : (hI h).fmod 6 = 0
  · simp only [if_pos h0]
  · simp only [if_neg h0]
    by_cases h1 : (hI h).fmod 6 = 1
    · simp only [if_pos h1]
    · simp only [if_neg h1]
      by_cases h2 : (hI h).fmod 6 = 2
      · simp only [if_pos h2]
      · simp only [if_neg h2]
        by_cases h3 : (hI h).fmod 6 = 3
        · simp only [if_pos h3]
        · simp only [if_neg h3]
          by_cases h4 : (hI h).fmod 6 = 4
          · simp only [if_pos h4]
          · simp only [if_neg h4]
def hueS {α : Type} (r g b : UInt64) (k : UInt64 → UInt64 → UInt64 → α) : α :=
  fU (max3 r g b) fun mx => fU (min3 r g b) fun mn => fU (Float64.sub mx mn) fun d =>
  fU (if (Float64.cmp mn mx == some Ordering.eq) = true then 0 else
    fU (if (Float64.cmp r mx == some Ordering.eq) = true then Float64.sub (Float64.div (Float64.sub mx b) d) (Float64.div (Float64.sub mx g) d)
      else if (Float64.cmp g mx == some Ordering.eq) = true then Float64.sub (Float64.add 4611686018427387904 (Float64.div (Float64.sub mx r) d)) (Float64.div (Float64.sub mx b) d)
      else Float64.sub (Float64.add 4616189618054758400 (Float64.div (Float64.sub mx g) d)) (Float64.div (Float64.sub mx r) d)) fun e =>
    fU (Float64.div e 4618441417868443648) fun e6 => (Float64.divmod e6 4607182418800017408).2) fun z => k mx d z
theorem hueS_eq {α : Type} (r g b : UInt64) (k : UInt64 → UInt64 → UInt64 → α) : hueS r g b k = k (max3 r g b) (Float64.sub (max3 r g b) (min3 r g b)) (hueF r g b) := by
  unfold hueS hueF cOf
  simp only [fU_eq]
def stF (t n : Int) : Bool :=
  fU (Float64.ofFrac (decide (t < 0) != decide (n < 0)) t.natAbs n.natAbs) fun h => fU (Float64.mul h 4618441417868443648) fun c => hsvS h fun r g b => hueS r g b fun mx d q => fU (Float64.mul q (Float64.ofInt n)) fun z =>
  (!Float64.isNaN c) && ((!Float64.isInf c) && ((!decide (2 ^ 1024 - 2 ^ 970 ≤ (Flt.toInt Float64.truncOf c).natAbs)) && ((!Float64.isZero mx) && ((!Float64.isZero d) && ((!Float64.isNaN z) && ((!Float64.isInf z) && (decide ((Flt.toInt Float64.nearestOf z).fmod n = t % n))))))))
theorem stF_eq (t n : Int) : stF t n = stOk t n := by
  unfold stF
  simp only [fU_eq, hsvS_eq, hueS_eq]
  rfl
set_option maxRecDepth 100000 in
theorem stF3 : ∀ t : Fin 37, stF ((t.val : Nat) : Int) 3 = true := by decide +kernel
set_option maxRecDepth 100000 in
theorem stF4 : ∀ t : Fin 37, stF ((t.val : Nat) : Int) 4 = true := by decide +kernel
set_option maxRecDepth 100000 in
theorem stF5 : ∀ t : Fin 37, stF ((t.val : Nat) : Int) 5 = true := by decide +kernel
set_option maxRecDepth 100000 in
theorem stF6 : ∀ t : Fin 37, stF ((t.val : Nat) : Int) 6 = true := by decide +kernel
theorem stOk_of {t n : Int} (h : 0 ≤ t ∧ t ≤ 36 ∧ 3 ≤ n ∧ n ≤ 6) : stOk t n = true := by
  have e : ((t.toNat : Nat) : Int) = t := by omega
  rw [← stF_eq, ← e]
  rcases (by omega : n = 3 ∨ n = 4 ∨ n = 5 ∨ n = 6) with rfl | rfl | rfl | rfl
  · exact stF3 ⟨t.toNat, by omega⟩
  · exact stF4 ⟨t.toNat, by omega⟩
  · exact stF5 ⟨t.toNat, by omega⟩
  · exact stF6 ⟨t.toNat, by omega⟩
theorem stFacts {t n : Int} (h : 0 ≤ t ∧ t ≤ 36 ∧ 3 ≤ n ∧ n ≤ 6) :
    (¬ Float64.isNaN (Float64.mul (Float64.ofFrac (decide (t < 0) != decide (n < 0)) t.natAbs n.natAbs) 4618441417868443648) = true) ∧ (¬ Float64.isInf (Float64.mul (Float64.ofFrac (decide (t < 0) != decide (n < 0)) t.natAbs n.natAbs) 4618441417868443648) = true) ∧
    (¬ 2 ^ 1024 - 2 ^ 970 ≤ (Flt.toInt Float64.truncOf (Float64.mul (Float64.ofFrac (decide (t < 0) != decide (n < 0)) t.natAbs n.natAbs) 4618441417868443648)).natAbs) ∧ (¬ Float64.isZero (max3 (hsv3 (Float64.ofFrac (decide (t < 0) != decide (n < 0)) t.natAbs n.natAbs)).1 (hsv3 (Float64.ofFrac (decide (t < 0) != decide (n < 0)) t.natAbs n.natAbs)).2.1 (hsv3 (Float64.ofFrac (decide (t < 0) != decide (n < 0)) t.natAbs n.natAbs)).2.2) = true) ∧
    (¬ Float64.isZero (Float64.sub (max3 (hsv3 (Float64.ofFrac (decide (t < 0) != decide (n < 0)) t.natAbs n.natAbs)).1 (hsv3 (Float64.ofFrac (decide (t < 0) != decide (n < 0)) t.natAbs n.natAbs)).2.1 (hsv3 (Float64.ofFrac (decide (t < 0) != decide (n < 0)) t.natAbs n.natAbs)).2.2) (min3 (hsv3 (Float64.ofFrac (decide (t < 0) != decide (n < 0)) t.natAbs n.natAbs)).1 (hsv3 (Float64.ofFrac (decide (t < 0) != decide (n < 0)) t.natAbs n.natAbs)).2.1 (hsv3 (Float64.ofFrac (decide (t < 0) != decide (n < 0)) t.natAbs n.natAbs)).2.2)) = true) ∧ (¬ Float64.isNaN (Float64.mul (hueF (hsv3 (Float64.ofFrac (decide (t < 0) != decide (n < 0)) t.natAbs n.natAbs)).1 (hsv3 (Float64.ofFrac (decide (t < 0) != decide (n < 0)) t.natAbs n.natAbs)).2.1 (hsv3 (Float64.ofFrac (decide (t < 0) != decide (n < 0)) t.natAbs n.natAbs)).2.2) (Float64.ofInt n)) = true) ∧ (¬ Float64.isInf (Float64.mul (hueF (hsv3 (Float64.ofFrac (decide (t < 0) != decide (n < 0)) t.natAbs n.natAbs)).1 (hsv3 (Float64.ofFrac (decide (t < 0) != decide (n < 0)) t.natAbs n.natAbs)).2.1 (hsv3 (Float64.ofFrac (decide (t < 0) != decide (n < 0)) t.natAbs n.natAbs)).2.2) (Float64.ofInt n)) = true) ∧ ((Flt.toInt Float64.nearestOf (Float64.mul (hueF (hsv3 (Float64.ofFrac (decide (t < 0) != decide (n < 0)) t.natAbs n.natAbs)).1 (hsv3 (Float64.ofFrac (decide (t < 0) != decide (n < 0)) t.natAbs n.natAbs)).2.1 (hsv3 (Float64.ofFrac (decide (t < 0) != decide (n < 0)) t.natAbs n.natAbs)).2.2) (Float64.ofInt n))).fmod n = t % n) := by
  have k := stOk_of h
  unfold stOk at k
  obtain ⟨k1, k⟩ := Bool.and_eq_true_iff.mp k
  obtain ⟨k2, k⟩ := Bool.and_eq_true_iff.mp k
  obtain ⟨k3, k⟩ := Bool.and_eq_true_iff.mp k
  obtain ⟨k4, k⟩ := Bool.and_eq_true_iff.mp k
  obtain ⟨k5, k⟩ := Bool.and_eq_true_iff.mp k
  obtain ⟨k6, k⟩ := Bool.and_eq_true_iff.mp k
  obtain ⟨k7, k8⟩ := Bool.and_eq_true_iff.mp k
  exact ⟨no_of k1, no_of k2, fun q => no_of k3 (decide_eq_true q), no_of k4, no_of k5, no_of k6, no_of k7, of_decide_eq_true k8⟩
theorem stop_end {h₀ h' : Heap} {L : Addr} {m : Str → Option Value} {s : Shared} {Q : Value → Shared → Prop} {news : List (Addr × Obj)} {x y : Int} {tk u : Nat}
   (hret : ∀ h' tk' u, Fr h₀ L h' m → News h₀ L h' news → Q (.int y u) { s with heap := h', toks := tk' }) (e : x = y) (F : Fr h₀ L h' m) (N : News h₀ L h' news) : Q (.int x u) { s with heap := h', toks := tk } := by
  subst e; exact hret h' tk u F N
theorem News.tail2 {h₀ h' : Heap} {L : Addr} {p q : Addr × Obj} {news : List (Addr × Obj)} (N : News h₀ L h' (p :: q :: news)) : News h₀ L h' news := fun r hr => N r (.tail _ (.tail _ hr))
set_option maxRecDepth 100000 in
set_option maxHeartbeats 8000000 in
theorem stop_C {prog : Program} {w : World} {p : Program} {loose : List Str} {mean : ExcName → Option Value} {mg mb : Str → Option Value} {news : List (Addr × Obj)}
   {t n : Int} {t1 t2 : Tok} {dp un : Nat} {gd : Option (List Code)} {cn : Str} {cs : Scope} {a : Addr} {ccd : Value} {cl : List (Str × Addr)} {outer : List Env} {A₀ : Around} {base h₀ : Heap} {L : Addr} {m : Str → Option Value} {s : Shared} {Q E : Value → Shared → Prop}
    (B : Below A₀ base outer h₀) (F : Fr h₀ L s.heap m) (X : (hd.heap_39 w.params).In h₀) (N : News h₀ L s.heap news) (T : Top p loose mean mg mb h₀) (hk : cs.kind = .function)
    (hdp : dp + 20 < 1000) (hun : un + 100 < 9900) (hr : 0 ≤ t ∧ t ≤ 36 ∧ 3 ≤ n ∧ n ≤ 6)
    (hret : ∀ h' tk' u, Fr h₀ L h' m → News h₀ L h' news → Q (.int (t % n) u) { s with heap := h', toks := tk' }) :
      wpAny (model prog w) (ktrTop dp un gd cn cs L a ccd cl outer) (call (.ref 115) [.int t t1, .int n t2]) Q E s := by
  obtain ⟨e1, e2, e3, e4, e5, e6, e7, e8⟩ := stFacts hr
  refine wpAny_call ?_
  (first | k_dflt cell_enter | fail "not entered")
  k_steps
  all_goals first
    | exact absurd (by with_reducible assumption) e6
    | exact absurd (by with_reducible assumption) e7
    | exact stop_end hret e8 (by assumption) (News.tail2 (by assumption))
end Mine
namespace Mine

local macro_rules | `(tactic| k_room) => `(tactic| ((try simp only [depth_under_make, depth_under_kw, depth_in1, depth_deeper, depth_caller, recursionLimit]); omega))
local macro_rules | `(tactic| k_units) => `(tactic| ((try simp only [units_in1, units_deeper, Around.mark_units, units_caller, cLine]); omega))

inductive WsSt where
  | sp (i : Int) (tb tn : Tok)
  | tab (l : Addr) (o : Obj) (tb tn tt : Tok)
def WsSt.led (base : List (Addr × Obj)) : WsSt → List (Addr × Obj)
  | .sp .. => base
  | .tab l o .. => (l, o) :: base
def WsSt.map (b : Int) (m : Str → Option Value) : WsSt → Str → Option Value
  | .sp i tb tn => fun y => if y = Str.ofString "b" then some (.int i tb) else if y = Str.ofString "n" then some (.int i tn) else m y
  | .tab l _ tb tn tt => fun y => if y = Str.ofString "b" then some (.int 0 tb) else if y = Str.ofString "n" then some (.int (b + 1) tn) else if y = Str.ofString "nt" then some (.int 1 tt) else if y = Str.ofString "count" then some (.ref l) else m y
def WsSt.ok (b : Int) (C : Addr → Obj → Prop) (k : Nat) : WsSt → Prop
  | .sp i _ _ => i = (k : Int) ∧ (k : Int) ≤ b
  | .tab l o _ _ _ => (k : Int) = b + 1 ∧ C l o
def cntOf (b : Int) : List Int := List.replicate b.toNat 0 ++ [1]
def wsC (news : List (Addr × Obj)) (b : Int) (l : Addr) (o : Obj) : Prop := AllLt l news ∧ ∃ vs k, o = W.listOf vs.toArray k ∧ IntsAre vs (cntOf b)
theorem map_two {m : Str → Option Value} {v1 v2 : Value} (h1 : m (Str.ofString "b") = some v1) (h2 : m (Str.ofString "n") = some v2) (y : Str) : m y = if y = Str.ofString "b" then some v1 else if y = Str.ofString "n" then some v2 else m y := by
  by_cases e : y = Str.ofString "b"
  · rw [if_pos e, e, h1]
  · rw [if_neg e]
    by_cases e2 : y = Str.ofString "n"
    · rw [if_pos e2, e2, h2]
    · rw [if_neg e2]
theorem cnt_ends {b : Int} {vs : List Value} (hb : 0 ≤ b) (h : IntsAre vs (([] ++ (List.replicate (b - 0 + 1).toNat [(0 : Int)]).flatten).set b.toNat (([] ++ (List.replicate (b - 0 + 1).toNat [(0 : Int)]).flatten).getD b.toNat 0 + 1))) : IntsAre vs (cntOf b) := by
  have e : (([] ++ (List.replicate (b - 0 + 1).toNat [(0 : Int)]).flatten).set b.toNat (([] ++ (List.replicate (b - 0 + 1).toNat [(0 : Int)]).flatten).getD b.toNat 0 + 1)) = cntOf b := by
    have e1 : (b - 0 + 1).toNat = b.toNat + 1 := by omega
    have e2 : ∀ n : Nat, (List.replicate n [(0 : Int)]).flatten = List.replicate n 0 := fun n => by induction n with
      | zero => rfl
      | succ n ih => rw [List.replicate_succ, List.flatten_cons, ih]; rfl
    rw [e1, e2, List.nil_append]
    unfold cntOf
    have e3 : (List.replicate (b.toNat + 1) (0 : Int)).getD b.toNat 0 = 0 := by simp [List.getD_eq_getElem?_getD]
    rw [e3]
    have : ∀ n : Nat, (List.replicate (n + 1) (0 : Int)).set n (0 + 1) = List.replicate n 0 ++ [1] := fun n => by
      induction n with
      | zero => rfl
      | succ n ih => rw [List.replicate_succ, List.set_cons_succ, ih, List.replicate_succ]; rfl
    exact this _
  rw [e] at h; exact h
theorem foldl_cps (l : List (Array Nat)) : ∀ acc : Array Nat, (l.foldl (· ++ ·) acc).toList = acc.toList ++ (l.map Array.toList).flatten := by
  induction l with
  | nil => intro acc; simp
  | cons a r ih => intro acc; rw [List.foldl_cons, ih]; simp
theorem sp_cps : (Str.ofString " ").cps.toList = [32] := by decide +kernel
theorem tab_cps : (Str.ofString "\t").cps.toList = [9] := by decide +kernel
theorem flat32 : ∀ n : Nat, ((List.replicate n (Str.ofString " ").cps).map Array.toList).flatten = List.replicate n 32 := fun n => by
  induction n with
  | zero => rfl
  | succ n ih => rw [List.replicate_succ, List.map_cons, List.flatten_cons, ih, sp_cps]; rfl
theorem mul_cps (b : Int) (hb : 0 ≤ b) : (Txt.mul (Str.ofString " ") b ++ Str.ofString "\t").cps.toList = List.replicate b.toNat 32 ++ [9] := by
  have e : (Txt.mul (Str.ofString " ") b).cps.toList = List.replicate b.toNat 32 := by
    unfold Txt.mul
    by_cases h1 : b < 1
    · rw [if_pos h1]
      have : b.toNat = 0 := by omega
      rw [this]; rfl
    · rw [if_neg h1]
      by_cases h2 : (b == 1 || (Str.ofString " ").length == 0) = true
      · rw [if_pos h2]
        rcases Bool.or_eq_true_iff.mp h2 with h | h
        · rw [beq_iff_eq.mp h, sp_cps]; rfl
        · exact absurd h (by decide +kernel)
      · rw [if_neg h2]
        show ((List.replicate b.toNat (Str.ofString " ").cps).foldl (· ++ ·) #[]).toList = _
        rw [foldl_cps, flat32]; rfl
  rw [PySem.Str.cps_append, Array.toList_append, e, tab_cps]
section
variable {prog : Program} {w : World} {A : Around} {E : Value → Shared → Prop} {s : Shared} {env : Env} {h₀ : Heap} {x : Str} {body : List Stmt} {Q : Flow → Shared → Prop}
theorem ws_loop {b : Int} {tx tb₀ tn₀ : Tok} {m₀ : Str → Option Value} {news : List (Addr × Obj)} (hb : 0 ≤ b) (hh : A.handled = none) (F : Fr h₀ env.locals s.heap m₀) (N : News h₀ env.locals s.heap news)
    (h1 : m₀ (Str.ofString "b") = some (.int 0 tb₀)) (h2 : m₀ (Str.ofString "n") = some (.int 0 tn₀))
    (turn1 : ∀ (j : Int) tb tn t h tk I oI own, 0 ≤ j → j < b → (I, oI) ∈ own → (∀ p ∈ news, p.1 ∉ [I]) → Fr h₀ env.locals h (fun y => if y = x then some (.str ⟨#[32]⟩ t) else WsSt.map b m₀ (.sp j tb tn) y) → News h₀ env.locals h (news ++ own) →
      wpAny (model prog w) A (execs body env) (TurnPost h₀ env.locals x [I] own (WsSt.led news) (WsSt.map b m₀) (fun c => ∃ tb tn, c = .sp (j + 1) tb tn) { s with heap := h, toks := tk } Q) E { s with heap := h, toks := tk })
    (turn2 : ∀ tb tn t h tk I oI own, (I, oI) ∈ own → (∀ p ∈ news, p.1 ∉ [I]) → Fr h₀ env.locals h (fun y => if y = x then some (.str ⟨#[9]⟩ t) else WsSt.map b m₀ (.sp b tb tn) y) → News h₀ env.locals h (news ++ own) →
      wpAny (model prog w) A (execs body env) (TurnPost h₀ env.locals x [I] own (WsSt.led news) (WsSt.map b m₀) (fun c => ∃ l o tb tn tt, c = .tab l o tb tn tt ∧ wsC news b l o) { s with heap := h, toks := tk } Q) E { s with heap := h, toks := tk })
    (done : ∀ l o tb tn tt (u : Str → Option Value) h tk, wsC news b l o → Fr h₀ env.locals h (fun y => if y = x then u y else WsSt.map b m₀ (.tab l o tb tn tt) y) → News h₀ env.locals h ((l, o) :: news) → Q .next { s with heap := h, toks := tk }) :
    wpAny (model prog w) A (pyIter (.str (Txt.mul (Str.ofString " ") b ++ Str.ofString "\t") tx)) (fun it s₂ => LoopAtV prog w A h₀ env x body Q E it s₂) E s := by
  have hc := mul_cps b hb
  have hsz : (Txt.mul (Str.ofString " ") b ++ Str.ofString "\t").cps.size = b.toNat + 1 := by
    rw [← Array.length_toList, hc]; simp
  refine loop_text (WsSt.led news) (WsSt.map b m₀) (WsSt.ok b (wsC news b)) (.sp 0 tb₀ tn₀) hh F N (fun y _ => map_two h1 h2 y) ⟨rfl, hb⟩ ?_ ?_
  · intro i k t c h tk I oI own hk hJ hlw hown F₁ N₁
    rw [← Array.getElem?_toList, hc] at hk
    cases c with
    | tab l o tb tn tt =>
      exfalso
      have hi := hJ.1
      have : i < (List.replicate b.toNat 32 ++ [9]).length := by
        rw [List.getElem?_eq_some_iff] at hk
        exact hk.1
      simp at this
      omega
    | sp j tb tn =>
      obtain ⟨rfl, hj⟩ := hJ
      by_cases hlt : (i : Int) < b
      · have hk' : k = 32 := by
          rw [List.getElem?_append_left (by simp; omega), List.getElem?_replicate] at hk
          split at hk
          · exact (Option.some.inj hk).symm
          · cases hk
        subst hk'
        refine wpAny_mono (turn1 i tb tn t h tk I oI own (by omega) hlt hown hlw F₁ N₁) (fun f s₂ p => ?_) fun _ _ e => e
        have fin : (∃ c h' tk m', s₂ = { ({ s with heap := h, toks := tk } : Shared) with heap := h', toks := tk } ∧ Fr h₀ env.locals h' m' ∧ (∀ y, y ≠ x → m' y = WsSt.map b m₀ c y) ∧ News h₀ env.locals h' (WsSt.led news c ++ own) ∧ (∀ p ∈ WsSt.led news c, p.1 ∉ [I]) ∧ ∃ tb tn, c = .sp ((i : Int) + 1) tb tn) →
            (∃ c h' tk m', s₂ = { ({ s with heap := h, toks := tk } : Shared) with heap := h', toks := tk } ∧ Fr h₀ env.locals h' m' ∧ (∀ y, y ≠ x → m' y = WsSt.map b m₀ c y) ∧ News h₀ env.locals h' (WsSt.led news c ++ own) ∧ (∀ p ∈ WsSt.led news c, p.1 ∉ [I]) ∧ WsSt.ok b (wsC news b) (i + 1) c) := by
          rintro ⟨c, h', tk, m', e, F', hm', N', hw', tb', tn', rfl⟩
          exact ⟨_, h', tk, m', e, F', hm', N', hw', by show (i : Int) + 1 = ((i + 1 : Nat) : Int); omega, by omega⟩
        cases f with
        | ret v => exact p
        | brk => exact p
        | next => exact fin p
        | cont => exact fin p
      · have hib : (i : Int) = b := by omega
        have hk' : k = 9 := by
          rw [List.getElem?_append_right (by simp; omega)] at hk
          have : i - (List.replicate b.toNat 32).length = 0 := by simp; omega
          rw [this] at hk
          exact (Option.some.inj hk).symm
        subst hk'
        rw [hib] at F₁
        refine wpAny_mono (turn2 tb tn t h tk I oI own hown hlw F₁ N₁) (fun f s₂ p => ?_) fun _ _ e => e
        have fin : (∃ c h' tk m', s₂ = { ({ s with heap := h, toks := tk } : Shared) with heap := h', toks := tk } ∧ Fr h₀ env.locals h' m' ∧ (∀ y, y ≠ x → m' y = WsSt.map b m₀ c y) ∧ News h₀ env.locals h' (WsSt.led news c ++ own) ∧ (∀ p ∈ WsSt.led news c, p.1 ∉ [I]) ∧ ∃ l o tb tn tt, c = .tab l o tb tn tt ∧ wsC news b l o) →
            (∃ c h' tk m', s₂ = { ({ s with heap := h, toks := tk } : Shared) with heap := h', toks := tk } ∧ Fr h₀ env.locals h' m' ∧ (∀ y, y ≠ x → m' y = WsSt.map b m₀ c y) ∧ News h₀ env.locals h' (WsSt.led news c ++ own) ∧ (∀ p ∈ WsSt.led news c, p.1 ∉ [I]) ∧ WsSt.ok b (wsC news b) (i + 1) c) := by
          rintro ⟨c, h', tk, m', e, F', hm', N', hw', l, o, tb', tn', tt', rfl, hC⟩
          exact ⟨_, h', tk, m', e, F', hm', N', hw', by show ((i + 1 : Nat) : Int) = b + 1; omega, hC⟩
        cases f with
        | ret v => exact p
        | brk => exact p
        | next => exact fin p
        | cont => exact fin p
  · intro c u h tk hJ F₁ N₁
    cases c with
    | sp j tb tn =>
      exfalso
      have := hJ.2
      rw [hsz] at this
      omega
    | tab l o tb tn tt => exact done l o tb tn tt u h tk hJ.2 F₁ N₁
end
theorem allLt_left {d : Addr} : ∀ {l r : List (Addr × Obj)}, AllLt d (l ++ r) → AllLt d l
  | [], _, _ => trivial
  | _ :: _, _, ⟨h, k⟩ => ⟨h, allLt_left k⟩
section
variable {s : Shared} {L : Addr} {h₀ : Heap} {x : Str} {Q : Flow → Shared → Prop}
theorem ws_end1 {b j : Int} {I : Addr} {own : List (Addr × Obj)} {m₀ m' : Str → Option Value} {news : List (Addr × Obj)} {h h' : Heap} {tk tk' : Nat} {tb tn : Tok}
    (hw : ∀ p ∈ news, p.1 ∉ [I]) (F : Fr h₀ L h' m') (N : News h₀ L h' (news ++ own)) (h1 : m' (Str.ofString "b") = some (.int (j + 1) tb)) (h2 : m' (Str.ofString "n") = some (.int (j + 1) tn))
    (h3 : ∀ y, y ≠ x → y ≠ Str.ofString "b" → y ≠ Str.ofString "n" → m' y = m₀ y) :
    TurnPost h₀ L x [I] own (WsSt.led news) (WsSt.map b m₀) (fun c => ∃ tb tn, c = .sp (j + 1) tb tn) { s with heap := h, toks := tk } Q .next { s with heap := h', toks := tk' } := by
  refine ⟨WsSt.sp (j + 1) tb tn, h', tk', m', rfl, F, fun y hy => ?_, N, hw, tb, tn, rfl⟩
  show m' y = if y = Str.ofString "b" then some (.int (j + 1) tb) else if y = Str.ofString "n" then some (.int (j + 1) tn) else m₀ y
  by_cases q1 : y = Str.ofString "b"
  · rw [if_pos q1, q1, h1]
  · rw [if_neg q1]
    by_cases q2 : y = Str.ofString "n"
    · rw [if_pos q2, q2, h2]
    · rw [if_neg q2]; exact h3 y hy q1 q2
theorem ws_end2 {b : Int} {C : Addr → Obj → Prop} {I l : Addr} {o oI : Obj} {own : List (Addr × Obj)} {m₀ m' : Str → Option Value} {news : List (Addr × Obj)} {h h' : Heap} {tk tk' : Nat} {tb tn tt : Tok}
    (hw : ∀ p ∈ news, p.1 ∉ [I]) (hI : (I, oI) ∈ own) (F : Fr h₀ L h' m') (h1 : m' (Str.ofString "b") = some (.int 0 tb)) (h2 : m' (Str.ofString "n") = some (.int (b + 1) tn)) (h3 : m' (Str.ofString "nt") = some (.int 1 tt)) (h4 : m' (Str.ofString "count") = some (.ref l))
    (h5 : ∀ y, y ≠ x → y ≠ Str.ofString "b" → y ≠ Str.ofString "n" → y ≠ Str.ofString "nt" → y ≠ Str.ofString "count" → m' y = m₀ y) (N : News h₀ L h' ((l, o) :: (news ++ own))) (hl : AllLt l (news ++ own)) (hC : AllLt l news → C l o) :
    TurnPost h₀ L x [I] own (WsSt.led news) (WsSt.map b m₀) (fun c => ∃ l o tb tn tt, c = .tab l o tb tn tt ∧ C l o) { s with heap := h, toks := tk } Q .next { s with heap := h', toks := tk' } := by
  refine ⟨WsSt.tab l o tb tn tt, h', tk', m', rfl, F, fun y hy => ?_, N, ?_, l, o, tb, tn, tt, rfl, hC (allLt_left hl)⟩
  · show m' y = if y = Str.ofString "b" then some (.int 0 tb) else if y = Str.ofString "n" then some (.int (b + 1) tn) else if y = Str.ofString "nt" then some (.int 1 tt) else if y = Str.ofString "count" then some (.ref l) else m₀ y
    by_cases q1 : y = Str.ofString "b"
    · rw [if_pos q1, q1, h1]
    · rw [if_neg q1]
      by_cases q2 : y = Str.ofString "n"
      · rw [if_pos q2, q2, h2]
      · rw [if_neg q2]
        by_cases q3 : y = Str.ofString "nt"
        · rw [if_pos q3, q3, h3]
        · rw [if_neg q3]
          by_cases q4 : y = Str.ofString "count"
          · rw [if_pos q4, q4, h4]
          · rw [if_neg q4]; exact h5 y hy q1 q2 q3 q4
  · intro p hp
    rcases List.mem_cons.mp hp with rfl | hp
    · intro hm
      have e : l = I := List.mem_singleton.mp hm
      have := allLt_mem hl (I, oI) (List.mem_append_right _ hI)
      have h2 : I < l := this
      exact absurd (e ▸ h2) (Nat.lt_irrefl _)
    · exact hw p hp
theorem ws_end3 {b : Int} {I l : Addr} {oI : Obj} {own : List (Addr × Obj)} {m₀ m' : Str → Option Value} {news : List (Addr × Obj)} {h h' : Heap} {tk tk' : Nat} {tb tn tt : Tok} {vs : List Value} {g1 g2 : Addr × Obj} (hb : 0 ≤ b)
    (hw : ∀ p ∈ news, p.1 ∉ [I]) (hI : (I, oI) ∈ own) (F : Fr h₀ L h' m') (h1 : m' (Str.ofString "b") = some (.int 0 tb)) (h2 : m' (Str.ofString "n") = some (.int (b + 1) tn)) (h3 : m' (Str.ofString "nt") = some (.int 1 tt)) (h4 : m' (Str.ofString "count") = some (.ref l))
    (h5 : ∀ y, y ≠ x → y ≠ Str.ofString "b" → y ≠ Str.ofString "n" → y ≠ Str.ofString "nt" → y ≠ Str.ofString "count" → m' y = m₀ y) (N : News h₀ L h' ((l, W.listOf vs.toArray 0) :: g1 :: g2 :: (news ++ own))) (hl : AllLt l (news ++ own))
    (hi : IntsAre vs (([] ++ (List.replicate (b - 0 + 1).toNat [(0 : Int)]).flatten).set b.toNat (([] ++ (List.replicate (b - 0 + 1).toNat [(0 : Int)]).flatten).getD b.toNat 0 + 1))) :
    TurnPost h₀ L x [I] own (WsSt.led news) (WsSt.map b m₀) (fun c => ∃ l o tb tn tt, c = .tab l o tb tn tt ∧ wsC news b l o) { s with heap := h, toks := tk } Q .next { s with heap := h', toks := tk' } :=
  ws_end2 hw hI F h1 h2 h3 h4 h5 (fun p hp => N p ((List.mem_cons.mp hp).elim (fun e => e ▸ .head _) fun hp => .tail _ (.tail _ (.tail _ hp)))) hl fun hq => ⟨hq, vs, 0, rfl, cnt_ends hb hi⟩
end
theorem cnt_last {n b : Int} {i : Nat} (hn : 4 ≤ n) (hb : 0 ≤ b) (h : n + (i : Int) = b) : (cntOf b).getD (n + (i : Int) * 1).toNat 0 = 1 := by
  have e : (n + (i : Int) * 1).toNat = b.toNat := by omega
  rw [e]
  simp [cntOf, List.getD_eq_getElem?_getD]
theorem cnt_mid {n b : Int} {i : Nat} (hn : 4 ≤ n) (hb : 0 ≤ b) (h : n + (i : Int) ≤ b) (h' : ¬ n + (i : Int) = b) : (cntOf b).getD (n + (i : Int) * 1).toNat 0 = 0 := by
  have hlt : (n + (i : Int) * 1).toNat < b.toNat := by omega
  simp only [cntOf, List.getD_eq_getElem?_getD]
  rw [List.getElem?_append_left (by simpa using hlt), List.getElem?_replicate, if_pos hlt]
  rfl
theorem il_end {n b v : Int} {k : Int} (hb : 0 ≤ b) (hn : 4 ≤ n) (hk : k = b + 1) (h : v = if n + ((Builtin.Range.rangeSize n k 1).toNat : Int) > b then b / n else 0) : 0 + n * (v + 1) - b = n - b % n := by
  rw [rangeSize_nat] at h
  rw [if_pos (by omega)] at h
  subst h
  have h1 := Int.emod_add_mul_ediv b n
  rw [Int.mul_add]
  omega
theorem News.drop_all {h₀ h' : Heap} {L : Addr} {a b c d e f g : Addr × Obj} {news : List (Addr × Obj)} (N : News h₀ L h' (a :: b :: c :: d :: e :: f :: g :: news)) : News h₀ L h' news := fun r hr => N r (.tail _ (.tail _ (.tail _ (.tail _ (.tail _ (.tail _ (.tail _ hr)))))))
theorem tup_item {prog : Program} {w : World} {A : Around} {E : Value → Shared → Prop} {s : Shared} {Q : Value → Shared → Prop} {h₀ : Heap} {L l : Addr} {news : List (Addr × Obj)} {vs : List Value} {ns : List Int} {k c : Int} {u : Tok} {value slice : PySem.Expr}
    (N : News h₀ L s.heap news) (hm : (l, ({ cls := .type "tuple", data := .seq vs.toArray } : Obj)) ∈ news) (hi : IntsAre vs ns) (h0 : 0 ≤ k) (hk : k < ns.length) (hb : k < 2 ^ 63) (hv : ns.getD k.toNat 0 = c) (h : ∀ t, Q (.int c t) s)
    (hs : subscripted slice false (.ref l) (.int k u) = operate [.ref l, .int k u] (getItem (.ref l) (.int k u)) := by with_unfolding_all rfl) :
    wpAny (model prog w) A (subscriptTail value slice (.ref l) (.int k u)) Q E s := by
  have hlt : k.toNat < ns.length := by omega
  obtain ⟨t, ht⟩ := hi.get k.toNat c (by rw [← hv]; simp [List.getD_eq_getElem?_getD, hlt])
  refine item_tupleT (News.isTup N hm) (by omega) hb ?_ ht (h t) hs
  have hl := hi.length
  unfold seqIndex?
  dsimp only
  rw [show (if k < 0 then k + (vs.length : Int) else k) = k from if_neg (by omega), if_pos (by rw [Bool.and_eq_true]; exact ⟨decide_eq_true h0, decide_eq_true (by omega)⟩)]
local macro_rules | `(tactic| walk_at "subscriptTail Name Name ref int") => `(tactic| (k_here; (with_reducible show wpAny _ _ (subscriptTail _ _ (Value.ref _) (Value.int _ _)) _ _ _); (with_unfolding_all refine' tup_item ?k1 ?k2 ?k3 ?k4 ?k5 ?k6 ?k7 ?_); (case k1 => k_asm); (case k2 => k_mem); (case k3 => with_reducible assumption); (case k7 => with_reducible assumption); (case k4 => omega); (case k5 => omega); (case k6 => omega); intro t'))
local macro_rules | `(tactic| walk_at "call type:tuple") => `(tactic| (k_here; (with_reducible show wpAny _ _ (call (Value.type _) [Value.ref _]) _ _ _); k_dflt (refine' kde_tupleOf ?k1 ?k2 ?k3 ?k4 ?k5 ?_; (case k1 => k_asm); (case k2 => k_asm); (case k3 => exact News.isList (by k_asm) (by k_mem)); (case k4 => assumption); (case k5 => exact List.toList_toArray); k_whole); intro D' h' F' N' l1; (try k_lt l1); (try k_sweep)))
set_option maxRecDepth 100000 in
set_option maxHeartbeats 8000000 in
theorem reach_C {prog : Program} {w : World} {p : Program} {loose : List Str} {mean : ExcName → Option Value} {mg mb : Str → Option Value} {news : List (Addr × Obj)}
   {b n : Int} {t1 t2 : Tok} {dp un : Nat} {gd : Option (List Code)} {cn : Str} {cs : Scope} {a : Addr} {ccd : Value} {cl : List (Str × Addr)} {outer : List Env} {A₀ : Around} {base h₀ : Heap} {L : Addr} {m : Str → Option Value} {s : Shared} {Q E : Value → Shared → Prop}
    (B : Below A₀ base outer h₀) (F : Fr h₀ L s.heap m) (X : (hd.heap_39 w.params).In h₀) (N : News h₀ L s.heap news) (T : Top p loose mean mg mb h₀) (hk : cs.kind = .function)
    (hdp : dp + 20 < 1000) (hun : un + 100 < 9900) (hb0 : 0 ≤ b) (hb1 : b ≤ 36) (hn0 : 4 ≤ n) (hn1 : n ≤ 7)
    (hret : ∀ h' tk' u, Fr h₀ L h' m → News h₀ L h' news → Q (.int (n - b % n) u) { s with heap := h', toks := tk' }) :
      wpAny (model prog w) (ktrTop dp un gd cn cs L a ccd cl outer) (call (.ref 122) [.int b t1, .int n t2]) Q E s := by
  refine wpAny_call ?_
  (first | k_dflt cell_enter | fail "not entered")
  k_steps
  (with_reducible rename Fr _ _ _ _ => lF')
  (with_reducible rename News _ _ _ _ => lN')
  with_unfolding_all refine' ws_loop hb0 ?k0 lF' lN' ?k1 ?k2 ?_ ?_ ?_
  case k0 => with_unfolding_all rfl
  case k1 => exact rfl
  case k2 => exact rfl
  · clear lF' lN'
    intro j tb tn t h tk I oI own hj0 hjb hown hlw F₁ N₁
    dsimp only [WsSt.map] at F₁ 
    k_fold
    k_steps
    all_goals exact ws_end1 hlw (by assumption) (by assumption) rfl rfl (fun y q0 q1 q2 => by (try dsimp only [WsSt.map]); simp only [q0, q1, q2, if_false])
  · clear lF' lN'
    intro tb tn t h tk I oI own hown hlw F₁ N₁
    dsimp only [WsSt.map] at F₁ 
    k_fold
    k_steps
    (with_reducible rename Fr _ _ _ _ => lF')
    (with_reducible rename News _ _ _ _ => lN')
    (with_reducible rename _ ∧ _ ∧ AllLt _ _ => hl9)
    exact ws_end3 hb0 hlw hown lF' rfl rfl rfl rfl (fun y q0 q1 q2 q3 q4 => by (try dsimp only [WsSt.map]); simp only [q0, q1, q2, q3, q4, if_false]) lN' hl9.2.2 (by assumption)
  · clear lF' lN'
    intro l o tb tn tt u h tk hC F₁ N₁
    obtain ⟨hlt, vs, kk, rfl, hvs⟩ := hC
    (simp only [AllLt] at hlt)
    have hvl : vs.toArray.size ≤ 16384 := by
      have e := hvs.length
      rw [List.size_toArray, e]
      simp [cntOf]; omega
    dsimp only [WsSt.map, envOf] at F₁ N₁
    (try dsimp only)
    k_steps
    have hlen : ((cntOf b).length : Int) = b + 1 := by simp [cntOf]; omega
    (with_reducible rename Fr _ _ _ _ => lF')
    (with_reducible rename News _ _ _ _ => lN')
    (with_reducible rename IsRange _ _ _ _ _ _ _ _ => rgX)
    with_unfolding_all refine' range_int (Str.ofString "il") (fun i v => v = if n + (i : Int) > b then b / n else 0) ?k0 rgX ?k1 lF' lN' ?k2 ?k3 ?_ ?_
    case k0 => with_unfolding_all rfl
    case k1 => exact small_of (by omega) (by omega) (by omega) (by omega) (by omega) (by omega)
    case k2 => exact rfl
    case k3 =>
      split
      · exact (Int.ediv_eq_zero_of_lt hb0 (by omega)).symm
      · rfl
    · clear lF' lN'
      intro i t v tv h tk I oI own hi hJ hlw hown F₁ N₁
      dsimp only [envOf] at F₁ N₁
      k_fold
      have hin : n + (i : Int) ≤ b := by
        rw [rangeSize_nat] at hi
        omega
      by_cases hib : n + (i : Int) = b
      · have hget := cnt_last hn0 hb0 hib
        k_steps
        all_goals exact int_end (by assumption) rfl (fun z q0 q1 => by simp only [q0, q1, if_false]) (by assumption) hlw (by
          rw [hJ, if_neg (by omega), if_pos (by omega)]
          have e : n + (i : Int) * 1 = b := by omega
          rw [e, Int.fdiv_eq_ediv_of_nonneg _ (by omega)]; omega)
      · have hget := cnt_mid hn0 hb0 hin hib
        k_steps
        all_goals exact int_end (by assumption) rfl (fun z q0 q1 => by simp only [q0, q1, if_false]) (by assumption) hlw (by
          rw [hJ, if_neg (by omega), if_neg (by omega)]; omega)
    · clear lF' lN'
      intro v tv u h tk hJ F₁ N₁
      dsimp only [envOf] at F₁ N₁
      (try dsimp only)
      k_steps
      all_goals (
        have e := il_end hb0 hn0 hlen hJ
        rw [e]
        exact hret _ _ _ (by assumption) (News.drop_all (by assumption)))
end Mine
namespace Mine
theorem load_C {M : Model} {A : Around} {E : Value → Shared → Prop} {s : Shared} {h₀ : Heap} {L c a : Addr} {news : List (Addr × Obj)} {o : Obj} {v : Value} {x cn : Str} {cs : Scope} {ccd : Value} {cl : List (Str × Addr)} {Q : Value → Shared → Prop}
    (N : News h₀ L s.heap news) (hc : cl.lookup x = some c) (hm : (c, o) ∈ news) (hd : o.data = .cell (some v)) (h : Q v s) (hk : cs.kind = .function) (hx : (envX cn cs L a ccd cl).kindOf x = some .cell) :
    wpAny M A (loadName (envX cn cs L a ccd cl) x) Q E s := wpAny_loadName_cell hk hx hc ⟨o, N.get hm, hd⟩ h
local macro_rules | `(tactic| walk_at "loadName") => `(tactic| (k_here; k_dflt (refine' load_C ?N ?c ?m ?d ?_ ?a ?b; (case a => rfl); (case b => rfl); (case N => k_asm); (case c => rfl); (case m => k_mem); (case d => k_asm); k_whole)))
theorem cell_abs3 {o : Obj} {x : Int} {t : Tok} (d : o.data = Data.cell (some (.int (3 + x.fmod 4) t))) : ∃ one t', 3 ≤ one ∧ one ≤ 6 ∧ o.data = Data.cell (some (.int one t')) := by
  refine ⟨_, _, ?_, ?_, d⟩ <;> (rw [Int.fmod_eq_emod_of_nonneg x (by decide)]; omega)
theorem cell_abs4 {o : Obj} {x : Int} {t : Tok} (d : o.data = Data.cell (some (.int (4 + x.fmod 4) t))) : ∃ one t', 4 ≤ one ∧ one ≤ 7 ∧ o.data = Data.cell (some (.int one t')) := by
  refine ⟨_, _, ?_, ?_, d⟩ <;> (rw [Int.fmod_eq_emod_of_nonneg x (by decide)]; omega)
def cop (one v : Int) : Bool := [(3, 4), (3, 5), (3, 7), (4, 5), (4, 7), (5, 4), (5, 6), (5, 7), (6, 5), (6, 7)].contains (one, v)
theorem int_cases4 {x a : Int} (h1 : a ≤ x) (h2 : x ≤ a + 3) : x = a ∨ x = a + 1 ∨ x = a + 2 ∨ x = a + 3 := by omega
theorem divs_ne {one v : Int} (h1 : 3 ≤ one) (h2 : one ≤ 6) (h3 : 4 ≤ v) (h4 : v ≤ 7)
    (h : List.foldl (fun l' k' => if one.fmod k' = 0 ∧ v.fmod k' = 0 then l' ++ [k'] else if one.fmod k' = 0 ∧ ¬ v.fmod k' = 0 then l' else l') [] (rangeKs 2 (one + 1 - 2).toNat) ≠ []) : v < 7 := by
  rcases int_cases4 h1 h2 with rfl | rfl | rfl | rfl <;> rcases int_cases4 h3 h4 with rfl | rfl | rfl | rfl <;> first | decide | (exfalso; revert h; decide +kernel)
theorem divs_nil {one v : Int} (h1 : 3 ≤ one) (h2 : one ≤ 6) (h3 : 4 ≤ v) (h4 : v ≤ 7)
    (h : List.foldl (fun l' k' => if one.fmod k' = 0 ∧ v.fmod k' = 0 then l' ++ [k'] else if one.fmod k' = 0 ∧ ¬ v.fmod k' = 0 then l' else l') [] (rangeKs 2 (one + 1 - 2).toNat) = []) : cop one v = true := by
  rcases int_cases4 h1 h2 with rfl | rfl | rfl | rfl <;> rcases int_cases4 h3 h4 with rfl | rfl | rfl | rfl <;> first | decide | (exfalso; revert h; decide +kernel)
theorem whl_split {X : List Int} {T F : Prop} (hy : X ≠ [] → T) (hn : X = [] → F) : WhlIf (!decide (X = [])) T F := by
  by_cases h : X = []
  · exact WhlIf.no (by simp [h]) (hn h)
  · exact WhlIf.yes (by simp [h]) (hy h)
theorem mul_rng {x y a b : Int} (h0 : 0 ≤ x) (h1 : x ≤ a) (h2 : 0 ≤ y) (h3 : y ≤ b) (ha : 0 ≤ a) : 0 ≤ x * y ∧ x * y ≤ a * b :=
  ⟨Int.mul_nonneg h0 h2, Int.mul_le_mul h1 h3 h2 ha⟩
theorem rngA {x one other : Int} (h0 : 0 ≤ x) (h1 : x < one) (h2 : 3 ≤ one) (h3 : one ≤ 6) (h4 : 4 ≤ other) (h5 : other ≤ 7) : 0 ≤ x * other ∧ x * other ≤ 36 ∧ 3 ≤ one ∧ one ≤ 6 := by
  have := mul_rng h0 (show x ≤ 5 by omega) (show 0 ≤ other by omega) h5 (by decide)
  omega
theorem rngA' {x one other : Int} (h0 : 0 ≤ x) (h1 : x < 0 + ((one - 0).toNat : Int)) (h2 : 3 ≤ one) (h3 : one ≤ 6) (h4 : 4 ≤ other) (h5 : other ≤ 7) : 0 ≤ x * other ∧ x * other ≤ 36 ∧ 3 ≤ one ∧ one ≤ 6 := rngA h0 (by omega) h2 h3 h4 h5
theorem rngB {y one other : Int} (h0 : 0 ≤ y) (h1 : y < other) (h2 : 3 ≤ one) (h3 : one ≤ 6) (h4 : 4 ≤ other) (h5 : other ≤ 7) : 0 ≤ y * one ∧ y * one ≤ 36 := by
  have := mul_rng h0 (show y ≤ 6 by omega) (show 0 ≤ one by omega) h3 (by decide)
  omega
theorem rngB' {y one other : Int} (h0 : 0 ≤ y) (h1 : y < 0 + ((other - 0).toNat : Int)) (h2 : 3 ≤ one) (h3 : one ≤ 6) (h4 : 4 ≤ other) (h5 : other ≤ 7) : 0 ≤ y * one ∧ y * one ≤ 36 := rngB h0 (by omega) h2 h3 h4 h5
theorem rngC {x one : Int} (h0 : 0 ≤ x) (h1 : x ≤ 35) (h2 : 3 ≤ one) (h3 : one ≤ 6) : 0 ≤ x ∧ x ≤ 36 ∧ 3 ≤ one ∧ one ≤ 6 := by omega
theorem rngD {x : Int} (h0 : 0 ≤ x) (h1 : x ≤ 35) : 0 ≤ x ∧ x ≤ 36 := by omega
def SL (one v : Int) : List Int := List.map (fun k' => k' * v % one) (rangeKs 0 (one - 0).toNat)
def RL (one v : Int) : List Int := List.map (fun k' => v - k' * one % v) (rangeKs 0 (v - 0).toNat)
def WC (one v n : Int) : Int := kdfLook (waysC one v (Builtin.Range.rangeSize 0 36 one).toNat) n 0
def lawOk (one v n : Int) : Bool :=
  !cop one v || (PyData.layable0 (.list ((SL one v).map .int)) && PyData.layable0 (.list ((RL one v).map .int)) && (SL one v).contains (n % one) && (RL one v).contains (v - n % v) &&
    decide ((((SL one v).idxOf (n % one) : Nat) : Int) * v + (((RL one v).idxOf (v - n % v) : Nat) : Int) * one + one * v * (WC one v n - 1) = n) && decide (0 ≤ WC one v n ∧ WC one v n ≤ 36) && Builtin.Range.small 0 (n + 1) one && decide ((Builtin.Range.rangeSize 0 (n + 1) one).toNat ≤ sizeLine) && decide (WC one v n = (((rangeK 0 one (Builtin.Range.rangeSize 0 (n + 1) one).toNat).filter (fun k => (n - k).fmod v == 0)).length : Int)))
set_option maxRecDepth 100000 in
theorem lawOk34 : ∀ n : Fin 36, lawOk 3 4 ((n.val : Nat) : Int) = true := by decide +kernel
set_option maxRecDepth 100000 in
theorem lawOk35 : ∀ n : Fin 36, lawOk 3 5 ((n.val : Nat) : Int) = true := by decide +kernel
set_option maxRecDepth 100000 in
theorem lawOk37 : ∀ n : Fin 36, lawOk 3 7 ((n.val : Nat) : Int) = true := by decide +kernel
set_option maxRecDepth 100000 in
theorem lawOk45 : ∀ n : Fin 36, lawOk 4 5 ((n.val : Nat) : Int) = true := by decide +kernel
set_option maxRecDepth 100000 in
theorem lawOk47 : ∀ n : Fin 36, lawOk 4 7 ((n.val : Nat) : Int) = true := by decide +kernel
set_option maxRecDepth 100000 in
theorem lawOk54 : ∀ n : Fin 36, lawOk 5 4 ((n.val : Nat) : Int) = true := by decide +kernel
set_option maxRecDepth 100000 in
theorem lawOk56 : ∀ n : Fin 36, lawOk 5 6 ((n.val : Nat) : Int) = true := by decide +kernel
set_option maxRecDepth 100000 in
theorem lawOk57 : ∀ n : Fin 36, lawOk 5 7 ((n.val : Nat) : Int) = true := by decide +kernel
set_option maxRecDepth 100000 in
theorem lawOk65 : ∀ n : Fin 36, lawOk 6 5 ((n.val : Nat) : Int) = true := by decide +kernel
set_option maxRecDepth 100000 in
theorem lawOk67 : ∀ n : Fin 36, lawOk 6 7 ((n.val : Nat) : Int) = true := by decide +kernel
theorem lawOk_of {one v n : Int} (h1 : 3 ≤ one) (h2 : one ≤ 6) (h3 : 4 ≤ v) (h4 : v ≤ 7) (hc : cop one v = true) (h5 : 0 ≤ n) (h6 : n ≤ 35) : lawOk one v n = true := by
  have e : ((n.toNat : Nat) : Int) = n := by omega
  rw [← e]
  have hn : n.toNat < 36 := by omega
  rcases (by omega : one = 3 ∨ one = 4 ∨ one = 5 ∨ one = 6) with rfl | rfl | rfl | rfl <;> rcases (by omega : v = 4 ∨ v = 5 ∨ v = 6 ∨ v = 7) with rfl | rfl | rfl | rfl
  · exact lawOk34 ⟨_, hn⟩
  · exact lawOk35 ⟨_, hn⟩
  · exact absurd hc (by decide)
  · exact lawOk37 ⟨_, hn⟩
  · exact absurd hc (by decide)
  · exact lawOk45 ⟨_, hn⟩
  · exact absurd hc (by decide)
  · exact lawOk47 ⟨_, hn⟩
  · exact lawOk54 ⟨_, hn⟩
  · exact absurd hc (by decide)
  · exact lawOk56 ⟨_, hn⟩
  · exact lawOk57 ⟨_, hn⟩
  · exact absurd hc (by decide)
  · exact lawOk65 ⟨_, hn⟩
  · exact absurd hc (by decide)
  · exact lawOk67 ⟨_, hn⟩
theorem law_facts {one v n : Int} (h1 : 3 ≤ one) (h2 : one ≤ 6) (h3 : 4 ≤ v) (h4 : v ≤ 7) (hc : cop one v = true) (h5 : 0 ≤ n) (h6 : n ≤ 35) :
    PyData.layable0 (.list ((List.map (fun k' => k' * v % one) (rangeKs 0 (one - 0).toNat)).map .int)) = true ∧ PyData.layable0 (.list ((List.map (fun k' => v - k' * one % v) (rangeKs 0 (v - 0).toNat)).map .int)) = true ∧
    n % one ∈ List.map (fun k' => k' * v % one) (rangeKs 0 (one - 0).toNat) ∧ v - n % v ∈ List.map (fun k' => v - k' * one % v) (rangeKs 0 (v - 0).toNat) ∧
    (((List.map (fun k' => k' * v % one) (rangeKs 0 (one - 0).toNat)).idxOf (n % one) : Nat) : Int) * v + (((List.map (fun k' => v - k' * one % v) (rangeKs 0 (v - 0).toNat)).idxOf (v - n % v) : Nat) : Int) * one + one * v * (kdfLook (waysC one v (Builtin.Range.rangeSize 0 36 one).toNat) n 0 - 1) = n ∧ IntMulOk (one * v) (kdfLook (waysC one v (Builtin.Range.rangeSize 0 36 one).toNat) n 0 - 1) ∧
    Builtin.Range.small 0 (n + 1) one = true ∧ (Builtin.Range.rangeSize 0 (n + 1) one).toNat ≤ sizeLine ∧ kdfLook (waysC one v (Builtin.Range.rangeSize 0 36 one).toNat) n 0 = (((rangeK 0 one (Builtin.Range.rangeSize 0 (n + 1) one).toNat).filter (fun k => (n - k).fmod v == 0)).length : Int) ∧ kdfLook (waysC one v (Builtin.Range.rangeSize 0 36 one).toNat) n 0 < 2 ^ 63 := by
  have := lawOk_of h1 h2 h3 h4 hc h5 h6
  unfold lawOk at this
  rw [hc] at this
  simp only [Bool.not_true, Bool.false_or, Bool.and_eq_true, decide_eq_true_eq, List.contains_iff_mem] at this
  obtain ⟨⟨⟨⟨⟨⟨⟨⟨a, b⟩, c⟩, d⟩, e⟩, g0, g1⟩, g2⟩, g3⟩, g4⟩ := this
  unfold WC at g0 g1 g4
  exact ⟨a, b, c, d, e, IntMulOk.of_right (intBits_le_64 (by omega) (by omega)), g2, g3, g4, by omega⟩
theorem idx_C {prog : Program} {w : World} {A : Around} {E : Value → Shared → Prop} {s : Shared} {h₀ : Heap} {L l : Addr} {news : List (Addr × Obj)} {vs : List Value} {ns : List Int} {k : Int} {t : Tok} {Q : Value → Shared → Prop}
    (N : News h₀ L s.heap news) (hm : (l, LCg.lst vs) ∈ news) (hi : IntsAre vs ns) (hlay : PyData.layable0 (.list (ns.map .int)) = true) (hk : k ∈ ns) (h : Q (.int (ns.idxOf k : Nat) s.toks) { s with toks := s.toks + 1 }) :
    wpAny (model prog w) A (call (.builtin "list.index") [.ref l, .int k t]) Q E s := index_list_ints ⟨_, (N _ hm).1, rfl, _, rfl⟩ hi hlay hk h
local macro_rules | `(tactic| walk_at "call builtin:list.index") => `(tactic| (k_here; (with_reducible show wpAny _ _ (call (Value.builtin _) [Value.ref _, Value.int _ _]) _ _ _); k_dflt (refine' idx_C ?k1 ?k2 ?k3 ?k4 ?k5 ?_; (case k1 => k_asm); (case k2 => k_mem); (case k3 => with_reducible assumption); (case k4 => with_reducible assumption); (case k5 => with_reducible assumption))))
theorem off4 {c a1 a2 a3 a4 : Addr} {o1 o2 o3 o4 : Obj} (h1 : c ≠ a1) (h2 : c ≠ a2) (h3 : c ≠ a3) (h4 : c < a4) : ∀ p ∈ [(a1, o1), (a2, o2), (a3, o3), (a4, o4)], p.1 ≠ c :=
  List.forall_mem_cons.mpr ⟨Ne.symm h1, List.forall_mem_cons.mpr ⟨Ne.symm h2, List.forall_mem_cons.mpr ⟨Ne.symm h3, List.forall_mem_cons.mpr ⟨Nat.ne_of_gt h4, List.forall_mem_nil _⟩⟩⟩⟩
theorem off2 {c : Addr} {o1 o2 : Obj} : ∀ p ∈ [(c + 1, o1), (c, o2)], p.1 ≠ c + 1 + 1 :=
  List.forall_mem_cons.mpr ⟨Nat.ne_of_lt (Nat.lt_succ_self _), List.forall_mem_cons.mpr ⟨Nat.ne_of_lt (Nat.lt_succ_of_lt (Nat.lt_succ_self _)), List.forall_mem_nil _⟩⟩
theorem col_rng {l : List Int} {i : Nat} {n : Int} (h : (List.map (fun k' => k'.fmod 36) l)[i]? = some n) : 0 ≤ n ∧ n ≤ 35 := by
  rw [List.getElem?_map] at h
  obtain ⟨k, _, rfl⟩ := Option.map_eq_some_iff.mp h
  rw [Int.fmod_eq_emod_of_nonneg k (by decide)]
  omega
theorem News.dropG {h₀ h' : Heap} {L : Addr} {a g1 g2 g3 : Addr × Obj} {news : List (Addr × Obj)} (N : News h₀ L h' (a :: g1 :: g2 :: g3 :: news)) : News h₀ L h' (a :: news) := fun r hr => N r ((List.mem_cons.mp hr).elim (fun e => e ▸ .head _) fun hr => .tail _ (.tail _ (.tail _ (.tail _ hr))))
theorem News.drop4 {h₀ h' : Heap} {L : Addr} {a b c d : Addr × Obj} {news : List (Addr × Obj)} (N : News h₀ L h' (a :: b :: c :: d :: news)) : News h₀ L h' news := fun r hr => N r (.tail _ (.tail _ (.tail _ (.tail _ hr))))
theorem News.drop2 {h₀ h' : Heap} {L : Addr} {a b : Addr × Obj} {news : List (Addr × Obj)} (N : News h₀ L h' (a :: b :: news)) : News h₀ L h' news := fun r hr => N r (.tail _ (.tail _ hr))
theorem News.drop1 {h₀ h' : Heap} {L : Addr} {a : Addr × Obj} {news : List (Addr × Obj)} (N : News h₀ L h' (a :: news)) : News h₀ L h' news := fun r hr => N r (.tail _ hr)
theorem ne_no {prog : Program} {w : World} {A : Around} {E : Value → Shared → Prop} {s : Shared} {a b : Int} {t u : Tok} {Q : Value → Shared → Prop} (e : a = b) (h : Q (.bool false) s) : wpAny (model prog w) A (compareOp .NotEq (.int a t) (.int b u)) Q E s :=
  ne_int (by rw [e, bne_self_eq_false]; exact h)
local macro_rules | `(tactic| walk_at "compareOp NotEq int int") => `(tactic| with_reducible refine ne_no (by with_reducible assumption) ?_)
local macro_rules | `(tactic| walk_at "call ref") => `(tactic| (k_here; (with_reducible show wpAny _ _ (call (Value.ref 115) _) _ _ _); k_dflt (refine' stop_C ?kB ?kF ?kX ?kN ?kT ?kK ?kd ?ku ?kr ?_; (case kB => k_asm); (case kF => k_asm); (case kX => k_asm); (case kN => k_asm); (case kT => k_asm); (case kK => first | exact rfl | assumption); (case kd => decide); (case ku => decide); (case kr => first | exact rngA' (by with_reducible assumption) (by with_reducible assumption) (by with_reducible assumption) (by with_reducible assumption) (by with_reducible assumption) (by with_reducible assumption) | exact rngC (by with_reducible assumption) (by with_reducible assumption) (by with_reducible assumption) (by with_reducible assumption))); intro h' tk' u' F' N'; (try k_sweep); (try dsimp only)))
local macro_rules | `(tactic| walk_at "call ref") => `(tactic| (k_here; (with_reducible show wpAny _ _ (call (Value.ref 122) _) _ _ _); k_dflt (refine' reach_C ?kB ?kF ?kX ?kN ?kT ?kK ?kd ?ku ?kr1 ?kr2 ?kr3 ?kr4 ?_; (case kB => k_asm); (case kF => k_asm); (case kX => k_asm); (case kN => k_asm); (case kT => k_asm); (case kK => first | exact rfl | assumption); (case kd => decide); (case ku => decide); (case kr1 => first | exact (rngB' (by with_reducible assumption) (by with_reducible assumption) (by with_reducible assumption) (by with_reducible assumption) (by with_reducible assumption) (by with_reducible assumption)).1 | exact (rngD (by with_reducible assumption) (by with_reducible assumption)).1); (case kr2 => first | exact (rngB' (by with_reducible assumption) (by with_reducible assumption) (by with_reducible assumption) (by with_reducible assumption) (by with_reducible assumption) (by with_reducible assumption)).2 | exact (rngD (by with_reducible assumption) (by with_reducible assumption)).2); (case kr3 => with_reducible assumption); (case kr4 => with_reducible assumption)); intro h' tk' u' F' N'; (try k_sweep); (try dsimp only)))
local macro_rules | `(tactic| walk_at "call ref") => `(tactic| (k_here; (with_reducible show wpAny _ _ (call (Value.ref 127) _) _ _ _); k_dflt (refine' ways_C ?kB ?kF ?kX ?kN ?kT ?kK ?kd ?ku ?kr1 ?kr2 ?kr3 ?kr4 ?_; (case kB => k_asm); (case kF => k_asm); (case kX => k_asm); (case kN => k_asm); (case kT => k_asm); (case kK => first | exact rfl | assumption); (case kd => decide); (case ku => decide); (case kr1 => with_reducible assumption); (case kr2 => with_reducible assumption); (case kr3 => with_reducible assumption); (case kr4 => with_reducible assumption)); intro D' o' h' tk' F' N' im' lo' l1; k_dflt (obtain ⟨kvs', hd', hf'⟩ := im'); (try k_lt l1); (try k_sweep); (try dsimp only)))
local macro_rules | `(tactic| walk_at "Exists") => `(tactic| (k_here; refine ⟨_, _, _, _, rfl, by with_reducible assumption, by with_reducible assumption, by with_reducible assumption, ?_⟩; intro D' h' tk' nn' ys' F' N' e1' e2'))
local macro_rules | `(tactic| walk_at "call builtin:len") => `(tactic| (k_here; (with_reducible show wpAny _ _ (call (Value.builtin "len") [Value.ref _]) _ _ _); k_dflt (refine' len_own ?k1 ?k2 ?k3 ?_; (case k1 => k_asm); (case k2 => k_mem); (case k3 => with_reducible assumption))))
theorem other_ne {v : Int} (h : 4 ≤ v) : v ≠ 0 := by omega
set_option maxRecDepth 100000 in
set_option maxHeartbeats 8000000 in
theorem law_holds : PySem.Challenge.rw_pg0191_01.Holds := hd (by
  k_go0
  (all_goals try k_fold)
  repeat' (first | (fail_if_success (with_reducible show wpAny _ _ (exec (Stmt.While _ _ _ _) _) _ _ _)); (first | (k_unfold; (try dsimp only)) | (k_end; wrow_close) | walk1 | (dsimp only; walk1) | (leave1; walk_say "STEP leave1"; try dsimp only) | fail "no step"))
  (with_reducible rename Fr _ _ _ _ => lF')
  (with_reducible rename News _ _ _ _ => lN')
  (with_reducible rename Obj.data _ = Data.cell (some (Value.int (4 + _) _)) => d2)
  (with_reducible rename Obj.data _ = Data.cell (some (Value.int (3 + _) _)) => d1)
  obtain ⟨one, t1, ho3, ho6, d1'⟩ := cell_abs3 d1
  clear d1
  obtain ⟨v0, t2, hv4, hv7, d2'⟩ := cell_abs4 d2
  clear d2
  refine while_cell (pre := [_, _, _]) (post := [_]) lF' lN' d2' hv4 hv7 ?hE ?turn
  case hE => first | passes_own | with_unfolding_all passes_own
  case turn =>
    clear lF' lN'
    intro v t o h tk h4 h7 hd F₁ N₁
    simp only [List.cons_append, List.nil_append] at N₁
    k_fold
    k_steps
    refine whl_split (fun hX => ?_) (fun hX => ?_)
    · have hv := divs_ne ho3 ho6 h4 h7 hX
      clear hX
      k_steps
      (with_reducible rename News _ _ _ _ => nOld)
      (with_reducible rename Fr _ _ _ _ => fOld)
      exact ⟨rfl, _, _, _, v + 1, _, rfl, fOld, News.drop2 nOld, by with_reducible assumption, Int.lt_succ v, hv⟩
    · have hcop := divs_nil ho3 ho6 h4 h7 hX
      clear hX
      (with_reducible rename News _ _ _ _ => nOld)
      have nNew := News.drop4 nOld
      clear nOld
      repeat' (first | (fail_if_success (with_reducible show wpAny _ _ (exec (Stmt.For _ _ _ _ _) _) _ _ _)); (first | (k_unfold; (try dsimp only)) | (k_end; wrow_close) | walk1 | (dsimp only; walk1) | (leave1; walk_say "STEP leave1"; try dsimp only) | fail "no step"))
      refine wpAny_For ?_ (by intro _; rfl)
      repeat' (first | (fail_if_success (with_reducible show wpAny _ _ (pyIter _) (fun it s₂ => codeAny _ _ _ _ _) _ _)); (first | (k_unfold; (try dsimp only)) | (k_end; wrow_close) | walk1 | (dsimp only; walk1) | (leave1; walk_say "STEP leave1"; try dsimp only) | fail "no step"))
      (with_reducible rename Fr _ _ _ _ => lF')
      (with_reducible rename News _ _ _ _ => nOld)
      have lN' := News.dropG nOld
      clear nOld
      (with_reducible rename _ ≠ _ ∧ _ ≠ _ ∧ _ ≠ _ ∧ _ ≠ _ ∧ _ ≠ _ ∧ _ ≠ _ ∧ _ ≠ _ ∧ _ ≠ _ ∧ _ ≠ _ => oX)
      (with_reducible rename _ ≠ _ ∧ _ ≠ _ ∧ _ ≠ _ ∧ _ ≠ _ ∧ _ ≠ _ => oR)
      (with_reducible rename _ ≠ _ ∧ _ ≠ _ ∧ _ ≠ _ ∧ _ ≠ _ => oS)
      (with_reducible rename _ + 1 + 1 + 1 < _ ∧ _ => oW)
      refine cell_iter (pre := [_, _, _, _]) (post := [_, _]) [Str.ofString "x", Str.ofString "y"] ?c1 ?c2 ?c3 ?c4 lF' lN' (by assumption) ?c5 ?c6 (.head _) (by assumption) ?cE ?turn ?done
      case c1 => with_unfolding_all rfl
      case c2 => exact rfl
      case c3 => exact rfl
      case c4 => exact rfl
      case c5 => exact off4 oX.2.2.2.2.2.2.1 oR.2.2.1 oS.2.1 oW.1
      case c6 => exact off2
      case cE => first | passes_own | with_unfolding_all passes_own
      case turn =>
        clear lF' lN' oX oR oS oW
        intro i n t o h tk I oI u hin hdn F₁ N₁
        simp only [List.cons_append, List.nil_append] at N₁
        dsimp only [envOfC] at F₁ N₁
        obtain ⟨hn0, hn1⟩ := col_rng hin
        obtain ⟨f1, f2, f3, f4, f5, f7, f8, f9, f10, f11⟩ := law_facts ho3 ho6 h4 h7 hcop hn0 hn1
        k_fold
        repeat' (first | (fail_if_success (with_reducible show wpAny _ _ (eval (Expr.ListComp _ _ _ _) _) _ _ _)); (first | (k_unfold; (try dsimp only)) | (k_end; wrow_close) | walk1 | (dsimp only; walk1) | (leave1; walk_say "STEP leave1"; try dsimp only) | fail "no step"))
        refine' listcomp_stride ?kF ?k0 ?k1 ?k2 ?k3 ?k4 ?k5 ?k6 ?k7 ?k8 ?kw ?kx ?ky ?k9 ?ka ?kb ?kc ?kN ?kd ?ke ?kf ?kg ?kh ?ki ?kj ?kk ?kl ?_ ?km
        case kF => k_asm
        case k0 => with_unfolding_all rfl
        case k1 => with_unfolding_all rfl
        case k2 => decide
        case k3 => with_unfolding_all rfl
        case k4 => decide
        case k5 => with_unfolding_all rfl
        case k6 => decide
        case k7 => decide
        case k8 => decide
        case kw => exact rfl
        case kx => exact rfl
        case ky => exact rfl
        case k9 => exact rfl
        case ka => exact rfl
        case kb => exact rfl
        case kc => exact rfl
        case kN => k_asm
        case kd => k_mem
        case ke => k_mem
        case kf => k_asm
        case kg => k_asm
        case kh => exact other_ne (by with_reducible assumption)
        case kk => with_reducible assumption
        case ki => with_reducible assumption
        case kj => with_reducible assumption
        case kl => with_reducible assumption
        case km => intro _; with_unfolding_all rfl
        k_steps
        (with_reducible rename News _ _ _ _ => nOld)
        (with_reducible rename Fr _ _ _ _ => fOld)
        refine ⟨rfl, _, _, _, rfl, fOld, fun y hy => ?_, News.drop1 nOld⟩
        have g1 : ¬ y = Str.ofString "x" := fun e => by subst e; exact absurd hy (by decide)
        have g2 : ¬ y = Str.ofString "y" := fun e => by subst e; exact absurd hy (by decide)
        (try dsimp only)
        simp only [if_neg g1, if_neg g2, hy, Bool.false_eq_true, if_false]
        simp only [envOfC]
      case done =>
        clear lF' lN'
        intro o u h tk F₁ N₁
        simp only [List.cons_append, List.nil_append] at N₁
        dsimp only [envOfC] at F₁ N₁
        dsimp only
        (try k_fold)
        k_steps)
end Mine
theorem PySem.Challenge.cw_pg0191_01_holds : PySem.Challenge.rw_pg0191_01.Holds := by
  exact Mine.law_holds

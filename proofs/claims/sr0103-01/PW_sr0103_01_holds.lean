import PyProof.Rows.All
import Wide.All
import OpenK.AllK
import Wide.FinOn
import PySem.Challenge.RW_sr0103_01
open PySem PySem.W PyProof.Rows
set_option Elab.async false

namespace Mine

theorem unr_mono {h₀ : Heap} {L : Addr} {s₁ s₂ : Shared} {I : Addr} {it : Obj} {r r' : (Str → Option Value) → List (Addr × Obj) → Prop} {Q : Flow → Shared → Prop} {f : Flow}
    (h : UnrPost h₀ L s₁ I it r Q f s₂) (k : ∀ m n, r m n → r' m n) : UnrPost h₀ L s₁ I it r' Q f s₂ := by
  cases f with
  | ret v => exact h
  | brk => exact h
  | next => obtain ⟨h', tk, m', n', a, b, c, d, e⟩ := h; exact ⟨h', tk, m', n', a, b, c, d, k _ _ e⟩
  | cont => obtain ⟨h', tk, m', n', a, b, c, d, e⟩ := h; exact ⟨h', tk, m', n', a, b, c, d, k _ _ e⟩

theorem unrW_mono {h₀ : Heap} {L : Addr} {s₁ s₂ : Shared} {its : List (Addr × Obj)} {r r' : (Str → Option Value) → List (Addr × Obj) → Prop} {Q : Flow → Shared → Prop} {f : Flow}
    (h : UnrPostW h₀ L s₁ its r Q f s₂) (k : ∀ m n, r m n → r' m n) : UnrPostW h₀ L s₁ its r' Q f s₂ := by
  cases f with
  | ret v => exact h
  | brk => exact h
  | next => obtain ⟨h', tk, m', n', a, b, c, d, e⟩ := h; exact ⟨h', tk, m', n', a, b, c, d, k _ _ e⟩
  | cont => obtain ⟨h', tk, m', n', a, b, c, d, e⟩ := h; exact ⟨h', tk, m', n', a, b, c, d, k _ _ e⟩

theorem allObj_mono : ∀ {ws : List (Addr × String)} {p q : List (Addr × Obj) → Prop}, AllObj ws p → (∀ l, p l → q l) → AllObj ws q
  | [], _, _, h, k => k _ h
  | _ :: _, _, _, h, k => fun o ho => allObj_mono (h o ho) fun _ x => k _ x

section
variable {prog : Program} {w : World} {A : Around} {E : Value → Shared → Prop} {s : Shared} {env : Env} {h₀ : Heap} {x : Str} {body : List Stmt} {Q : Flow → Shared → Prop}

/-- a loop over reversed(list of ints), by an invariant over the names and the ledger -/
theorem rev_rest {os : List Int} {I : Addr} {lp : Addr × Obj} (Inv : List Int → (Str → Option Value) → List (Addr × Obj) → Prop)
    (hm : ∀ pre m n, Inv pre m n → lp ∈ n)
    (turn : ∀ pre o suf t m n (it : Obj) h tk, os = pre ++ o :: suf → Inv pre m n → it.cls = .type "list_reverseiterator" →
      Fr h₀ env.locals h (fun y => if y = x then some (.int o t) else m y) → News h₀ env.locals h ((I, it) :: n) →
      wpAny (model prog w) A (execs body env) (UnrPost h₀ env.locals { s with heap := h, toks := tk } I it (Inv (pre ++ [o])) Q) E { s with heap := h, toks := tk })
    (done : ∀ m n h tk, Inv os m n → Fr h₀ env.locals h m → News h₀ env.locals h n → Q .next { s with heap := h, toks := tk }) :
    ∀ (suf : List Int) (us : List Value) (pre : List Int) m n, IntsAre us suf → os = pre ++ suf → Inv pre m n → RevRest prog w A E h₀ env x body Q s I lp us m n := by
  intro suf
  induction suf with
  | nil =>
    intro us pre m n hu ho hi
    cases hu
    rw [List.append_nil] at ho
    subst ho
    exact RevRest.zero fun h tk F N => done m n h tk hi F N
  | cons o suf ih =>
    intro us pre m n hu ho hi
    cases hu with
    | cons _ t hu =>
      refine RevRest.succ fun it h tk hc F N => ?_
      refine wpAny_mono (turn pre o suf t m n it h tk ho hi hc F N) (fun f s₂ p => unr_mono p fun m' n' h' => ⟨hm _ _ _ h', ?_⟩) fun _ _ e => e
      exact ih _ _ m' n' hu (by rw [ho, List.append_assoc]; rfl) h'

theorem rev_loop {D I : Addr} {lo : Obj} {us : List Value} {os : List Int} {k : Nat} {m₀ : Str → Option Value} {news : List (Addr × Obj)} (Inv : List Int → (Str → Option Value) → List (Addr × Obj) → Prop)
    (hh : A.handled = none) (F : Fr h₀ env.locals s.heap m₀) (N : News h₀ env.locals s.heap ((I, revObj D ((us.length : Int) - 1)) :: news)) (hof : OffI I (revObj D ((us.length : Int) - 1)) news)
    (hmem : (D, lo) ∈ news) (hc : lo.cls = .type "list") (hd : lo.data = .seq us.toArray k) (hu : IntsAre us os)
    (h0 : Inv [] m₀ news) (hm : ∀ pre m n, Inv pre m n → (D, lo) ∈ n)
    (turn : ∀ pre o suf t m n (it : Obj) h tk, os.reverse = pre ++ o :: suf → Inv pre m n → it.cls = .type "list_reverseiterator" →
      Fr h₀ env.locals h (fun y => if y = x then some (.int o t) else m y) → News h₀ env.locals h ((I, it) :: n) →
      wpAny (model prog w) A (execs body env) (UnrPost h₀ env.locals { s with heap := h, toks := tk } I it (Inv (pre ++ [o])) Q) E { s with heap := h, toks := tk })
    (done : ∀ m n h tk, Inv os.reverse m n → Fr h₀ env.locals h m → News h₀ env.locals h n → Q .next { s with heap := h, toks := tk }) :
    wpAny (model prog w) A (pyIter (.ref I)) (fun it s₂ => LoopAtV prog w A h₀ env x body Q E it s₂) E s :=
  iter_revUnr hh F N hof hmem hc hd (rev_rest Inv hm turn done os.reverse us.reverse [] m₀ news hu.reverse rfl h0)

variable {target : PySem.Expr}
/-- a loop over items (a list's, an enumerate's), by an invariant -/
theorem items_rest {α : Type} {f : Nat → α → Itm} {as : List α} {ws : List (Addr × String)} {keep : List (Addr × Obj)} (Inv : List α → (Str → Option Value) → List (Addr × Obj) → Prop)
    (hm : ∀ pre m n, Inv pre m n → SubL keep n)
    (turn : ∀ pre a suf v m n h tk, as = pre ++ a :: suf → Inv pre m n → (f pre.length a).Is v h → Fr h₀ env.locals h m → AllObj ws (fun its => News h₀ env.locals h (its ++ n) →
      wpAny (model prog w) A (assign target env v) (fun _ s₂ => wpAny (model prog w) A (execs body env) (UnrPostW h₀ env.locals { s with heap := h, toks := tk } its (Inv (pre ++ [a])) Q) E s₂) E { s with heap := h, toks := tk }))
    (done : ∀ m n h tk, Inv as m n → Fr h₀ env.locals h m → News h₀ env.locals h n → Q .next { s with heap := h, toks := tk }) :
    ∀ (suf : List α) (xs : List Itm) (pre : List α) m n, (∀ i : Nat, xs[i]? = (suf[i]?).map (f (pre.length + i))) → as = pre ++ suf → Inv pre m n → ItemsRest prog w A E h₀ env target body Q s ws keep xs m n := by
  intro suf
  induction suf with
  | nil =>
    intro xs pre m n hx ho hi
    have : xs = [] := by
      cases xs with
      | nil => rfl
      | cons a r => have := hx 0; simp at this
    subst this
    rw [List.append_nil] at ho
    subst ho
    exact ItemsRest.zero fun h tk F N => done m n h tk hi F N
  | cons a suf ih =>
    intro xs pre m n hx ho hi
    cases xs with
    | nil => have := hx 0; simp at this
    | cons b r =>
      have hb : b = f pre.length a := by have := hx 0; simpa using this
      subst hb
      intro v h tk hv F
      refine allObj_mono (turn pre a suf v m n h tk ho hi hv F) fun its T N => ?_
      refine wpAny_mono (T N) (fun _ s₂ h₂ => wpAny_mono h₂ (fun f' s₃ p => unrW_mono p fun m' n' h' => ⟨hm _ _ _ h', ?_⟩) fun _ _ e => e) fun _ _ e => e
      refine ih r (pre ++ [a]) m' n' (fun i => ?_) (by rw [ho, List.append_assoc]; rfl) h'
      have := hx (i + 1)
      simp only [List.getElem?_cons_succ] at this
      rw [this, List.length_append]
      simp only [List.length_cons, List.length_nil]
      rw [show pre.length + (i + 1) = pre.length + (0 + 1) + i from by omega]

end
end Mine

namespace Mine

/-! ints under exclusive or -/
theorem and_facts (x y : Int) : (Builtin.bitAnd x y) / 2 = Builtin.bitAnd (x / 2) (y / 2) ∧ ((Builtin.bitAnd x y) % 2 = 1 ↔ (x % 2 = 1 ∧ y % 2 = 1)) := by
  by_cases hx : 0 ≤ x <;> by_cases hy : 0 ≤ y
  · have hx' : 0 ≤ x / 2 := by omega
    have hy' : 0 ≤ y / 2 := by omega
    rw [bitAnd_pp hx hy, bitAnd_pp hx' hy']
    have ex : (x / 2).toNat = x.toNat / 2 := by omega
    have ey : (y / 2).toNat = y.toNat / 2 := by omega
    have h1 := @Nat.and_div_two x.toNat y.toNat
    have h2 := @Nat.and_mod_two_eq_one x.toNat y.toNat
    rw [ex, ey, ← h1]
    constructor <;> omega
  · have hx' : 0 ≤ x / 2 := by omega
    have hy' : ¬ 0 ≤ y / 2 := by omega
    rw [bitAnd_pn hx hy, bitAnd_pn hx' hy']
    have ex : (x / 2).toNat = x.toNat / 2 := by omega
    have ey : (Builtin.bitNot (y / 2)).toNat = (Builtin.bitNot y).toNat / 2 := by unfold Builtin.bitNot; omega
    have h1 := @Nat.and_div_two x.toNat (Builtin.bitNot y).toNat
    have h2 := @Nat.and_mod_two_eq_one x.toNat (Builtin.bitNot y).toNat
    have hb : (Builtin.bitNot y).toNat % 2 = 1 ↔ ¬ y % 2 = 1 := by unfold Builtin.bitNot; omega
    rw [ex, ey, ← h1]
    rw [hb] at h2
    constructor <;> omega
  · have hx' : ¬ 0 ≤ x / 2 := by omega
    have hy' : 0 ≤ y / 2 := by omega
    rw [bitAnd_np hx hy, bitAnd_np hx' hy']
    have ex : (y / 2).toNat = y.toNat / 2 := by omega
    have ey : (Builtin.bitNot (x / 2)).toNat = (Builtin.bitNot x).toNat / 2 := by unfold Builtin.bitNot; omega
    have h1 := @Nat.and_div_two y.toNat (Builtin.bitNot x).toNat
    have h2 := @Nat.and_mod_two_eq_one y.toNat (Builtin.bitNot x).toNat
    have hb : (Builtin.bitNot x).toNat % 2 = 1 ↔ ¬ x % 2 = 1 := by unfold Builtin.bitNot; omega
    rw [ex, ey, ← h1]
    rw [hb] at h2
    constructor <;> omega
  · have hx' : ¬ 0 ≤ x / 2 := by omega
    have hy' : ¬ 0 ≤ y / 2 := by omega
    rw [bitAnd_nn hx hy, bitAnd_nn hx' hy']
    have ex : (Builtin.bitNot (x / 2)).toNat = (Builtin.bitNot x).toNat / 2 := by unfold Builtin.bitNot; omega
    have ey : (Builtin.bitNot (y / 2)).toNat = (Builtin.bitNot y).toNat / 2 := by unfold Builtin.bitNot; omega
    have h1 := @Nat.or_div_two (Builtin.bitNot x).toNat (Builtin.bitNot y).toNat
    have h2 := @Nat.or_mod_two_eq_one (Builtin.bitNot x).toNat (Builtin.bitNot y).toNat
    have ha : (Builtin.bitNot x).toNat % 2 = 1 ↔ ¬ x % 2 = 1 := by unfold Builtin.bitNot; omega
    have hb : (Builtin.bitNot y).toNat % 2 = 1 ↔ ¬ y % 2 = 1 := by unfold Builtin.bitNot; omega
    rw [ex, ey, ← h1]
    rw [ha, hb] at h2
    generalize ((Builtin.bitNot x).toNat ||| (Builtin.bitNot y).toNat : Nat) = z at h2 ⊢
    unfold Builtin.bitNot
    constructor <;> omega

/-- exclusive or, under a short name -/
def X (x y : Int) : Int := Builtin.bitXor x y
theorem X_half (x y : Int) : X x y / 2 = X (x / 2) (y / 2) := by
  have h := and_facts x y
  unfold X
  rw [bitXor_and, bitXor_and, ← h.1]
  omega
theorem X_mod (x y : Int) : X x y % 2 = (x % 2 + y % 2) % 2 := by
  unfold X
  rw [bitXor_and]
  omega

theorem int_ext : ∀ (n : Nat) (x y : Int), x.natAbs + y.natAbs ≤ n → (∀ i : Nat, x / 2 ^ i % 2 = y / 2 ^ i % 2) → x = y := by
  intro n
  induction n using Nat.strongRecOn with
  | ind n ih =>
    intro x y hn h
    have h0 := h 0
    simp only [Int.pow_zero, Int.ediv_one] at h0
    by_cases hx : x / 2 = x ∧ y / 2 = y
    · omega
    · have hs : ∀ i : Nat, x / 2 / 2 ^ i % 2 = y / 2 / 2 ^ i % 2 := fun i => by
        have := h (i + 1)
        rw [Int.pow_succ, Int.mul_comm, ← Int.ediv_ediv_of_nonneg (by decide), ← Int.ediv_ediv_of_nonneg (by decide)] at this
        exact this
      have := ih ((x / 2).natAbs + (y / 2).natAbs) (by omega) (x / 2) (y / 2) (Nat.le_refl _) hs
      omega
theorem X_bit (i : Nat) : ∀ x y : Int, X x y / 2 ^ i % 2 = (x / 2 ^ i % 2 + y / 2 ^ i % 2) % 2 := by
  induction i with
  | zero => intro x y; simp only [Int.pow_zero, Int.ediv_one]; exact X_mod x y
  | succ i ih =>
    intro x y
    have e : ∀ z : Int, z / 2 ^ (i + 1) = z / 2 / 2 ^ i := fun z => by rw [Int.pow_succ, Int.mul_comm, ← Int.ediv_ediv_of_nonneg (by decide)]
    rw [e, e, e, X_half]
    exact ih _ _
theorem X_ext {x y : Int} (h : ∀ i : Nat, x / 2 ^ i % 2 = y / 2 ^ i % 2) : x = y := int_ext _ x y (Nat.le_refl _) h
theorem X_comm (x y : Int) : X x y = X y x := X_ext fun i => by rw [X_bit, X_bit]; omega
theorem X_assoc (x y z : Int) : X (X x y) z = X x (X y z) := X_ext fun i => by rw [X_bit, X_bit, X_bit, X_bit]; omega
theorem X_left (x y z : Int) : X x (X y z) = X y (X x z) := by rw [← X_assoc, X_comm x y, X_assoc]
theorem X_self (x : Int) : X x x = 0 := bitXor_self x
theorem X_zero (x : Int) : X x 0 = x := bitXor_zero x
theorem zero_X (x : Int) : X 0 x = x := by rw [X_comm, X_zero]
theorem X_cancel (x y : Int) : X x (X x y) = y := by rw [← X_assoc, X_self, zero_X]
theorem X_double (x y : Int) : X (x * 2) (y * 2) = X x y * 2 := by
  have h1 := X_half (x * 2) (y * 2)
  have h2 := X_mod (x * 2) (y * 2)
  rw [show x * 2 / 2 = x by omega, show y * 2 / 2 = y by omega] at h1
  omega
theorem X_range : ∀ (n : Nat) (x y : Int), -2 ^ n ≤ x → x < 2 ^ n → -2 ^ n ≤ y → y < 2 ^ n → -2 ^ n ≤ X x y ∧ X x y < 2 ^ n := by
  intro n
  induction n with
  | zero =>
    intro x y a b c d
    simp only [Int.pow_zero] at *
    have hx : x = -1 ∨ x = 0 := by omega
    have hy : y = -1 ∨ y = 0 := by omega
    rcases hx with rfl | rfl <;> rcases hy with rfl | rfl <;> decide +kernel
  | succ n ih =>
    intro x y a b c d
    rw [Int.pow_succ] at *
    have h := ih (x / 2) (y / 2) (by omega) (by omega) (by omega) (by omega)
    have h1 := X_half x y
    have h2 := X_mod x y
    omega
theorem X_nonneg {x y : Int} (hx : 0 ≤ x) (hy : 0 ≤ y) : X x y = ((x.toNat ^^^ y.toNat : Nat) : Int) := by
  have key : ∀ a b : Nat, X (a : Int) (b : Int) = ((a ^^^ b : Nat) : Int) := by
    intro a
    induction a using Nat.strongRecOn with
    | ind a ih =>
      intro b
      by_cases h0 : a = 0
      · subst h0; simp [zero_X]
      · have ih' := ih (a / 2) (by omega) (b / 2)
        have h1 := X_half (a : Int) (b : Int)
        have h2 := X_mod (a : Int) (b : Int)
        have e1 := @Nat.xor_div_two a b
        have e2 := @Nat.xor_mod_two_eq_one a b
        rw [show (a : Int) / 2 = ((a / 2 : Nat) : Int) by omega, show (b : Int) / 2 = ((b / 2 : Nat) : Int) by omega, ih'] at h1
        omega
  have := key x.toNat y.toNat
  rwa [Int.toNat_of_nonneg hx, Int.toNat_of_nonneg hy] at this
end Mine

namespace Mine
def WordI (x : Int) : Prop := 0 ≤ x ∧ x < 4294967296

section
variable {prog : Program} {w : World} {A : Around} {E : Value → Shared → Prop} {s : Shared} {env : Env} {h₀ : Heap} {x : Str} {body : List Stmt} {Q : Flow → Shared → Prop}
/-- a loop over a range that folds one int, a property kept along -/
theorem range_keep {r : Addr} {a₀ b₀ : Int} {t₀ u₀ v₀ : Tok} {n : Nat} {m₀ : Str → Option Value} {news : List (Addr × Obj)} {y : Str} {c₀ : Int} {tc : Tok} (P : Int → Prop) (g : Int → Int → Int)
    (hg : ∀ a k, P a → P (g a k)) (h0 : P c₀)
    (hh : A.handled = none) (hr : IsRange s.heap r a₀ b₀ 1 t₀ u₀ v₀) (hsmall : Builtin.Range.small a₀ b₀ 1 = true) (hn : Builtin.Range.rangeSize a₀ b₀ 1 = (n : Int)) (F : Fr h₀ env.locals s.heap m₀) (N : News h₀ env.locals s.heap news) (hy : m₀ y = some (.int c₀ tc))
    (turn : ∀ k t a ta h tk own, P a → a₀ ≤ k → k < a₀ + (n : Int) → OwnOff own (news.map (·.1)) → Fr h₀ env.locals h (fun z => if z = x then some (.int k t) else if z = y then some (.int a ta) else m₀ z) → News h₀ env.locals h (news ++ own) →
      wpAny (model prog w) A (execs body env) (InvPostN h₀ env.locals (fun m' nx => nx = news ∧ KPfInt m' y (g a k) ∧ ∀ z, z ≠ x → z ≠ y → m' z = m₀ z) own (news.map (·.1)) { s with heap := h, toks := tk } Q) E { s with heap := h, toks := tk })
    (done : ∀ (u : Str → Option Value) t h tk, P ((rangeKs a₀ n).foldl g c₀) → Fr h₀ env.locals h (fun z => if z = x then u z else if z = y then some (.int ((rangeKs a₀ n).foldl g c₀) t) else m₀ z) → News h₀ env.locals h news → Q .next { s with heap := h, toks := tk }) :
    wpAny (model prog w) A (pyIter (.ref r)) (fun it s₂ => LoopAtV prog w A h₀ env x body Q E it s₂) E s := by
  have keep : ∀ (l : List Int) (a : Int), P a → P (l.foldl g a) := by
    intro l
    induction l with
    | nil => intro a h; exact h
    | cons k r ih => intro a h; exact ih _ (hg a k h)
  refine iter_rangeS (σ := { a : Int // P a }) (fun a m nx => nx = news ∧ KPfInt m y a.val ∧ ∀ z, z ≠ x → z ≠ y → m z = m₀ z) (fun a k => ⟨g a.val k, hg _ _ a.property⟩) ⟨c₀, h0⟩ hh hr hsmall hn F N ⟨rfl, ⟨tc, hy⟩, fun _ _ _ => rfl⟩ ?_ ?_
  · rintro k t ⟨a, hp⟩ m₁ nx h tk own hk hoff ⟨rfl, ⟨ta, ha⟩, hm⟩ F₁ N₁
    rw [map_one ha hm] at F₁
    exact turn k t a ta h tk own hp (mem_rangeKs hk).1 (mem_rangeKs hk).2 hoff F₁ N₁
  · rintro m₁ nx h tk ⟨rfl, ⟨t, ha⟩, hm⟩ F₁ N₁
    have e : ∀ (l : List Int) (a : { a : Int // P a }), (l.foldl (fun (a : { a : Int // P a }) k => (⟨g a.val k, hg _ _ a.property⟩ : { a : Int // P a })) a).val = l.foldl g a.val := by
      intro l
      induction l with
      | nil => intro a; rfl
      | cons k r ih => intro a; rw [List.foldl_cons, ih]; rfl
    rw [e] at ha
    refine done m₁ t h tk (keep _ _ h0) ?_ N₁
    rw [done_one ha hm]; exact F₁
end
section
variable {prog : Program} {w : World} {A : Around} {E : Value → Shared → Prop} {s : Shared}
/-- a short list's length -/
theorem len_vals {l : Addr} {vs : List Value} {Q : Value → Shared → Prop} (hl : s.heap.IsList l vs.toArray) (hb : vs.length ≤ 64)
    (h : Q (.int (vs.length : Nat) (s.toks + 1)) { s with toks := s.toks + 1 + 1 }) : wpAny (model prog w) A (call (.builtin "len") [.ref l]) Q E s := by
  have e : vs.toArray.size = vs.length := by simp
  refine Calls.call_len_list hl (by omega) ?_
  rw [e]
  exact h
end
end Mine

namespace Mine
section
variable {prog : Program} {w : World} {A : Around} {E : Value → Shared → Prop} {s : Shared} {env : Env} {h₀ : Heap} {x : Str} {body : List Stmt} {Q : Flow → Shared → Prop}
theorem invN_mono {L : Addr} {J J' : (Str → Option Value) → List (Addr × Obj) → Prop} {own : List (Addr × Obj)} {adr : List Addr} {s₁ s₂ : Shared} {f : Flow} (h : InvPostN h₀ L J own adr s₁ Q f s₂) (k : ∀ m n, J m n → J' m n) : InvPostN h₀ L J' own adr s₁ Q f s₂ := by
  have go : InvEndN h₀ L J own adr s₁ s₂ → InvEndN h₀ L J' own adr s₁ s₂ := by
    rintro ⟨h', tk, m', news', nx, e, F, N, a, b, c, d⟩
    exact ⟨h', tk, m', news', nx, e, F, N, a, b, c, k _ _ d⟩
  cases f with
  | ret v => exact h
  | brk => exact h
  | next => exact go h
  | cont => exact go h
/-- a search over a range: what is known of each number that is passed -/
theorem seek (y : Str) {r : Addr} {a₀ b₀ : Int} {t₀ u₀ v₀ : Tok} {n : Nat} {m₀ : Str → Option Value} {news : List (Addr × Obj)} (P : Int → Prop)
    (hh : A.handled = none) (hr : IsRange s.heap r a₀ b₀ 1 t₀ u₀ v₀) (hsmall : Builtin.Range.small a₀ b₀ 1 = true) (hn : Builtin.Range.rangeSize a₀ b₀ 1 = (n : Int)) (F : Fr h₀ env.locals s.heap m₀) (N : News h₀ env.locals s.heap news)
    (turn : ∀ k t u h tk own, a₀ ≤ k → k < a₀ + (n : Int) → OwnOff own (news.map (·.1)) → Fr h₀ env.locals h (fun z => if z = x then some (.int k t) else if z = y then u else m₀ z) → News h₀ env.locals h (news ++ own) →
      wpAny (model prog w) A (execs body env) (InvPostN h₀ env.locals (fun m' nx => nx = news ∧ P k ∧ ∀ z, z ≠ x → z ≠ y → m' z = m₀ z) own (news.map (·.1)) { s with heap := h, toks := tk } Q) E { s with heap := h, toks := tk })
    (done : ∀ u v h tk, (∀ k, a₀ ≤ k → k < a₀ + (n : Int) → P k) → Fr h₀ env.locals h (fun z => if z = x then u else if z = y then v else m₀ z) → News h₀ env.locals h news → Q .next { s with heap := h, toks := tk }) :
    wpAny (model prog w) A (pyIter (.ref r)) (fun it s₂ => LoopAtV prog w A h₀ env x body Q E it s₂) E s := by
  have two : ∀ (m : Str → Option Value) (v : Option Value), (∀ z, z ≠ x → z ≠ y → m z = m₀ z) → (fun z => if z = x then v else m z) = fun z => if z = x then v else if z = y then m y else m₀ z := by
    intro m v hm
    funext z
    by_cases h1 : z = x
    · rw [if_pos h1, if_pos h1]
    · rw [if_neg h1, if_neg h1]
      by_cases h2 : z = y
      · rw [if_pos h2, h2]
      · rw [if_neg h2]; exact hm z h1 h2
  refine iter_rangeS (σ := List Int) (fun l m nx => nx = news ∧ (∀ k ∈ l, P k) ∧ ∀ z, z ≠ x → z ≠ y → m z = m₀ z) (fun l k => l ++ [k]) [] hh hr hsmall hn F N ⟨rfl, fun _ h => (nomatch h), fun _ _ _ => rfl⟩ ?_ ?_
  · rintro k t l m₁ nx h tk own hk hoff ⟨rfl, hl, hm⟩ F₁ N₁
    rw [two m₁ _ hm] at F₁
    refine wpAny_mono (turn k t _ h tk own (mem_rangeKs hk).1 (mem_rangeKs hk).2 hoff F₁ N₁) (fun f s₂ p => invN_mono p ?_) fun _ _ e => e
    rintro m' nx' ⟨rfl, hP, hm'⟩
    refine ⟨rfl, fun k' hk' => ?_, hm'⟩
    rcases List.mem_append.mp hk' with h1 | h1
    · exact hl k' h1
    · rw [List.mem_singleton.mp h1]; exact hP
  · rintro m₁ nx h tk ⟨rfl, hl, hm⟩ F₁ N₁
    have hf : ∀ (r l : List Int), r.foldl (fun l k => l ++ [k]) l = l ++ r := by
      intro r
      induction r with
      | nil => intro l; simp
      | cons k r ih => intro l; rw [List.foldl_cons, ih]; simp
    rw [hf, List.nil_append] at hl
    have e : (fun z => if z = x then m₁ x else m₁ z) = m₁ := by
      funext z
      by_cases h1 : z = x
      · rw [if_pos h1, h1]
      · rw [if_neg h1]
    have F₂ : Fr h₀ env.locals h (fun z => if z = x then m₁ x else m₁ z) := by rw [e]; exact F₁
    rw [two m₁ _ hm] at F₂
    refine done _ _ h tk (fun k h1 h2 => hl k ?_) F₂ N₁
    unfold rangeKs
    exact List.mem_map.mpr ⟨(k - a₀).toNat, List.mem_range.mpr (by omega), by omega⟩
end
end Mine

namespace Mine
/-- one turn of the register, as the program takes it -/
def gstep (x : Int) : Int := if Builtin.bitAnd x 1 ≠ 0 then Builtin.bitXor (x.fdiv (2 ^ Int.toNat 1)) 3988292384 else x.fdiv (2 ^ Int.toNat 1)
theorem gstep_t {x : Int} (h : Builtin.bitAnd x 1 ≠ 0) : gstep x = Builtin.bitXor (x.fdiv (2 ^ Int.toNat 1)) 3988292384 := if_pos h
theorem gstep_f {x : Int} (h : ¬ Builtin.bitAnd x 1 ≠ 0) : gstep x = x.fdiv (2 ^ Int.toNat 1) := if_neg h
def genCrc (x : Int) : Int := (rangeKs 0 8).foldl (fun a _ => gstep a) x
/-- one turn of the raise -/
def rstep (a : Int) : Int := if (a * 2 ^ Int.toNat 1).fdiv (2 ^ Int.toNat 32) ≠ 0 then Builtin.bitXor (a * 2 ^ Int.toNat 1) 7976584769 else a * 2 ^ Int.toNat 1
theorem rstep_t {a : Int} (h : (a * 2 ^ Int.toNat 1).fdiv (2 ^ Int.toNat 32) ≠ 0) : rstep a = Builtin.bitXor (a * 2 ^ Int.toNat 1) 7976584769 := if_pos h
theorem rstep_f {a : Int} (h : ¬ (a * 2 ^ Int.toNat 1).fdiv (2 ^ Int.toNat 32) ≠ 0) : rstep a = a * 2 ^ Int.toNat 1 := if_neg h
def raised (x : Int) : Int := (rangeKs 0 8).foldl (fun a _ => rstep a) x

theorem fdiv_two (x : Int) : x.fdiv (2 ^ Int.toNat 1) = x / 2 := by
  rw [Int.fdiv_eq_ediv_of_nonneg _ (by decide)]; rfl
theorem gstep_eq (x : Int) : gstep x = if x % 2 = 1 then X (x / 2) 3988292384 else x / 2 := by
  unfold gstep
  rw [bitAnd_m1, fdiv_two]
  by_cases h : x % 2 = 1
  · rw [if_pos h, if_pos (by omega)]; rfl
  · rw [if_neg h, if_neg (by omega)]
theorem gstep_X (x y : Int) : gstep (X x y) = X (gstep x) (gstep y) := by
  rw [gstep_eq, gstep_eq, gstep_eq, X_mod, X_half]
  have hx : x % 2 = 0 ∨ x % 2 = 1 := by omega
  have hy : y % 2 = 0 ∨ y % 2 = 1 := by omega
  rcases hx with hx | hx <;> rcases hy with hy | hy <;> simp only [hx, hy] <;> simp
  · exact X_assoc _ _ _
  · rw [X_assoc, X_assoc, X_comm (y / 2)]
  · rw [X_assoc, X_left 3988292384, X_self, X_zero]
theorem gstep_double (x : Int) : gstep (x * 2) = x := by
  rw [gstep_eq, if_neg (by omega)]; omega
theorem genCrc_eq (x : Int) : genCrc x = gstep (gstep (gstep (gstep (gstep (gstep (gstep (gstep x))))))) := by
  unfold genCrc
  rw [show rangeKs 0 8 = [0, 1, 2, 3, 4, 5, 6, 7] from by decide +kernel]
  rfl
theorem raised_eq (x : Int) : raised x = rstep (rstep (rstep (rstep (rstep (rstep (rstep (rstep x))))))) := by
  unfold raised
  rw [show rangeKs 0 8 = [0, 1, 2, 3, 4, 5, 6, 7] from by decide +kernel]
  rfl
theorem genCrc_X (x y : Int) : genCrc (X x y) = X (genCrc x) (genCrc y) := by
  simp only [genCrc_eq, gstep_X]

/-! words -/
theorem X_word {x y : Int} (hx : WordI x) (hy : WordI y) : WordI (X x y) := by
  unfold WordI at *
  have h := X_nonneg hx.1 hy.1
  have := Nat.xor_lt_two_pow (x := x.toNat) (y := y.toNat) (n := 32) (by omega) (by omega)
  rw [h]
  omega
theorem gstep_word {x : Int} (hx : WordI x) : WordI (gstep x) := by
  rw [gstep_eq]
  split
  · exact X_word (by unfold WordI at *; omega) (by unfold WordI; omega)
  · unfold WordI at *; omega
theorem rstep_eq (a : Int) : rstep a = if 4294967296 ≤ a * 2 ∨ a < 0 then X (a * 2) 7976584769 else a * 2 := by
  unfold rstep
  rw [Int.fdiv_eq_ediv_of_nonneg _ (by decide), show (2 : Int) ^ Int.toNat 32 = 4294967296 from by decide, show (2 : Int) ^ Int.toNat 1 = 2 from by decide]
  by_cases h : 4294967296 ≤ a * 2 ∨ a < 0
  · rw [if_pos h, if_pos (by omega)]; rfl
  · rw [if_neg h, if_neg (by omega)]
theorem X_shr (n : Nat) : ∀ x y : Int, X x y / 2 ^ n = X (x / 2 ^ n) (y / 2 ^ n) := by
  induction n with
  | zero => intro x y; simp
  | succ n ih =>
    intro x y
    have e : ∀ z : Int, z / 2 ^ (n + 1) = z / 2 / 2 ^ n := fun z => by rw [Int.pow_succ, Int.mul_comm, ← Int.ediv_ediv_of_nonneg (by decide)]
    rw [e, e, e, X_half, ih]
theorem rstep_word {a : Int} (h : WordI a) : WordI (rstep a) := by
  unfold WordI at *
  rw [rstep_eq]
  split
  · have q := X_shr 32 (a * 2) 7976584769
    rw [show (2 : Int) ^ 32 = 4294967296 from by decide, show a * 2 / 4294967296 = 1 by omega, show (7976584769 : Int) / 4294967296 = 1 from by decide, X_self] at q
    omega
  · omega
theorem gstep_rstep (a : Int) : gstep (rstep a) = a := by
  rw [rstep_eq]
  split
  · rw [gstep_X, gstep_double, show gstep 7976584769 = 0 from by decide +kernel, X_zero]
  · exact gstep_double a
theorem rstep_gstep {x : Int} (h : WordI x) : rstep (gstep x) = x := by
  unfold WordI at h
  rw [gstep_eq]
  by_cases hx : x % 2 = 1
  · rw [if_pos hx]
    have q := X_shr 31 (x / 2) 3988292384
    rw [show (2 : Int) ^ 31 = 2147483648 from by decide, show x / 2 / 2147483648 = 0 by omega, show (3988292384 : Int) / 2147483648 = 1 from by decide, zero_X] at q
    rw [rstep_eq, if_pos (by omega), ← X_double, X_assoc, show X (3988292384 * 2) 7976584769 = 1 from by decide +kernel]
    have h1 := X_half (x / 2 * 2) 1
    have h2 := X_mod (x / 2 * 2) 1
    rw [show (1 : Int) / 2 = 0 from by decide, X_zero] at h1
    omega
  · rw [if_neg hx, rstep_eq, if_neg (by omega)]
    omega
theorem genCrc_word {x : Int} (h : WordI x) : WordI (genCrc x) := by
  rw [genCrc_eq]; exact gstep_word (gstep_word (gstep_word (gstep_word (gstep_word (gstep_word (gstep_word (gstep_word h)))))))
theorem raised_word {x : Int} (h : WordI x) : WordI (raised x) := by
  rw [raised_eq]; exact rstep_word (rstep_word (rstep_word (rstep_word (rstep_word (rstep_word (rstep_word (rstep_word h)))))))
theorem genCrc_raised (x : Int) : genCrc (raised x) = x := by
  rw [genCrc_eq, raised_eq]; simp only [gstep_rstep]
theorem genCrc_zero : genCrc 0 = 0 := by decide +kernel
theorem raised_genCrc {x : Int} (h : WordI x) : raised (genCrc x) = x := by
  have a1 := gstep_word h
  have a2 := gstep_word a1
  have a3 := gstep_word a2
  have a4 := gstep_word a3
  have a5 := gstep_word a4
  have a6 := gstep_word a5
  have a7 := gstep_word a6
  rw [genCrc_eq, raised_eq, rstep_gstep a7, rstep_gstep a6, rstep_gstep a5, rstep_gstep a4, rstep_gstep a3, rstep_gstep a2, rstep_gstep a1, rstep_gstep h]
end Mine

namespace Mine
set_option maxRecDepth 100000 in
set_option maxHeartbeats 8000000 in
open_top hd_01 for PySem.Challenge.rw_sr0103_01
end Mine

namespace Mine
section
local macro_rules | `(tactic| walk_at "InvEndN") => `(tactic| ((refine InvEndN.intro (by assumption) (by assumption) ⟨rfl, kpf_int ?kpe (by with_unfolding_all rfl), by kpf_same3⟩ (by rfl) (by (with_unfolding_all ((try simp only [List.nil_append, List.cons_append]); kst_allIn))) (by (intro p hp; first | k_ownIn | kst_mem))); (case kpe => first | exact gstep_t (by assumption) | exact gstep_f (by assumption))))
local macro_rules | `(tactic| walk_at "pyIter ref") => `(tactic| (k_of "j" => ((rename Fr _ _ _ _ => lF'); (rename News _ _ _ _ => lN'); (rename IsRange _ _ _ _ _ _ _ _ => rgX); (with_unfolding_all refine' kpr_n1 (y := Str.ofString "crc") [] (fun a _ => gstep a) (by rfl) (by first | exact rgX | assumption) (by decide) (by exact rangeSize_nat _ _) lF' lN' (by rfl) (fun k' t' a' ta' u' h' tk' own' hlo' hhi' hoff' F' N' => ?_) ?_); (all_goals (try clear lF' lN')); (all_goals (try simp only [List.nil_append, List.cons_append, List.append_nil] at N')); (all_goals (try k_fold)))))
local macro_rules | `(tactic| walk_at "exec For Name Call cons nil") => `(tactic| (k_of "j" => kpr_for))

set_option maxRecDepth 100000 in
set_option maxHeartbeats 8000000 in
theorem gen_ct (w : World) (mean : ExcName → Option Value) (mg mb : Str → Option Value) (news : List (Addr × Obj)) (x : Int) (tx : Tok) :
    CbClaim PySem.Challenge.rw_sr0103_01.row.prog w (hd_01.heap_39 w.params) hd_01.view_39 (looseW hd_01.view_39 []) mean mg mb 21 news [] True [.int x tx] (fun t => .int (genCrc x) t) := by
  w_top off
  k_fill
  dsimp only [CbClaim, CbLists, CbRet]
  intros
  rename_i hret
  refine wpAny_call ?_
  (k_dflt cell_enter)
  k_steps
  exact cb_retI hret rfl (by assumption) (by assumption)
end

section
local macro_rules | `(tactic| walk_at "binaryOp LShift int int") => `(tactic| (k_here; (rename WordI _ => hW'); (with_reducible refine lshift_int_small ?kb1 ?kb2 ?kb3 ?_); (case kb1 => decide); (case kb2 => decide); (case kb3 => (unfold WordI at hW'; omega))))
local macro_rules | `(tactic| walk_at "inplaceOp LShift int int") => `(tactic| (k_here; (rename WordI _ => hW'); (with_reducible refine ilshift_int_small ?kb1 ?kb2 ?kb3 ?_); (case kb1 => decide); (case kb2 => decide); (case kb3 => (unfold WordI at hW'; omega))))
local macro_rules | `(tactic| walk_at "InvEndN") => `(tactic| ((refine InvEndN.intro (by assumption) (by assumption) ⟨rfl, kpf_int ?kpe (by with_unfolding_all rfl), by k_same2⟩ (by rfl) (by (with_unfolding_all ((try simp only [List.nil_append, List.cons_append]); kst_allIn))) (by (intro p hp; first | k_ownIn | kst_mem))); (case kpe => first | exact rstep_t (by assumption) | exact rstep_f (fun hne => hne (by assumption)))))
local macro_rules | `(tactic| walk_at "pyIter ref") => `(tactic| (k_of "turn" => ((rename Fr _ _ _ _ => lF'); (rename News _ _ _ _ => lN'); (rename IsRange _ _ _ _ _ _ _ _ => rgX); (with_unfolding_all refine' range_keep (y := Str.ofString "register") WordI (fun a _ => rstep a) (fun _ _ h => rstep_word h) (by assumption) (by rfl) (by first | exact rgX | assumption) (by decide) (by exact rangeSize_nat _ _) lF' lN' (by rfl) (fun k' t' a' ta' h' tk' own' hP' hlo' hhi' hoff' F' N' => ?_) (fun u' t' h' tk' hP' F' N' => ?_)); (all_goals (try clear lF' lN')); (all_goals (try simp only [List.nil_append, List.cons_append, List.append_nil] at N')); (all_goals (try k_fold)))))
local macro_rules | `(tactic| walk_at "exec For Name Call cons nil") => `(tactic| (k_of "turn" => kpr_for))

set_option maxRecDepth 100000 in
set_option maxHeartbeats 8000000 in
theorem raised_ct (w : World) (mean : ExcName → Option Value) (mg mb : Str → Option Value) (news : List (Addr × Obj)) (x : Int) (tx : Tok) (_hx : WordI x) :
    CbClaim PySem.Challenge.rw_sr0103_01.row.prog w (hd_01.heap_39 w.params) hd_01.view_39 (looseW hd_01.view_39 []) mean mg mb 35 news [] True [.int x tx] (fun t => .int (raised x) t) := by
  w_top off
  k_fill
  dsimp only [CbClaim, CbLists, CbRet]
  intros
  rename_i hret
  refine wpAny_call ?_
  (k_dflt cell_enter)
  k_steps
  exact cb_retI hret rfl (by assumption) (by assumption)
end

section
variable {w : World} {mean : ExcName → Option Value} {mg mb : Str → Option Value} {news : List (Addr × Obj)} {x : Int} {tx : Tok} {dp un : Nat} {gd : Option (List Code)} {cn : Str} {cs : Scope} {a : Addr} {ccd : Value} {cl : List (Str × Addr)} {outer : List Env} {A₀ : Around} {base h₀ : Heap} {L : Addr} {m : Str → Option Value} {s : Shared} {Q E : Value → Shared → Prop}
theorem gen_use (k1 : Below A₀ base outer h₀) (k2 : Fr h₀ L s.heap m) (k3 : (hd_01.heap_39 w.params).In h₀) (k4 : News h₀ L s.heap news) (k5 : Top hd_01.view_39 (looseW hd_01.view_39 []) mean mg mb h₀) (kK : cs.kind = .function) (kd : dp + 1 < recursionLimit) (ku : un + 8 < cLine)
    (hret : ∀ t h' tk', Fr h₀ L h' m → News h₀ L h' news → Q (.int (genCrc x) t) { s with heap := h', toks := tk' }) :
    wpAny (model PySem.Challenge.rw_sr0103_01.row.prog w) (ktrTop dp un gd cn cs L a ccd cl outer) (call (.ref 21) [.int x tx]) Q E s :=
  gen_ct w mean mg mb news x tx dp un gd cn cs a ccd cl outer A₀ base h₀ L m s Q E k1 k2 k3 k4 k5 kK trivial kd ku hret
theorem raised_use (k1 : Below A₀ base outer h₀) (k2 : Fr h₀ L s.heap m) (k3 : (hd_01.heap_39 w.params).In h₀) (k4 : News h₀ L s.heap news) (k5 : Top hd_01.view_39 (looseW hd_01.view_39 []) mean mg mb h₀) (kK : cs.kind = .function) (kd : dp + 1 < recursionLimit) (ku : un + 8 < cLine) (hx : WordI x)
    (hret : ∀ t h' tk', Fr h₀ L h' m → News h₀ L h' news → Q (.int (raised x) t) { s with heap := h', toks := tk' }) :
    wpAny (model PySem.Challenge.rw_sr0103_01.row.prog w) (ktrTop dp un gd cn cs L a ccd cl outer) (call (.ref 35) [.int x tx]) Q E s :=
  raised_ct w mean mg mb news x tx hx dp un gd cn cs a ccd cl outer A₀ base h₀ L m s Q E k1 k2 k3 k4 k5 kK trivial kd ku hret
end
end Mine

namespace Mine
def rpow : Nat → Int → Int
  | 0, x => x
  | k + 1, x => raised (rpow k x)
def rowOf (x : Int) (n : Nat) : List Int := (List.range n).map fun i => rpow i x
theorem rowOf_succ (x : Int) (n : Nat) : rowOf x (n + 1) = rowOf x n ++ [rpow n x] := by simp [rowOf, List.range_succ]
theorem rowOf_length (x : Int) (n : Nat) : (rowOf x n).length = n := by simp [rowOf]
theorem row_done {us : List Value} {x y : Int} {c : Nat} (h : IntsAre us (rowOf x c ++ [rpow c x])) (hl : us.length = c + 1) (hc : (c : Int) + 1 ≤ y) (hn : ¬ (us.length : Int) < y) : IntsAre us (rowOf x y.toNat) := by
  rw [show y.toNat = c + 1 by omega, rowOf_succ]
  exact h
theorem rpow_word {x : Int} (h : WordI x) : ∀ k, WordI (rpow k x)
  | 0 => h
  | k + 1 => raised_word (rpow_word h k)

section
variable {prog : Program} {w : World} {A : Around} {E : Value → Shared → Prop} {Q : Flow → Shared → Prop} {s : Shared} {env : Env} {h₀ : Heap} {L : Addr}
def EndR (h₀ : Heap) (L D : Addr) (news : List (Addr × Obj)) (m₀ : Str → Option Value) (s : Shared) (x y : Int) (c : Nat) (s₃ : Shared) : Prop :=
  ∃ h' tk us k, s₃ = { s with heap := h', toks := tk } ∧ Fr h₀ L h' m₀ ∧ News h₀ L h' ((D, listOf us.toArray k) :: news) ∧ IntsAre us (rowOf x c ++ [rpow c x] ++ [raised (rpow c x)]) ∧ ((c : Int) + 1 < y)
def PostR (h₀ : Heap) (L D : Addr) (news : List (Addr × Obj)) (m₀ : Str → Option Value) (s : Shared) (x y : Int) (c : Nat) (Q : Flow → Shared → Prop) (f : Flow) (s₃ : Shared) : Prop :=
  match f with
  | .ret v => Q (.ret v) s₃
  | .brk => Q .next s₃
  | _ => EndR h₀ L D news m₀ s x y c s₃
theorem EndR.intro {D : Addr} {news : List (Addr × Obj)} {m₀ : Str → Option Value} {x y : Int} {c : Nat} {h' : Heap} {tk k : Nat} {us : List Value} (F : Fr h₀ L h' m₀) (N : News h₀ L h' ((D, listOf us.toArray k) :: news)) (hi : IntsAre us (rowOf x c ++ [rpow c x] ++ [raised (rpow c x)])) (hc : (c : Int) + 1 < y) :
    EndR h₀ L D news m₀ s x y c { s with heap := h', toks := tk } := ⟨h', tk, us, k, rfl, F, N, hi, hc⟩
theorem row_loop {test : PySem.Expr} {body : List Stmt} {pos : Pos} {D : Addr} {news : List (Addr × Obj)} {x y : Int} {tx : Tok} {c₀ : Nat} {m₀ : Str → Option Value} (hy : 1 ≤ y ∧ y ≤ 20) (hx : WordI x)
    (F : Fr h₀ L s.heap m₀) (N : News h₀ L s.heap ((D, listOf #[.int x tx] c₀) :: news))
    (turn : ∀ (c : Nat) us k h tk, (c : Int) + 1 ≤ y → us.length = c + 1 → WordI (rpow c x) → IntsAre us (rowOf x c ++ [rpow c x]) → Fr h₀ L h m₀ → News h₀ L h ((D, listOf us.toArray k) :: news) →
      wpAny (model prog w) A (isTrue test env (eval test env)) (fun b s₂ => if b = true then wpAny (model prog w) A (execs body env) (PostR h₀ L D news m₀ s x y c Q) E s₂ else Q .next s₂) E { s with heap := h, toks := tk })
    (hE : PassesOwn (model prog w) A env E := by passes_own) :
    wpAny (model prog w) A (exec (.While test body [] pos) env) Q E s := by
  refine While_inv2 (fun n m nx => ∃ c us k, n = 20 - c ∧ m = m₀ ∧ nx = (D, listOf us.toArray k) :: news ∧ (c : Int) + 1 ≤ y ∧ IntsAre us (rowOf x c ++ [rpow c x])) F N ⟨0, [.int x tx], c₀, rfl, rfl, rfl, by omega, .cons x tx .nil⟩ ?_ hE
  rintro n m₁ nx h tk F₁ N₁ ⟨c, us, k, rfl, rfl, rfl, hc, hi⟩
  have hl := hi.length
  rw [List.length_append, rowOf_length] at hl
  refine wpAny_mono (turn c us k h tk hc (by simpa using hl) (rpow_word hx c) hi F₁ N₁) (fun b s₂ p => ?_) fun _ _ x => x
  cases b with
  | false => exact p
  | true =>
    simp only [if_true] at p ⊢
    have go : ∀ s₃, EndR h₀ L D news m₁ s x y c s₃ → WhileStep2 h₀ L s (fun n m nx => ∃ c us k, n = 20 - c ∧ m = m₁ ∧ nx = (D, listOf us.toArray k) :: news ∧ (c : Int) + 1 ≤ y ∧ IntsAre us (rowOf x c ++ [rpow c x])) Q (20 - c) .next s₃ := by
      rintro s₃ ⟨h', tk', us', k', rfl, F', N', hi', hc'⟩
      refine ⟨h', tk', _, _, 20 - (c + 1), rfl, F', N', by omega, c + 1, us', k', rfl, rfl, rfl, by omega, ?_⟩
      rw [rowOf_succ]
      exact hi'
    refine wpAny_mono p (fun f s₃ q => ?_) fun _ _ x => x
    cases f with
    | ret v => exact q
    | brk => exact q
    | next => exact go _ q
    | cont => exact go _ q
end

section
local macro_rules | `(tactic| walk_at "Never") => `(tactic| fail)
local macro_rules | `(tactic| walk_at "call ref") => `(tactic| (k_here; (k_dflt (refine' raised_use ?k1 ?k2 ?k3 ?k4 ?k5 ?kK ?kd ?ku ?kx ?_; (case k1 => k_asm); (case k2 => k_asm); (case k3 => k_asm); (case k4 => k_asm); (case k5 => k_asm); (case kK => first | exact rfl | assumption); (case kd => ktr_room); (case ku => ktr_units); (case kx => assumption)); intro t9 h9 tk9 F9 N9; (try dsimp only); (try k_fold))))
local macro_rules | `(tactic| walk_at "exec While Compare cons nil") => `(tactic| (k_here; ((rename Fr _ _ _ _ => lF'); (rename News _ _ _ _ => lN'); (with_unfolding_all refine' row_loop (by assumption) (by assumption) lF' lN' (fun c' us' kk' h' tk' hc' hl' hW' hI' F' N' => ?_)); (try clear lF' lN'); (try k_fold))))
local macro_rules | `(tactic| walk_at "call builtin:len") => `(tactic| (k_here; (with_reducible show wpAny _ _ (call (Value.builtin _) [Value.ref _]) _ _ _); (with_unfolding_all refine' len_vals ?k1 ?k2 ?_; (case k1 => is_list); (case k2 => omega))))
local macro_rules | `(tactic| walk_at "PostR") => `(tactic| dsimp only [PostR])
local macro_rules | `(tactic| walk_at "EndR") => `(tactic| (((rename News _ _ _ _ => nE'); (simp only [List.push_toArray] at nE'); (with_unfolding_all refine EndR.intro (by assumption) nE' (IntsAre.append (by assumption) (.cons _ _ .nil)) (by omega)))))

set_option maxRecDepth 100000 in
set_option maxHeartbeats 8000000 in
theorem row_use {w : World} {mean : ExcName → Option Value} {mg mb : Str → Option Value} {news : List (Addr × Obj)} {x y : Int} {tx ty : Tok} {dp un : Nat} {gd : Option (List Code)} {cn : Str} {cs : Scope} {a : Addr} {ccd : Value} {cl : List (Str × Addr)} {outer : List Env} {A₀ : Around} {base h₀ : Heap} {L : Addr} {m : Str → Option Value} {s : Shared} {Q E : Value → Shared → Prop}
    (k1 : Below A₀ base outer h₀) (k2 : Fr h₀ L s.heap m) (k3 : (hd_01.heap_39 w.params).In h₀) (k4 : News h₀ L s.heap news) (k5 : Top hd_01.view_39 (looseW hd_01.view_39 []) mean mg mb h₀) (kK : cs.kind = .function) (kd : dp + 2 < recursionLimit) (ku : un + 24 < cLine) (hx : WordI x) (hy : 1 ≤ y ∧ y ≤ 20)
    (hret : ∀ D us k h' tk', Fr h₀ L h' m → News h₀ L h' ((D, listOf us.toArray k) :: news) → (∀ p ∈ news, p.1 < D) → IntsAre us (rowOf x y.toNat) → us.length ≤ 20 → Q (.ref D) { s with heap := h', toks := tk' }) :
    wpAny (model PySem.Challenge.rw_sr0103_01.row.prog w) (ktrTop dp un gd cn cs L a ccd cl outer) (call (.ref 42) [.int x tx, .int y ty]) Q E s := by
  w_top off
  revert k3; k_fill; intro k3
  refine wpAny_call ?_
  (k_dflt cell_enter)
  k_steps
  exact hret _ _ _ _ _ (by assumption) (by assumption) (by assumption) (row_done (by assumption) (by assumption) (by assumption) (by assumption)) (by omega)
end
end Mine

namespace Mine
/-- one turn of the division -/
def onext (one low two high : Int) : Int × Int × Int × Int :=
  if Builtin.bitAnd low 1 = 0 then ((Builtin.bitXor one (7976584769 * Builtin.bitAnd one 1)).fdiv (2 ^ Int.toNat 1), low.fdiv (2 ^ Int.toNat 1), two, high)
  else if low < high then (two, high, one, low)
  else (Builtin.bitXor one two, Builtin.bitXor low high, two, high)
theorem onext_even {one low two high : Int} (h : Builtin.bitAnd low 1 = 0) : onext one low two high = ((Builtin.bitXor one (7976584769 * Builtin.bitAnd one 1)).fdiv (2 ^ Int.toNat 1), low.fdiv (2 ^ Int.toNat 1), two, high) := if_pos h
theorem onext_swap {one low two high : Int} (h : ¬ Builtin.bitAnd low 1 = 0) (h' : low < high) : onext one low two high = (two, high, one, low) := by unfold onext; rw [if_neg h, if_pos h']
theorem onext_xor {one low two high : Int} (h : ¬ Builtin.bitAnd low 1 = 0) (h' : ¬ low < high) : onext one low two high = (Builtin.bitXor one two, Builtin.bitXor low high, two, high) := by unfold onext; rw [if_neg h, if_neg h']
/-- the division's answer in k turns; and that it takes k turns -/
def oo : Nat → Int → Int → Int → Int → Int
  | 0, one, _, _, _ => one
  | k + 1, one, low, two, high => oo k (onext one low two high).1 (onext one low two high).2.1 (onext one low two high).2.2.1 (onext one low two high).2.2.2
def oends : Nat → Int → Int → Bool
  | 0, low, _ => decide (low ≤ 1)
  | k + 1, low, high => decide (1 < low) && oends k (onext 0 low 0 high).2.1 (onext 0 low 0 high).2.2.2
theorem onext_low (one low two high : Int) : (onext one low two high).2.1 = (onext 0 low 0 high).2.1 ∧ (onext one low two high).2.2.2 = (onext 0 low 0 high).2.2.2 := by
  unfold onext
  split
  · exact ⟨rfl, rfl⟩
  · split <;> exact ⟨rfl, rfl⟩

section
variable {prog : Program} {w : World} {A : Around} {E : Value → Shared → Prop} {Q : Flow → Shared → Prop} {s : Shared} {env : Env} {h₀ : Heap} {L : Addr}
def HasInt (m : Str → Option Value) (y : Str) (a : Int) : Prop := ∃ t, m y = some (.int a t)
def map4 (m₀ : Str → Option Value) (a b c d : Option Value) : Str → Option Value := fun y => if y = Str.ofString "one" then a else if y = Str.ofString "low" then b else if y = Str.ofString "two" then c else if y = Str.ofString "high" then d else m₀ y
def Same4 (m m₀ : Str → Option Value) : Prop := ∀ z, z ≠ Str.ofString "one" → z ≠ Str.ofString "low" → z ≠ Str.ofString "two" → z ≠ Str.ofString "high" → m z = m₀ z
theorem same_map4 {m m₀ : Str → Option Value} {a b c d : Option Value} (ha : m (Str.ofString "one") = a) (hb : m (Str.ofString "low") = b) (hc : m (Str.ofString "two") = c) (hd : m (Str.ofString "high") = d) (h : Same4 m m₀) : m = map4 m₀ a b c d := by
  funext y
  unfold map4
  by_cases h1 : y = Str.ofString "one"
  · rw [if_pos h1, h1, ha]
  by_cases h2 : y = Str.ofString "low"
  · rw [if_neg h1, if_pos h2, h2, hb]
  by_cases h3 : y = Str.ofString "two"
  · rw [if_neg h1, if_neg h2, if_pos h3, h3, hc]
  by_cases h4 : y = Str.ofString "high"
  · rw [if_neg h1, if_neg h2, if_neg h3, if_pos h4, h4, hd]
  rw [if_neg h1, if_neg h2, if_neg h3, if_neg h4]
  exact h y h1 h2 h3 h4
def EndO (h₀ : Heap) (L : Addr) (news : List (Addr × Obj)) (m₀ : Str → Option Value) (s : Shared) (q : Int × Int × Int × Int) (s₃ : Shared) : Prop :=
  ∃ h' tk m', s₃ = { s with heap := h', toks := tk } ∧ Fr h₀ L h' m' ∧ News h₀ L h' news ∧ HasInt m' (Str.ofString "one") q.1 ∧ HasInt m' (Str.ofString "low") q.2.1 ∧ HasInt m' (Str.ofString "two") q.2.2.1 ∧ HasInt m' (Str.ofString "high") q.2.2.2 ∧ Same4 m' m₀
def PostO (h₀ : Heap) (L : Addr) (news : List (Addr × Obj)) (m₀ : Str → Option Value) (s : Shared) (q : Int × Int × Int × Int) (Q : Flow → Shared → Prop) (f : Flow) (s₃ : Shared) : Prop :=
  match f with
  | .ret v => Q (.ret v) s₃
  | .brk => Q .next s₃
  | _ => EndO h₀ L news m₀ s q s₃
theorem EndO.intro {news : List (Addr × Obj)} {m₀ m' : Str → Option Value} {q : Int × Int × Int × Int} {a b c d : Int} {ta tb tc td : Tok} {h' : Heap} {tk : Nat} (F : Fr h₀ L h' m') (N : News h₀ L h' news)
    (ha : m' (Str.ofString "one") = some (.int a ta)) (hb : m' (Str.ofString "low") = some (.int b tb)) (hc : m' (Str.ofString "two") = some (.int c tc)) (hd : m' (Str.ofString "high") = some (.int d td)) (e : q = (a, b, c, d)) (hs : Same4 m' m₀) :
    EndO h₀ L news m₀ s q { s with heap := h', toks := tk } := by
  subst e
  exact ⟨h', tk, m', rfl, F, N, ⟨ta, ha⟩, ⟨tb, hb⟩, ⟨tc, hc⟩, ⟨td, hd⟩, hs⟩
theorem oo_done {k : Nat} {one low two high : Int} (h : oends k low high = true) (hl : ¬ 1 < low) : oo k one low two high = one := by
  cases k with
  | zero => rfl
  | succ k => simp [oends, hl] at h
theorem over_loop {test : PySem.Expr} {body : List Stmt} {pos : Pos} {news : List (Addr × Obj)} {one₀ low₀ two₀ high₀ : Int} {ta tb tc td : Tok} {K : Nat} {m₀ : Str → Option Value} (hK : oends K low₀ high₀ = true)
    (F : Fr h₀ L s.heap m₀) (N : News h₀ L s.heap news)
    (ha : m₀ (Str.ofString "one") = some (.int one₀ ta)) (hb : m₀ (Str.ofString "low") = some (.int low₀ tb)) (hc : m₀ (Str.ofString "two") = some (.int two₀ tc)) (hd : m₀ (Str.ofString "high") = some (.int high₀ td))
    (turn : ∀ k one low two high ta tb tc td h tk, oends k low high = true → oo k one low two high = oo K one₀ low₀ two₀ high₀ → Fr h₀ L h (map4 m₀ (some (.int one ta)) (some (.int low tb)) (some (.int two tc)) (some (.int high td))) → News h₀ L h news →
      wpAny (model prog w) A (isTrue test env (eval test env)) (fun b s₂ => if b = true then 1 < low ∧ wpAny (model prog w) A (execs body env) (PostO h₀ L news m₀ s (onext one low two high) Q) E s₂ else Q .next s₂) E { s with heap := h, toks := tk })
    (hE : PassesOwn (model prog w) A env E := by passes_own) :
    wpAny (model prog w) A (exec (.While test body [] pos) env) Q E s := by
  refine While_inv2 (fun n m nx => ∃ one low two high, nx = news ∧ oends n low high = true ∧ oo n one low two high = oo K one₀ low₀ two₀ high₀ ∧ HasInt m (Str.ofString "one") one ∧ HasInt m (Str.ofString "low") low ∧ HasInt m (Str.ofString "two") two ∧ HasInt m (Str.ofString "high") high ∧ Same4 m m₀)
    F N ⟨one₀, low₀, two₀, high₀, rfl, hK, rfl, ⟨ta, ha⟩, ⟨tb, hb⟩, ⟨tc, hc⟩, ⟨td, hd⟩, fun _ _ _ _ _ => rfl⟩ ?_ hE
  rintro n m₁ nx h tk F₁ N₁ ⟨one, low, two, high, rfl, he, ho, ⟨t1, h1⟩, ⟨t2, h2⟩, ⟨t3, h3⟩, ⟨t4, h4⟩, hs⟩
  rw [same_map4 h1 h2 h3 h4 hs] at F₁
  refine wpAny_mono (turn n one low two high t1 t2 t3 t4 h tk he ho F₁ N₁) (fun b s₂ p => ?_) fun _ _ x => x
  cases b with
  | false => exact p
  | true =>
    simp only [if_true] at p ⊢
    obtain ⟨hlow, p⟩ := p
    have hn : ∃ k, n = k + 1 := by
      cases n with
      | zero => exact absurd (of_decide_eq_true he) (by omega)
      | succ k => exact ⟨k, rfl⟩
    obtain ⟨k, rfl⟩ := hn
    have go : ∀ s₃, EndO h₀ L nx m₀ s (onext one low two high) s₃ → WhileStep2 h₀ L s (fun n m nx' => ∃ one low two high, nx' = nx ∧ oends n low high = true ∧ oo n one low two high = oo K one₀ low₀ two₀ high₀ ∧ HasInt m (Str.ofString "one") one ∧ HasInt m (Str.ofString "low") low ∧ HasInt m (Str.ofString "two") two ∧ HasInt m (Str.ofString "high") high ∧ Same4 m m₀) Q (k + 1) .next s₃ := by
      rintro s₃ ⟨h', tk', m', rfl, F', N', a1, a2, a3, a4, hs'⟩
      refine ⟨h', tk', m', nx, k, rfl, F', N', Nat.lt_succ_self k, _, _, _, _, rfl, ?_, ho, a1, a2, a3, a4, hs'⟩
      have q := onext_low one low two high
      rw [q.1, q.2]
      have := he
      simp only [oends, Bool.and_eq_true] at this
      exact this.2
    refine wpAny_mono p (fun f s₃ q => ?_) fun _ _ x => x
    cases f with
    | ret v => exact q
    | brk => exact q
    | next => exact go _ q
    | cont => exact go _ q
end

section
-- two lines that are never asked: the walk's table of lines is kept by their number alone, so sections of one number must not follow each other
local macro_rules | `(tactic| walk_at "Never") => `(tactic| fail)
local macro_rules | `(tactic| walk_at "Never") => `(tactic| fail)
local macro_rules | `(tactic| walk_at "exec While Compare cons nil") => `(tactic| (k_here; ((rename Fr _ _ _ _ => lF'); (rename News _ _ _ _ => lN'); (with_unfolding_all refine' over_loop (by assumption) lF' lN' (by rfl) (by rfl) (by rfl) (by rfl) (fun k' one' low' two' high' ta' tb' tc' td' h' tk' he' ho' F' N' => ?_)); (try clear lF' lN'); (try k_fold))))
local macro_rules | `(tactic| walk_at "PostO") => `(tactic| dsimp only [PostO])
local macro_rules | `(tactic| walk_at "And") => `(tactic| (refine And.intro (by omega) ?_))
local macro_rules | `(tactic| walk_at "binaryOp Mult int int") => `(tactic| (k_here; (with_reducible refine mul_int ?_ ?hm); (case hm => exact IntMulOk.of_left (by decide +kernel))))
local macro_rules | `(tactic| walk_at "EndO") => `(tactic| (((rename News _ _ _ _ => nE'); (with_unfolding_all refine EndO.intro (by assumption) (fun p hp => nE' p (List.Mem.tail _ hp)) (by rfl) (by rfl) (by rfl) (by rfl) ?he (by intro z h1 h2 h3 h4; simp [h1, h2, h3, h4, map4])); (case he => first | exact onext_even (by assumption) | exact onext_swap (by assumption) (by assumption) | exact onext_xor (by assumption) (by assumption)))))
set_option maxRecDepth 100000 in
set_option maxHeartbeats 8000000 in
theorem over_use {w : World} {mean : ExcName → Option Value} {mg mb : Str → Option Value} {news : List (Addr × Obj)} {x y : Int} {tx ty : Tok} {K : Nat} {dp un : Nat} {gd : Option (List Code)} {cn : Str} {cs : Scope} {a : Addr} {ccd : Value} {cl : List (Str × Addr)} {outer : List Env} {A₀ : Around} {base h₀ : Heap} {L : Addr} {m : Str → Option Value} {s : Shared} {Q E : Value → Shared → Prop}
    (k1 : Below A₀ base outer h₀) (k2 : Fr h₀ L s.heap m) (k3 : (hd_01.heap_39 w.params).In h₀) (k4 : News h₀ L s.heap news) (k5 : Top hd_01.view_39 (looseW hd_01.view_39 []) mean mg mb h₀) (kK : cs.kind = .function) (kd : dp + 1 < recursionLimit) (ku : un + 8 < cLine) (hK : oends K y 7976584769 = true)
    (hret : ∀ t h' tk', Fr h₀ L h' m → News h₀ L h' news → Q (.int (oo K x y 0 7976584769) t) { s with heap := h', toks := tk' }) :
    wpAny (model PySem.Challenge.rw_sr0103_01.row.prog w) (ktrTop dp un gd cn cs L a ccd cl outer) (call (.ref 49) [.int x tx, .int y ty]) Q E s := by
  w_top off
  revert k3; k_fill; intro k3
  refine wpAny_call ?_
  (k_dflt cell_enter)
  k_steps
  (rename oo _ _ _ _ _ = _ => hoo)
  (rename News _ _ _ _ => nE')
  rw [oo_done (by assumption) (by assumption)] at hoo
  exact cb_retI hret hoo (by assumption) (fun p hp => nE' p (List.Mem.tail _ hp))
end
end Mine

namespace Mine
def gpow : Nat → Int → Int
  | 0, x => x
  | k + 1, x => genCrc (gpow k x)
def hsum (k : Nat) (ws : List Int) : Int := ws.foldr (fun w r => Builtin.bitXor (gpow k r) w) 0

theorem allLt_mem {d : Addr} : ∀ {l : List (Addr × Obj)}, AllLt d l → ∀ p ∈ l, p.1 < d
  | [], _, _, h => nomatch h
  | _ :: _, x, p, h => by
    rcases List.mem_cons.mp h with rfl | h
    · exact x.1
    · exact allLt_mem x.2 p h
theorem off2 {d l : Addr} {o : Obj} {news : List (Addr × Obj)} (h : l < d ∧ AllLt d news) : ∀ p ∈ (l, o) :: news, p.1 ≠ d := fun p hp => by
  rcases List.mem_cons.mp hp with rfl | hp
  · exact Nat.ne_of_lt h.1
  · exact Nat.ne_of_lt (allLt_mem h.2 p hp)

theorem gpow_succ' : ∀ (k : Nat) (x : Int), gpow (k + 1) x = gpow k (genCrc x)
  | 0, _ => rfl
  | k + 1, x => congrArg genCrc (gpow_succ' k x)
theorem fold_gpow (x o : Int) (l : List Int) : Builtin.bitXor (l.foldl (fun a _ => genCrc a) x) o = Builtin.bitXor (gpow l.length x) o := by
  have : l.foldl (fun a _ => genCrc a) x = gpow l.length x := by
    induction l generalizing x with
    | nil => rfl
    | cons k r ih => rw [List.foldl_cons, ih, List.length_cons, gpow_succ']
  rw [this]
theorem fold_is {x o : Int} {n k : Nat} (h : n = k) : Builtin.bitXor ((rangeKs 0 n).foldl (fun a _ => genCrc a) x) o = Builtin.bitXor (gpow k x) o := by
  rw [fold_gpow, rangeKs_length, h]

section
variable {prog : Program} {w : World} {A : Around} {E : Value → Shared → Prop} {s : Shared} {env : Env} {h₀ : Heap} {L : Addr} {body : List Stmt} {Q : Flow → Shared → Prop}
def HasI (m : Str → Option Value) (y : Str) (a : Int) : Prop := ∃ t, m y = some (.int a t)
def SameS (m m₀ : Str → Option Value) : Prop := ∀ z, z ≠ Str.ofString "register" → z ≠ Str.ofString "word" → z ≠ Str.ofString "turn" → m z = m₀ z
def mapS (m₀ : Str → Option Value) (rv wv tv : Option Value) : Str → Option Value := fun y => if y = Str.ofString "word" then wv else if y = Str.ofString "register" then rv else if y = Str.ofString "turn" then tv else m₀ y
theorem same_mapS {m m₀ : Str → Option Value} {rv wv : Option Value} (a : m (Str.ofString "register") = rv) (h : SameS m m₀) : (fun y => if y = Str.ofString "word" then wv else m y) = mapS m₀ rv wv (m (Str.ofString "turn")) := by
  funext y
  unfold mapS
  by_cases h1 : y = Str.ofString "word"
  · rw [if_pos h1, if_pos h1]
  by_cases h2 : y = Str.ofString "register"
  · rw [if_neg h1, if_neg h1, if_pos h2, h2, a]
  by_cases h3 : y = Str.ofString "turn"
  · rw [if_neg h1, if_neg h1, if_neg h2, if_pos h3, h3]
  rw [if_neg h1, if_neg h1, if_neg h2, if_neg h3]
  exact h y h2 h1 h3
theorem same_mapS' {m m₀ : Str → Option Value} {rv : Option Value} (a : m (Str.ofString "register") = rv) (h : SameS m m₀) : m = mapS m₀ rv (m (Str.ofString "word")) (m (Str.ofString "turn")) := by
  rw [← same_mapS a h]
  funext y
  by_cases h1 : y = Str.ofString "word"
  · rw [if_pos h1, h1]
  · rw [if_neg h1]
def EndS (h₀ : Heap) (L I : Addr) (it : Obj) (rest : List (Addr × Obj)) (m₀ : Str → Option Value) (s₁ : Shared) (a : Int) (s₂ : Shared) : Prop :=
  ∃ h' tk m', s₂ = { s₁ with heap := h', toks := tk } ∧ Fr h₀ L h' m' ∧ News h₀ L h' ((I, it) :: rest) ∧ HasI m' (Str.ofString "register") a ∧ SameS m' m₀
def PostS (h₀ : Heap) (L I : Addr) (it : Obj) (rest : List (Addr × Obj)) (m₀ : Str → Option Value) (s₁ : Shared) (a : Int) (Q : Flow → Shared → Prop) (f : Flow) (s₂ : Shared) : Prop :=
  match f with
  | .ret v => Q (.ret v) s₂
  | .brk => Q .next s₂
  | _ => EndS h₀ L I it rest m₀ s₁ a s₂
theorem EndS.intro {I : Addr} {it : Obj} {rest full : List (Addr × Obj)} {m₀ m' : Str → Option Value} {s₁ : Shared} {a b : Int} {t : Tok} {h' : Heap} {tk : Nat} (F : Fr h₀ L h' m') (N : News h₀ L h' full) (hsub : ∀ p ∈ (I, it) :: rest, p ∈ full) (e : b = a)
    (hb : m' (Str.ofString "register") = some (.int b t)) (hs : SameS m' m₀) : EndS h₀ L I it rest m₀ s₁ a { s₁ with heap := h', toks := tk } := by
  subst e
  exact ⟨h', tk, m', rfl, F, fun p hp => N p (hsub p hp), ⟨t, hb⟩, hs⟩
theorem sum_loop {D I : Addr} {us : List Value} {ws : List Int} {c k : Nat} {t₀ to : Tok} {m₀ : Str → Option Value} {rest : List (Addr × Obj)}
    (hh : A.handled = none) (F : Fr h₀ env.locals s.heap m₀) (N : News h₀ env.locals s.heap ((I, revObj D ((us.length : Int) - 1)) :: rest)) (hlt : ∀ p ∈ rest, p.1 < I)
    (hmem : (D, listOf us.toArray c) ∈ rest) (hu : IntsAre us ws) (h0 : m₀ (Str.ofString "register") = some (.int 0 t₀)) (_hk : m₀ (Str.ofString "often") = some (.int (k : Int) to))
    (turn : ∀ r o tr t tv (it : Obj) h tk, it.cls = .type "list_reverseiterator" → Fr h₀ env.locals h (mapS m₀ (some (.int r tr)) (some (.int o t)) tv) → News h₀ env.locals h ((I, it) :: rest) →
      wpAny (model prog w) A (execs body env) (PostS h₀ env.locals I it rest m₀ { s with heap := h, toks := tk } (Builtin.bitXor (gpow k r) o) Q) E { s with heap := h, toks := tk })
    (done : ∀ t wv tv h tk, Fr h₀ env.locals h (mapS m₀ (some (.int (hsum k ws) t)) wv tv) → News h₀ env.locals h rest → Q .next { s with heap := h, toks := tk }) :
    wpAny (model prog w) A (pyIter (.ref I)) (fun it s₂ => LoopAtV prog w A h₀ env (Str.ofString "word") body Q E it s₂) E s := by
  have hof : OffI I (revObj D ((us.length : Int) - 1)) rest := by
    have : ∀ l : List (Addr × Obj), (∀ p ∈ l, p.1 < I) → OffI I (revObj D ((us.length : Int) - 1)) l := by
      intro l
      induction l with
      | nil => intro _; trivial
      | cons p r ih => intro h; exact ⟨.inl (Nat.ne_of_lt (h p (.head _))), ih fun q hq => h q (.tail _ hq)⟩
    exact this rest hlt
  refine rev_loop (fun pre m n => n = rest ∧ HasI m (Str.ofString "register") (pre.foldl (fun r w => Builtin.bitXor (gpow k r) w) 0) ∧ SameS m m₀) hh F N hof hmem rfl rfl hu ⟨rfl, ⟨t₀, h0⟩, fun _ _ _ _ => rfl⟩ ?_ ?_ ?_
  · rintro pre m n ⟨rfl, _⟩
    exact hmem
  · rintro pre o suf t m n it h tk _ ⟨rfl, ⟨tr, hr⟩, hs⟩ hc F' N'
    rw [same_mapS hr hs] at F'
    refine wpAny_mono (turn _ o tr t _ it h tk hc F' N') (fun f s₂ p => ?_) fun _ _ e => e
    have go : EndS h₀ env.locals I it n m₀ { s with heap := h, toks := tk } (Builtin.bitXor (gpow k (pre.foldl (fun r w => Builtin.bitXor (gpow k r) w) 0)) o) s₂ →
        UnrEnd h₀ env.locals { s with heap := h, toks := tk } I it (fun m n' => n' = n ∧ HasI m (Str.ofString "register") ((pre ++ [o]).foldl (fun r w => Builtin.bitXor (gpow k r) w) 0) ∧ SameS m m₀) s₂ := by
      rintro ⟨h', tk', m', rfl, F'', N'', a, b⟩
      refine ⟨h', tk', m', n, rfl, F'', N'', fun p hp => Nat.ne_of_lt (hlt p hp), rfl, ?_, b⟩
      rw [List.foldl_append]
      exact a
    cases f with
    | ret v => exact p
    | brk => exact p
    | next => exact go p
    | cont => exact go p
  · rintro m n h tk ⟨rfl, ⟨tr, hr⟩, hs⟩ F' N'
    rw [List.foldl_reverse] at hr
    have hr' : m (Str.ofString "register") = some (.int (hsum k ws) tr) := hr
    rw [same_mapS' hr' hs] at F'
    exact done tr _ _ h tk F' N'
end

section
local macro_rules | `(tactic| walk_at "call ref") => `(tactic| (k_here; (k_dflt (refine' gen_use ?k1 ?k2 ?k3 ?k4 ?k5 ?kK ?kd ?ku ?_; (case k1 => k_asm); (case k2 => k_asm); (case k3 => k_asm); (case k4 => k_asm); (case k5 => k_asm); (case kK => first | exact rfl | assumption); (case kd => ktr_room); (case ku => ktr_units)); intro t9 h9 tk9 F9 N9; (try dsimp only); (try k_fold))))
local macro_rules | `(tactic| k_mem) => `(tactic| with_unfolding_all assumption)
local macro_rules | `(tactic| walk_at "call type:reversed") => `(tactic| (k_here; ((rename Fr _ _ _ _ => lF'); (rename News _ _ _ _ => lN'); (k_dflt (refine' krv_reversed lF' lN' (News.isList lN' (by k_mem)) ?_)); clear lF' lN'; intro D' h' F' N' l1)))
local macro_rules | `(tactic| walk_at "pyIter ref") => `(tactic| (k_of "word" => ((rename Fr _ _ _ _ => lF'); (rename News _ _ _ _ => lN'); (first
  | (with_unfolding_all refine' sum_loop (k := 0) (by rfl) lF' lN' (by assumption) (by k_mem) (by assumption) (by rfl) (by rfl) (fun r' o' tr' t' tv' it' h' tk' hc' F' N' => ?_) (fun t' wv' tv' h' tk' F' N' => ?_))
  | (with_unfolding_all refine' sum_loop (k := 1) (by rfl) lF' lN' (by assumption) (by k_mem) (by assumption) (by rfl) (by rfl) (fun r' o' tr' t' tv' it' h' tk' hc' F' N' => ?_) (fun t' wv' tv' h' tk' F' N' => ?_))
  | (with_unfolding_all refine' sum_loop (k := 2) (by rfl) lF' lN' (by assumption) (by k_mem) (by assumption) (by rfl) (by rfl) (fun r' o' tr' t' tv' it' h' tk' hc' F' N' => ?_) (fun t' wv' tv' h' tk' F' N' => ?_))
  | (with_unfolding_all refine' sum_loop (k := 3) (by rfl) lF' lN' (by assumption) (by k_mem) (by assumption) (by rfl) (by rfl) (fun r' o' tr' t' tv' it' h' tk' hc' F' N' => ?_) (fun t' wv' tv' h' tk' F' N' => ?_))); (all_goals (try clear lF' lN')); (all_goals (try k_fold)))))
local macro_rules | `(tactic| walk_at "InvEndN") => `(tactic| ((refine InvEndN.intro (by assumption) (by assumption) ⟨rfl, ⟨_, by with_unfolding_all rfl⟩, by kpf_same3⟩ (by rfl) (by (with_unfolding_all ((try simp only [List.nil_append, List.cons_append]); kst_allIn))) (by (intro p hp; first | k_ownIn | kst_mem)))))
local macro_rules | `(tactic| walk_at "pyIter ref") => `(tactic| (k_of "turn" => ((rename Fr _ _ _ _ => lF'); (rename News _ _ _ _ => lN'); (rename IsRange _ _ _ _ _ _ _ _ => rgX); (with_unfolding_all refine' kpr_n1 (y := Str.ofString "register") [] (fun a _ => genCrc a) (by rfl) (by first | exact rgX | assumption) (by decide) (by exact rangeSize_nat _ _) lF' lN' (by rfl) (fun k' t' a' ta' u' h' tk' own' hlo' hhi' hoff' F' N' => ?_) ?_); (all_goals (try clear lF' lN')); (all_goals (try simp only [List.nil_append, List.cons_append, List.append_nil] at N')); (all_goals (try k_fold)))))
local macro_rules | `(tactic| walk_at "exec For Name Call cons nil") => `(tactic| (k_of "turn" => kpr_for))
local macro_rules | `(tactic| walk_at "UnrEnd") => `(tactic| ((rename News _ _ _ _ => nE'); (rename _ ∧ AllLt _ _ => l9); (with_unfolding_all refine UnrEnd.intro (by assumption) nE' (_ :: _) (fun _ h => h) (off2 l9) ?_)))
local macro_rules | `(tactic| walk_at "PostS") => `(tactic| dsimp only [PostS])
local macro_rules | `(tactic| walk_at "EndS") => `(tactic| (((rename News _ _ _ _ => nE'); (with_unfolding_all refine EndS.intro (by assumption) nE' (fun _ h => h) ?he (by rfl) (by intro z h1 h2 h3; simp [h1, h2, h3, mapS])); (case he => exact fold_is (by rfl)))))
set_option maxRecDepth 100000 in
set_option maxHeartbeats 8000000 in
theorem sums_use {w : World} {mean : ExcName → Option Value} {mg mb : Str → Option Value} {news : List (Addr × Obj)} {lw : Addr} {us : List Value} {ws : List Int} {c : Nat} {dp un : Nat} {gd : Option (List Code)} {cn : Str} {cs : Scope} {a : Addr} {ccd : Value} {cl : List (Str × Addr)} {outer : List Env} {A₀ : Around} {base h₀ : Heap} {L : Addr} {m : Str → Option Value} {s : Shared} {Q E : Value → Shared → Prop}
    (k1 : Below A₀ base outer h₀) (k2 : Fr h₀ L s.heap m) (k3 : (hd_01.heap_39 w.params).In h₀) (k4 : News h₀ L s.heap news) (k5 : Top hd_01.view_39 (looseW hd_01.view_39 []) mean mg mb h₀) (kK : cs.kind = .function) (kd : dp + 2 < recursionLimit) (ku : un + 24 < cLine)
    (hm : (lw, listOf us.toArray c) ∈ news) (hu : IntsAre us ws)
    (hret : ∀ D t0 t1 t2 t3 k h' tk', Fr h₀ L h' m → News h₀ L h' ((D, listOf #[.int (hsum 0 ws) t0, .int (hsum 1 ws) t1, .int (hsum 2 ws) t2, .int (hsum 3 ws) t3] k) :: news) → (∀ p ∈ news, p.1 < D) → Q (.ref D) { s with heap := h', toks := tk' }) :
    wpAny (model PySem.Challenge.rw_sr0103_01.row.prog w) (ktrTop dp un gd cn cs L a ccd cl outer) (call (.ref 28) [.ref lw]) Q E s := by
  w_top off
  revert k3; k_fill; intro k3
  refine wpAny_call ?_
  (k_dflt cell_enter)
  k_steps
  with_unfolding_all exact hret _ _ _ _ _ _ _ _ (by assumption) (by assumption) (by assumption)
end
end Mine

namespace Mine
def flip (ws : List Int) (p : Nat) (a : Int) : List Int := ws.set p (Builtin.bitXor (ws.getD p 0) a)

theorem idx_lo {us : List Value} (hn : 3 ≤ us.length ∧ us.length ≤ 8) (p : Int) : 0 ≤ p.fmod us.length := Int.fmod_nonneg_of_pos _ (by omega)
theorem idx_fit {us : List Value} (hn : 3 ≤ us.length ∧ us.length ≤ 8) (p : Int) : p.fmod us.length < 2 ^ 63 := by
  have := fmod_hi p (show (0 : Int) < us.length by omega)
  omega
theorem idx_hi1 {us : List Value} {ws : List Int} (hu : IntsAre us ws) (hn : 3 ≤ us.length ∧ us.length ≤ 8) (p : Int) : p.fmod us.length < (ws.length : Int) := by
  have := fmod_hi p (show (0 : Int) < us.length by omega)
  rw [← hu.length]
  exact this
theorem idx_hi2 {us : List Value} {ws : List Int} (hu : IntsAre us ws) (hn : 3 ≤ us.length ∧ us.length ≤ 8) (p : Int) (j : Nat) (x : Int) : p.fmod us.length < ((ws.set j x).length : Int) := by
  rw [List.length_set]
  exact idx_hi1 hu hn p
theorem ne_of_lts {D : Addr} {news : List (Addr × Obj)} (h : ∀ p ∈ news, p.1 < D) : ∀ p ∈ news, p.1 ≠ D := fun p hp => Nat.ne_of_lt (h p hp)
theorem allLt_mem' {d : Addr} : ∀ {l : List (Addr × Obj)}, AllLt d l → ∀ p ∈ l, p.1 < d
  | [], _, _, h => nomatch h
  | _ :: _, x, p, h => by
    rcases List.mem_cons.mp h with rfl | h
    · exact x.1
    · exact allLt_mem' x.2 p h
theorem endZ {h₀ : Heap} {L I : Addr} {o4 o2 o3 o0 o1 : Obj} {news' : List (Addr × Obj)} {rest : (Str → Option Value) → List (Addr × Obj) → Prop} {s₁ : Shared} {h' : Heap} {tk : Nat} {m' : Str → Option Value}
    (F : Fr h₀ L h' m') (N : News h₀ L h' ((I + 4, o4) :: (I + 2, o2) :: (I + 3, o3) :: (I, o0) :: (I + 1, o1) :: news')) (hlt : AllLt I news') (hr : rest m' news') :
    UnrEndW h₀ L s₁ [(I + 4, o4), (I + 2, o2), (I + 3, o3), (I, o0), (I + 1, o1)] rest { s₁ with heap := h', toks := tk } := by
  refine ⟨h', tk, m', news', rfl, F, N, fun p hp q hq => ?_, hr⟩
  have h1 := allLt_mem' hlt p hp
  have h2 : I ≤ q.1 := by
    simp only [List.mem_cons, List.not_mem_nil, or_false] at hq
    rcases hq with rfl | rfl | rfl | rfl | rfl <;> first | exact Nat.le_refl _ | exact Nat.le_add_right _ _
  exact Nat.ne_of_lt (Nat.lt_of_lt_of_le h1 h2)

section
local macro_rules | `(tactic| walk_at "call type:list") => `(tactic| (k_here; ((rename Fr _ _ _ _ => lF'); (rename News _ _ _ _ => lN'); (k_dflt (refine' list_copyK lF' lN' (News.isList lN' (by k_mem)) ?_ ?kz; (case kz => have hz' := sizeLine_eq; simp; omega))); clear lF' lN'; intro D' c' h' F' N' l1)))
local macro_rules | `(tactic| walk_at "exec For Tuple Call cons nil") => `(tactic| (k_here; ((rename Fr _ _ _ _ => lF'); (with_unfolding_all refine' For_turns lF' ?_; k_whole))))
local macro_rules | `(tactic| walk_at "call type:zip") => `(tactic| (k_here; (with_reducible show wpAny _ _ (call (Value.type _) [Value.ref _, Value.ref _]) (fun xv s₁ => wpAny _ _ (pyIter xv) (fun it s₂ => TurnsAt _ _ _ _ _ _ _ _ _ it s₂) _ s₁) _ _); ((rename Fr _ _ _ _ => lF'); (rename News _ _ _ _ => lN'); (with_unfolding_all refine' ktu_zip (by rfl) lF' lN' (by k_mem) (by rfl) (by rfl) (by k_mem) (by rfl) (by rfl) (fun I' l1 => ?_)); clear lF' lN'; (try k_lt l1))))
local macro_rules | `(tactic| k_all) => `(tactic| exact ne_of_lts (by assumption))
local macro_rules | `(tactic| walk_at "getItem ref int") => `(tactic| (k_here; ((rename News _ _ _ _ => lN'); (with_unfolding_all refine' ksa_get lN' ?hmm ?hii (idx_lo (by assumption) _) ?h1 (idx_fit (by assumption) _) (fun t' => ?_)); (case hmm => k_mem); (case hii => assumption); (case h1 => first | exact idx_hi1 (by assumption) (by assumption) _ | exact idx_hi2 (by assumption) (by assumption) _ _ _))))
local macro_rules | `(tactic| walk_at "setItem ref int int") => `(tactic| (k_here; ((rename Fr _ _ _ _ => lF'); (rename News _ _ _ _ => lN'); (with_unfolding_all refine' ksa_set lF' lN' ?hU (by assumption) (idx_lo (by assumption) _) ?h1 (idx_fit (by assumption) _) (fun h' F' N' hI' hj1 hj2 => ?_)); (case hU => k_upd); clear lF' lN'; (case h1 => first | exact idx_hi1 (by assumption) (by assumption) _ | exact idx_hi2 (by assumption) (by assumption) _ _ _))))
local macro_rules | `(tactic| walk_at "UnrEndW") => `(tactic| (((rename News _ _ _ _ => nE'); (with_unfolding_all refine endZ (by assumption) nE' (by assumption) ⟨⟨by k_mem, by k_mem, trivial⟩, ?_⟩))))
local macro_rules | `(tactic| k_mem) => `(tactic| with_unfolding_all assumption)
local macro_rules | `(tactic| walk_at "call builtin:len") => `(tactic| (k_here; (with_reducible show wpAny _ _ (call (Value.builtin _) [Value.ref _]) _ _ _); (rename News _ _ _ _ => lN'); (with_unfolding_all refine' len_vals (News.isList lN' (by k_mem)) ?k2 ?_; (case k2 => omega))))
set_option maxRecDepth 100000 in
set_option maxHeartbeats 8000000 in
theorem spoilt_use {w : World} {mean : ExcName → Option Value} {mg mb : Str → Option Value} {news : List (Addr × Obj)} {lw lh : Addr} {us : List Value} {ws : List Int} {c ch : Nat} {p q x y : Int} {t0 t1 t2 t3 : Tok} {dp un : Nat} {gd : Option (List Code)} {cn : Str} {cs : Scope} {a : Addr} {ccd : Value} {cl : List (Str × Addr)} {outer : List Env} {A₀ : Around} {base h₀ : Heap} {L : Addr} {m : Str → Option Value} {s : Shared} {Q E : Value → Shared → Prop}
    (k1 : Below A₀ base outer h₀) (k2 : Fr h₀ L s.heap m) (k3 : (hd_01.heap_39 w.params).In h₀) (k4 : News h₀ L s.heap news) (k5 : Top hd_01.view_39 (looseW hd_01.view_39 []) mean mg mb h₀) (kK : cs.kind = .function) (kd : dp + 2 < recursionLimit) (ku : un + 24 < cLine)
    (hm : (lw, listOf us.toArray c) ∈ news) (hu : IntsAre us ws) (hn : 3 ≤ us.length ∧ us.length ≤ 8) (hm2 : (lh, listOf #[.int p t0, .int q t1, .int x t2, .int y t3] ch) ∈ news)
    (hret : ∀ D vs k h' tk', Fr h₀ L h' m → News h₀ L h' ((D, listOf vs.toArray k) :: news) → (∀ p ∈ news, p.1 < D) → IntsAre vs (flip (flip ws (p.fmod us.length).toNat (x.fmod (2 ^ Int.toNat 32))) (q.fmod us.length).toNat (y.fmod (2 ^ Int.toNat 32))) → Q (.ref D) { s with heap := h', toks := tk' }) :
    wpAny (model PySem.Challenge.rw_sr0103_01.row.prog w) (ktrTop dp un gd cn cs L a ccd cl outer) (call (.ref 61) [.ref lw, .ref lh]) Q E s := by
  w_top off
  revert k3; k_fill; intro k3
  refine wpAny_call ?_
  (k_dflt cell_enter)
  k_steps
  (rename News _ _ _ _ => nE')
  with_unfolding_all exact hret _ _ _ _ _ (by assumption) (fun p hp => nE' p (List.Mem.tail _ (List.Mem.tail _ hp))) (by assumption) (by assumption)
end
end Mine

section
open PySem PySem.Calls PySem.W PyProof.Rows PyProof.Rows.LCg
namespace Mine
def zipX (ns ms : List Int) : List Int := List.zipWith Builtin.bitXor ns ms
theorem ints_take_snoc {ys : List Value} {l : List Int} {i : Nat} {a : Int} {t : Tok} (h : IntsAre ys (l.take i)) (ha : l[i]? = some a) : IntsAre (ys ++ [.int a t]) (l.take (i + 1)) := by
  rw [List.take_add_one, ha]
  exact h.append (.cons a t .nil)

section
variable {prog : Program} {w : World} {A : Around} {E : Value → Shared → Prop} {s : Shared} {h₀ : Heap} {L : Addr} {m : Str → Option Value} {env : Env}
def ZipAt (h₀ : Heap) (L : Addr) (m : Str → Option Value) (news : List (Addr × Obj)) (ns ms : List Int) (xv : Value) (s₁ : Shared) : Prop :=
  ∃ (B l1 l2 : Addr) (xs ys : List Value), xv = .ref (B + 4) ∧ Fr h₀ L s₁.heap m ∧ News h₀ L s₁.heap news ∧ IntsAre xs ns ∧ IntsAre ys ms ∧ ns.length = ms.length ∧ ns.length ≤ 64 ∧ l1 < B ∧ l2 < B ∧ L < B ∧ (∀ p ∈ news, p.1 < B) ∧ (∀ b, B ≤ b → h₀.get? b = none) ∧ B + 5 ≤ s₁.heap.objs.size ∧
    IsZip s₁.heap (B + 4) (B + 2) (B + 3) .none ∧ IsPair s₁.heap (B + 2) (.ref B) (.ref (B + 1)) ∧ (∃ a b, IsPair s₁.heap (B + 3) a b) ∧ s₁.heap.IsListIter B l1 0 ∧ s₁.heap.IsListIter (B + 1) l2 0 ∧ s₁.heap.IsList l1 xs.toArray ∧ s₁.heap.IsList l2 ys.toArray
theorem zip_call {l1 l2 : Addr} {xs ys : List Value} {ns ms : List Int} {news : List (Addr × Obj)} (F : Fr h₀ L s.heap m) (N : News h₀ L s.heap news) (hl1 : s.heap.IsList l1 xs.toArray) (hl2 : s.heap.IsList l2 ys.toArray) (hi : IntsAre xs ns) (hj : IntsAre ys ms) (hlen : ns.length = ms.length) (hle : ns.length ≤ 64) {G : Value → Shared → Prop}
    (hG : ∀ xv h', ZipAt h₀ L m news ns ms xv { s with heap := h' } → G xv { s with heap := h' }) :
    wpAny (model prog w) A (call (.type "zip") [.ref l1, .ref l2]) G E s := by
  refine call_zip_2 hl1 hl2 fun h' hz hTI hTO hi1 hi2 hsz hk => hG _ _ ?_
  have lt1 : l1 < s.heap.objs.size := by obtain ⟨_, e, _⟩ := hl1; exact Heap.lt_size e
  have lt2 : l2 < s.heap.objs.size := by obtain ⟨_, e, _⟩ := hl2; exact Heap.lt_size e
  refine ⟨s.heap.objs.size, l1, l2, xs, ys, rfl, F.keeps hk, N.grown hk, hi, hj, hlen, hle, lt1, lt2, F.ns.lt, fun p hp => Heap.lt_size (N p hp).1, fun b hb => ktu_new F hb, Nat.le_of_eq hsz.symm, hz, hTI, ⟨_, _, hTO⟩, hi1, hi2, hl1.at fun o e => hk l1 o e, hl2.at fun o e => hk l2 o e⟩

theorem zip_block {iter : PySem.Expr} {a b : Str} {pa pb tp q1 q2 q3 : Pos} {kk : Nat} {scope : Scope} {cl : List (Str × Addr)} {pos : Pos} {Q : Value → Shared → Prop} {news : List (Addr × Obj)} {ns ms : List Int} {xv : Value} {s₂ : Shared} (hh : A.handled = none)
    (hcell : ∀ y ∈ scope.names, y.2 ≠ .cell) (hkind : scope.kind = .function) (hxa : scope.names.lookup a = some .local) (hxb : scope.names.lookup b = some .local) (hab : ¬ a = b) (hda : (a == ("__debug__" : Str)) = false) (hdb : (b == ("__debug__" : Str)) = false)
    (hz0 : ZipAt h₀ L m news ns ms xv s₂)
    (fin : ∀ D us k h' tk, Fr h₀ L h' m → News h₀ L h' ((D, listOf us.toArray k) :: news) → (∀ p ∈ news, p.1 < D) → IntsAre us (zipX ns ms) → Q (.ref D) { s₂ with heap := h', toks := tk }) :
    wpAny (model prog w) A (pyIter xv) (fun it s₂ => wpAny (model prog w) A (newList []) (fun acc s₃ =>
      wpAny (model prog w) A (newFunctionEnv scope env.globals cl [] env.qual none .none (some env)) (fun cenv s₄ =>
        codeAny (model prog w) A (.compStart (.ListComp (.BinOp (.Name a q1) .BitXor (.Name b q2) q3) [⟨.Tuple [.Name a pa, .Name b pb] kk tp, iter, [], 0⟩] scope pos) 0 it acc { cenv with scope := relabel scope env }) (compPost (model prog w) A E none Q acc cenv.locals) s₄) E s₃) E s₂) E s₂ := by
  obtain ⟨B, l1, l2, xs, ys, rfl, F, N, hi, hj, hlen, hle, hl1B, hl2B, hLB, hnB, hnew, hsize, hz, hTI, hTO, hi1, hi2, hl1, hl2⟩ := hz0
  refine wpAny_pyIter_zip hz ?_
  have AP : ZipApart (B + 4) (B + 2) (B + 3) B (B + 1) l1 l2 := ktu_apart _ _ _ hl1B hl2B
  have W := KTurns.ofWalksU (elts := [.Name a pa, .Name b pb]) (k := kk) (pos := tp) (WalksT.zip2 (prog := prog) (w := w) hh _ _ _ _ _ _ _ AP xs.toArray ys.toArray).toU
  have hmin : min xs.toArray.size ys.toArray.size = ns.length := by
    have e1 := hi.length
    have e2 := hj.length
    simp only [List.size_toArray]
    omega
  rw [hmin] at W
  refine wpAny_newObj_type (wpAny_newFunctionEnv hcell (by intro y hy; simp at hy) (fun h₁ hns₁ hsb₁ => ?_) hkind)
  dsimp only at hns₁ hsb₁ ⊢
  generalize hH2 : s₂.heap.push { cls := .type "list", dict := none, data := .seq ([] : List Value).toArray } = H2 at hns₁ hsb₁ ⊢
  have hC : H2.objs.size = s₂.heap.objs.size + 1 := by rw [← hH2, Heap.size_push]
  generalize hDD : s₂.heap.objs.size = D at hC hsize ⊢
  generalize hCC : H2.objs.size = C at hC hns₁ hsb₁ ⊢
  have hBD : B + 5 ≤ D := hsize
  have old : ∀ c o, s₂.heap.get? c = some o → h₁.get? c = some o := fun c o e => by
    have hc : c < D := hDD ▸ Heap.lt_size e
    exact hsb₁.extBut c o (by rw [hC]; exact Nat.ne_of_lt (Nat.lt_succ_of_lt hc)) (Heap.get?_push_of_some _ (hH2 ▸ Heap.get?_push_of_some _ e))
  have hacc : h₁.get? D = some (lst []) := by
    refine hsb₁.extBut _ _ (by rw [hC]; exact Nat.ne_of_lt (Nat.lt_succ_self _)) (Heap.get?_push_of_some _ ?_)
    rw [← hH2, ← hDD]
    exact Heap.get?_push_size _ rfl
  have hD₀ : h₀.get? D = none := hnew D (Nat.le_trans (Nat.le_add_right _ _) hBD)
  have hC₀ : h₀.get? C = none := hnew C (by rw [hC]; exact Nat.le_trans (Nat.le_add_right _ _) (Nat.le_succ_of_le hBD))
  have hLD : L < D := Nat.lt_of_lt_of_le hLB (Nat.le_trans (Nat.le_add_right _ _) hBD)
  have hnD : ∀ p ∈ news, p.1 < D := fun p hp => Nat.lt_of_lt_of_le (hnB p hp) (Nat.le_trans (Nat.le_add_right _ _) hBD)
  have hBk : ∀ k : Nat, k < 5 → @LT.lt Nat _ (B + k) D := fun k hk => Nat.lt_of_lt_of_le (Nat.add_lt_add_left hk B) hBD
  have hwr : ∀ c ∈ [B + 4, B + 3, B, B + 1], B ≤ c ∧ c < D := by
    intro c hc
    simp only [List.mem_cons, List.not_mem_nil, or_false] at hc
    rcases hc with rfl | rfl | rfl | rfl
    · exact ⟨Nat.le_add_right _ _, hBk 4 (by decide)⟩
    · exact ⟨Nat.le_add_right _ _, hBk 3 (by decide)⟩
    · exact ⟨Nat.le_refl _, hBk 0 (by decide)⟩
    · exact ⟨Nat.le_add_right _ _, hBk 1 (by decide)⟩
  have offw : ∀ c, c < B → c ∉ [B + 4, B + 3, B, B + 1] := fun c hc hm => Nat.lt_irrefl _ (Nat.lt_of_lt_of_le hc (hwr c hm).1)
  have offD : ∀ c, D ≤ c → c ∉ [B + 4, B + 3, B, B + 1] := fun c hc hm => Nat.lt_irrefl _ (Nat.lt_of_lt_of_le (hwr c hm).2 hc)
  have hfpD : ∀ c ∈ [B + 4, B + 2, B + 3, B, B + 1, l1, l2], c < D := by
    intro c hc
    simp only [List.mem_cons, List.not_mem_nil, or_false] at hc
    rcases hc with rfl | rfl | rfl | rfl | rfl | rfl | rfl
    · exact hBk 4 (by decide)
    · exact hBk 2 (by decide)
    · exact hBk 3 (by decide)
    · exact hBk 0 (by decide)
    · exact hBk 1 (by decide)
    · exact Nat.lt_trans hl1B (hBk 0 (by decide))
    · exact Nat.lt_trans hl2B (hBk 0 (by decide))
  have loop : ∀ s₃ : Shared, s₃ = { s₂ with heap := h₁, toks := s₂.toks + ([] : List (Str × Value)).length } →
      codeAny (model prog w) A (.compLoop (.ListComp (.BinOp (.Name a q1) .BitXor (.Name b q2) q3) [⟨.Tuple [.Name a pa, .Name b pb] kk tp, iter, [], 0⟩] scope pos) 0 (.ref (B + 4)) (.ref D) (compEnvC scope cl C env))
        (compPost (model prog w) A E none Q (.ref D) C) s₃ := by
    rintro s₃ rfl
    refine kcp_loop (fun k s' => ∃ h' tk i zs m', s' = { s₂ with heap := h', toks := tk } ∧ i ≤ ns.length ∧ k = ns.length + 1 - i ∧ zs.length = i ∧
        (IsZip h' (B + 4) (B + 2) (B + 3) .none ∧ IsPair h' (B + 2) (.ref B) (.ref (B + 1)) ∧ (∃ a b, IsPair h' (B + 3) a b) ∧ h'.IsListIter B l1 i ∧ h'.IsListIter (B + 1) l2 i ∧ h'.IsList l1 xs.toArray ∧ h'.IsList l2 ys.toArray) ∧
        Fr h₀ L h' m ∧ h'.Ns C m' ∧ News h₀ L h' ((D, lst zs) :: news) ∧ IntsAre zs ((zipX ns ms).take i)) ?_ (ns.length + 1)
      ⟨h₁, _, 0, [], _, rfl, Nat.zero_le _, rfl, rfl, W.frame 0 s₂.heap h₁ ⟨hz, hTI, hTO, hi1, hi2, hl1, hl2⟩ (fun c _ o e => old c o e), F.keeps old, hns₁, fun p hp => ?_, .nil⟩
    · rintro k s' ⟨h', tk, i, zs, m', rfl, hin, rfl, hzl, hst, F', hn', N', hI⟩
      by_cases hlt : i < ns.length
      · refine W.item i _ _ _ hlt hst fun v h₂ tk₂ hMd hk₂ => ?_
        refine W.go i v _ _ _ hMd fun h₃ hP hst₃ hk₃ => ?_
        obtain ⟨T, vals, rfl, ⟨x, y, hx, hy, rfl⟩, hT⟩ := hP
        obtain ⟨n, hn⟩ : ∃ n, ns[i]? = some n := ⟨_, List.getElem?_eq_getElem hlt⟩
        obtain ⟨m2, hm2⟩ : ∃ n, ms[i]? = some n := ⟨_, List.getElem?_eq_getElem (hlen ▸ hlt)⟩
        obtain ⟨tx, hx'⟩ := hi.get i n hn
        obtain ⟨ty, hy'⟩ := hj.get i m2 hm2
        have ex : x = .int n tx := by
          have : xs[i]? = some x := by simpa using hx
          rw [hx'] at this
          exact (Option.some.inj this).symm
        have ey : y = .int m2 ty := by
          have : ys[i]? = some y := by simpa using hy
          rw [hy'] at this
          exact (Option.some.inj this).symm
        subst ex ey
        have up₃ : ∀ c o, c ∉ [B + 4, B + 3, B, B + 1] → h'.get? c = some o → h₃.get? c = some o := fun c o hc e => hk₃ c o hc (hk₂ c o hc e)
        refine kcp_assign (env := compEnvC scope cl C env) hh hT (lookup_relabel_local hxa) (lookup_relabel_local hxb) (by simp [compEnvC, relabel, hkind]) (hn'.at' fun o e => up₃ _ o (offD C (by rw [hC]; exact Nat.le_succ _)) e) fun h₄ tk₄ hn₄ hs₄ => ?_
        have hkk : (compEnvC scope cl C env).scope.kind = .function := hkind
        refine wpAny_BinOp ?_
        refine wpAny_Name (wpAny_loadName_local hkk (lookup_relabel_local hxa) hn₄ (v := .int n tx) (by simp [hab]) ?_) hda
        refine wpAny_Name (wpAny_loadName_local hkk (lookup_relabel_local hxb) hn₄ (v := .int m2 ty) (by simp) ?_) hdb
        refine xor_int ?_
        have up : ∀ c o, c ∉ [B + 4, B + 3, B, B + 1] → c ≠ C → h'.get? c = some o → h₄.get? c = some o := fun c o h1 h2 e => hs₄ c o h2 (up₃ c o h1 e)
        have hDC : D ≠ C := by rw [hC]; exact Nat.ne_of_lt (Nat.lt_succ_self _)
        have zD : h₄.get? D = some (lst zs) := up D _ (offD D (Nat.le_refl _)) hDC (N' _ List.mem_cons_self).1
        refine append_at (hsz := by show zs.toArray.size ≤ sizeLine; have := sizeLine_eq; rw [List.size_toArray, hzl]; omega) zD fun h₆ hs₆ hD₆ => ?_
        have up6 : ∀ c o, c ∉ [B + 4, B + 3, B, B + 1] → c ≠ C → c ≠ D → h'.get? c = some o → h₆.get? c = some o := fun c o h1 h2 h3 e => hs₆.extBut c o h3 (up c o h1 h2 e)
        have hltC : ∀ c, c < D → c ≠ C := fun c hc => by rw [hC]; exact Nat.ne_of_lt (Nat.lt_succ_of_lt hc)
        refine ⟨ns.length + 1 - (i + 1), by omega, h₆, _, i + 1, zs ++ [.int (Builtin.bitXor n m2) tk₄], _, rfl, hlt, rfl, by rw [List.length_append, hzl]; rfl, ?_, ?_, hn₄.sameBut hs₆ (Ne.symm hDC), fun q hq => ?_, ints_take_snoc hI ?_⟩
        · refine W.frame (i + 1) h₃ h₆ hst₃ fun c hc o e => ?_
          have hcD := hfpD c hc
          exact hs₆.extBut c o (Nat.ne_of_lt hcD) (hs₄ c o (hltC c hcD) e)
        · exact ⟨F'.ns.at' fun o e => up6 L o (offw L hLB) (hltC L hLD) (Nat.ne_of_lt hLD) e, fun c o e => by
            have hcB : c < B := by
              refine Nat.lt_of_not_le fun hc => ?_
              rw [hnew c hc] at e
              cases e
            have hcD : c < D := Nat.lt_of_lt_of_le hcB (Nat.le_trans (Nat.le_add_right _ _) hBD)
            exact up6 c o (offw c hcB) (hltC c hcD) (Nat.ne_of_lt hcD) (F'.keep c o e), F'.above⟩
        · rcases List.mem_cons.mp hq with rfl | hq
          · exact ⟨hD₆.trans (congrArg some (lst_snoc zs _)), Ne.symm (Nat.ne_of_lt hLD), hD₀⟩
          · have z := N' q (.tail _ hq)
            exact ⟨up6 q.1 q.2 (offw _ (hnB q hq)) (hltC _ (hnD q hq)) (Nat.ne_of_lt (hnD q hq)) z.1, z.2⟩
        · unfold zipX
          rw [List.getElem?_zipWith, hn, hm2]
      · have hin' : i = ns.length := Nat.le_antisymm hin (Nat.not_lt.mp hlt)
        subst hin'
        refine W.done _ _ _ hst fun h₂ tk₂ hk₂ => ?_
        have hlz : (zipX ns ms).length = ns.length := by unfold zipX; rw [List.length_zipWith, ← hlen, Nat.min_self]
        rw [List.take_of_length_le (Nat.le_of_eq hlz)] at hI
        have hCD : D ≠ C := by rw [hC]; exact Nat.ne_of_lt (Nat.lt_succ_self _)
        refine ⟨_, hn'.at' fun o e => hk₂ _ o (offD C (by rw [hC]; exact Nat.le_succ _)) e, fun h'' hs'' => fin D zs zs.length h'' tk₂ ?_ (fun q hq => ?_) hnD hI⟩
        · have F2 : Fr h₀ L h₂ m := ⟨F'.ns.at' fun o e => hk₂ L o (offw L hLB) e, fun c o e => by
            have hcB : c < B := by
              refine Nat.lt_of_not_le fun hc => ?_
              rw [hnew c hc] at e
              cases e
            exact hk₂ c o (offw c hcB) (F'.keep c o e), F'.above⟩
          exact F2.change hs'' (by rw [hC]; exact Ne.symm (Nat.ne_of_lt (Nat.lt_succ_of_lt hLD))) hC₀
        · rcases List.mem_cons.mp hq with rfl | hq
          · have z := N' _ List.mem_cons_self
            exact ⟨hs''.extBut _ _ hCD (hk₂ D _ (offD D (Nat.le_refl _)) z.1), z.2⟩
          · have z := N' q (.tail _ hq)
            exact ⟨hs''.extBut _ _ (by rw [hC]; exact Nat.ne_of_lt (Nat.lt_succ_of_lt (hnD q hq))) (hk₂ _ _ (offw _ (hnB q hq)) z.1), z.2⟩
    · rcases List.mem_cons.mp hp with rfl | hp
      · exact ⟨hacc, Ne.symm (Nat.ne_of_lt hLD), hD₀⟩
      · exact ⟨old _ _ (N p hp).1, (N p hp).2⟩
  exact codeAny_compStart_list (loop _ rfl) (wpAny_pyIter_zip (old _ _ hz) (loop _ rfl))
/-- what the comprehension asks of its source -/
def ZipGo (h₀ : Heap) (L : Addr) (Q : Value → Shared → Prop) (xv : Value) (s₁ : Shared) : Prop :=
  ∃ m news ns ms, ZipAt h₀ L m news ns ms xv s₁ ∧ (∀ D us k h' tk, Fr h₀ L h' m → News h₀ L h' ((D, listOf us.toArray k) :: news) → (∀ p ∈ news, p.1 < D) → IntsAre us (zipX ns ms) → Q (.ref D) { s₁ with heap := h', toks := tk })
theorem zip_go {l1 l2 : Addr} {xs ys : List Value} {ns ms : List Int} {news : List (Addr × Obj)} {Q : Value → Shared → Prop} (F : Fr h₀ L s.heap m) (N : News h₀ L s.heap news) (hl1 : s.heap.IsList l1 xs.toArray) (hl2 : s.heap.IsList l2 ys.toArray) (hi : IntsAre xs ns) (hj : IntsAre ys ms) (hlen : ns.length = ms.length) (hle : ns.length ≤ 64)
    (h : ∀ D us k h' tk, Fr h₀ L h' m → News h₀ L h' ((D, listOf us.toArray k) :: news) → (∀ p ∈ news, p.1 < D) → IntsAre us (zipX ns ms) → Q (.ref D) { s with heap := h', toks := tk }) :
    wpAny (model prog w) A (call (.type "zip") [.ref l1, .ref l2]) (ZipGo h₀ L Q) E s :=
  zip_call F N hl1 hl2 hi hj hlen hle fun _ _ z => ⟨m, news, ns, ms, z, h⟩
theorem zip_list {iter : PySem.Expr} {a b : Str} {pa pb tp q1 q2 q3 : Pos} {kk : Nat} {scope : Scope} {cl : List (Str × Addr)} {pos : Pos} {Q : Value → Shared → Prop} (_F : Fr h₀ L s.heap m) (hh : A.handled = none)
    (hclos : closureFor scope env = pure cl) (hcell : ∀ y ∈ scope.names, y.2 ≠ .cell) (hkind : scope.kind = .function)
    (hnames : ∀ y ∈ scope.names, y.2 = .local → scope.names.lookup y.1 = some .local) (hxa : scope.names.lookup a = some .local) (hxb : scope.names.lookup b = some .local) (hab : ¬ a = b) (hda : (a == ("__debug__" : Str)) = false) (hdb : (b == ("__debug__" : Str)) = false)
    (h : wpAny (model prog w) A (eval iter env) (ZipGo h₀ L Q) E s)
    (hs : ∀ x, foldedSetIterable iter env x = pure x := by intro _; rfl) :
    wpAny (model prog w) A (eval (.ListComp (.BinOp (.Name a q1) .BitXor (.Name b q2) q3) [⟨.Tuple [.Name a pa, .Name b pb] kk tp, iter, [], 0⟩] scope pos) env) Q E s := by
  rw [eval_ListComp]
  refine wpAny_comprehension_free (use := none) rfl hs hclos hkind hnames (wpAny_mono h (fun xv s₂ h₁ => ?_) fun _ _ e => e)
  obtain ⟨m, news, ns, ms, hz, fin⟩ := h₁
  exact zip_block hh hcell hkind hxa hxb hab hda hdb hz fin
theorem zip_go4 {l1 l2 : Addr} {a0 a1 a2 a3 c0 c1 c2 c3 : Int} {t0 t1 t2 t3 u0 u1 u2 u3 : Tok} {n1 n2 : Nat} {news : List (Addr × Obj)} {Q : Value → Shared → Prop} (F : Fr h₀ L s.heap m) (N : News h₀ L s.heap news)
    (hm1 : (l1, listOf #[.int a0 t0, .int a1 t1, .int a2 t2, .int a3 t3] n1) ∈ news) (hm2 : (l2, listOf #[.int c0 u0, .int c1 u1, .int c2 u2, .int c3 u3] n2) ∈ news)
    (h : ∀ D t0 t1 t2 t3 k h' tk, Fr h₀ L h' m → News h₀ L h' ((D, listOf #[.int (Builtin.bitXor a0 c0) t0, .int (Builtin.bitXor a1 c1) t1, .int (Builtin.bitXor a2 c2) t2, .int (Builtin.bitXor a3 c3) t3] k) :: news) → (∀ p ∈ news, p.1 < D) → Q (.ref D) { s with heap := h', toks := tk }) :
    wpAny (model prog w) A (call (.type "zip") [.ref l1, .ref l2]) (ZipGo h₀ L Q) E s := by
  refine zip_go (xs := [.int a0 t0, .int a1 t1, .int a2 t2, .int a3 t3]) (ys := [.int c0 u0, .int c1 u1, .int c2 u2, .int c3 u3]) (ns := [a0, a1, a2, a3]) (ms := [c0, c1, c2, c3]) F N (News.isList N hm1) (News.isList N hm2)
    (.cons _ _ (.cons _ _ (.cons _ _ (.cons _ _ .nil)))) (.cons _ _ (.cons _ _ (.cons _ _ (.cons _ _ .nil)))) rfl (by show 4 ≤ 64; decide) fun D us k h' tk F' N' l1 hI => ?_
  have hz : zipX [a0, a1, a2, a3] [c0, c1, c2, c3] = [Builtin.bitXor a0 c0, Builtin.bitXor a1 c1, Builtin.bitXor a2 c2, Builtin.bitXor a3 c3] := rfl
  rw [hz] at hI
  match us, hI, N' with
  | _, .cons _ t0 (.cons _ t1 (.cons _ t2 (.cons _ t3 .nil))), N' => exact h D t0 t1 t2 t3 k h' tk F' N' l1
end
end Mine
end

namespace Mine
/-- the fit of the four changes at two places, as the program asks it -/
def Hit (n : Nat) (f0 f1 f2 f3 : Int) (i j : Int) : Prop :=
  (rowOf f2 (2 * (n : Int)).toNat).getD (i + j).toNat 0 = Builtin.bitXor (Builtin.bitXor ((rowOf f1 (n : Int).toNat).getD i.toNat 0) ((rowOf f1 (n : Int).toNat).getD j.toNat 0)) f0 ∧
  (rowOf f3 (2 * (n : Int)).toNat).getD (i + j).toNat 0 = Builtin.bitXor (Builtin.bitXor ((rowOf f2 (2 * (n : Int)).toNat).getD i.toNat 0) ((rowOf f2 (2 * (n : Int)).toNat).getD j.toNat 0)) f1
def HitCtx (_n : Nat) (_f0 _f1 _f2 _f3 : Int) : Prop := True
theorem miss1 {n : Nat} {f0 f1 f2 f3 i j : Int} (h : ¬ (rowOf f2 (2 * (n : Int)).toNat).getD (i + j).toNat 0 = Builtin.bitXor (Builtin.bitXor ((rowOf f1 (n : Int).toNat).getD i.toNat 0) ((rowOf f1 (n : Int).toNat).getD j.toNat 0)) f0) : ¬ Hit n f0 f1 f2 f3 i j := fun k => h k.1
theorem miss2 {n : Nat} {f0 f1 f2 f3 i j : Int} (h : ¬ (rowOf f3 (2 * (n : Int)).toNat).getD (i + j).toNat 0 = Builtin.bitXor (Builtin.bitXor ((rowOf f2 (2 * (n : Int)).toNat).getD i.toNat 0) ((rowOf f2 (2 * (n : Int)).toNat).getD j.toNat 0)) f1) : ¬ Hit n f0 f1 f2 f3 i j := fun k => h k.2
theorem near_all {n : Nat} {f0 f1 f2 f3 i : Int} (h : ∀ k : Int, i + 1 ≤ k → k < i + 1 + ((((n : Int) - (i + 1)).toNat : Nat) : Int) → ¬ Hit n f0 f1 f2 f3 i k) : ∀ k : Int, i < k → k < (n : Int) → ¬ Hit n f0 f1 f2 f3 i k := fun k h1 h2 => h k (by omega) (by omega)

theorem rowOf_getD {x : Int} {n i : Nat} (h : i < n) : (rowOf x n).getD i 0 = rpow i x := by
  rw [List.getD_eq_getElem?_getD]
  simp [rowOf, h]
theorem word_item {x : Int} {n i : Nat} (h : WordI x) : WordI ((rowOf x n).getD i 0) := by
  by_cases hi : i < n
  · rw [rowOf_getD hi]; exact rpow_word h i
  · rw [List.getD_eq_getElem?_getD, List.getElem?_eq_none (by rw [rowOf_length]; omega)]
    exact ⟨by decide, by decide⟩
/-- how many turns the division takes -/
def ocount : Nat → Int → Int → Nat
  | 0, _, _ => 0
  | f + 1, low, high => if 1 < low then ocount f (onext 0 low 0 high).2.1 (onext 0 low 0 high).2.2.2 + 1 else 0
def markX (n : Nat) (i j : Int) : Int := Builtin.bitXor ((rowOf 1 n).getD i.toNat 0) ((rowOf 1 n).getD j.toNat 0)
def kOf (y : Int) : Nat := ocount 150 y 7976584769
theorem pairs_ok : ∀ j : Fin 8, ∀ i : Fin j.val, oends (kOf (Builtin.bitXor (rpow i.val 1) (rpow j.val 1))) (Builtin.bitXor (rpow i.val 1) (rpow j.val 1)) 7976584769 = true := by decide +kernel
theorem over_ok {n : Nat} {i j : Int} (h0 : 0 ≤ i) (h1 : i < j) (h2 : j < (n : Int)) (h3 : n ≤ 8) :
    oends (kOf (Builtin.bitXor ((rowOf 1 (n : Int).toNat).getD i.toNat 0) ((rowOf 1 (n : Int).toNat).getD j.toNat 0))) (Builtin.bitXor ((rowOf 1 (n : Int).toNat).getD i.toNat 0) ((rowOf 1 (n : Int).toNat).getD j.toNat 0)) 7976584769 = true := by
  rw [rowOf_getD (by omega), rowOf_getD (by omega)]
  exact pairs_ok ⟨j.toNat, by omega⟩ ⟨i.toNat, by show i.toNat < j.toNat; omega⟩
/-- the pattern and the mended words, as the program reckons them -/
def patOf (n : Nat) (f0 f1 : Int) (i j : Int) : Int :=
  oo (kOf (Builtin.bitXor ((rowOf 1 (n : Int).toNat).getD i.toNat 0) ((rowOf 1 (n : Int).toNat).getD j.toNat 0)))
    ((rowOf (Builtin.bitXor f0 ((rowOf f1 (n : Int).toNat).getD i.toNat 0)) (j + 1).toNat).getD j.toNat 0)
    (Builtin.bitXor ((rowOf 1 (n : Int).toNat).getD i.toNat 0) ((rowOf 1 (n : Int).toNat).getD j.toNat 0)) 0 7976584769
def mendOf (ws : List Int) (n : Nat) (f0 f1 : Int) (i j : Int) : List Int :=
  flip (flip ws i.toNat (Builtin.bitXor f0 (patOf n f0 f1 i j))) j.toNat (patOf n f0 f1 i j)

section
variable {prog : Program} {w : World} {A : Around} {E : Value → Shared → Prop} {s : Shared} {env : Env} {h₀ : Heap} {body : List Stmt} {Q : Flow → Shared → Prop}
theorem seek_near {r : Addr} {t₀ u₀ v₀ : Tok} {n : Nat} {f0 f1 f2 f3 : Int} {m₀ : Str → Option Value} {news : List (Addr × Obj)} (_hc : HitCtx n f0 f1 f2 f3) (hb : n ≤ 8)
    (hh : A.handled = none) (hr : IsRange s.heap r 0 (n : Int) 1 t₀ u₀ v₀) (F : Fr h₀ env.locals s.heap m₀) (N : News h₀ env.locals s.heap news)
    (turn : ∀ k t u h tk own, 0 ≤ k → k < (n : Int) → OwnOff own (news.map (·.1)) → Fr h₀ env.locals h (fun z => if z = Str.ofString "near" then some (.int k t) else if z = Str.ofString "far" then u else m₀ z) → News h₀ env.locals h (news ++ own) →
      wpAny (model prog w) A (execs body env) (InvPostN h₀ env.locals (fun m' nx => nx = news ∧ (∀ j : Int, k < j → j < (n : Int) → ¬ Hit n f0 f1 f2 f3 k j) ∧ ∀ z, z ≠ Str.ofString "near" → z ≠ Str.ofString "far" → m' z = m₀ z) own (news.map (·.1)) { s with heap := h, toks := tk } Q) E { s with heap := h, toks := tk })
    (done : ∀ u v h tk, (∀ k : Int, 0 ≤ k → k < (n : Int) → ∀ j : Int, k < j → j < (n : Int) → ¬ Hit n f0 f1 f2 f3 k j) → Fr h₀ env.locals h (fun z => if z = Str.ofString "near" then u else if z = Str.ofString "far" then v else m₀ z) → News h₀ env.locals h news → Q .next { s with heap := h, toks := tk }) :
    wpAny (model prog w) A (pyIter (.ref r)) (fun it s₂ => LoopAtV prog w A h₀ env (Str.ofString "near") body Q E it s₂) E s := by
  have e0 : (0 : Int) + (((n : Int) - 0).toNat : Int) = (n : Int) := by omega
  refine seek (Str.ofString "far") (fun k => ∀ j : Int, k < j → j < (n : Int) → ¬ Hit n f0 f1 f2 f3 k j) hh hr (small_one (by omega) (by omega) (by omega) (by omega)) (rangeSize_nat _ _) F N (fun k t u h tk own h1 h2 => turn k t u h tk own h1 (by omega)) (fun u v h tk hp => done u v h tk fun k h1 h2 => hp k h1 (by omega))
theorem seek_far {r : Addr} {a₀ : Int} {t₀ u₀ v₀ : Tok} {n : Nat} {f0 f1 f2 f3 i : Int} {ti : Tok} {m₀ : Str → Option Value} {news : List (Addr × Obj)} (_hc : HitCtx n f0 f1 f2 f3) (hb : n ≤ 8) (h0 : 0 ≤ i) (hin : i < (n : Int)) (_hi : m₀ (Str.ofString "near") = some (.int i ti)) (ha : a₀ = i + 1)
    (hh : A.handled = none) (hr : IsRange s.heap r a₀ (n : Int) 1 t₀ u₀ v₀) (F : Fr h₀ env.locals s.heap m₀) (N : News h₀ env.locals s.heap news)
    (turn : ∀ k t h tk own, i < k → k < (n : Int) → OwnOff own (news.map (·.1)) → Fr h₀ env.locals h (fun z => if z = Str.ofString "far" then some (.int k t) else m₀ z) → News h₀ env.locals h (news ++ own) →
      wpAny (model prog w) A (execs body env) (InvPostN h₀ env.locals (fun m' nx => nx = news ∧ ¬ Hit n f0 f1 f2 f3 i k ∧ ∀ z, z ≠ Str.ofString "far" → m' z = m₀ z) own (news.map (·.1)) { s with heap := h, toks := tk } Q) E { s with heap := h, toks := tk })
    (done : ∀ u h tk, (∀ j : Int, i < j → j < (n : Int) → ¬ Hit n f0 f1 f2 f3 i j) → Fr h₀ env.locals h (fun z => if z = Str.ofString "far" then u else m₀ z) → News h₀ env.locals h news → Q .next { s with heap := h, toks := tk }) :
    wpAny (model prog w) A (pyIter (.ref r)) (fun it s₂ => LoopAtV prog w A h₀ env (Str.ofString "far") body Q E it s₂) E s := by
  subst ha
  have e : ∀ (u v : Option Value), (fun z => if z = Str.ofString "far" then u else if z = Str.ofString "far" then v else m₀ z) = fun z => if z = Str.ofString "far" then u else m₀ z := by
    intro u v
    funext z
    by_cases h1 : z = Str.ofString "far"
    · rw [if_pos h1, if_pos h1]
    · rw [if_neg h1, if_neg h1, if_neg h1]
  refine seek (Str.ofString "far") (fun j => ¬ Hit n f0 f1 f2 f3 i j) hh hr (small_one (by omega) (by omega) (by omega) (by omega)) (rangeSize_nat _ _) F N ?_ ?_
  · intro k t u h tk own h1 h2 h3 F' N'
    rw [e] at F'
    refine wpAny_mono (turn k t h tk own (by omega) (by omega) h3 F' N') (fun f s₂ p => invN_mono p ?_) fun _ _ e => e
    rintro m' nx ⟨a, b, c⟩
    exact ⟨a, b, fun z hz _ => c z hz⟩
  · intro u v h tk hp F' N'
    rw [e] at F'
    exact done u h tk (fun k h1 h2 => hp k (by omega) (by omega)) F' N'
end
end Mine

namespace Mine
theorem news4 {h₀ h : Heap} {L : Addr} {full : List (Addr × Obj)} {a b c d : Addr × Obj} (N : News h₀ L h full) (ha : a ∈ full) (hb : b ∈ full) (hc : c ∈ full) (hd : d ∈ full) : News h₀ L h [a, b, c, d] := by
  intro p hp
  simp only [List.mem_cons, List.not_mem_nil, or_false] at hp
  rcases hp with rfl | rfl | rfl | rfl
  · exact N _ ha
  · exact N _ hb
  · exact N _ hc
  · exact N _ hd
theorem lt3 {D a b c : Addr} {x y z : Obj} (ha : a < D) (hb : b < D) (hc : c < D) : ∀ p ∈ [(a, x), (b, y), (c, z)], p.1 < D := by
  intro p hp
  simp only [List.mem_cons, List.not_mem_nil, or_false] at hp
  rcases hp with rfl | rfl | rfl
  · exact ha
  · exact hb
  · exact hc
section
local macro_rules | `(tactic| walk_at "call ref") => `(tactic| (k_here; (k_dflt (refine' over_use ?k1 ?k2 ?k3 ?k4 ?k5 ?kK ?kd ?ku ?kx ?_; (case k1 => k_asm); (case k2 => k_asm); (case k3 => k_asm); (case k4 => k_asm); (case k5 => k_asm); (case kK => first | exact rfl | assumption); (case kd => ktr_room); (case ku => ktr_units); (case kx => exact over_ok (by assumption) (by assumption) (by assumption) (by omega))); intro t9 h9 tk9 F9 N9; (try dsimp only); (try k_fold))))
local macro_rules | `(tactic| walk_at "call ref") => `(tactic| (k_here; (k_dflt (refine' sums_use ?k1 ?k2 ?k3 ?k4 ?k5 ?kK ?kd ?ku ?km ?ki ?_; (case k1 => k_asm); (case k2 => k_asm); (case k3 => k_asm); (case k4 => k_asm); (case k5 => k_asm); (case kK => first | exact rfl | assumption); (case kd => ktr_room); (case ku => ktr_units); (case km => k_mem); (case ki => assumption)); intro D9 t90 t91 t92 t93 k9 h9 tk9 F9 N9 l1; (try k_lt l1); (try dsimp only); (try k_fold))))
local macro_rules | `(tactic| walk_at "call ref") => `(tactic| (k_here; (k_dflt (refine' row_use ?k1 ?k2 ?k3 ?k4 ?k5 ?kK ?kd ?ku ?kx ?ky ?_; (case k1 => k_asm); (case k2 => k_asm); (case k3 => k_asm); (case k4 => k_asm); (case k5 => k_asm); (case kK => first | exact rfl | assumption); (case kd => ktr_room); (case ku => ktr_units); (case kx => first | assumption | exact X_word (by assumption) (word_item (by assumption)) | exact ⟨by decide, by decide⟩); (case ky => omega)); intro D9 us9 k9 h9 tk9 F9 N9 l1 hI9 hl9; (try k_lt l1); (try dsimp only); (try k_fold))))
local macro_rules | `(tactic| walk_at "eval ListComp") => `(tactic| (k_here; ((rename Fr _ _ _ _ => lF'); (k_dflt (refine zip_list lF' (by rfl) (by rfl) (by decide) (by rfl) (by decide) (by rfl) (by rfl) (by decide) (by decide) (by decide) ?_)))))
local macro_rules | `(tactic| walk_at "call type:zip") => `(tactic| (k_here; ((rename Fr _ _ _ _ => lF'); (rename News _ _ _ _ => lN'); (k_dflt (refine' zip_go4 lF' lN' (by k_mem) (by k_mem) ?_)); clear lF' lN'; intro D' t0' t1' t2' t3' k' h' tk' F' N' l1; (rename Builtin.bitXor _ (hsum 0 _) = _ => z0); (rename Builtin.bitXor _ (hsum 1 _) = _ => z1); (rename Builtin.bitXor _ (hsum 2 _) = _ => z2); (rename Builtin.bitXor _ (hsum 3 _) = _ => z3); (rw [z0, z1, z2, z3] at N'); (try k_lt l1))))
local macro_rules | `(tactic| walk_at "call builtin:len") => `(tactic| (k_here; (with_reducible show wpAny _ _ (call (Value.builtin _) [Value.ref _]) _ _ _); (rename News _ _ _ _ => lN'); (with_unfolding_all refine' len_vals (News.isList lN' (by k_mem)) ?k2 ?_; (case k2 => omega))))
local macro_rules | `(tactic| walk_at "binaryOp Mult int int") => `(tactic| (k_here; (with_reducible refine mul_int ?_ ?hm); (case hm => exact IntMulOk.of_left (by decide +kernel))))
local macro_rules | `(tactic| walk_at "exec For Name Call cons nil") => `(tactic| (k_of "near" "far" => kpr_for))
local macro_rules | `(tactic| walk_at "pyIter ref") => `(tactic| (k_of "near" => ((rename Fr _ _ _ _ => lF'); (rename News _ _ _ _ => lN'); (rename IsRange _ _ _ _ _ _ _ _ => rgX); (with_unfolding_all refine' seek_near (by assumption) ?hb (by rfl) rgX lF' lN' (fun k' t' u' h' tk' own' hlo' hhi' hoff' F' N' => ?_) (fun u' v' h' tk' hP' F' N' => ?_)); (case hb => omega); (all_goals (try clear lF' lN')); (all_goals (try simp only [List.nil_append, List.cons_append, List.append_nil] at N')); (all_goals (try k_fold)))))
local macro_rules | `(tactic| walk_at "pyIter ref") => `(tactic| (k_of "far" => ((rename Fr _ _ _ _ => lF'); (rename News _ _ _ _ => lN'); (rename IsRange _ _ _ _ _ _ _ _ => rgX); (with_unfolding_all refine' seek_far (by assumption) ?hb (by assumption) (by assumption) (by rfl) (by rfl) (by rfl) rgX lF' lN' (fun k' t' h' tk' own' hlo' hhi' hoff' F' N' => ?_) (fun u' h' tk' hP' F' N' => ?_)); (case hb => omega); (all_goals (try clear lF' lN')); (all_goals (try simp only [List.nil_append, List.cons_append, List.append_nil] at N')); (all_goals (try k_fold)))))
local macro_rules | `(tactic| walk_at "InvEndN") => `(tactic| (((refine InvEndN.intro (by assumption) (by assumption) ⟨rfl, ?kp, ?ks⟩ (by rfl) (by (with_unfolding_all ((try simp only [List.nil_append, List.cons_append]); kst_allIn))) (by (intro p hp; with_unfolding_all first | k_ownIn | kst_mem))); (case kp => first | assumption | exact miss1 (by assumption) | exact miss2 (by assumption)); (case ks => first | (intro z h1; simp [h1]; done) | (intro z h1 h2; simp [h1, h2]; done)))))
local macro_rules | `(tactic| walk_at "subscriptTail") => `(tactic| (k_here; ((rename News _ _ _ _ => lN'); (with_unfolding_all refine' ksa_sub lN' (by k_mem) ?hi ?h0 ?h1 ?h2 (fun t' => ?_) ?h3); (case hi => assumption); (case h0 => omega); (case h1 => rw [rowOf_length]; omega); (case h2 => omega); (case h3 => with_unfolding_all rfl))))
local macro_rules | `(tactic| walk_at "getItem ref int") => `(tactic| (k_here; ((rename News _ _ _ _ => lN'); (with_unfolding_all refine' ksa_get lN' ?hmm ?hii ?h0 ?h1 ?h2 (fun t' => ?_)); (case hmm => with_unfolding_all k_mem); (case hii => assumption); (case h0 => omega); (case h1 => (try rw [List.length_set]); omega); (case h2 => omega))))
local macro_rules | `(tactic| walk_at "setItem ref int int") => `(tactic| (k_here; ((rename Fr _ _ _ _ => lF'); (rename News _ _ _ _ => lN'); (with_unfolding_all refine' ksa_set lF' lN' ?hU ?hii ?h0 ?h1 ?h2 (fun h' F' N' hI' hj1 hj2 => ?_)); (case hU => k_upd); (case hii => assumption); clear lF' lN'; (case h0 => omega); (case h1 => (try rw [List.length_set]); omega); (case h2 => omega))))
set_option maxRecDepth 100000 in
set_option maxHeartbeats 8000000 in
theorem mended_use {w : World} {mean : ExcName → Option Value} {mg mb : Str → Option Value} {lt lw lr : Addr} {us vs : List Value} {ws : List Int} {ct c cr : Nat} {b0 b1 b2 b3 f0 f1 f2 f3 : Int} {t0 t1 t2 t3 : Tok} {dp un : Nat} {gd : Option (List Code)} {cn : Str} {cs : Scope} {a : Addr} {ccd : Value} {cl : List (Str × Addr)} {outer : List Env} {A₀ : Around} {base h₀ : Heap} {L : Addr} {m : Str → Option Value} {s : Shared} {Q E : Value → Shared → Prop}
    (k1 : Below A₀ base outer h₀) (k2 : Fr h₀ L s.heap m) (k3 : (hd_01.heap_39 w.params).In h₀) (k4 : News h₀ L s.heap [(lt, listOf #[.int b0 t0, .int b1 t1, .int b2 t2, .int b3 t3] ct), (lw, listOf us.toArray c), (lr, listOf vs.toArray cr)]) (k5 : Top hd_01.view_39 (looseW hd_01.view_39 []) mean mg mb h₀) (kK : cs.kind = .function) (kd : dp + 6 < recursionLimit) (ku : un + 64 < cLine)
    (hu : IntsAre us ws) (hn : 3 ≤ us.length ∧ us.length ≤ 8) (hc : HitCtx us.length f0 f1 f2 f3)
    (e0 : Builtin.bitXor b0 (hsum 0 ws) = f0) (e1 : Builtin.bitXor b1 (hsum 1 ws) = f1) (e2 : Builtin.bitXor b2 (hsum 2 ws) = f2) (e3 : Builtin.bitXor b3 (hsum 3 ws) = f3)
    (w0 : WordI f0) (w1 : WordI f1) (w2 : WordI f2) (w3 : WordI f3)
    (hex : ∃ i j : Int, 0 ≤ i ∧ i < j ∧ j < (us.length : Int) ∧ Hit us.length f0 f1 f2 f3 i j)
    (hret : ∀ (i j : Int) D zs k h' tk', 0 ≤ i → i < j → j < (us.length : Int) → Hit us.length f0 f1 f2 f3 i j → Fr h₀ L h' m → News h₀ L h' ((D, listOf zs.toArray k) :: [(lt, listOf #[.int b0 t0, .int b1 t1, .int b2 t2, .int b3 t3] ct), (lw, listOf us.toArray c), (lr, listOf vs.toArray cr)]) → (∀ p ∈ [(lt, listOf #[.int b0 t0, .int b1 t1, .int b2 t2, .int b3 t3] ct), (lw, listOf us.toArray c), (lr, listOf vs.toArray cr)], p.1 < D) → IntsAre zs (mendOf ws us.length f0 f1 i j) → Q (.ref D) { s with heap := h', toks := tk' }) :
    wpAny (model PySem.Challenge.rw_sr0103_01.row.prog w) (ktrTop dp un gd cn cs L a ccd cl outer) (call (.ref 54) [.ref lw, .ref lt]) Q E s := by
  have hws : us.length = ws.length := hu.length
  w_top off
  revert k3; k_fill; intro k3
  refine wpAny_call ?_
  (k_dflt cell_enter)
  k_steps
  all_goals (try (exfalso; obtain ⟨i, j, h1, h2, h3, h4⟩ := hex; rename (∀ k : Int, 0 ≤ k → k < _ → ∀ j : Int, k < j → j < _ → ¬ Hit _ _ _ _ _ k j) => hP; exact hP i h1 (by omega) j h2 h3 h4))
  (rename News _ _ _ _ => nE')
  (rename _ ∧ _ => l9)
  (with_unfolding_all refine hret ?i ?j _ ?zs ?k _ _ ?a ?b ?c ?d ?e (news4 nE' ?m0 ?m1 ?m2 ?m3) (lt3 l9.2.2.2.2.2.2.2.1 l9.2.2.2.2.2.2.2.2.1 l9.2.2.2.2.2.2.2.2.2.1) ?hI)
  case m0 => exact List.mem_cons_self
  case hI => with_unfolding_all assumption
  case a => assumption
  case b => assumption
  case c => assumption
  case d => exact ⟨by assumption, by assumption⟩
  case e => assumption
  case m1 => k_mem
  case m2 => k_mem
  case m3 => k_mem
end
end Mine

namespace Mine
/-! the plain law: words as a space over two elements -/
theorem word_zero : WordI 0 := ⟨by decide, by decide⟩
theorem word_one : WordI 1 := ⟨by decide, by decide⟩
theorem rstep_X {a b : Int} (ha : WordI a) (hb : WordI b) : rstep (X a b) = X (rstep a) (rstep b) := by
  have h := gstep_X (rstep a) (rstep b)
  rw [gstep_rstep, gstep_rstep] at h
  rw [← h, rstep_gstep (X_word (rstep_word ha) (rstep_word hb))]
theorem rstep_zero : rstep 0 = 0 := by decide +kernel
theorem raised_X {a b : Int} (ha : WordI a) (hb : WordI b) : raised (X a b) = X (raised a) (raised b) := by
  have h := genCrc_X (raised a) (raised b)
  rw [genCrc_raised, genCrc_raised] at h
  rw [← h, raised_genCrc (X_word (raised_word ha) (raised_word hb))]
theorem gpow_word {x : Int} (h : WordI x) : ∀ k, WordI (gpow k x)
  | 0 => h
  | k + 1 => genCrc_word (gpow_word h k)
theorem gpow_X : ∀ (k : Nat) (x y : Int), gpow k (X x y) = X (gpow k x) (gpow k y)
  | 0, _, _ => rfl
  | k + 1, x, y => by show genCrc (gpow k (X x y)) = _; rw [gpow_X k, genCrc_X]; rfl
theorem rpow_X {x y : Int} (hx : WordI x) (hy : WordI y) : ∀ k : Nat, rpow k (X x y) = X (rpow k x) (rpow k y)
  | 0 => rfl
  | k + 1 => by show raised (rpow k (X x y)) = _; rw [rpow_X hx hy k, raised_X (rpow_word hx k) (rpow_word hy k)]; rfl
theorem gpow_add (a : Nat) (x : Int) : ∀ b : Nat, gpow (a + b) x = gpow b (gpow a x)
  | 0 => rfl
  | b + 1 => congrArg genCrc (gpow_add a x b)
theorem rpow_add (a : Nat) (x : Int) : ∀ b : Nat, rpow (a + b) x = rpow b (rpow a x)
  | 0 => rfl
  | b + 1 => congrArg raised (rpow_add a x b)
theorem rpow_comm (a b : Nat) (x : Int) : rpow a (rpow b x) = rpow b (rpow a x) := by rw [← rpow_add, ← rpow_add, Nat.add_comm]
theorem rpow_succ' (k : Nat) (x : Int) : rpow (k + 1) x = rpow k (raised x) := by rw [Nat.add_comm]; exact rpow_add 1 x k
theorem rpow_gpow {x : Int} (h : WordI x) : ∀ k : Nat, rpow k (gpow k x) = x
  | 0 => rfl
  | k + 1 => by
    rw [rpow_succ']
    show rpow k (raised (genCrc (gpow k x))) = x
    rw [raised_genCrc (gpow_word h k), rpow_gpow h k]
theorem gpow_rpow (x : Int) : ∀ k : Nat, gpow k (rpow k x) = x
  | 0 => rfl
  | k + 1 => by
    rw [gpow_succ']
    show gpow k (genCrc (raised (rpow k x))) = x
    rw [genCrc_raised, gpow_rpow x k]
theorem gpow_zero : ∀ k : Nat, gpow k 0 = 0
  | 0 => rfl
  | k + 1 => by show genCrc (gpow k 0) = 0; rw [gpow_zero k, genCrc_zero]
theorem raised_zero : raised 0 = 0 := by decide +kernel
theorem rpow_zero : ∀ k : Nat, rpow k 0 = 0
  | 0 => rfl
  | k + 1 => by show raised (rpow k 0) = 0; rw [rpow_zero k, raised_zero]
theorem rpow_gpow_comm {x : Int} (h : WordI x) (a b : Nat) : rpow a (gpow b x) = gpow b (rpow a x) := by
  have h1 : rpow a x = rpow b (rpow a (gpow b x)) := by rw [rpow_comm, rpow_gpow h]
  rw [h1, gpow_rpow]

/-! a number as a polynomial in the step, upon a word -/
def ap : Nat → Int → Int → Int
  | 0, _, _ => 0
  | n + 1, c, z => X (if c % 2 = 1 then z else 0) (rstep (ap n (c / 2) z))
theorem ap_word {z : Int} (h : WordI z) : ∀ (n : Nat) (c : Int), WordI (ap n c z)
  | 0, _ => word_zero
  | n + 1, c => by
    show WordI (X _ _)
    refine X_word ?_ (rstep_word (ap_word h n _))
    split
    · exact h
    · exact word_zero
theorem ap_zero (z : Int) : ∀ n : Nat, ap n 0 z = 0
  | 0 => rfl
  | n + 1 => by
    show X (if (0 : Int) % 2 = 1 then z else 0) (rstep (ap n (0 / 2) z)) = 0
    rw [if_neg (by decide), show (0 : Int) / 2 = 0 from rfl, ap_zero z n, rstep_zero, X_self]
theorem ap_more {z : Int} : ∀ (n : Nat) (c : Int), 0 ≤ c → c < 2 ^ n → ap (n + 1) c z = ap n c z
  | 0, c, h0, h1 => by
    have : c = 0 := by simp at h1; omega
    rw [this, ap_zero, ap_zero]
  | n + 1, c, h0, h1 => by
    have hc : c / 2 < 2 ^ n := by rw [Int.pow_succ] at h1; omega
    have e := ap_more (z := z) n (c / 2) (by omega) hc
    show X _ (rstep (ap (n + 1) (c / 2) z)) = X _ (rstep (ap n (c / 2) z))
    rw [e]
theorem ap_X {z : Int} (h : WordI z) : ∀ (n : Nat) (c d : Int), ap n (X c d) z = X (ap n c z) (ap n d z)
  | 0, _, _ => (X_self 0).symm
  | n + 1, c, d => by
    show X (if X c d % 2 = 1 then z else 0) (rstep (ap n (X c d / 2) z)) = X (X (if c % 2 = 1 then z else 0) (rstep (ap n (c / 2) z))) (X (if d % 2 = 1 then z else 0) (rstep (ap n (d / 2) z)))
    rw [X_half, ap_X h n, rstep_X (ap_word h n _) (ap_word h n _), X_mod]
    have e : (if (c % 2 + d % 2) % 2 = 1 then z else 0) = X (if c % 2 = 1 then z else 0) (if d % 2 = 1 then z else 0) := by
      have hc : c % 2 = 0 ∨ c % 2 = 1 := by omega
      have hd : d % 2 = 0 ∨ d % 2 = 1 := by omega
      rcases hc with hc | hc <;> rcases hd with hd | hd <;> simp only [hc, hd] <;> simp [X_self, X_zero, zero_X]
    rw [e]
    generalize (if c % 2 = 1 then z else 0) = p
    generalize (if d % 2 = 1 then z else 0) = q
    rw [X_assoc, X_assoc, X_left q]
theorem ap_double {z : Int} (n : Nat) (c : Int) : ap (n + 1) (c * 2) z = rstep (ap n c z) := by
  show X (if c * 2 % 2 = 1 then z else 0) (rstep (ap n (c * 2 / 2) z)) = _
  rw [if_neg (by omega), show c * 2 / 2 = c by omega, zero_X]
/-- linear in the word -/
theorem ap_add {y z : Int} (hy : WordI y) (hz : WordI z) : ∀ (n : Nat) (c : Int), ap n c (X y z) = X (ap n c y) (ap n c z)
  | 0, _ => (X_self 0).symm
  | n + 1, c => by
    show X (if c % 2 = 1 then X y z else 0) (rstep (ap n (c / 2) (X y z))) = X (X (if c % 2 = 1 then y else 0) (rstep (ap n (c / 2) y))) (X (if c % 2 = 1 then z else 0) (rstep (ap n (c / 2) z)))
    rw [ap_add hy hz n, rstep_X (ap_word hy n _) (ap_word hz n _)]
    by_cases hc : c % 2 = 1
    · rw [if_pos hc, if_pos hc, if_pos hc, X_assoc, X_assoc, X_left z]
    · rw [if_neg hc, if_neg hc, if_neg hc, zero_X, zero_X, zero_X]
theorem ap_rstep {z : Int} (hz : WordI z) : ∀ (n : Nat) (c : Int), ap n c (rstep z) = rstep (ap n c z)
  | 0, _ => rstep_zero.symm
  | n + 1, c => by
    show X (if c % 2 = 1 then rstep z else 0) (rstep (ap n (c / 2) (rstep z))) = rstep (X (if c % 2 = 1 then z else 0) (rstep (ap n (c / 2) z)))
    rw [ap_rstep hz n]
    by_cases hc : c % 2 = 1
    · rw [if_pos hc, if_pos hc, rstep_X hz (rstep_word (ap_word hz n _))]
    · rw [if_neg hc, if_neg hc, zero_X, zero_X]
theorem ap_zero_word : ∀ (n : Nat) (c : Int), ap n c 0 = 0
  | 0, _ => rfl
  | n + 1, c => by
    show X (if c % 2 = 1 then (0 : Int) else 0) (rstep (ap n (c / 2) 0)) = 0
    rw [ap_zero_word n, rstep_zero]
    split <;> exact X_self 0
theorem ap_comm {z : Int} (hz : WordI z) (m : Nat) (d : Int) : ∀ (n : Nat) (c : Int), ap m d (ap n c z) = ap n c (ap m d z)
  | 0, _ => ap_zero_word m d
  | n + 1, c => by
    show ap m d (X (if c % 2 = 1 then z else 0) (rstep (ap n (c / 2) z))) = X (if c % 2 = 1 then ap m d z else 0) (rstep (ap n (c / 2) (ap m d z)))
    rw [ap_add (by split; exact hz; exact word_zero) (rstep_word (ap_word hz n _)), ap_rstep (ap_word hz n _), ap_comm hz m d n]
    by_cases hc : c % 2 = 1
    · rw [if_pos hc, if_pos hc]
    · rw [if_neg hc, if_neg hc, ap_zero_word]
theorem X_odd {c : Int} (h : c % 2 = 1) : X 1 (c / 2 * 2) = c := by
  have h1 := X_half 1 (c / 2 * 2)
  have h2 := X_mod 1 (c / 2 * 2)
  rw [show (1 : Int) / 2 = 0 from rfl, zero_X] at h1
  omega
theorem ap_one : ∀ (n : Nat) (c : Int), n ≤ 32 → 0 ≤ c → c < 2 ^ n → ap n c 1 = c
  | 0, c, _, h0, h1 => by
    have : c = 0 := by simp at h1; omega
    rw [this]; rfl
  | n + 1, c, hn, h0, h1 => by
    have hc : c / 2 < 2 ^ n := by rw [Int.pow_succ] at h1; omega
    have hp : (2 : Int) ^ n ≤ 2 ^ 31 := by
      have : (2 : Nat) ^ n ≤ 2 ^ 31 := Nat.pow_le_pow_right (by decide) (by omega)
      exact_mod_cast this
    have hb : c / 2 < 2147483648 := Int.lt_of_lt_of_le hc hp
    show X (if c % 2 = 1 then (1 : Int) else 0) (rstep (ap n (c / 2) 1)) = c
    have er : rstep (c / 2) = c / 2 * 2 := by rw [rstep_eq, if_neg (by omega)]
    rw [ap_one n (c / 2) (by omega) (by omega) hc, er]
    by_cases h : c % 2 = 1
    · rw [if_pos h, X_odd h]
    · rw [if_neg h, zero_X]; omega
theorem ap_poly_one : ap 33 7976584769 1 = 0 := by decide +kernel
theorem ap_poly {z : Int} (hz : WordI z) : ap 33 7976584769 z = 0 := by
  have e : z = ap 32 z 1 := (ap_one 32 z (Nat.le_refl _) hz.1 hz.2).symm
  rw [e, ap_comm word_one, ap_poly_one, ap_zero_word]
theorem ap_id {z : Int} : ap 33 1 z = z := by
  rw [ap_more 32 1 (by decide) (by decide)]
  show X (if (1 : Int) % 2 = 1 then z else 0) (rstep (ap 31 (1 / 2) z)) = z
  rw [if_pos (by decide), show (1 : Int) / 2 = 0 from rfl, ap_zero, rstep_zero, X_zero]
theorem ap_up {c z : Int} (hc : WordI c) (hz : WordI z) : ap 33 (rstep c) z = rstep (ap 33 c z) := by
  have h2 : ap 33 (c * 2) z = rstep (ap 33 c z) := by
    rw [ap_double 32, ap_more 32 c hc.1 hc.2]
  rw [rstep_eq]
  split
  · rw [ap_X hz, ap_poly hz, X_zero, h2]
  · exact h2
theorem ap_raised {c z : Int} (hc : WordI c) (hz : WordI z) : ap 33 (raised c) z = raised (ap 33 c z) := by
  have a1 := rstep_word hc
  have a2 := rstep_word a1
  have a3 := rstep_word a2
  have a4 := rstep_word a3
  have a5 := rstep_word a4
  have a6 := rstep_word a5
  have a7 := rstep_word a6
  rw [raised_eq, raised_eq, ap_up a7 hz, ap_up a6 hz, ap_up a5 hz, ap_up a4 hz, ap_up a3 hz, ap_up a2 hz, ap_up a1 hz, ap_up hc hz]
theorem ap_rpow {z : Int} (hz : WordI z) : ∀ k : Nat, ap 33 (rpow k 1) z = rpow k z
  | 0 => ap_id
  | k + 1 => by
    show ap 33 (raised (rpow k 1)) z = raised (rpow k z)
    rw [ap_raised (rpow_word word_one k) hz, ap_rpow hz k]

/-! the division -/
def oone : Nat → Int → Int → Bool
  | 0, low, _ => decide (low = 1)
  | k + 1, low, high => decide (1 < low) && oone k (onext 0 low 0 high).2.1 (onext 0 low 0 high).2.2.2
theorem pairs_one : ∀ j : Fin 8, ∀ i : Fin j.val, oone (kOf (Builtin.bitXor (rpow i.val 1) (rpow j.val 1))) (Builtin.bitXor (rpow i.val 1) (rpow j.val 1)) 7976584769 = true := by decide +kernel
def Wide33 (x : Int) : Prop := 0 ≤ x ∧ x < 8589934592
theorem X_wide {x y : Int} (hx : Wide33 x) (hy : Wide33 y) : Wide33 (X x y) := by
  unfold Wide33 at *
  have h := X_nonneg hx.1 hy.1
  have := Nat.xor_lt_two_pow (x := x.toNat) (y := y.toNat) (n := 33) (by omega) (by omega)
  rw [h]
  omega
theorem halve_eq (one : Int) : (Builtin.bitXor one (7976584769 * Builtin.bitAnd one 1)).fdiv (2 ^ Int.toNat 1) = gstep one := by
  rw [fdiv_two, bitAnd_m1]
  show X one (7976584769 * (one % 2)) / 2 = _
  rw [X_half, gstep_eq]
  by_cases h : one % 2 = 1
  · rw [if_pos h, h]; rfl
  · rw [if_neg h, show one % 2 = 0 by omega]
    show X (one / 2) 0 = _
    exact X_zero _
theorem oo_eq {z : Int} (hz : WordI z) : ∀ (K : Nat) (low high : Int), Wide33 low → Wide33 high → oone K low high = true → oo K (ap 33 low z) low (ap 33 high z) high = z
  | 0, low, high, _, _, h => by
    have h1 : low = 1 := of_decide_eq_true h
    show ap 33 low z = z
    rw [h1, ap_id]
  | K + 1, low, high, hl, hh, h => by
    have h' : 1 < low ∧ oone K (onext 0 low 0 high).2.1 (onext 0 low 0 high).2.2.2 = true := by
      simpa only [oone, Bool.and_eq_true, decide_eq_true_eq] using h
    obtain ⟨hlow, h'⟩ := h'
    show oo K (onext (ap 33 low z) low (ap 33 high z) high).1 (onext (ap 33 low z) low (ap 33 high z) high).2.1 (onext (ap 33 low z) low (ap 33 high z) high).2.2.1 (onext (ap 33 low z) low (ap 33 high z) high).2.2.2 = z
    by_cases h1 : Builtin.bitAnd low 1 = 0
    · rw [onext_even h1] at h' ⊢
      dsimp only at h' ⊢
      have e2 : low % 2 = 0 := by rw [← bitAnd_m1]; exact h1
      have hb : low / 2 < 4294967296 := by unfold Wide33 at hl; omega
      have h0 : 0 ≤ low / 2 := by unfold Wide33 at hl; omega
      rw [fdiv_two] at h'
      have e : gstep (ap 33 low z) = ap 33 (low / 2) z := by
        have e3 : low = low / 2 * 2 := by omega
        have e4 : ap 33 low z = rstep (ap 32 (low / 2) z) := by
          conv => lhs; rw [e3]
          exact ap_double 32 (low / 2)
        rw [e4, gstep_rstep]
        exact (ap_more 32 (low / 2) h0 hb).symm
      rw [halve_eq, e, fdiv_two]
      exact oo_eq hz K _ _ ⟨h0, by omega⟩ hh h'
    · by_cases h2 : low < high
      · rw [onext_swap h1 h2] at h' ⊢
        exact oo_eq hz K _ _ hh hl h'
      · rw [onext_xor h1 h2] at h' ⊢
        dsimp only at h' ⊢
        have e : Builtin.bitXor (ap 33 low z) (ap 33 high z) = ap 33 (X low high) z := (ap_X hz 33 low high).symm
        rw [e]
        exact oo_eq hz K _ _ (X_wide hl hh) hh h'
theorem over_eq {i j : Nat} (h1 : i < j) (h2 : j < 8) {z : Int} (hz : WordI z) :
    oo (kOf (Builtin.bitXor (rpow i 1) (rpow j 1))) (X (rpow i z) (rpow j z)) (Builtin.bitXor (rpow i 1) (rpow j 1)) 0 7976584769 = z := by
  have ho := pairs_one ⟨j, h2⟩ ⟨i, h1⟩
  dsimp only at ho
  have hw : WordI (X (rpow i 1) (rpow j 1)) := X_word (rpow_word word_one i) (rpow_word word_one j)
  have e := oo_eq hz (kOf (X (rpow i 1) (rpow j 1))) (X (rpow i 1) (rpow j 1)) 7976584769 ⟨hw.1, by have := hw.2; omega⟩ ⟨by decide, by decide⟩ ho
  rw [ap_poly hz, ap_X hz, ap_rpow hz, ap_rpow hz] at e
  exact e
theorem inj_lt {i j : Nat} (h1 : i < j) (h2 : j < 8) {z : Int} (hz : WordI z) (h : X (rpow i z) (rpow j z) = 0) : z = 0 := by
  have a := over_eq h1 h2 hz
  have b := over_eq h1 h2 word_zero
  rw [rpow_zero, rpow_zero, X_self] at b
  rw [h, b] at a
  exact a.symm
theorem inj_ne {i j : Nat} (h : i ≠ j) (hi : i < 8) (hj : j < 8) {z : Int} (hz : WordI z) (e : X (rpow i z) (rpow j z) = 0) : z = 0 := by
  rcases Nat.lt_or_gt_of_ne h with h | h
  · exact inj_lt h hj hz e
  · rw [X_comm] at e; exact inj_lt h hi hz e
end Mine

namespace Mine
/-! flips of a list -/
def Words (ws : List Int) : Prop := ∀ x ∈ ws, WordI x
theorem getD_word {ws : List Int} (h : Words ws) (p : Nat) : WordI (ws.getD p 0) := by
  rw [List.getD_eq_getElem?_getD]
  by_cases hp : p < ws.length
  · rw [List.getElem?_eq_getElem hp]; exact h _ (List.getElem_mem hp)
  · rw [List.getElem?_eq_none (by omega)]; exact word_zero
theorem flip_length (ws : List Int) (p : Nat) (a : Int) : (flip ws p a).length = ws.length := List.length_set
theorem flip_words {ws : List Int} (h : Words ws) (p : Nat) {a : Int} (ha : WordI a) : Words (flip ws p a) := by
  intro x hx
  rcases List.mem_or_eq_of_mem_set hx with h1 | h1
  · exact h x h1
  · rw [h1]; exact X_word (getD_word h p) ha
theorem getD_flip {ws : List Int} (p : Nat) (a : Int) (k : Nat) (hk : k < ws.length) : (flip ws p a).getD k 0 = if k = p then X (ws.getD k 0) a else ws.getD k 0 := by
  unfold flip
  rw [List.getD_eq_getElem?_getD, List.getElem?_set]
  by_cases h : p = k
  · subst h; rw [if_pos rfl, if_pos hk, if_pos rfl]; rfl
  · rw [if_neg h, if_neg (Ne.symm h), List.getD_eq_getElem?_getD]
theorem list_ext_getD {as bs : List Int} (hl : as.length = bs.length) (h : ∀ k, k < as.length → as.getD k 0 = bs.getD k 0) : as = bs := by
  refine List.ext_getElem hl fun k h1 h2 => ?_
  have := h k h1
  rw [List.getD_eq_getElem?_getD, List.getD_eq_getElem?_getD, List.getElem?_eq_getElem h1, List.getElem?_eq_getElem h2] at this
  exact this
theorem flip_zero (ws : List Int) (p : Nat) : flip ws p 0 = ws := by
  refine list_ext_getD (flip_length ..) fun k hk => ?_
  rw [flip_length] at hk
  rw [getD_flip p 0 k hk]
  split
  · exact X_zero _
  · rfl
theorem flip_flip (ws : List Int) (p : Nat) (a b : Int) : flip (flip ws p a) p b = flip ws p (X a b) := by
  refine list_ext_getD (by rw [flip_length, flip_length, flip_length]) fun k hk => ?_
  rw [flip_length, flip_length] at hk
  rw [getD_flip p b k (by rw [flip_length]; exact hk), getD_flip p a k hk, getD_flip p _ k hk]
  split
  · exact X_assoc _ _ _
  · rfl
theorem flip_comm (ws : List Int) (p q : Nat) (a b : Int) : flip (flip ws p a) q b = flip (flip ws q b) p a := by
  refine list_ext_getD (by rw [flip_length, flip_length, flip_length, flip_length]) fun k hk => ?_
  rw [flip_length, flip_length] at hk
  rw [getD_flip q b k (by rw [flip_length]; exact hk), getD_flip p a k hk, getD_flip p a k (by rw [flip_length]; exact hk), getD_flip q b k hk]
  by_cases h1 : k = p
  · by_cases h2 : k = q
    · simp only [if_pos h1, if_pos h2]
      rw [X_assoc, X_assoc, X_comm a b]
    · simp only [if_pos h1, if_neg h2]
  · by_cases h2 : k = q
    · simp only [if_neg h1, if_pos h2]
    · simp only [if_neg h1, if_neg h2]
theorem hsum_cons (k : Nat) (w : Int) (r : List Int) : hsum k (w :: r) = X (gpow k (hsum k r)) w := rfl
theorem flip_cons_zero (w : Int) (r : List Int) (a : Int) : flip (w :: r) 0 a = X w a :: r := rfl
theorem flip_cons_succ (w : Int) (r : List Int) (p : Nat) (a : Int) : flip (w :: r) (p + 1) a = w :: flip r p a := rfl
theorem hsum_flip (k : Nat) (a : Int) : ∀ (ws : List Int) (p : Nat), p < ws.length → hsum k (flip ws p a) = X (hsum k ws) (gpow (k * p) a)
  | [], _, h => by simp at h
  | w :: r, 0, _ => by
    rw [flip_cons_zero, hsum_cons, hsum_cons, Nat.mul_zero]
    show X _ (X w a) = X (X _ w) a
    rw [X_assoc]
  | w :: r, p + 1, h => by
    rw [flip_cons_succ, hsum_cons, hsum_cons, hsum_flip k a r p (by simpa using h), gpow_X, ← gpow_add, Nat.mul_succ, X_assoc, X_assoc, X_comm w]

/-! the tests -/
/-- what an error at a place brings to a test -/
def dev (i j p : Nat) (a : Int) : Int := X (rpow (i + j) (gpow (2 * p) a)) (X (X (rpow i (gpow p a)) (rpow j (gpow p a))) a)
def duo (i p : Nat) (x : Int) : Int := X (rpow i x) (rpow p x)
theorem duo_word {x : Int} (h : WordI x) (i p : Nat) : WordI (duo i p x) := X_word (rpow_word h i) (rpow_word h p)
theorem duo_zero (i p : Nat) : duo i p 0 = 0 := by unfold duo; rw [rpow_zero, rpow_zero, X_self]
theorem duo_same (p : Nat) (x : Int) : duo p p x = 0 := X_self _
theorem X_word_l {x y : Int} (hx : WordI x) (hy : WordI y) : WordI (X x y) := X_word hx hy
theorem dev_eq {a : Int} (ha : WordI a) (i j p : Nat) : dev i j p a = duo i p (duo j p (gpow (2 * p) a)) := by
  have hc := gpow_word ha (2 * p)
  have e1 : gpow p a = rpow p (gpow (2 * p) a) := by
    rw [Nat.two_mul, gpow_add, rpow_gpow (gpow_word ha p)]
  have e2 : a = rpow p (rpow p (gpow (2 * p) a)) := by
    rw [← e1, rpow_gpow ha]
  unfold dev duo
  conv => lhs; rw [e1]; rhs; rhs; rw [e2]
  generalize gpow (2 * p) a = c at hc
  rw [rpow_X (rpow_word hc _) (rpow_word hc _), rpow_X (rpow_word hc _) (rpow_word hc _), Nat.add_comm i j, rpow_add, rpow_comm p j c, X_assoc, X_assoc]
theorem dev_word {a : Int} (ha : WordI a) (i j p : Nat) : WordI (dev i j p a) := by
  rw [dev_eq ha]; exact duo_word (duo_word (gpow_word ha _) _ _) _ _
theorem dev_self {a : Int} (ha : WordI a) (i j p : Nat) (h : p = i ∨ p = j) : dev i j p a = 0 := by
  rw [dev_eq ha]
  rcases h with rfl | rfl
  · exact duo_same _ _
  · rw [duo_same, duo_zero]
theorem dev_inj {a : Int} (ha : WordI a) {i j p : Nat} (hi : i < 8) (hj : j < 8) (hp : p < 8) (h : dev i j p a = 0) : a = 0 ∨ p = i ∨ p = j := by
  by_cases h1 : p = i
  · exact .inr (.inl h1)
  by_cases h2 : p = j
  · exact .inr (.inr h2)
  rw [dev_eq ha] at h
  have hc := gpow_word ha (2 * p)
  have q1 := inj_ne (Ne.symm h1) hi hp (duo_word hc j p) h
  have q2 := inj_ne (Ne.symm h2) hj hp hc q1
  left
  rw [← rpow_gpow ha (2 * p), q2, rpow_zero]
theorem gpow_dev {a : Int} (ha : WordI a) (i j p k : Nat) : gpow k (dev i j p a) = dev i j p (gpow k a) := by
  unfold dev
  have h2 := gpow_word ha (2 * p)
  have h1 := gpow_word ha p
  rw [gpow_X, gpow_X, gpow_X, ← rpow_gpow_comm h2, ← rpow_gpow_comm h1, ← rpow_gpow_comm h1, ← gpow_add, ← gpow_add, ← gpow_add, ← gpow_add, Nat.add_comm (2 * p), Nat.add_comm p]
theorem dev_X {a b : Int} (ha : WordI a) (hb : WordI b) (i j p : Nat) : dev i j p (X a b) = X (dev i j p a) (dev i j p b) := by
  rw [dev_eq (X_word ha hb), dev_eq ha, dev_eq hb, gpow_X]
  have h1 := gpow_word ha (2 * p)
  have h2 := gpow_word hb (2 * p)
  have e : ∀ (k : Nat) {x y : Int}, WordI x → WordI y → duo k p (X x y) = X (duo k p x) (duo k p y) := by
    intro k x y hx hy
    unfold duo
    rw [rpow_X hx hy, rpow_X hx hy, X_assoc, X_assoc, X_left (rpow k y)]
  rw [e j h1 h2, e i (duo_word h1 _ _) (duo_word h2 _ _)]
theorem X_eq_zero {x y : Int} (h : X x y = 0) : x = y := by
  have := X_cancel x y
  rw [h, X_zero] at this
  exact this
theorem X_zero_iff {x y : Int} : x = y ↔ X x y = 0 := ⟨fun h => by rw [h, X_self], X_eq_zero⟩

theorem four {A B C D A' B' C' D' : Int} : X (X A A') (X (X (X B B') (X C C')) (X D D')) = X (X A (X (X B C) D)) (X A' (X (X B' C') D')) := by
  refine X_ext fun i => ?_
  simp only [X_bit]
  omega
/-- the first test, as what the two errors bring -/
theorem test_eq {a b : Int} (ha : WordI a) (hb : WordI b) (i j p q : Nat) :
    (rpow (i + j) (X (gpow (2 * p) a) (gpow (2 * q) b)) = X (X (rpow i (X (gpow p a) (gpow q b))) (rpow j (X (gpow p a) (gpow q b)))) (X a b)) ↔ X (dev i j p a) (dev i j q b) = 0 := by
  rw [X_zero_iff, rpow_X (gpow_word ha _) (gpow_word hb _), rpow_X (gpow_word ha _) (gpow_word hb _), rpow_X (gpow_word ha _) (gpow_word hb _), four]
  rfl

/-- the four changes -/
def chg (k p q : Nat) (a b : Int) : Int := X (gpow (k * p) a) (gpow (k * q) b)
theorem chg_word {a b : Int} (ha : WordI a) (hb : WordI b) (k p q : Nat) : WordI (chg k p q a b) := X_word (gpow_word ha _) (gpow_word hb _)
theorem hit_iff {n : Nat} {a b : Int} (ha : WordI a) (hb : WordI b) {p q i j : Nat} (hij : i < j) (hj : j < n) :
    Hit n (chg 0 p q a b) (chg 1 p q a b) (chg 2 p q a b) (chg 3 p q a b) (i : Int) (j : Int) ↔ (X (dev i j p a) (dev i j q b) = 0 ∧ X (dev i j p (gpow p a)) (dev i j q (gpow q b)) = 0) := by
  have t1 := test_eq ha hb i j p q
  have t2 := test_eq (gpow_word ha p) (gpow_word hb q) i j p q
  rw [← t1, ← t2]
  unfold Hit
  rw [show ((i : Int) + (j : Int)).toNat = i + j by omega, show ((i : Int)).toNat = i by omega, show ((j : Int)).toNat = j by omega,
    rowOf_getD (by omega), rowOf_getD (by omega), rowOf_getD (by omega), rowOf_getD (by omega), rowOf_getD (by omega), rowOf_getD (by omega)]
  have e0 : chg 0 p q a b = X a b := by unfold chg; rw [Nat.zero_mul, Nat.zero_mul]; rfl
  have e1 : chg 1 p q a b = X (gpow p a) (gpow q b) := by unfold chg; rw [Nat.one_mul, Nat.one_mul]
  have e2 : chg 2 p q a b = X (gpow (2 * p) a) (gpow (2 * q) b) := rfl
  have e3 : chg 3 p q a b = X (gpow (2 * p) (gpow p a)) (gpow (2 * q) (gpow q b)) := by
    unfold chg
    rw [← gpow_add, ← gpow_add, show p + 2 * p = 3 * p by omega, show q + 2 * q = 3 * q by omega]
  have e4 : X (gpow p (gpow p a)) (gpow q (gpow q b)) = chg 2 p q a b := by
    rw [e2, ← gpow_add, ← gpow_add, ← Nat.two_mul, ← Nat.two_mul]
  rw [e4, e0, e1, e3, e2]
  exact Iff.rfl
/-- a hit says that all errors lie at its two places -/
theorem hit_places {n : Nat} {a b : Int} (ha : WordI a) (hb : WordI b) {p q i j : Nat} (hn : n ≤ 8) (hp : p < n) (hq : q < n) (hij : i < j) (hj : j < n) {ws : List Int}
    (h : Hit n (chg 0 p q a b) (chg 1 p q a b) (chg 2 p q a b) (chg 3 p q a b) (i : Int) (j : Int)) :
    ∃ u v : Int, WordI u ∧ WordI v ∧ flip (flip ws p a) q b = flip (flip ws i u) j v := by
  rw [hit_iff ha hb hij hj] at h
  obtain ⟨h1, h2⟩ := h
  by_cases hpq : p = q
  · subst hpq
    rw [← dev_X ha hb] at h1
    rw [flip_flip]
    have hab := X_word ha hb
    rcases dev_inj hab (by omega) (by omega) (by omega) h1 with h3 | h3 | h3
    · exact ⟨0, 0, word_zero, word_zero, by rw [h3, flip_zero, flip_zero, flip_zero]⟩
    · exact ⟨X a b, 0, hab, word_zero, by rw [h3, flip_zero]⟩
    · exact ⟨0, X a b, word_zero, hab, by rw [h3, flip_zero]⟩
  · have hT : dev i j p a = dev i j q b := X_eq_zero h1
    have hT2 : gpow p (dev i j p a) = gpow q (dev i j p a) := by
      have := X_eq_zero h2
      rw [← gpow_dev ha, ← gpow_dev hb, ← hT] at this
      exact this
    have hw := dev_word ha i j p
    have hT3 : dev i j p a = 0 := by
      refine inj_ne (Ne.symm hpq) (by omega) (by omega) hw ?_
      have e : rpow q (dev i j p a) = rpow p (dev i j p a) := by
        have e1 : rpow q (rpow p (gpow p (dev i j p a))) = rpow q (dev i j p a) := by rw [rpow_gpow hw]
        have e2 : rpow p (rpow q (gpow q (dev i j p a))) = rpow p (dev i j p a) := by rw [rpow_gpow hw]
        rw [← e1, ← e2, hT2, rpow_comm]
      rw [e, X_self]
    have hT4 : dev i j q b = 0 := by rw [← hT]; exact hT3
    rcases dev_inj ha (by omega) (by omega) (by omega) hT3 with rfl | rfl | rfl
    · rcases dev_inj hb (by omega) (by omega) (by omega) hT4 with rfl | rfl | rfl
      · exact ⟨0, 0, word_zero, word_zero, by simp only [flip_zero]⟩
      · exact ⟨b, 0, hb, word_zero, by simp only [flip_zero]⟩
      · exact ⟨0, b, word_zero, hb, by simp only [flip_zero]⟩
    · rcases dev_inj hb (by omega) (by omega) (by omega) hT4 with rfl | rfl | rfl
      · exact ⟨a, 0, ha, word_zero, by simp only [flip_zero]⟩
      · exact absurd rfl hpq
      · exact ⟨a, b, ha, hb, rfl⟩
    · rcases dev_inj hb (by omega) (by omega) (by omega) hT4 with rfl | rfl | rfl
      · exact ⟨0, a, word_zero, ha, by simp only [flip_zero]⟩
      · exact ⟨b, a, hb, ha, flip_comm ..⟩
      · exact absurd rfl hpq
/-- there is a hit -/
theorem hit_is {n : Nat} {a b : Int} (ha : WordI a) (hb : WordI b) {p q : Nat} (hn : 3 ≤ n) (hp : p < n) (hq : q < n) :
    ∃ i j : Int, 0 ≤ i ∧ i < j ∧ j < (n : Int) ∧ Hit n (chg 0 p q a b) (chg 1 p q a b) (chg 2 p q a b) (chg 3 p q a b) i j := by
  have go : ∀ i j : Nat, i < j → j < n → (p = i ∨ p = j) → (q = i ∨ q = j) → ∃ i j : Int, 0 ≤ i ∧ i < j ∧ j < (n : Int) ∧ Hit n (chg 0 p q a b) (chg 1 p q a b) (chg 2 p q a b) (chg 3 p q a b) i j := by
    intro i j hij hj h1 h2
    refine ⟨i, j, by omega, by omega, by omega, (hit_iff ha hb hij hj).mpr ⟨?_, ?_⟩⟩
    · rw [dev_self ha i j p h1, dev_self hb i j q h2, X_self]
    · rw [dev_self (gpow_word ha p) i j p h1, dev_self (gpow_word hb q) i j q h2, X_self]
  rcases Nat.lt_trichotomy p q with h | h | h
  · exact go p q h hq (.inl rfl) (.inr rfl)
  · subst h
    by_cases h0 : p = 0
    · exact go p (p + 1) (by omega) (by omega) (.inl rfl) (.inl rfl)
    · exact go 0 p (by omega) hp (.inr rfl) (.inr rfl)
  · exact go q p h hp (.inr rfl) (.inl rfl)
/-- the changes, from whichever two flips made the spoilt words -/
theorem chg_flips {ws : List Int} {p q : Nat} (hp : p < ws.length) (hq : q < ws.length) (a b : Int) (k : Nat) : Builtin.bitXor (hsum k ws) (hsum k (flip (flip ws p a) q b)) = chg k p q a b := by
  rw [hsum_flip k b _ q (by rw [flip_length]; exact hq), hsum_flip k a ws p hp]
  show X (hsum k ws) (X (X (hsum k ws) (gpow (k * p) a)) (gpow (k * q) b)) = _
  rw [X_assoc, X_cancel]
  rfl
/-- mending -/
theorem mend_ok {ws : List Int} {n : Nat} {i j : Nat} (hl : ws.length = n) (hn : n ≤ 8) (hij : i < j) (hj : j < n) {u v : Int} (hu : WordI u) (hv : WordI v) :
    mendOf (flip (flip ws i u) j v) n (chg 0 i j u v) (chg 1 i j u v) (i : Int) (j : Int) = ws := by
  have e0 : chg 0 i j u v = X u v := by unfold chg; rw [Nat.zero_mul, Nat.zero_mul]; rfl
  have e1 : chg 1 i j u v = X (gpow i u) (gpow j v) := by unfold chg; rw [Nat.one_mul, Nat.one_mul]
  have hg := gpow_word hv j
  have hP : patOf n (chg 0 i j u v) (chg 1 i j u v) (i : Int) (j : Int) = v := by
    unfold patOf
    rw [show ((i : Int)).toNat = i by omega, show ((j : Int)).toNat = j by omega, rowOf_getD (by omega), rowOf_getD (by omega), rowOf_getD (by omega), rowOf_getD (by omega), e0, e1]
    have e2 : Builtin.bitXor (X u v) (rpow i (X (gpow i u) (gpow j v))) = X v (rpow i (gpow j v)) := by
      rw [rpow_X (gpow_word hu i) hg, rpow_gpow hu]
      show X (X u v) (X u _) = _
      rw [X_comm u v, X_assoc, X_cancel]
    have e3 : rpow j (X v (rpow i (gpow j v))) = X (rpow i v) (rpow j v) := by
      rw [rpow_X hv (rpow_word hg i), rpow_comm j i, rpow_gpow hv, X_comm]
    rw [e2, e3]
    exact over_eq hij (by omega) hv
  unfold mendOf
  rw [hP, show ((i : Int)).toNat = i by omega, show ((j : Int)).toNat = j by omega, e0]
  have e4 : Builtin.bitXor (X u v) v = u := by
    show X (X u v) v = u
    rw [X_assoc, X_self, X_zero]
  rw [e4, flip_comm (flip ws i u) j i v u, flip_flip, flip_flip, X_self, X_self, flip_zero, flip_zero]
/-- the law: every hit mends -/
theorem law_ok {ws : List Int} {n : Nat} {p q : Nat} {a b : Int} (hl : ws.length = n) (hn : n ≤ 8) (hp : p < n) (hq : q < n) (ha : WordI a) (hb : WordI b) {i j : Int} (h0 : 0 ≤ i) (h1 : i < j) (h2 : j < (n : Int))
    (h : Hit n (chg 0 p q a b) (chg 1 p q a b) (chg 2 p q a b) (chg 3 p q a b) i j) :
    mendOf (flip (flip ws p a) q b) n (chg 0 p q a b) (chg 1 p q a b) i j = ws := by
  obtain ⟨i', rfl⟩ := Int.eq_ofNat_of_zero_le h0
  obtain ⟨j', rfl⟩ := Int.eq_ofNat_of_zero_le (a := j) (by omega)
  have hij : i' < j' := by omega
  have hj : j' < n := by omega
  obtain ⟨u, v, hu, hv, e⟩ := hit_places (ws := ws) ha hb hn hp hq hij hj h
  have c : ∀ k, chg k p q a b = chg k i' j' u v := fun k => by
    rw [← chg_flips (ws := ws) (by omega) (by omega) a b k, e, chg_flips (by omega) (by omega)]
  rw [e, c 0, c 1]
  exact mend_ok hl hn hij hj hu hv
end Mine

namespace Mine
section
variable {prog : Program} {w : World} {A : Around} {E : Value → Shared → Prop} {s : Shared} {h₀ : Heap} {L : Addr} {m : Str → Option Value} {news : List (Addr × Obj)}
/-- the written list's items from a place on -/
theorem slice_lit4 {value slice : PySem.Expr} {l : Addr} {c : Nat} {a0 a1 a2 a3 x : Int} {t0 t1 t2 t3 tx : Tok} {ops : List Value} {Q : Value → Shared → Prop}
    (F : Fr h₀ L s.heap m) (N : News h₀ L s.heap news) (hm : (l, listOf #[.int a0 t0, .int a1 t1, .int a2 t2, .int a3 t3] c) ∈ news) (hx : 0 ≤ x)
    (h : ∀ h' D us, Fr h₀ L h' m → News h₀ L h' ((D, listOf us.toArray 0) :: news) → (∀ p ∈ news, p.1 < D) → IntsAre us ([a0, a1, a2, a3].drop x.toNat) → Q (.ref D) { s with heap := h' })
    (hs : subscripted slice false (.ref l) (.ref s.heap.objs.size) = operate ops (getItem (.ref l) (.ref s.heap.objs.size)) := by with_unfolding_all rfl)
    (ht : ∀ r, letTemporaryGo value (.ref l) r = pure () := by intro _; with_unfolding_all rfl) :
    wpAny (model prog w) A (subscriptTail value slice (.ref l) (.ref s.heap.objs.size)) Q E { s with heap := s.heap.push { cls := .type "slice", data := .fields #[.int x tx, .none, .none] } } := by
  have hl : s.heap.IsList l ([Value.int a0 t0, .int a1 t1, .int a2 t2, .int a3 t3] : List Value).toArray := News.isList N hm
  have hi : IntsAre [Value.int a0 t0, .int a1 t1, .int a2 t2, .int a3 t3] [a0, a1, a2, a3] := .cons _ _ (.cons _ _ (.cons _ _ (.cons _ _ .nil)))
  refine slice_list3 (hsz := by have := sizeLine_eq; simp; omega) F N hl (IsPart.int _ _) IsPart.none IsPart.none (by intro h; cases h) (fun h' F' N' => h h' _ (slicePick ([Value.int a0 t0, .int a1 t1, .int a2 t2, .int a3 t3] : List Value).toArray (some x) none none).toList F' ?_ (fun p hp => ?_) (kmk_from hi hx)) hs ht
  · simpa [W.listOf] using N'
  · exact Nat.lt_succ_of_lt (Heap.lt_size (N p hp).1)
/-- the head: four numbers, whichever -/
theorem head_add {l b : Addr} {c1 c2 : Nat} {vs ws : List Value} {ns : List Int} {Q : Value → Shared → Prop} (F : Fr h₀ L s.heap m) (N : News h₀ L s.heap news) (hm1 : (l, W.listOf vs.toArray c1) ∈ news) (hm2 : (b, W.listOf ws.toArray c2) ∈ news)
    (hi : IntsAre vs (ns.take 4)) (hj : IntsAre ws (([1, 2, 3, 4] : List Int).drop (ns.length : Int).toNat))
    (h : ∀ h' D p q x y t0 t1 t2 t3, Fr h₀ L h' m → News h₀ L h' ((D, listOf #[.int p t0, .int q t1, .int x t2, .int y t3] 0) :: news) → (∀ p ∈ news, p.1 < D) → Q (.ref D) { s with heap := h' }) :
    wpAny (model prog w) A (binaryOp .Add (.ref l) (.ref b)) Q E s := by
  have hlen : (ns.take 4 ++ ([1, 2, 3, 4] : List Int).drop (ns.length : Int).toNat).length = 4 := by
    rw [List.length_append, List.length_take, List.length_drop]
    simp only [List.length_cons, List.length_nil]
    omega
  refine add_lists_ints F N (News.isList N hm1) (News.isList N hm2) hi hj (fun h' F' N' hI => ?_) (by rw [List.length_append] at hlen; rw [hlen]; rw [sizeLine_eq]; omega)
  generalize vs ++ ws = us at N' hI
  generalize ns.take 4 ++ ([1, 2, 3, 4] : List Int).drop (ns.length : Int).toNat = os at hI hlen
  match os, us, hI, hlen, N' with
  | [_, _, _, _], _, .cons p t0 (.cons q t1 (.cons x t2 (.cons y t3 .nil))), _, N' => exact h h' _ p q x y t0 t1 t2 t3 F' N' fun r hr => Heap.lt_size (N r hr).1
/-- a slice with a step, its ints told -/
theorem slice_told1 {value slice : PySem.Expr} {l : Addr} {c : Nat} {vs : List Value} {vl vu vk : Value} {lo hi st : Option Int} {ops : List Value} {ns : List Int} {Q : Value → Shared → Prop}
    (F : Fr h₀ L s.heap m) (N : News h₀ L s.heap news) (hm : (l, W.listOf vs.toArray c) ∈ news) (hi' : IntsAre vs ns) (pl : IsPart vl lo) (pu : IsPart vu hi) (pk : IsPart vk st) (h0 : st ≠ some 0)
    (h : ∀ h' D us, Fr h₀ L h' m → News h₀ L h' ((D, listOf us.toArray 0) :: news) → (∀ p ∈ news, p.1 < D) → IntsAre us (pickNums ns lo hi st) → Q (.ref D) { s with heap := h' })
    (hs : subscripted slice false (.ref l) (.ref s.heap.objs.size) = operate ops (getItem (.ref l) (.ref s.heap.objs.size)))
    (ht : ∀ r, letTemporaryGo value (.ref l) r = pure ())
    (hsz : vs.length ≤ 64) :
    wpAny (model prog w) A (subscriptTail value slice (.ref l) (.ref s.heap.objs.size)) Q E { s with heap := s.heap.push { cls := .type "slice", data := .fields #[vl, vu, vk] } } := by
  refine slice_list3 (hsz := by have := sizeLine_eq; simp; omega) F N (News.isList N hm) pl pu pk h0 (fun h' F' N' => h h' _ (slicePick vs.toArray lo hi st).toList F' ?_ (fun p hp => Nat.lt_succ_of_lt (Heap.lt_size (N p hp).1)) (hi'.pick lo hi st)) hs ht
  simpa using N'
/-- a sum over a list of the ledger -/
theorem sum_told {l : Addr} {c : Nat} {vs : List Value} {ns : List Int} {Q : Value → Shared → Prop} (hh : A.handled = none) (F : Fr h₀ L s.heap m) (N : News h₀ L s.heap news) (hm : (l, W.listOf vs.toArray c) ∈ news) (hi : IntsAre vs ns)
    (h : ∀ h' tk t', Fr h₀ L h' m → News h₀ L h' news → Q (.int ns.sum t') { s with heap := h', toks := tk }) :
    wpAny (model prog w) A (call (.builtin "sum") [.ref l]) Q E s := by
  have hl : s.heap.IsList l vs.toArray := News.isList N hm
  obtain ⟨xs, hx⟩ := hi.allInts.items
  have e : numsOf (intItems xs).toList = ns := by rw [← hx]; exact hi.numsOf
  have q : preSum (numAt xs) xs.size = ns.sum := by
    rw [preSum_eq, List.take_of_length_le (by simp), ← e, nums_intItems]
  rw [hx] at hl
  refine sum_intListG hh hl fun h' tk t' hk => ?_
  rw [q]
  exact h h' tk t' (F.keeps hk) (N.grown hk)
theorem many_ne {a : Int} {k : Nat} (h : a = 3 + if 5 < (k : Int) then 5 else (k : Int)) : (some a : Option Int) ≠ some 0 := by
  intro hz
  have hz' := Option.some.inj hz
  split at h <;> omega
end
end Mine

namespace Mine
/-- the right words: three to eight -/
structure Right (us : List Value) (ws : List Int) : Prop where
  isOf : IntsAre us ws
  few : 3 ≤ us.length ∧ us.length ≤ 8
  words : Words ws
theorem right_facts {us : List Value} {f : Int → Int} {n : Nat} (h : IntsAre us (List.map (fun k => (f k).fmod (2 ^ Int.toNat 32)) (rangeKs 0 ((3 + if 5 < (n : Int) then 5 else (n : Int)) - 0).toNat))) : ∃ ws, Right us ws := by
  refine ⟨_, h, ?_, ?_⟩
  · have e := h.length
    rw [List.length_map, rangeKs_length] at e
    rw [e]
    split <;> omega
  · intro x hx
    obtain ⟨k, _, rfl⟩ := List.mem_map.mp hx
    have h1 := Int.fmod_nonneg_of_pos (f k) (b := 2 ^ Int.toNat 32) (by decide)
    have h2 := Int.fmod_lt_of_pos (f k) (b := 2 ^ Int.toNat 32) (by decide)
    rw [show (2 : Int) ^ Int.toNat 32 = 4294967296 from by decide] at h2
    exact ⟨h1, h2⟩
/-- the spoilt words -/
structure Spoilt (us vs : List Value) (ws : List Int) (p q : Nat) (a b : Int) : Prop where
  isOf : IntsAre vs (flip (flip ws p a) q b)
  hp : p < us.length
  hq : q < us.length
  ha : WordI a
  hb : WordI b
  same : vs.length = us.length
theorem fmod_word (x : Int) : WordI (x.fmod (2 ^ Int.toNat 32)) := by
  have h1 := Int.fmod_nonneg_of_pos x (b := 2 ^ Int.toNat 32) (by decide)
  have h2 := Int.fmod_lt_of_pos x (b := 2 ^ Int.toNat 32) (by decide)
  rw [show (2 : Int) ^ Int.toNat 32 = 4294967296 from by decide] at h2
  exact ⟨h1, h2⟩

section
variable {w : World} {mean : ExcName → Option Value} {mg mb : Str → Option Value} {news : List (Addr × Obj)} {us vs : List Value} {ws : List Int} {dp un : Nat} {gd : Option (List Code)} {cn : Str} {cs : Scope} {a : Addr} {ccd : Value} {cl : List (Str × Addr)} {outer : List Env} {A₀ : Around} {base h₀ : Heap} {L : Addr} {m : Str → Option Value} {s : Shared} {Q E : Value → Shared → Prop}
theorem spoilt_law {lw lh : Addr} {c ch : Nat} {p q x y : Int} {t0 t1 t2 t3 : Tok}
    (k1 : Below A₀ base outer h₀) (k2 : Fr h₀ L s.heap m) (k3 : (hd_01.heap_39 w.params).In h₀) (k4 : News h₀ L s.heap news) (k5 : Top hd_01.view_39 (looseW hd_01.view_39 []) mean mg mb h₀) (kK : cs.kind = .function) (kd : dp + 2 < recursionLimit) (ku : un + 24 < cLine)
    (hm : (lw, W.listOf us.toArray c) ∈ news) (hR : Right us ws) (hm2 : (lh, W.listOf #[.int p t0, .int q t1, .int x t2, .int y t3] ch) ∈ news)
    (hret : ∀ D vs k h' tk' p q a b, Spoilt us vs ws p q a b → Fr h₀ L h' m → News h₀ L h' ((D, W.listOf vs.toArray k) :: news) → (∀ p ∈ news, p.1 < D) → Q (.ref D) { s with heap := h', toks := tk' }) :
    wpAny (model PySem.Challenge.rw_sr0103_01.row.prog w) (ktrTop dp un gd cn cs L a ccd cl outer) (call (.ref 61) [.ref lw, .ref lh]) Q E s := by
  refine spoilt_use k1 k2 k3 k4 k5 kK kd ku hm hR.isOf hR.few hm2 fun D vs k h' tk' F N l hI => ?_
  have hl := hR.few
  have h1 : ∀ z : Int, (z.fmod us.length).toNat < us.length := fun z => by
    have a1 := Int.fmod_nonneg_of_pos z (b := (us.length : Int)) (by omega)
    have a2 := Int.fmod_lt_of_pos z (b := (us.length : Int)) (by omega)
    omega
  refine hret D vs k h' tk' _ _ _ _ ⟨hI, h1 p, h1 q, fmod_word x, fmod_word y, ?_⟩ F N l
  rw [hI.length, flip_length, flip_length, hR.isOf.length]
theorem news3 {h : Heap} {a b c : Addr × Obj} (N : News h₀ L h news) (ha : a ∈ news) (hb : b ∈ news) (hc : c ∈ news) : News h₀ L h [a, b, c] := by
  intro p hp
  simp only [List.mem_cons, List.not_mem_nil, or_false] at hp
  rcases hp with rfl | rfl | rfl
  · exact N _ ha
  · exact N _ hb
  · exact N _ hc
theorem mended_law {lt lw lr : Addr} {c ct cr : Nat} {p q : Nat} {x y : Int} {t0 t1 t2 t3 : Tok}
    (k1 : Below A₀ base outer h₀) (k2 : Fr h₀ L s.heap m) (k3 : (hd_01.heap_39 w.params).In h₀) (k4 : News h₀ L s.heap news) (k5 : Top hd_01.view_39 (looseW hd_01.view_39 []) mean mg mb h₀) (kK : cs.kind = .function) (kd : dp + 6 < recursionLimit) (ku : un + 64 < cLine)
    (m1 : (lt, W.listOf #[.int (hsum 0 ws) t0, .int (hsum 1 ws) t1, .int (hsum 2 ws) t2, .int (hsum 3 ws) t3] ct) ∈ news) (m2 : (lw, W.listOf vs.toArray c) ∈ news) (m3 : (lr, W.listOf us.toArray cr) ∈ news) (hR : Right us ws) (hS : Spoilt us vs ws p q x y)
    (hret : ∀ D zs k h' tk', Fr h₀ L h' m → News h₀ L h' [(D, W.listOf zs.toArray k), (lr, W.listOf us.toArray cr)] → lr < D → IntsAre zs ws → Q (.ref D) { s with heap := h', toks := tk' }) :
    wpAny (model PySem.Challenge.rw_sr0103_01.row.prog w) (ktrTop dp un gd cn cs L a ccd cl outer) (call (.ref 54) [.ref lw, .ref lt]) Q E s := by
  have hl := hS.same
  have hs := hR.few
  have hw : ws.length = us.length := hR.isOf.length.symm
  have cf : ∀ k, Builtin.bitXor (hsum k ws) (hsum k (flip (flip ws p x) q y)) = chg k p q x y := fun k => chg_flips (by rw [hw]; exact hS.hp) (by rw [hw]; exact hS.hq) x y k
  have cw : ∀ k, WordI (chg k p q x y) := fun k => chg_word hS.ha hS.hb k p q
  refine mended_use (lr := lr) (vs := us) (cr := cr) k1 k2 k3 (news3 k4 m1 m2 m3) k5 kK kd ku hS.isOf (by omega) trivial (cf 0) (cf 1) (cf 2) (cf 3) (cw 0) (cw 1) (cw 2) (cw 3) ?_ ?_
  · rw [hl]
    exact hit_is hS.ha hS.hb hs.1 hS.hp hS.hq
  · intro i j D zs k h' tk' h0 h1 h2 hH F N hlt hI
    rw [hl] at h2 hH hI
    rw [law_ok hw hs.2 hS.hp hS.hq hS.ha hS.hb h0 h1 h2 hH] at hI
    refine hret D zs k h' tk' F (fun r hr => ?_) (hlt _ (.tail _ (.tail _ (.head _)))) hI
    rcases List.mem_cons.mp hr with rfl | hr
    · exact N _ (.head _)
    · rw [List.mem_singleton.mp hr]
      exact N _ (.tail _ (.tail _ (.tail _ (.head _))))
end
section
variable {prog : Program} {w : World} {A : Around} {E : Value → Shared → Prop} {s : Shared} {h₀ : Heap} {L : Addr} {news : List (Addr × Obj)}
/-- two lists of the same words -/
theorem same_lists {a b : Addr} {c d : Nat} {zs us : List Value} {ws : List Int} {Q : Value → Shared → Prop} (N : News h₀ L s.heap news) (m1 : (a, W.listOf zs.toArray c) ∈ news) (m2 : (b, W.listOf us.toArray d) ∈ news) (hi : IntsAre zs ws) (hR : Right us ws) (hu : A.units + 64 < cLine)
    (h : Q (.bool true) s) : wpAny (model prog w) A (compareOp .Eq (.ref a) (.ref b)) Q E s := by
  refine eq_intsK (News.isList N m1) hi (News.isList N m2) hR.isOf hu ?_
  rw [decide_eq_true rfl]
  exact h
end
end Mine

local macro_rules | `(tactic| walk_at "eval Name") => `(tactic| ((with_reducible refine inCells ?_); name_kind "cell"; (rename News _ _ _ _ => N'); with_unfolding_all refine ldCN N' rfl (by news_mem) (by assumption) ?_))
local macro_rules | `(tactic| walk_at "subscriptTail List cons Slice ref ref") => `(tactic| (k_here; k_dflt (refine kba_turn (value' := PySem.Expr.Name (PySem.Str.ofString "_") ⟨0, 0, 0, 0⟩) (fun _ => rfl) ?_)))
local macro_rules | `(tactic| walk_at "subscriptTail Name Slice ref ref") => `(tactic| (k_here; ((rename Fr _ _ _ _ => lF'); (rename News _ _ _ _ => lN'); (with_unfolding_all refine' Mine.slice_lit4 (ops := _) lF' lN' ?k1 ?k2 ?_ ?k3 ?k4); (case k1 => with_unfolding_all k_mem); (case k2 => omega); (case k3 => with_unfolding_all rfl); (case k4 => (intro _; with_unfolding_all rfl)); intro h' D' us' F' N' l1 hI'; clear lF' lN'; (try k_lt l1))))
local macro_rules | `(tactic| walk_at "subscriptTail Name Slice ref ref") => `(tactic| (k_here; (with_reducible show wpAny _ _ (subscriptTail _ (PySem.Expr.Slice _ _ (some _) _) (Value.ref _) (Value.ref _)) _ _ _); ((rename Fr _ _ _ _ => lF'); (rename News _ _ _ _ => lN'); (with_unfolding_all refine' Mine.slice_told1 (ops := _) lF' lN' ?k1 ?k2 (IsPart.int _ _) IsPart.none (IsPart.int _ _) ?k5 ?_ ?k3 ?k4 ?k6); (case k1 => with_unfolding_all k_mem); (case k2 => assumption); (case k5 => exact Mine.many_ne rfl); (case k3 => with_unfolding_all rfl); (case k4 => (intro _; with_unfolding_all rfl)); (case k6 => omega); intro h' D' us' F' N' l1 hI'; clear lF' lN'; (try k_lt l1))))
local macro_rules | `(tactic| walk_at "call builtin:sum") => `(tactic| (k_here; ((with_reducible show wpAny _ _ (call (Value.builtin "sum") [Value.ref _]) _ _ _); (rename Fr _ _ _ _ => lF'); (rename News _ _ _ _ => lN'); (with_unfolding_all refine' Mine.sum_told ?k0 lF' lN' ?k3 ?k4 ?_); (case k0 => with_unfolding_all rfl); (case k3 => with_unfolding_all k_mem); (case k4 => assumption); intro h' tk' t' F' N'; clear lF' lN')))
local macro_rules | `(tactic| walk_at "binaryOp Add ref ref") => `(tactic| (k_here; ((rename Fr _ _ _ _ => lF'); (rename News _ _ _ _ => lN'); (with_unfolding_all refine' Mine.head_add lF' lN' ?k1 ?k2 ?k3 ?k4 ?_); (case k1 => with_unfolding_all k_mem); (case k2 => with_unfolding_all k_mem); (case k3 => assumption); (case k4 => assumption); intro h' D' p' q' x' y' t0' t1' t2' t3' F' N' l1; clear lF' lN'; (try k_lt l1))))
local macro_rules | `(tactic| walk_at "call ref") => `(tactic| (k_here; (k_dflt (refine' Mine.mended_law ?k1 ?k2 ?k3 ?k4 ?k5 ?kK ?kd ?ku ?m1 ?m2 ?m3 ?kR ?kS ?_; (case k1 => k_asm); (case k2 => k_asm); (case k3 => k_asm); (case k4 => k_asm); (case k5 => k_asm); (case kK => first | exact rfl | assumption); (case kd => ktr_room); (case ku => ktr_units); (case m1 => with_unfolding_all k_mem); (case m2 => with_unfolding_all k_mem); (case kR => assumption); (case kS => assumption); (case m3 => with_unfolding_all k_mem)); intro D9 zs9 k9 h9 tk9 F9 N9 l1 hZ9; (try dsimp only); (try k_fold))))
local macro_rules | `(tactic| walk_at "call ref") => `(tactic| (k_here; (k_dflt (refine' Mine.sums_use ?k1 ?k2 ?k3 ?k4 ?k5 ?kK ?kd ?ku ?km ?ki ?_; (case k1 => k_asm); (case k2 => k_asm); (case k3 => k_asm); (case k4 => k_asm); (case k5 => k_asm); (case kK => first | exact rfl | assumption); (case kd => ktr_room); (case ku => ktr_units); (case km => with_unfolding_all k_mem); (case ki => exact Mine.Right.isOf (by assumption))); intro D9 t90 t91 t92 t93 k9 h9 tk9 F9 N9 l1; (try k_lt l1); (try dsimp only); (try k_fold))))
local macro_rules | `(tactic| walk_at "call ref") => `(tactic| (k_here; ((rename IntsAre _ (List.map _ (rangeKs _ _)) => hI8); (obtain ⟨wsR, hR9⟩ := Mine.right_facts hI8); clear hI8; (k_dflt (refine' Mine.spoilt_law ?k1 ?k2 ?k3 ?k4 ?k5 ?kK ?kd ?ku ?km ?kR ?km2 ?_; (case k1 => k_asm); (case k2 => k_asm); (case k3 => k_asm); (case k4 => k_asm); (case k5 => k_asm); (case kK => first | exact rfl | assumption); (case kd => ktr_room); (case ku => ktr_units); (case km => with_unfolding_all k_mem); (case kR => assumption); (case km2 => with_unfolding_all k_mem))); intro D9 vs9 k9 h9 tk9 p9 q9 a9 b9 hS9 F9 N9 l1; (try k_lt l1); (try dsimp only); (try k_fold))))
local macro_rules | `(tactic| walk_at "compareOp Eq ref ref") => `(tactic| (k_here; ((rename News _ _ _ _ => lN'); (with_unfolding_all refine' Mine.same_lists lN' ?m1 ?m2 ?hi ?hR ?hu ?_); (case m1 => with_unfolding_all k_mem); (case hi => assumption); (case hR => assumption); (case m2 => with_unfolding_all k_mem); (case hu => units_room))))
set_option maxRecDepth 100000 in
set_option maxHeartbeats 8000000 in
theorem PySem.Challenge.cw_sr0103_01_holds : PySem.Challenge.rw_sr0103_01.Holds :=
  Mine.hd_01 (by
  w_top off; k_go0; (all_goals try k_fold); k_steps)

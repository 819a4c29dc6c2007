import PyProof.Rows.All
import Wide.All
import OpenK.AllK
import Wide.FinOn
import PySem.Challenge.RW_sr0103_02
open PySem PySem.W PyProof.Rows
set_option Elab.async false

namespace Mine

theorem unr_mono {h₀ : Heap} {L : Addr} {s₁ s₂ : Shared} {I : Addr} {it : Obj} {r r' : (Str → Option Value) → List (Addr × Obj) → Prop} {Q : Flow → Shared → Prop} {f : Flow}
    (h : UnrPost h₀ L s₁ I it r Q f s₂) (k : ∀ m n, r m n → r' m n) : UnrPost h₀ L s₁ I it r' Q f s₂ := by
  cases f with
  | ret v => exact h
  | brk => exact h
  | next => obtain ⟨h', tk, m', n', a, b, c, d, e⟩ := h; exact ⟨h', tk, m', n', a, b, c, d, k _ _ e⟩
  | cont => obtain ⟨h', tk, m', n', a, b, c, d, e⟩ := h; exact ⟨h', tk, m', n', a, b, c, d, k _ _ e⟩

theorem unrW_mono {h₀ : Heap} {L : Addr} {s₁ s₂ : Shared} {its : List (Addr × Obj)} {r r' : (Str → Option Value) → List (Addr × Obj) → Prop} {Q : Flow → Shared → Prop} {f : Flow}
    (h : UnrPostW h₀ L s₁ its r Q f s₂) (k : ∀ m n, r m n → r' m n) : UnrPostW h₀ L s₁ its r' Q f s₂ := by
  cases f with
  | ret v => exact h
  | brk => exact h
  | next => obtain ⟨h', tk, m', n', a, b, c, d, e⟩ := h; exact ⟨h', tk, m', n', a, b, c, d, k _ _ e⟩
  | cont => obtain ⟨h', tk, m', n', a, b, c, d, e⟩ := h; exact ⟨h', tk, m', n', a, b, c, d, k _ _ e⟩

theorem allObj_mono : ∀ {ws : List (Addr × String)} {p q : List (Addr × Obj) → Prop}, AllObj ws p → (∀ l, p l → q l) → AllObj ws q
  | [], _, _, h, k => k _ h
  | _ :: _, _, _, h, k => fun o ho => allObj_mono (h o ho) fun _ x => k _ x

section
variable {prog : Program} {w : World} {A : Around} {E : Value → Shared → Prop} {s : Shared} {env : Env} {h₀ : Heap} {x : Str} {body : List Stmt} {Q : Flow → Shared → Prop}

/-- a loop over reversed(list of ints), by an invariant over the names and the ledger -/
theorem rev_rest {os : List Int} {I : Addr} {lp : Addr × Obj} (Inv : List Int → (Str → Option Value) → List (Addr × Obj) → Prop)
    (hm : ∀ pre m n, Inv pre m n → lp ∈ n)
    (turn : ∀ pre o suf t m n (it : Obj) h tk, os = pre ++ o :: suf → Inv pre m n → it.cls = .type "list_reverseiterator" →
      Fr h₀ env.locals h (fun y => if y = x then some (.int o t) else m y) → News h₀ env.locals h ((I, it) :: n) →
      wpAny (model prog w) A (execs body env) (UnrPost h₀ env.locals { s with heap := h, toks := tk } I it (Inv (pre ++ [o])) Q) E { s with heap := h, toks := tk })
    (done : ∀ m n h tk, Inv os m n → Fr h₀ env.locals h m → News h₀ env.locals h n → Q .next { s with heap := h, toks := tk }) :
    ∀ (suf : List Int) (us : List Value) (pre : List Int) m n, IntsAre us suf → os = pre ++ suf → Inv pre m n → RevRest prog w A E h₀ env x body Q s I lp us m n := by
  intro suf
  induction suf with
  | nil =>
    intro us pre m n hu ho hi
    cases hu
    rw [List.append_nil] at ho
    subst ho
    exact RevRest.zero fun h tk F N => done m n h tk hi F N
  | cons o suf ih =>
    intro us pre m n hu ho hi
    cases hu with
    | cons _ t hu =>
      refine RevRest.succ fun it h tk hc F N => ?_
      refine wpAny_mono (turn pre o suf t m n it h tk ho hi hc F N) (fun f s₂ p => unr_mono p fun m' n' h' => ⟨hm _ _ _ h', ?_⟩) fun _ _ e => e
      exact ih _ _ m' n' hu (by rw [ho, List.append_assoc]; rfl) h'

theorem rev_loop {D I : Addr} {lo : Obj} {us : List Value} {os : List Int} {k : Nat} {m₀ : Str → Option Value} {news : List (Addr × Obj)} (Inv : List Int → (Str → Option Value) → List (Addr × Obj) → Prop)
    (hh : A.handled = none) (F : Fr h₀ env.locals s.heap m₀) (N : News h₀ env.locals s.heap ((I, revObj D ((us.length : Int) - 1)) :: news)) (hof : OffI I (revObj D ((us.length : Int) - 1)) news)
    (hmem : (D, lo) ∈ news) (hc : lo.cls = .type "list") (hd : lo.data = .seq us.toArray k) (hu : IntsAre us os)
    (h0 : Inv [] m₀ news) (hm : ∀ pre m n, Inv pre m n → (D, lo) ∈ n)
    (turn : ∀ pre o suf t m n (it : Obj) h tk, os.reverse = pre ++ o :: suf → Inv pre m n → it.cls = .type "list_reverseiterator" →
      Fr h₀ env.locals h (fun y => if y = x then some (.int o t) else m y) → News h₀ env.locals h ((I, it) :: n) →
      wpAny (model prog w) A (execs body env) (UnrPost h₀ env.locals { s with heap := h, toks := tk } I it (Inv (pre ++ [o])) Q) E { s with heap := h, toks := tk })
    (done : ∀ m n h tk, Inv os.reverse m n → Fr h₀ env.locals h m → News h₀ env.locals h n → Q .next { s with heap := h, toks := tk }) :
    wpAny (model prog w) A (pyIter (.ref I)) (fun it s₂ => LoopAtV prog w A h₀ env x body Q E it s₂) E s :=
  iter_revUnr hh F N hof hmem hc hd (rev_rest Inv hm turn done os.reverse us.reverse [] m₀ news hu.reverse rfl h0)

variable {target : PySem.Expr}
/-- a loop over items (a list's, an enumerate's), by an invariant -/
theorem items_rest {α : Type} {f : Nat → α → Itm} {as : List α} {ws : List (Addr × String)} {keep : List (Addr × Obj)} (Inv : List α → (Str → Option Value) → List (Addr × Obj) → Prop)
    (hm : ∀ pre m n, Inv pre m n → SubL keep n)
    (turn : ∀ pre a suf v m n h tk, as = pre ++ a :: suf → Inv pre m n → (f pre.length a).Is v h → Fr h₀ env.locals h m → AllObj ws (fun its => News h₀ env.locals h (its ++ n) →
      wpAny (model prog w) A (assign target env v) (fun _ s₂ => wpAny (model prog w) A (execs body env) (UnrPostW h₀ env.locals { s with heap := h, toks := tk } its (Inv (pre ++ [a])) Q) E s₂) E { s with heap := h, toks := tk }))
    (done : ∀ m n h tk, Inv as m n → Fr h₀ env.locals h m → News h₀ env.locals h n → Q .next { s with heap := h, toks := tk }) :
    ∀ (suf : List α) (xs : List Itm) (pre : List α) m n, (∀ i : Nat, xs[i]? = (suf[i]?).map (f (pre.length + i))) → as = pre ++ suf → Inv pre m n → ItemsRest prog w A E h₀ env target body Q s ws keep xs m n := by
  intro suf
  induction suf with
  | nil =>
    intro xs pre m n hx ho hi
    have : xs = [] := by
      cases xs with
      | nil => rfl
      | cons a r => have := hx 0; simp at this
    subst this
    rw [List.append_nil] at ho
    subst ho
    exact ItemsRest.zero fun h tk F N => done m n h tk hi F N
  | cons a suf ih =>
    intro xs pre m n hx ho hi
    cases xs with
    | nil => have := hx 0; simp at this
    | cons b r =>
      have hb : b = f pre.length a := by have := hx 0; simpa using this
      subst hb
      intro v h tk hv F
      refine allObj_mono (turn pre a suf v m n h tk ho hi hv F) fun its T N => ?_
      refine wpAny_mono (T N) (fun _ s₂ h₂ => wpAny_mono h₂ (fun f' s₃ p => unrW_mono p fun m' n' h' => ⟨hm _ _ _ h', ?_⟩) fun _ _ e => e) fun _ _ e => e
      refine ih r (pre ++ [a]) m' n' (fun i => ?_) (by rw [ho, List.append_assoc]; rfl) h'
      have := hx (i + 1)
      simp only [List.getElem?_cons_succ] at this
      rw [this, List.length_append]
      simp only [List.length_cons, List.length_nil]
      rw [show pre.length + (i + 1) = pre.length + (0 + 1) + i from by omega]

end
end Mine

namespace Mine

/-! ints under exclusive or -/
theorem and_facts (x y : Int) : (Builtin.bitAnd x y) / 2 = Builtin.bitAnd (x / 2) (y / 2) ∧ ((Builtin.bitAnd x y) % 2 = 1 ↔ (x % 2 = 1 ∧ y % 2 = 1)) := by
  by_cases hx : 0 ≤ x <;> by_cases hy : 0 ≤ y
  · have hx' : 0 ≤ x / 2 := by omega
    have hy' : 0 ≤ y / 2 := by omega
    rw [bitAnd_pp hx hy, bitAnd_pp hx' hy']
    have ex : (x / 2).toNat = x.toNat / 2 := by omega
    have ey : (y / 2).toNat = y.toNat / 2 := by omega
    have h1 := @Nat.and_div_two x.toNat y.toNat
    have h2 := @Nat.and_mod_two_eq_one x.toNat y.toNat
    rw [ex, ey, ← h1]
    constructor <;> omega
  · have hx' : 0 ≤ x / 2 := by omega
    have hy' : ¬ 0 ≤ y / 2 := by omega
    rw [bitAnd_pn hx hy, bitAnd_pn hx' hy']
    have ex : (x / 2).toNat = x.toNat / 2 := by omega
    have ey : (Builtin.bitNot (y / 2)).toNat = (Builtin.bitNot y).toNat / 2 := by unfold Builtin.bitNot; omega
    have h1 := @Nat.and_div_two x.toNat (Builtin.bitNot y).toNat
    have h2 := @Nat.and_mod_two_eq_one x.toNat (Builtin.bitNot y).toNat
    have hb : (Builtin.bitNot y).toNat % 2 = 1 ↔ ¬ y % 2 = 1 := by unfold Builtin.bitNot; omega
    rw [ex, ey, ← h1]
    rw [hb] at h2
    constructor <;> omega
  · have hx' : ¬ 0 ≤ x / 2 := by omega
    have hy' : 0 ≤ y / 2 := by omega
    rw [bitAnd_np hx hy, bitAnd_np hx' hy']
    have ex : (y / 2).toNat = y.toNat / 2 := by omega
    have ey : (Builtin.bitNot (x / 2)).toNat = (Builtin.bitNot x).toNat / 2 := by unfold Builtin.bitNot; omega
    have h1 := @Nat.and_div_two y.toNat (Builtin.bitNot x).toNat
    have h2 := @Nat.and_mod_two_eq_one y.toNat (Builtin.bitNot x).toNat
    have hb : (Builtin.bitNot x).toNat % 2 = 1 ↔ ¬ x % 2 = 1 := by unfold Builtin.bitNot; omega
    rw [ex, ey, ← h1]
    rw [hb] at h2
    constructor <;> omega
  · have hx' : ¬ 0 ≤ x / 2 := by omega
    have hy' : ¬ 0 ≤ y / 2 := by omega
    rw [bitAnd_nn hx hy, bitAnd_nn hx' hy']
    have ex : (Builtin.bitNot (x / 2)).toNat = (Builtin.bitNot x).toNat / 2 := by unfold Builtin.bitNot; omega
    have ey : (Builtin.bitNot (y / 2)).toNat = (Builtin.bitNot y).toNat / 2 := by unfold Builtin.bitNot; omega
    have h1 := @Nat.or_div_two (Builtin.bitNot x).toNat (Builtin.bitNot y).toNat
    have h2 := @Nat.or_mod_two_eq_one (Builtin.bitNot x).toNat (Builtin.bitNot y).toNat
    have ha : (Builtin.bitNot x).toNat % 2 = 1 ↔ ¬ x % 2 = 1 := by unfold Builtin.bitNot; omega
    have hb : (Builtin.bitNot y).toNat % 2 = 1 ↔ ¬ y % 2 = 1 := by unfold Builtin.bitNot; omega
    rw [ex, ey, ← h1]
    rw [ha, hb] at h2
    generalize ((Builtin.bitNot x).toNat ||| (Builtin.bitNot y).toNat : Nat) = z at h2 ⊢
    unfold Builtin.bitNot
    constructor <;> omega

/-- exclusive or, under a short name -/
def X (x y : Int) : Int := Builtin.bitXor x y
theorem X_half (x y : Int) : X x y / 2 = X (x / 2) (y / 2) := by
  have h := and_facts x y
  unfold X
  rw [bitXor_and, bitXor_and, ← h.1]
  omega
theorem X_mod (x y : Int) : X x y % 2 = (x % 2 + y % 2) % 2 := by
  unfold X
  rw [bitXor_and]
  omega

theorem int_ext : ∀ (n : Nat) (x y : Int), x.natAbs + y.natAbs ≤ n → (∀ i : Nat, x / 2 ^ i % 2 = y / 2 ^ i % 2) → x = y := by
  intro n
  induction n using Nat.strongRecOn with
  | ind n ih =>
    intro x y hn h
    have h0 := h 0
    simp only [Int.pow_zero, Int.ediv_one] at h0
    by_cases hx : x / 2 = x ∧ y / 2 = y
    · omega
    · have hs : ∀ i : Nat, x / 2 / 2 ^ i % 2 = y / 2 / 2 ^ i % 2 := fun i => by
        have := h (i + 1)
        rw [Int.pow_succ, Int.mul_comm, ← Int.ediv_ediv_of_nonneg (by decide), ← Int.ediv_ediv_of_nonneg (by decide)] at this
        exact this
      have := ih ((x / 2).natAbs + (y / 2).natAbs) (by omega) (x / 2) (y / 2) (Nat.le_refl _) hs
      omega
theorem X_bit (i : Nat) : ∀ x y : Int, X x y / 2 ^ i % 2 = (x / 2 ^ i % 2 + y / 2 ^ i % 2) % 2 := by
  induction i with
  | zero => intro x y; simp only [Int.pow_zero, Int.ediv_one]; exact X_mod x y
  | succ i ih =>
    intro x y
    have e : ∀ z : Int, z / 2 ^ (i + 1) = z / 2 / 2 ^ i := fun z => by rw [Int.pow_succ, Int.mul_comm, ← Int.ediv_ediv_of_nonneg (by decide)]
    rw [e, e, e, X_half]
    exact ih _ _
theorem X_ext {x y : Int} (h : ∀ i : Nat, x / 2 ^ i % 2 = y / 2 ^ i % 2) : x = y := int_ext _ x y (Nat.le_refl _) h
theorem X_comm (x y : Int) : X x y = X y x := X_ext fun i => by rw [X_bit, X_bit]; omega
theorem X_assoc (x y z : Int) : X (X x y) z = X x (X y z) := X_ext fun i => by rw [X_bit, X_bit, X_bit, X_bit]; omega
theorem X_left (x y z : Int) : X x (X y z) = X y (X x z) := by rw [← X_assoc, X_comm x y, X_assoc]
theorem X_self (x : Int) : X x x = 0 := bitXor_self x
theorem X_zero (x : Int) : X x 0 = x := bitXor_zero x
theorem zero_X (x : Int) : X 0 x = x := by rw [X_comm, X_zero]
theorem X_cancel (x y : Int) : X x (X x y) = y := by rw [← X_assoc, X_self, zero_X]
theorem X_double (x y : Int) : X (x * 2) (y * 2) = X x y * 2 := by
  have h1 := X_half (x * 2) (y * 2)
  have h2 := X_mod (x * 2) (y * 2)
  rw [show x * 2 / 2 = x by omega, show y * 2 / 2 = y by omega] at h1
  omega
theorem X_range : ∀ (n : Nat) (x y : Int), -2 ^ n ≤ x → x < 2 ^ n → -2 ^ n ≤ y → y < 2 ^ n → -2 ^ n ≤ X x y ∧ X x y < 2 ^ n := by
  intro n
  induction n with
  | zero =>
    intro x y a b c d
    simp only [Int.pow_zero] at *
    have hx : x = -1 ∨ x = 0 := by omega
    have hy : y = -1 ∨ y = 0 := by omega
    rcases hx with rfl | rfl <;> rcases hy with rfl | rfl <;> decide +kernel
  | succ n ih =>
    intro x y a b c d
    rw [Int.pow_succ] at *
    have h := ih (x / 2) (y / 2) (by omega) (by omega) (by omega) (by omega)
    have h1 := X_half x y
    have h2 := X_mod x y
    omega
theorem X_nonneg {x y : Int} (hx : 0 ≤ x) (hy : 0 ≤ y) : X x y = ((x.toNat ^^^ y.toNat : Nat) : Int) := by
  have key : ∀ a b : Nat, X (a : Int) (b : Int) = ((a ^^^ b : Nat) : Int) := by
    intro a
    induction a using Nat.strongRecOn with
    | ind a ih =>
      intro b
      by_cases h0 : a = 0
      · subst h0; simp [zero_X]
      · have ih' := ih (a / 2) (by omega) (b / 2)
        have h1 := X_half (a : Int) (b : Int)
        have h2 := X_mod (a : Int) (b : Int)
        have e1 := @Nat.xor_div_two a b
        have e2 := @Nat.xor_mod_two_eq_one a b
        rw [show (a : Int) / 2 = ((a / 2 : Nat) : Int) by omega, show (b : Int) / 2 = ((b / 2 : Nat) : Int) by omega, ih'] at h1
        omega
  have := key x.toNat y.toNat
  rwa [Int.toNat_of_nonneg hx, Int.toNat_of_nonneg hy] at this
end Mine

namespace Mine

/-- what an element's run has kept so far goes on -/
theorem elt_on {a b c : Heap} (h : InElt a b) (k : ∀ x o, b.get? x = some o → c.get? x = some o) : InElt a c := fun x o e => k x o (h x o e)

section
variable {prog : Program} {w : World} {A : Around} {E : Value → Shared → Prop} {s : Shared} {h₀ g : Heap} {L : Addr} {m : Str → Option Value} {news : List (Addr × Obj)}

/-- a slice with a step, inside an element: what stood before stands -/
theorem slice_elt {value slice : Expr} {l : Addr} {vs : List Value} {vl vu vk : Value} {lo hi st : Option Int} {ops : List Value} {ns : List Int} {Q : Value → Shared → Prop}
    (C : InElt g s.heap) (F : Fr h₀ L s.heap m) (N : News h₀ L s.heap news) (hl : s.heap.IsList l vs.toArray) (hi' : IntsAre vs ns) (pl : IsPart vl lo) (pu : IsPart vu hi) (pk : IsPart vk st) (h0 : st ≠ some 0)
    (h : ∀ h' D, InElt g h' → Fr h₀ L h' m → News h₀ L h' news → h'.IsList D (slicePick vs.toArray lo hi st).toList.toArray → IntsAre (slicePick vs.toArray lo hi st).toList (pickNums ns lo hi st) → Q (.ref D) { s with heap := h' })
    (hs : subscripted slice false (.ref l) (.ref s.heap.objs.size) = operate ops (getItem (.ref l) (.ref s.heap.objs.size)) := by with_unfolding_all rfl)
    (ht : ∀ r, letTemporaryGo value (.ref l) r = pure () := by intro _; with_unfolding_all rfl)
    (hsz : vs.toArray.size ≤ sizeLine := by size_fits) :
    wpAny (model prog w) A (subscriptTail value slice (.ref l) (.ref s.heap.objs.size)) Q E { s with heap := s.heap.push { cls := .type "slice", data := .fields #[vl, vu, vk] } } := by
  have k1 : ∀ x o, s.heap.get? x = some o → (s.heap.push { cls := .type "slice", data := .fields #[vl, vu, vk] }).get? x = some o := fun _ _ e => Heap.get?_push_of_some _ e
  have k2 : ∀ x o, s.heap.get? x = some o → ((s.heap.push { cls := .type "slice", data := .fields #[vl, vu, vk] }).push { cls := .type "list", data := .seq (slicePick vs.toArray lo hi st) }).get? x = some o := fun x o e => Heap.get?_push_of_some _ (k1 x o e)
  refine subscriptTail_ops (Heap.IsList.typeIs (s := { s with heap := s.heap.push { cls := .type "slice", data := .fields #[vl, vu, vk] } }) (hl.push _)) list_getitem_lookup
    (wpAny_getItem_list_slice (hl.push _) (Heap.IsSliceOf.new ..) pl pu pk h0 ?_ hsz) hs ht
  refine h _ _ (elt_on C k2) ((F.push _).push _) (N.grown k2) ?_ (hi'.pick lo hi st)
  exact ⟨_, Heap.get?_push_size _ rfl, rfl, 0, by simp⟩

/-- a sum inside an element -/
theorem sum_elt {l : Addr} {vs : List Value} {ns : List Int} {Q : Value → Shared → Prop} (C : InElt g s.heap) (hh : A.handled = none) (F : Fr h₀ L s.heap m) (N : News h₀ L s.heap news) (hl : s.heap.IsList l vs.toArray) (hi : IntsAre vs ns)
    (h : ∀ h' tk t', InElt g h' → Fr h₀ L h' m → News h₀ L h' news → Q (.int ns.sum t') { s with heap := h', toks := tk }) :
    wpAny (model prog w) A (call (.builtin "sum") [.ref l]) Q E s := by
  obtain ⟨xs, hx⟩ := hi.allInts.items
  have e : numsOf (intItems xs).toList = ns := by rw [← hx]; exact hi.numsOf
  have q : preSum (numAt xs) xs.size = ns.sum := by
    rw [preSum_eq, List.take_of_length_le (by simp), ← e, nums_intItems]
  rw [hx] at hl
  refine sum_intListG hh hl fun h' tk t' hk => ?_
  rw [q]
  exact h h' tk t' (elt_on C hk) (F.keeps hk) (N.grown hk)
end
end Mine

namespace Mine
set_option maxRecDepth 100000 in
set_option maxHeartbeats 8000000 in
open_top hd_02 for PySem.Challenge.rw_sr0103_02
end Mine

namespace Mine
/-- one turn of the register, as the program takes it -/
def gstep (x : Int) : Int := if Builtin.bitAnd x 1 ≠ 0 then Builtin.bitXor (x.fdiv (2 ^ Int.toNat 1)) 3988292384 else x.fdiv (2 ^ Int.toNat 1)
theorem gstep_t {x : Int} (h : Builtin.bitAnd x 1 ≠ 0) : gstep x = Builtin.bitXor (x.fdiv (2 ^ Int.toNat 1)) 3988292384 := if_pos h
theorem gstep_f {x : Int} (h : ¬ Builtin.bitAnd x 1 ≠ 0) : gstep x = x.fdiv (2 ^ Int.toNat 1) := if_neg h
def genCrc (x : Int) : Int := (rangeKs 0 8).foldl (fun a _ => gstep a) x
/-- one turn of the carryless product -/
def wstep (o m k : Int) : Int := if Builtin.bitAnd (o.fdiv (2 ^ k.toNat)) 1 ≠ 0 then Builtin.bitXor m (7976584769 * 2 ^ k.toNat) else m
theorem wstep_t {o m k : Int} (h : Builtin.bitAnd (o.fdiv (2 ^ k.toNat)) 1 ≠ 0) : wstep o m k = Builtin.bitXor m (7976584769 * 2 ^ k.toNat) := if_pos h
theorem wstep_f {o m k : Int} (h : ¬ Builtin.bitAnd (o.fdiv (2 ^ k.toNat)) 1 ≠ 0) : wstep o m k = m := if_neg h
def woven (o : Int) : Int := (rangeKs 0 8).foldl (wstep o) 0

local macro_rules | `(tactic| walk_at "InvEndN") => `(tactic| ((refine InvEndN.intro (by assumption) (by assumption) ⟨rfl, kpf_int ?kpe (by with_unfolding_all rfl), by kpf_same3⟩ (by rfl) (by (with_unfolding_all ((try simp only [List.nil_append, List.cons_append]); kst_allIn))) (by (intro p hp; first | k_ownIn | kst_mem))); (case kpe => first | exact gstep_t (by assumption) | exact gstep_f (by assumption) | exact wstep_t (by assumption) | exact wstep_f (by assumption))))
local macro_rules | `(tactic| walk_at "pyIter ref") => `(tactic| (k_of "j" => ((rename Fr _ _ _ _ => lF'); (rename News _ _ _ _ => lN'); (rename IsRange _ _ _ _ _ _ _ _ => rgX); (with_unfolding_all refine' kpr_n1 (y := Str.ofString "crc") [] (fun a _ => gstep a) (by rfl) (by first | exact rgX | assumption) (by decide) (by exact rangeSize_nat _ _) lF' lN' (by rfl) (fun k' t' a' ta' u' h' tk' own' hlo' hhi' hoff' F' N' => ?_) ?_); (all_goals (try clear lF' lN')); (all_goals (try simp only [List.nil_append, List.cons_append, List.append_nil] at N')); (all_goals (try k_fold)))))
local macro_rules | `(tactic| walk_at "pyIter ref") => `(tactic| (k_of "place" => ((rename Fr _ _ _ _ => lF'); (rename News _ _ _ _ => lN'); (rename IsRange _ _ _ _ _ _ _ _ => rgX); (with_unfolding_all refine' kpr_n1 (y := Str.ofString "made") [] (wstep _) (by rfl) (by first | exact rgX | assumption) (by decide) (by exact rangeSize_nat _ _) lF' lN' (by rfl) (fun k' t' a' ta' u' h' tk' own' hlo' hhi' hoff' F' N' => ?_) ?_); (all_goals (try clear lF' lN')); (all_goals (try simp only [List.nil_append, List.cons_append, List.append_nil] at N')); (all_goals (try k_fold)))))
local macro_rules | `(tactic| walk_at "exec For Name Call cons nil") => `(tactic| (k_of "j" "place" => kpr_for))

set_option maxRecDepth 100000 in
set_option maxHeartbeats 8000000 in
theorem gen_ct (w : World) (mean : ExcName → Option Value) (mg mb : Str → Option Value) (news : List (Addr × Obj)) (x : Int) (tx : Tok) :
    CbClaim PySem.Challenge.rw_sr0103_02.row.prog w (hd_02.heap_39 w.params) hd_02.view_39 (looseW hd_02.view_39 []) mean mg mb 21 news [] True [.int x tx] (fun t => .int (genCrc x) t) := by
  k_fill
  dsimp only [CbClaim, CbLists, CbRet]
  intros
  rename_i hret
  refine wpAny_call ?_
  (k_dflt cell_enter)
  k_steps
  exact cb_retI hret rfl (by assumption) (by assumption)

set_option maxRecDepth 100000 in
set_option maxHeartbeats 8000000 in
theorem woven_ct (w : World) (mean : ExcName → Option Value) (mg mb : Str → Option Value) (news : List (Addr × Obj)) (x : Int) (tx : Tok) (_hx : 0 ≤ x ∧ x < 256) :
    CbClaim PySem.Challenge.rw_sr0103_02.row.prog w (hd_02.heap_39 w.params) hd_02.view_39 (looseW hd_02.view_39 []) mean mg mb 28 news [] True [.int x tx] (fun t => .int (woven x) t) := by
  k_fill
  dsimp only [CbClaim, CbLists, CbRet]
  intros
  rename_i hret
  refine wpAny_call ?_
  (k_dflt cell_enter)
  k_steps
  exact cb_retI hret rfl (by assumption) (by assumption)

section
variable {w : World} {mean : ExcName → Option Value} {mg mb : Str → Option Value} {news : List (Addr × Obj)} {x : Int} {tx : Tok} {dp un : Nat} {gd : Option (List Code)} {cn : Str} {cs : Scope} {a : Addr} {ccd : Value} {cl : List (Str × Addr)} {outer : List Env} {A₀ : Around} {base h₀ : Heap} {L : Addr} {m : Str → Option Value} {s : Shared} {Q E : Value → Shared → Prop}
theorem gen_use (k1 : Below A₀ base outer h₀) (k2 : Fr h₀ L s.heap m) (k3 : (hd_02.heap_39 w.params).In h₀) (k4 : News h₀ L s.heap news) (k5 : Top hd_02.view_39 (looseW hd_02.view_39 []) mean mg mb h₀) (kK : cs.kind = .function) (kd : dp + 1 < recursionLimit) (ku : un + 8 < cLine)
    (hret : ∀ t h' tk', Fr h₀ L h' m → News h₀ L h' news → Q (.int (genCrc x) t) { s with heap := h', toks := tk' }) :
    wpAny (model PySem.Challenge.rw_sr0103_02.row.prog w) (ktrTop dp un gd cn cs L a ccd cl outer) (call (.ref 21) [.int x tx]) Q E s :=
  gen_ct w mean mg mb news x tx dp un gd cn cs a ccd cl outer A₀ base h₀ L m s Q E k1 k2 k3 k4 k5 kK trivial kd ku hret
theorem woven_use (k1 : Below A₀ base outer h₀) (k2 : Fr h₀ L s.heap m) (k3 : (hd_02.heap_39 w.params).In h₀) (k4 : News h₀ L s.heap news) (k5 : Top hd_02.view_39 (looseW hd_02.view_39 []) mean mg mb h₀) (kK : cs.kind = .function) (kd : dp + 1 < recursionLimit) (ku : un + 8 < cLine) (hx : 0 ≤ x ∧ x < 256)
    (hret : ∀ t h' tk', Fr h₀ L h' m → News h₀ L h' news → Q (.int (woven x) t) { s with heap := h', toks := tk' }) :
    wpAny (model PySem.Challenge.rw_sr0103_02.row.prog w) (ktrTop dp un gd cn cs L a ccd cl outer) (call (.ref 28) [.int x tx]) Q E s :=
  woven_ct w mean mg mb news x tx hx dp un gd cn cs a ccd cl outer A₀ base h₀ L m s Q E k1 k2 k3 k4 k5 kK trivial kd ku hret
end
end Mine

namespace Mine
def Octets (os : List Int) : Prop := os.length ≤ 41 ∧ ∀ o ∈ os, 0 ≤ o ∧ o < 256

section
variable {prog : Program} {w : World} {A : Around} {E : Value → Shared → Prop} {s : Shared} {h₀ : Heap} {L : Addr} {m : Str → Option Value} {news : List (Addr × Obj)}
theorem add_octets {l b : Addr} {ws : List Value} {j : Int} {tj : Tok} {c : Nat} {g : Int → Int} {ks : List Int} {Q : Value → Shared → Prop}
    (F : Fr h₀ L s.heap m) (N : News h₀ L s.heap ((l, listOf #[.int j tj] c) :: news)) (hb : s.heap.IsList b ws.toArray) (hc : CarriedAll ws (ks.map fun a => PyData.int ((g a).fmod 256)))
    (hj : 0 ≤ j ∧ j ≤ 40) (hk : ks.length ≤ 40)
    (h : ∀ h' D us os, Fr h₀ L h' m → News h₀ L h' ((D, listOf us.toArray 0) :: news) → (∀ p ∈ news, p.1 < D) → IntsAre us os → us.length ≤ 41 → Octets os → Q (.ref D) { s with heap := h' }) :
    wpAny (model prog w) A (binaryOp .Add (.ref l) (.ref b)) Q E s := by
  have hi : IntsAre ws (ks.map fun a => (g a).fmod 256) := hc.intsOf
  have h1 : s.heap.IsList l ([Value.int j tj] : List Value).toArray := News.isList N (.head _)
  have hlen : ([j] ++ ks.map fun a => (g a).fmod 256).length ≤ 41 := by simp; omega
  refine add_lists_ints (vs := [.int j tj]) (ns := [j]) F N h1 hb (.cons _ _ .nil) hi (fun h' F' N' hI => ?_) (by have := sizeLine_eq; simp; omega)
  refine h h' _ _ _ F' ?_ (fun p hp => Heap.lt_size (N p (.tail _ hp)).1) hI (by rw [hI.length]; exact hlen) ⟨hlen, fun o ho => ?_⟩
  · exact fun p hp => by
      rcases List.mem_cons.mp hp with rfl | hp
      · exact N' _ (.head _)
      · exact N' _ (.tail _ (.tail _ hp))
  · rcases List.mem_cons.mp ho with rfl | ho
    · omega
    · obtain ⟨a, _, rfl⟩ := List.mem_map.mp ho
      exact ⟨Int.fmod_nonneg_of_pos _ (by decide), Int.fmod_lt_of_pos _ (by decide)⟩
end
end Mine

namespace Mine
def mstep (v o : Int) : Int := Builtin.bitXor (v * 2 ^ Int.toNat 8) (woven o)
/-- what the law has made so far: all but the last, and the last -/
def mk (z : Int) (pre : List Int) : List Int × Int := pre.foldl (fun p o => (p.1 ++ [p.2], mstep p.2 o)) ([], z)
theorem mk_nil (z : Int) : mk z [] = ([], z) := rfl
theorem mk_snoc (z : Int) (pre : List Int) (o : Int) : mk z (pre ++ [o]) = ((mk z pre).1 ++ [(mk z pre).2], mstep (mk z pre).2 o) := by
  simp [mk, List.foldl_append]
theorem mk_len (z : Int) (pre : List Int) : (mk z pre).1.length = pre.length := by
  suffices ∀ l : List Int, ∀ p : List Int × Int, (l.foldl (fun p o => (p.1 ++ [p.2], mstep p.2 o)) p).1.length = p.1.length + l.length by
    have h := this pre ([], z)
    simpa [mk] using h
  intro l
  induction l with
  | nil => intro p; simp
  | cons a r ih => intro p; rw [List.foldl_cons, ih]; simp; omega

section
variable {prog : Program} {w : World} {A : Around} {E : Value → Shared → Prop} {s : Shared} {env : Env} {h₀ : Heap} {x : Str} {body : List Stmt} {Q : Flow → Shared → Prop}
def InvA (m₀ : Str → Option Value) (x : Str) (M : Addr) (z : Int) (rest : List (Addr × Obj)) (pre : List Int) (m : Str → Option Value) (n : List (Addr × Obj)) : Prop :=
  ∃ ws k u, m = (fun y => if y = x then u else m₀ y) ∧ n = (M, listOf ws.toArray k) :: rest ∧ IntsAre ws ((mk z pre).1 ++ [(mk z pre).2])

theorem made_loop {D I M : Addr} {us : List Value} {os : List Int} {k c : Nat} {z : Int} {tz : Tok} {m₀ : Str → Option Value} {rest : List (Addr × Obj)}
    (hh : A.handled = none) (F : Fr h₀ env.locals s.heap m₀) (N : News h₀ env.locals s.heap ((I, revObj D ((us.length : Int) - 1)) :: (M, listOf #[.int z tz] c) :: (D, listOf us.toArray k) :: rest))
    (hof : OffI I (revObj D ((us.length : Int) - 1)) ((M, listOf #[.int z tz] c) :: (D, listOf us.toArray k) :: rest)) (hu : IntsAre us os) (hO : Octets os)
    (turn : ∀ pre o suf t ws k' (it : Obj) h tk, os.reverse = pre ++ o :: suf → (0 ≤ o ∧ o < 256) → pre.length ≤ 40 → ws.length ≤ 41 → it.cls = .type "list_reverseiterator" → IntsAre ws ((mk z pre).1 ++ [(mk z pre).2]) →
      Fr h₀ env.locals h (fun y => if y = x then some (.int o t) else m₀ y) → News h₀ env.locals h ((I, it) :: (M, listOf ws.toArray k') :: (D, listOf us.toArray k) :: rest) →
      wpAny (model prog w) A (execs body env) (UnrPost h₀ env.locals { s with heap := h, toks := tk } I it (InvA m₀ x M z ((D, listOf us.toArray k) :: rest) (pre ++ [o])) Q) E { s with heap := h, toks := tk })
    (done : ∀ u ws k' h tk, IntsAre ws ((mk z os.reverse).1 ++ [(mk z os.reverse).2]) → ws.length ≤ 42 → Fr h₀ env.locals h (fun y => if y = x then u else m₀ y) → News h₀ env.locals h ((M, listOf ws.toArray k') :: (D, listOf us.toArray k) :: rest) → Q .next { s with heap := h, toks := tk }) :
    wpAny (model prog w) A (pyIter (.ref I)) (fun it s₂ => LoopAtV prog w A h₀ env x body Q E it s₂) E s := by
  refine rev_loop (InvA m₀ x M z ((D, listOf us.toArray k) :: rest)) hh F N hof (.tail _ (.head _)) rfl rfl hu ⟨_, c, m₀ x, ?_, rfl, .cons z tz .nil⟩ ?_ ?_ ?_
  · funext y
    by_cases h : y = x <;> simp [h]
  · rintro pre m n ⟨ws, k', u, rfl, rfl, _⟩
    exact .tail _ (.head _)
  · rintro pre o suf t m n it h tk ho ⟨ws, k', u, rfl, rfl, hI⟩ hc F N
    have e : (fun y => if y = x then some (Value.int o t) else if y = x then u else m₀ y) = fun y => if y = x then some (Value.int o t) else m₀ y := by
      funext y
      by_cases h : y = x <;> simp [h]
    rw [e] at F
    have hl : pre.length + (suf.length + 1) ≤ 41 := by
      have := congrArg List.length ho
      rw [List.length_reverse, List.length_append, List.length_cons] at this
      have := hO.1
      omega
    have hw := hI.length
    rw [List.length_append, mk_len] at hw
    simp only [List.length_cons, List.length_nil] at hw
    exact turn pre o suf t ws k' it h tk ho (hO.2 o (by rw [← List.mem_reverse, ho]; simp)) (by omega) (by omega) hc hI F N
  · rintro m n h tk ⟨ws, k', u, rfl, rfl, hI⟩ F N
    have hw := hI.length
    rw [List.length_append, mk_len, List.length_reverse] at hw
    simp only [List.length_cons, List.length_nil] at hw
    have := hO.1
    exact done u ws k' h tk hI (by omega) F N
end
end Mine

namespace Mine
theorem fdiv_two (x : Int) : x.fdiv (2 ^ Int.toNat 1) = x / 2 := by
  rw [Int.fdiv_eq_ediv_of_nonneg _ (by decide)]; rfl
theorem gstep_eq (x : Int) : gstep x = if x % 2 = 1 then X (x / 2) 3988292384 else x / 2 := by
  unfold gstep
  rw [bitAnd_m1, fdiv_two]
  by_cases h : x % 2 = 1
  · rw [if_pos h, if_pos (by omega)]; rfl
  · rw [if_neg h, if_neg (by omega)]
theorem gstep_X (x y : Int) : gstep (X x y) = X (gstep x) (gstep y) := by
  rw [gstep_eq, gstep_eq, gstep_eq, X_mod, X_half]
  have hx : x % 2 = 0 ∨ x % 2 = 1 := by omega
  have hy : y % 2 = 0 ∨ y % 2 = 1 := by omega
  rcases hx with hx | hx <;> rcases hy with hy | hy <;> simp only [hx, hy] <;> simp
  · exact X_assoc _ _ _
  · rw [X_assoc, X_assoc, X_comm (y / 2)]
  · rw [X_assoc, X_left 3988292384, X_self, X_zero]
theorem gstep_double (x : Int) : gstep (x * 2) = x := by
  rw [gstep_eq, if_neg (by omega)]; omega
theorem genCrc_eq (x : Int) : genCrc x = gstep (gstep (gstep (gstep (gstep (gstep (gstep (gstep x))))))) := by
  unfold genCrc
  rw [show rangeKs 0 8 = [0, 1, 2, 3, 4, 5, 6, 7] from by decide +kernel]
  rfl
theorem genCrc_X (x y : Int) : genCrc (X x y) = X (genCrc x) (genCrc y) := by
  simp only [genCrc_eq, gstep_X]
theorem genCrc_shift (x : Int) : genCrc (x * 2 ^ 8) = x := by
  rw [genCrc_eq, show x * 2 ^ 8 = x * 2 * 2 * 2 * 2 * 2 * 2 * 2 * 2 by omega]
  simp only [gstep_double]
theorem woven_facts : ∀ o : Fin 256, genCrc (woven (o.val : Int)) = 0 ∧ 0 ≤ woven (o.val : Int) ∧ woven (o.val : Int) < 2 ^ 41 := by decide +kernel
theorem woven_ok {o : Int} (h : 0 ≤ o ∧ o < 256) : genCrc (woven o) = 0 ∧ 0 ≤ woven o ∧ woven o < 2 ^ 41 := by
  have := woven_facts ⟨o.toNat, by omega⟩
  simpa [Int.toNat_of_nonneg h.1] using this
theorem genCrc_mstep {v o : Int} (h : 0 ≤ o ∧ o < 256) : genCrc (mstep v o) = v := by
  show genCrc (X (v * 2 ^ 8) (woven o)) = v
  rw [genCrc_X, genCrc_shift, (woven_ok h).1, X_zero]

/-- the numbers seen on the way back -/
def seen : Int → List Int → List Int
  | _, [] => []
  | v, _ :: r => genCrc v :: seen (genCrc v) r
theorem seen_made (z : Int) : ∀ os : List Int, (∀ o ∈ os, 0 ≤ o ∧ o < 256) → seen (mk z os.reverse).2 os = (mk z os.reverse).1.reverse
  | [], _ => rfl
  | o :: r, h => by
    rw [List.reverse_cons, mk_snoc]
    show genCrc (mstep (mk z r.reverse).2 o) :: seen (genCrc (mstep (mk z r.reverse).2 o)) r = _
    rw [genCrc_mstep (h o (.head _)), seen_made z r fun a ha => h a (.tail _ ha), List.reverse_append]
    rfl
/-- octets taken in all at once -/
def great : Nat → Int → List Int → Int
  | _, v, [] => v
  | i, v, o :: r => great (i + 1) (X v (o * 2 ^ (8 * i))) r
def fed : Int → List Int → Int
  | v, [] => v
  | v, o :: r => fed (genCrc (X v o)) r
def back : Int → List Int → Int
  | v, [] => v
  | v, _ :: r => back (genCrc v) r
theorem genCrc_shift_i (o : Int) (i : Nat) : genCrc (o * 2 ^ (8 * (i + 1))) = o * 2 ^ (8 * i) := by
  rw [show 8 * (i + 1) = 8 * i + 8 by omega, Int.pow_add, ← Int.mul_assoc, genCrc_shift]
theorem great_back : ∀ (r : List Int) (i : Nat) (v : Int), genCrc (great (i + 1) v r) = great i (genCrc v) r
  | [], _, _ => rfl
  | o :: r, i, v => by
    show genCrc (great (i + 1 + 1) (X v (o * 2 ^ (8 * (i + 1)))) r) = great (i + 1) (X (genCrc v) (o * 2 ^ (8 * i))) r
    rw [great_back r (i + 1), genCrc_X, genCrc_shift_i]
theorem fed_great : ∀ (os : List Int) (v : Int), back (great 0 v os) os = fed v os
  | [], _ => rfl
  | o :: r, v => by
    show back (genCrc (great 1 (X v (o * 2 ^ (8 * 0))) r)) r = fed (genCrc (X v o)) r
    rw [great_back r 0, fed_great r, show o * 2 ^ (8 * 0) = o by simp]

/-! sizes -/
theorem mstep_range {n : Nat} {v o : Int} (hn : 33 ≤ n) (h : 0 ≤ o ∧ o < 256) (a : -2 ^ n ≤ v) (b : v < 2 ^ n) : -2 ^ (n + 8) ≤ mstep v o ∧ mstep v o < 2 ^ (n + 8) := by
  have hw := woven_ok h
  have hp : (2 : Int) ^ (n + 8) = 2 ^ n * 256 := by rw [Int.pow_add]; rfl
  have h33 : (2 : Int) ^ 33 ≤ 2 ^ n := by
    obtain ⟨k, rfl⟩ : ∃ k, n = 33 + k := ⟨n - 33, by omega⟩
    rw [Int.pow_add]
    have : (0 : Int) < 2 ^ k := Int.pow_pos (by decide)
    omega
  refine X_range (n + 8) (v * 2 ^ 8) (woven o) ?_ ?_ ?_ ?_ <;> rw [hp] <;> omega
theorem mk_range {n : Nat} {z : Int} (hn : 33 ≤ n) (a : -2 ^ n ≤ z) (b : z < 2 ^ n) : ∀ r : List Int, (∀ o ∈ r, 0 ≤ o ∧ o < 256) → -2 ^ (n + 8 * r.length) ≤ (mk z r.reverse).2 ∧ (mk z r.reverse).2 < 2 ^ (n + 8 * r.length)
  | [], _ => ⟨a, b⟩
  | o :: r, h => by
    rw [List.reverse_cons, mk_snoc]
    have ih := mk_range hn a b r fun a ha => h a (.tail _ ha)
    have := mstep_range (n := n + 8 * r.length) (by omega) (h o (.head _)) ih.1 ih.2
    rw [show n + 8 * (o :: r).length = n + 8 * r.length + 8 by simp only [List.length_cons]; omega]
    exact this
theorem bits_of_range {n : Nat} {z : Int} (a : -2 ^ n ≤ z) (b : z < 2 ^ n) : Builtin.Int.intBits z ≤ n + 1 := by
  refine intBits_le_iff.mpr ?_
  rw [Nat.pow_succ]
  have e : ((2 ^ n : Nat) : Int) = 2 ^ n := by simp
  have hp : 0 < 2 ^ n := Nat.two_pow_pos n
  generalize (2 : Nat) ^ n = p at e hp ⊢
  rw [← e] at a b
  omega
theorem range_of_bits {n : Nat} {z : Int} (h : Builtin.Int.intBits z ≤ n) : -2 ^ n ≤ z ∧ z < 2 ^ n := by
  have h := intBits_le_iff.mp h
  have e : ((2 ^ n : Nat) : Int) = 2 ^ n := by simp
  generalize (2 : Nat) ^ n = p at e h ⊢
  rw [← e]
  omega
theorem mk_bits {N : Nat} {z : Int} (hN : 33 ≤ N) (hz : Builtin.Int.intBits z ≤ N) {os pre suf : List Int} {o : Int} (ho : os.reverse = pre ++ o :: suf) (hO : Octets os) : Builtin.Int.intBits (mk z pre).2 ≤ N + 400 := by
  have hz := range_of_bits hz
  have hp : ∀ a ∈ pre.reverse, 0 ≤ a ∧ a < 256 := fun a ha => hO.2 a (by rw [← List.mem_reverse, ho]; exact List.mem_append_left _ (List.mem_reverse.mp ha))
  have := mk_range hN hz.1 hz.2 pre.reverse hp
  rw [List.reverse_reverse, List.length_reverse] at this
  have hb := bits_of_range this.1 this.2
  have hl := congrArg List.length ho
  rw [List.length_reverse, List.length_append, List.length_cons] at hl
  have := hO.1
  omega
end Mine

namespace Mine
theorem ints_pairs : ∀ {us : List Value} {os : List Int}, IntsAre us os → ∃ ps : List (Int × Tok), us = ps.map (fun p => Value.int p.1 p.2) ∧ os = ps.map (·.1)
  | _, _, .nil => ⟨[], rfl, rfl⟩
  | _, _, .cons n t h => by
    obtain ⟨ps, a, b⟩ := ints_pairs h
    exact ⟨(n, t) :: ps, by rw [a]; rfl, by rw [b]; rfl⟩

section
variable {prog : Program} {w : World} {A : Around} {E : Value → Shared → Prop} {s : Shared} {env : Env} {h₀ : Heap} {x : Str} {body : List Stmt} {Q : Flow → Shared → Prop}

/-! loop A -/
def EndA (h₀ : Heap) (L I : Addr) (it : Obj) (M : Addr) (rest : List (Addr × Obj)) (m₀ : Str → Option Value) (x : Str) (s₁ : Shared) (l : List Int) (s₂ : Shared) : Prop :=
  ∃ h' tk ws k u, s₂ = { s₁ with heap := h', toks := tk } ∧ Fr h₀ L h' (fun y => if y = x then u else m₀ y) ∧ News h₀ L h' ((I, it) :: (M, listOf ws.toArray k) :: rest) ∧ IntsAre ws l
def PostA (h₀ : Heap) (L I : Addr) (it : Obj) (M : Addr) (rest : List (Addr × Obj)) (m₀ : Str → Option Value) (x : Str) (s₁ : Shared) (l : List Int) (Q : Flow → Shared → Prop) (f : Flow) (s₂ : Shared) : Prop :=
  match f with
  | .ret v => Q (.ret v) s₂
  | .brk => Q .next s₂
  | _ => EndA h₀ L I it M rest m₀ x s₁ l s₂
theorem EndA.intro {L I M : Addr} {it : Obj} {rest : List (Addr × Obj)} {m₀ : Str → Option Value} {s₁ : Shared} {l l' : List Int} {h' : Heap} {tk k : Nat} {ws : List Value} {u : Option Value}
    (F : Fr h₀ L h' (fun y => if y = x then u else m₀ y)) (N : News h₀ L h' ((I, it) :: (M, listOf ws.toArray k) :: rest)) (hi : IntsAre ws l') (e : l' = l) : EndA h₀ L I it M rest m₀ x s₁ l { s₁ with heap := h', toks := tk } :=
  ⟨h', tk, ws, k, u, rfl, F, N, e ▸ hi⟩
theorem PostA.toUnr {L I M : Addr} {it : Obj} {rest : List (Addr × Obj)} {m₀ : Str → Option Value} {s₁ s₂ : Shared} {z : Int} {pre : List Int} {f : Flow} (hM : M ≠ I) (hR : ∀ p ∈ rest, p.1 ≠ I)
    (h : PostA h₀ L I it M rest m₀ x s₁ ((mk z pre).1 ++ [(mk z pre).2]) Q f s₂) : UnrPost h₀ L s₁ I it (InvA m₀ x M z rest pre) Q f s₂ := by
  have go : EndA h₀ L I it M rest m₀ x s₁ ((mk z pre).1 ++ [(mk z pre).2]) s₂ → UnrEnd h₀ L s₁ I it (InvA m₀ x M z rest pre) s₂ := by
    rintro ⟨h', tk, ws, k, u, rfl, F, N, hi⟩
    refine ⟨h', tk, _, _, rfl, F, N, fun p hp => ?_, ws, k, u, rfl, rfl, hi⟩
    rcases List.mem_cons.mp hp with rfl | hp
    · exact hM
    · exact hR p hp
  cases f with
  | ret v => exact h
  | brk => exact h
  | next => exact go h
  | cont => exact go h

theorem loopA {D I M : Addr} {us : List Value} {os : List Int} {k c N₀ : Nat} {z : Int} {tz : Tok} {m₀ : Str → Option Value} {rest : List (Addr × Obj)}
    (hh : A.handled = none) (F : Fr h₀ env.locals s.heap m₀) (N : News h₀ env.locals s.heap ((I, revObj D ((us.length : Int) - 1)) :: (M, listOf #[.int z tz] c) :: (D, listOf us.toArray k) :: rest))
    (hM : M ≠ I) (hD : D ≠ I) (hR : ∀ p ∈ rest, p.1 ≠ I) (hu : IntsAre us os) (hO : Octets os) (hN : 33 ≤ N₀) (hz : Builtin.Int.intBits z ≤ N₀)
    (turn : ∀ pre o t ws k' (it : Obj) h tk, (0 ≤ o ∧ o < 256) → ws.length ≤ 41 → it.cls = .type "list_reverseiterator" → IntsAre ws ((mk z pre).1 ++ [(mk z pre).2]) → Builtin.Int.intBits (mk z pre).2 ≤ N₀ + 400 →
      Fr h₀ env.locals h (fun y => if y = x then some (.int o t) else m₀ y) → News h₀ env.locals h ((I, it) :: (M, listOf ws.toArray k') :: (D, listOf us.toArray k) :: rest) →
      wpAny (model prog w) A (execs body env) (PostA h₀ env.locals I it M ((D, listOf us.toArray k) :: rest) m₀ x { s with heap := h, toks := tk } ((mk z pre).1 ++ [(mk z pre).2] ++ [mstep (mk z pre).2 o]) Q) E { s with heap := h, toks := tk })
    (done : ∀ u ws k' h tk, IntsAre ws ((mk z os.reverse).1 ++ [(mk z os.reverse).2]) → ws.length ≤ 42 → Fr h₀ env.locals h (fun y => if y = x then u else m₀ y) → News h₀ env.locals h ((M, listOf ws.toArray k') :: (D, listOf us.toArray k) :: rest) → Q .next { s with heap := h, toks := tk }) :
    wpAny (model prog w) A (pyIter (.ref I)) (fun it s₂ => LoopAtV prog w A h₀ env x body Q E it s₂) E s := by
  have hof : OffI I (revObj D ((us.length : Int) - 1)) ((M, listOf #[.int z tz] c) :: (D, listOf us.toArray k) :: rest) := by
    have : ∀ l : List (Addr × Obj), (∀ p ∈ l, p.1 ≠ I) → OffI I (revObj D ((us.length : Int) - 1)) l := by
      intro l
      induction l with
      | nil => intro _; trivial
      | cons p r ih => intro h; exact ⟨.inl (h p (.head _)), ih fun q hq => h q (.tail _ hq)⟩
    refine this _ fun p hp => ?_
    rcases List.mem_cons.mp hp with rfl | hp
    · exact hM
    · rcases List.mem_cons.mp hp with rfl | hp
      · exact hD
      · exact hR p hp
  refine made_loop hh F N hof hu hO (fun pre o suf t ws k' it h tk ho h1 _ h3 h4 hI F' N' => ?_) done
  refine wpAny_mono (turn pre o t ws k' it h tk h1 h3 h4 hI (mk_bits hN hz ho hO) F' N') (fun f s₂ p => ?_) fun _ _ e => e
  refine PostA.toUnr hM (fun q hq => ?_) ?_
  · rcases List.mem_cons.mp hq with rfl | hq
    · exact hD
    · exact hR q hq
  · rw [mk_snoc]
    exact p

/-! loop B -/
structure StB where
  i : Nat
  whole : Int
  seen : List Int
  fed : Int
  great : Int
def StB.step (q : StB) (o : Int) : StB := ⟨q.i + 1, genCrc q.whole, q.seen ++ [genCrc q.whole], genCrc (X q.fed o), X q.great (o * 2 ^ (8 * q.i))⟩
def stB (W z : Int) (pre : List Int) : StB := pre.foldl StB.step ⟨0, W, [], z, z⟩
theorem stB_snoc (W z : Int) (pre : List Int) (o : Int) : stB W z (pre ++ [o]) = (stB W z pre).step o := by simp [stB, List.foldl_append]
theorem foldB : ∀ (os : List Int) (q : StB), os.foldl StB.step q = ⟨q.i + os.length, back q.whole os, q.seen ++ Mine.seen q.whole os, Mine.fed q.fed os, Mine.great q.i q.great os⟩
  | [], q => by
    show q = StB.mk q.i q.whole (q.seen ++ []) q.fed q.great
    rw [List.append_nil]
  | o :: r, q => by
    rw [List.foldl_cons, foldB r]
    show StB.mk (q.i + 1 + r.length) (back (genCrc q.whole) r) (q.seen ++ [genCrc q.whole] ++ Mine.seen (genCrc q.whole) r) (Mine.fed (genCrc (X q.fed o)) r) (Mine.great (q.i + 1) (X q.great (o * 2 ^ (8 * q.i))) r)
      = StB.mk (q.i + (r.length + 1)) (back (genCrc q.whole) r) (q.seen ++ genCrc q.whole :: Mine.seen (genCrc q.whole) r) (Mine.fed (genCrc (X q.fed o)) r) (Mine.great (q.i + 1) (X q.great (o * 2 ^ (8 * q.i))) r)
    rw [List.append_assoc, show q.i + 1 + r.length = q.i + (r.length + 1) from by omega]
    rfl
theorem stB_eq (W z : Int) (os : List Int) : stB W z os = ⟨os.length, back W os, seen W os, fed z os, great 0 z os⟩ := by
  show os.foldl StB.step ⟨0, W, [], z, z⟩ = _
  rw [foldB os ⟨0, W, [], z, z⟩]
  show StB.mk (0 + os.length) (back W os) (seen W os) (fed z os) (great 0 z os) = _
  rw [Nat.zero_add]
theorem stB_i (W z : Int) (pre : List Int) : (stB W z pre).i = pre.length := by rw [stB_eq]
theorem seen_length : ∀ (os : List Int) (v : Int), (seen v os).length = os.length
  | [], _ => rfl
  | _ :: r, v => congrArg (· + 1) (seen_length r (genCrc v))

def SameB (m m₀ : Str → Option Value) : Prop := ∀ z, z ≠ Str.ofString "whole" → z ≠ Str.ofString "fed" → z ≠ Str.ofString "great" → z ≠ Str.ofString "place" → z ≠ Str.ofString "octet" → m z = m₀ z
def AtInt (m : Str → Option Value) (y : Str) (a : Int) : Prop := ∃ t, m y = some (.int a t)
def mapB (m₀ : Str → Option Value) (wv fv gv pv ov : Option Value) : Str → Option Value := fun y => if y = Str.ofString "whole" then wv else if y = Str.ofString "fed" then fv else if y = Str.ofString "great" then gv else if y = Str.ofString "place" then pv else if y = Str.ofString "octet" then ov else m₀ y
def InvB (m₀ : Str → Option Value) (S : Addr) (rest : List (Addr × Obj)) (q : StB) (m : Str → Option Value) (n : List (Addr × Obj)) : Prop :=
  ∃ ss k, n = (S, listOf ss.toArray k) :: rest ∧ IntsAre ss q.seen ∧ AtInt m (Str.ofString "whole") q.whole ∧ AtInt m (Str.ofString "fed") q.fed ∧ AtInt m (Str.ofString "great") q.great ∧ SameB m m₀
def EndB (h₀ : Heap) (L : Addr) (its : List (Addr × Obj)) (S : Addr) (rest : List (Addr × Obj)) (m₀ : Str → Option Value) (s₁ : Shared) (q : StB) (s₂ : Shared) : Prop :=
  ∃ h' tk m' ss k, s₂ = { s₁ with heap := h', toks := tk } ∧ Fr h₀ L h' m' ∧ News h₀ L h' (its ++ (S, listOf ss.toArray k) :: rest) ∧ IntsAre ss q.seen ∧ AtInt m' (Str.ofString "whole") q.whole ∧ AtInt m' (Str.ofString "fed") q.fed ∧ AtInt m' (Str.ofString "great") q.great ∧ SameB m' m₀
def PostB (h₀ : Heap) (L : Addr) (its : List (Addr × Obj)) (S : Addr) (rest : List (Addr × Obj)) (m₀ : Str → Option Value) (s₁ : Shared) (q : StB) (Q : Flow → Shared → Prop) (f : Flow) (s₂ : Shared) : Prop :=
  match f with
  | .ret v => Q (.ret v) s₂
  | .brk => Q .next s₂
  | _ => EndB h₀ L its S rest m₀ s₁ q s₂
theorem EndB.intro {L S : Addr} {its rest : List (Addr × Obj)} {m₀ m' : Str → Option Value} {s₁ : Shared} {q : StB} {h' : Heap} {tk k : Nat} {ss : List Value} {o a b c : Int} {l : List Int} {ta tb tc : Tok} {i : Nat}
    (F : Fr h₀ L h' m') (N : News h₀ L h' (its ++ (S, listOf ss.toArray k) :: rest)) (hi : IntsAre ss l) (el : l = q.seen ++ [genCrc q.whole])
    (ea : a = genCrc q.whole) (ha : m' (Str.ofString "whole") = some (.int a ta)) (eb : b = genCrc (Builtin.bitXor q.fed o)) (hb : m' (Str.ofString "fed") = some (.int b tb)) (hi' : q.i = i) (ec : c = Builtin.bitXor q.great (o * 2 ^ (8 * (i : Int)).toNat)) (hc : m' (Str.ofString "great") = some (.int c tc)) (hs : SameB m' m₀) :
    EndB h₀ L its S rest m₀ s₁ (q.step o) { s₁ with heap := h', toks := tk } := by
  subst ea eb ec el hi'
  refine ⟨h', tk, m', ss, k, rfl, F, N, hi, ⟨ta, ha⟩, ⟨tb, hb⟩, ⟨tc, ?_⟩, hs⟩
  rw [hc]
  show some (Value.int (X q.great (o * 2 ^ (8 * (q.i : Int)).toNat)) tc) = some (Value.int (X q.great (o * 2 ^ (8 * q.i))) tc)
  rw [show (8 * (q.i : Int)).toNat = 8 * q.i by omega]

theorem same_mapB {m m₀ : Str → Option Value} {wv fv gv : Option Value} (a : m (Str.ofString "whole") = wv) (b : m (Str.ofString "fed") = fv) (c : m (Str.ofString "great") = gv) (h : SameB m m₀) :
    m = mapB m₀ wv fv gv (m (Str.ofString "place")) (m (Str.ofString "octet")) := by
  funext y
  unfold mapB
  by_cases h1 : y = Str.ofString "whole"
  · subst h1; simp [a]
  by_cases h2 : y = Str.ofString "fed"
  · rw [if_neg h1, if_pos h2, h2, b]
  by_cases h3 : y = Str.ofString "great"
  · rw [if_neg h1, if_neg h2, if_pos h3, h3, c]
  by_cases h4 : y = Str.ofString "place"
  · rw [if_neg h1, if_neg h2, if_neg h3, if_pos h4, h4]
  by_cases h5 : y = Str.ofString "octet"
  · rw [if_neg h1, if_neg h2, if_neg h3, if_neg h4, if_pos h5, h5]
  rw [if_neg h1, if_neg h2, if_neg h3, if_neg h4, if_neg h5]
  exact h y h1 h2 h3 h4 h5

theorem loopB {elts : List PySem.Expr} {kk : Nat} {pos : Pos} {D S : Addr} {us : List Value} {os : List Int} {k c : Nat} {W z : Int} {tw tf tg : Tok} {m₀ : Str → Option Value} {rest : List (Addr × Obj)}
    (hh : A.handled = none) (F : Fr h₀ env.locals s.heap m₀) (N : News h₀ env.locals s.heap ((S, listOf #[] c) :: rest)) (hD : (D, listOf us.toArray k) ∈ rest) (hu : IntsAre us os) (hO : Octets os)
    (hw : m₀ (Str.ofString "whole") = some (.int W tw)) (hf : m₀ (Str.ofString "fed") = some (.int z tf)) (hg : m₀ (Str.ofString "great") = some (.int z tg))
    (turn : ∀ I, (∀ p ∈ ((S, listOf #[] c) :: rest), p.1 < I) → ∀ (q : StB) (i : Nat) o (v : Value) T tp to ss k' wv fv gv pv ov h tk (o1 o2 : Obj), q.i = i → i ≤ 40 → (0 ≤ o ∧ o < 256) → ss.length ≤ 40 → IntsAre ss q.seen → v = .ref T → IsTup h T #[.int (i : Int) tp, .int o to] →
      Fr h₀ env.locals h (mapB m₀ (some (.int q.whole wv)) (some (.int q.fed fv)) (some (.int q.great gv)) pv ov) → o1.cls = .type "enumerate" → o2.cls = .type "list_iterator" → News h₀ env.locals h ((I + 1, o1) :: (I, o2) :: (S, listOf ss.toArray k') :: rest) →
      wpAny (model prog w) A (assign (.Tuple elts kk pos) env (.ref T)) (fun _ s₂ => wpAny (model prog w) A (execs body env) (PostB h₀ env.locals [(I + 1, o1), (I, o2)] S rest m₀ { s with heap := h, toks := tk } (q.step o) Q) E s₂) E { s with heap := h, toks := tk })
    (done : ∀ ss k' wv fv gv pv ov h tk, IntsAre ss (stB W z os).seen → ss.length ≤ 41 →
      Fr h₀ env.locals h (mapB m₀ (some (.int (stB W z os).whole wv)) (some (.int (stB W z os).fed fv)) (some (.int (stB W z os).great gv)) pv ov) → News h₀ env.locals h ((S, listOf ss.toArray k') :: rest) → Q .next { s with heap := h, toks := tk }) :
    wpAny (model prog w) A (call (.type "enumerate") [.ref D]) (fun xv s₁ => wpAny (model prog w) A (pyIter xv) (fun it s₂ => TurnsAt prog w A h₀ env (.Tuple elts kk pos) body Q E it s₂) E s₁) E s := by
  obtain ⟨ps, rfl, rfl⟩ := ints_pairs hu
  have hDm : (D, listOf (ps.map fun p => Value.int p.1 p.2).toArray k) ∈ ((S, listOf #[] c) :: rest) := .tail _ hD
  refine ktu_enum hh F N hDm rfl rfl rfl fun I hI => ?_
  refine items_rest (α := Int × Tok) (as := ps) (f := fun i p => .pair (fun t => .int (i : Int) t) (.int p.1 p.2)) (fun pre => InvB m₀ S rest (stB W z (pre.map (·.1)))) ?_ ?_ ?_ ps _ [] m₀ _ ?_ rfl ⟨[], c, rfl, .nil, ⟨tw, hw⟩, ⟨tf, hf⟩, ⟨tg, hg⟩, fun _ _ _ _ _ _ => rfl⟩
  · rintro pre m n ⟨ss, k', rfl, _⟩
    exact ⟨.tail _ hD, trivial⟩
  · rintro pre ⟨o, to⟩ suf v m n h tk ho ⟨ss, k', rfl, hI', ⟨wv, hw'⟩, ⟨fv, hf'⟩, ⟨gv, hg'⟩, hs'⟩ ⟨T, tp, rfl, hT⟩ F'
    refine fun o1 h1 o2 h2 N' => ?_
    have hl : pre.length + (suf.length + 1) = ps.length := by rw [ho, List.length_append, List.length_cons]
    have hO1 := hO.1
    rw [List.length_map] at hO1
    have hss := hI'.length
    rw [stB_eq, seen_length, List.length_map] at hss
    have hb : 0 ≤ o ∧ o < 256 := hO.2 o (by rw [ho]; simp)
    rw [same_mapB hw' hf' hg' hs'] at F'
    refine wpAny_mono (turn I hI (stB W z (pre.map (·.1))) pre.length o _ T tp to ss k' wv fv gv _ _ h tk o1 o2 (by rw [stB_i, List.length_map]) (by omega) hb (by omega) hI' rfl hT F' h1 h2 N') (fun _ s₂ h₂ => wpAny_mono h₂ (fun f s₃ p => ?_) fun _ _ e => e) fun _ _ e => e
    have go : EndB h₀ env.locals [(I + 1, o1), (I, o2)] S rest m₀ { s with heap := h, toks := tk } ((stB W z (pre.map (·.1))).step o) s₃ → UnrEndW h₀ env.locals { s with heap := h, toks := tk } [(I + 1, o1), (I, o2)] (InvB m₀ S rest (stB W z ((pre ++ [(o, to)]).map (·.1)))) s₃ := by
      rintro ⟨h', tk', m', ss', k'', rfl, F'', N'', hi, a, b, c', d⟩
      rw [List.map_append, List.map_cons, List.map_nil, stB_snoc]
      refine ⟨h', tk', m', _, rfl, F'', N'', fun p hp q hq => ?_, ss', k'', rfl, hi, a, b, c', d⟩
      have hlt : p.1 < I := by
        rcases List.mem_cons.mp hp with rfl | hp
        · exact hI (S, listOf #[] c) (.head _)
        · exact hI _ (.tail _ hp)
      have hq' : q.1 = I + 1 ∨ q.1 = I := by
        rcases List.mem_cons.mp hq with rfl | hq
        · exact .inl rfl
        · rw [List.mem_singleton.mp hq]; exact .inr rfl
      rcases hq' with e | e <;> rw [e]
      · exact Nat.ne_of_lt (Nat.lt_succ_of_lt hlt)
      · exact Nat.ne_of_lt hlt
    cases f with
    | ret v => exact p
    | brk => exact p
    | next => exact go p
    | cont => exact go p
  · rintro m n h tk ⟨ss, k', rfl, hI', ⟨wv, hw'⟩, ⟨fv, hf'⟩, ⟨gv, hg'⟩, hs'⟩ F' N'
    have hss := hI'.length
    rw [stB_eq, seen_length] at hss
    rw [same_mapB hw' hf' hg' hs'] at F'
    exact done ss k' wv fv gv _ _ h tk hI' (by rw [hss]; exact hO.1) F' N'
  · intro i
    cases hp : ps[i]? with
    | none => simpa [enumItems_length] using hp
    | some p =>
      have := enumItems_get (ps.map fun p => Value.int p.1 p.2) 0 i (v := .int p.1 p.2) (by simp [hp])
      simpa using this

/-! loop C -/
def EndC (h₀ : Heap) (L : Addr) (news : List (Addr × Obj)) (m₀ : Str → Option Value) (s₁ : Shared) (a : Int) (s₂ : Shared) : Prop :=
  ∃ h' tk m', s₂ = { s₁ with heap := h', toks := tk } ∧ Fr h₀ L h' m' ∧ News h₀ L h' news ∧ AtInt m' (Str.ofString "great") a ∧ ∀ z, z ≠ Str.ofString "great" → z ≠ Str.ofString "turn" → m' z = m₀ z
def PostC (h₀ : Heap) (L : Addr) (news : List (Addr × Obj)) (m₀ : Str → Option Value) (s₁ : Shared) (a : Int) (Q : Flow → Shared → Prop) (f : Flow) (s₂ : Shared) : Prop :=
  match f with
  | .ret v => Q (.ret v) s₂
  | .brk => Q .next s₂
  | _ => EndC h₀ L news m₀ s₁ a s₂
theorem EndC.intro {L : Addr} {news : List (Addr × Obj)} {m₀ m' : Str → Option Value} {s₁ : Shared} {a b : Int} {t : Tok} {h' : Heap} {tk : Nat} (F : Fr h₀ L h' m') (N : News h₀ L h' news) (e : b = a) (hb : m' (Str.ofString "great") = some (.int b t))
    (hs : ∀ z, z ≠ Str.ofString "great" → z ≠ Str.ofString "turn" → m' z = m₀ z) : EndC h₀ L news m₀ s₁ a { s₁ with heap := h', toks := tk } := by
  subst e
  exact ⟨h', tk, m', rfl, F, N, ⟨t, hb⟩, hs⟩
def InvC (m₀ : Str → Option Value) (news : List (Addr × Obj)) (a : Int) (m : Str → Option Value) (n : List (Addr × Obj)) : Prop := n = news ∧ AtInt m (Str.ofString "great") a ∧ ∀ z, z ≠ Str.ofString "great" → z ≠ Str.ofString "turn" → m z = m₀ z
def mapC (m₀ : Str → Option Value) (gv tv : Option Value) : Str → Option Value := fun y => if y = Str.ofString "great" then gv else if y = Str.ofString "turn" then tv else m₀ y
theorem same_mapC {m m₀ : Str → Option Value} {gv : Option Value} (c : m (Str.ofString "great") = gv) (h : ∀ z, z ≠ Str.ofString "great" → z ≠ Str.ofString "turn" → m z = m₀ z) : m = mapC m₀ gv (m (Str.ofString "turn")) := by
  funext y
  unfold mapC
  by_cases h1 : y = Str.ofString "great"
  · subst h1; simp [c]
  by_cases h2 : y = Str.ofString "turn"
  · rw [if_neg h1, if_pos h2, h2]
  rw [if_neg h1, if_neg h2]
  exact h y h1 h2
theorem back_snoc : ∀ (pre : List Int) (v o : Int), back v (pre ++ [o]) = genCrc (back v pre)
  | [], _, _ => rfl
  | _ :: r, v, o => back_snoc r (genCrc v) o

theorem loopC {px : Pos} {D : Addr} {us : List Value} {os : List Int} {k : Nat} {g : Int} {tg : Tok} {m₀ : Str → Option Value} {news : List (Addr × Obj)}
    (hh : A.handled = none) (F : Fr h₀ env.locals s.heap m₀) (N : News h₀ env.locals s.heap news) (hD : (D, listOf us.toArray k) ∈ news) (hu : IntsAre us os)
    (hg : m₀ (Str.ofString "great") = some (.int g tg))
    (turn : ∀ I, (∀ p ∈ news, p.1 < I) → ∀ (a o : Int) to gv tv h tk (o1 : Obj),
      Fr h₀ env.locals h (mapC m₀ (some (.int a gv)) tv) → o1.cls = .type "list_iterator" → News h₀ env.locals h ((I, o1) :: news) →
      wpAny (model prog w) A (assign (.Name (Str.ofString "turn") px) env (.int o to)) (fun _ s₂ => wpAny (model prog w) A (execs body env) (PostC h₀ env.locals ((I, o1) :: news) m₀ { s with heap := h, toks := tk } (genCrc a) Q) E s₂) E { s with heap := h, toks := tk })
    (done : ∀ gv tv h tk, Fr h₀ env.locals h (mapC m₀ (some (.int (back g os) gv)) tv) → News h₀ env.locals h news → Q .next { s with heap := h, toks := tk }) :
    wpAny (model prog w) A (pyIter (.ref D)) (fun it s₂ => TurnsAt prog w A h₀ env (.Name (Str.ofString "turn") px) body Q E it s₂) E s := by
  obtain ⟨ps, rfl, rfl⟩ := ints_pairs hu
  refine iter_listTurns hh F N hD rfl rfl fun I hI => ?_
  refine items_rest (α := Int × Tok) (as := ps) (f := fun _ p => .val (.int p.1 p.2)) (fun pre => InvC m₀ news (back g (pre.map (·.1)))) ?_ ?_ ?_ ps _ [] m₀ _ ?_ rfl ⟨rfl, ⟨tg, hg⟩, fun _ _ _ => rfl⟩
  · rintro pre m n ⟨rfl, _⟩
    exact ⟨hD, trivial⟩
  · rintro pre ⟨o, to⟩ suf v m n h tk ho ⟨rfl, ⟨gv, hg'⟩, hs'⟩ e F'
    have e' : v = .int o to := e
    subst e'
    refine fun o1 h1 N' => ?_
    rw [same_mapC hg' hs'] at F'
    refine wpAny_mono (turn I hI _ o to gv _ h tk o1 F' h1 N') (fun _ s₂ h₂ => wpAny_mono h₂ (fun f s₃ p => ?_) fun _ _ e => e) fun _ _ e => e
    have go : EndC h₀ env.locals ((I, o1) :: n) m₀ { s with heap := h, toks := tk } (genCrc (back g (pre.map (·.1)))) s₃ → UnrEndW h₀ env.locals { s with heap := h, toks := tk } [(I, o1)] (InvC m₀ n (back g ((pre ++ [(o, to)]).map (·.1)))) s₃ := by
      rintro ⟨h', tk', m', rfl, F'', N'', a, b⟩
      rw [List.map_append, List.map_cons, List.map_nil, back_snoc]
      refine ⟨h', tk', m', n, rfl, F'', N'', fun p hp q hq => ?_, rfl, a, b⟩
      rw [List.mem_singleton.mp hq]
      exact Nat.ne_of_lt (hI p hp)
    cases f with
    | ret v => exact p
    | brk => exact p
    | next => exact go p
    | cont => exact go p
  · rintro m n h tk ⟨rfl, ⟨gv, hg'⟩, hs'⟩ F' N'
    rw [same_mapC hg' hs'] at F'
    exact done gv _ h tk F' N'
  · intro i
    cases hp : ps[i]? with
    | none => simp [hp]
    | some p => simp [hp]
end
end Mine

namespace Mine
theorem pick_back (l : List Int) (a : Int) : pickNums (l ++ [a]) (some (-2)) none (some (-1)) = l.reverse := by
  have hn : (l ++ [a]).length = l.length + 1 := by simp
  have hb : sliceBounds (some (-2)) none (some (-1)) (l ++ [a]).length = ((l.length : Int) - 1, -1, -1) := by
    show (max (-1 : Int) (min (-2 + ((l ++ [a]).length : Int)) (((l ++ [a]).length : Int) - 1)), (-1 : Int), (-1 : Int)) = _
    rw [hn]
    congr 1
    omega
  unfold pickNums
  rw [hb]
  dsimp only
  rw [krv_sliceRange, krv_range, List.filterMap_reverse]
  congr 1
  have h := krv_all l.toArray
  have e : (List.range l.length).filterMap ((l ++ [a])[·]?) = (List.range l.length).filterMap (l[·]?) := by
    have go : ∀ r : List Nat, (∀ i ∈ r, i < l.length) → r.filterMap ((l ++ [a])[·]?) = r.filterMap (l[·]?) := by
      intro r
      induction r with
      | nil => intro _; rfl
      | cons i r ih =>
        intro h
        rw [List.filterMap_cons, List.filterMap_cons, List.getElem?_append_left (h i (.head _)), ih fun j hj => h j (.tail _ hj)]
    exact go _ fun i hi => List.mem_range.mp hi
  rw [e]
  simpa using h

/-- the law's end: both of its comparisons hold -/
theorem end2 {z : Int} {os : List Int} (hO : Octets os) :
    (stB (mk z os.reverse).2 z os).seen = pickNums ((mk z os.reverse).1 ++ [(mk z os.reverse).2]) (some (-2)) none (some (-1)) ∧
    (stB (mk z os.reverse).2 z os).fed = back (stB (mk z os.reverse).2 z os).great os := by
  rw [pick_back, stB_eq]
  exact ⟨seen_made z os hO.2, (fed_great os z).symm⟩

theorem fed_ok {z : Int} {os : List Int} (hO : Octets os) : ((stB (mk z os.reverse).2 z os).fed == back (stB (mk z os.reverse).2 z os).great os) = true := by
  rw [← (end2 hO).2]
  exact beq_self_eq_true _

section
variable {prog : Program} {w : World} {A : Around} {E : Value → Shared → Prop} {s : Shared} {h₀ : Heap} {L : Addr} {m : Str → Option Value} {news : List (Addr × Obj)}
/-- a slice with a step, its ints told -/
theorem slice_told {value slice : PySem.Expr} {l : Addr} {vs : List Value} {vl vu vk : Value} {lo hi st : Option Int} {ops : List Value} {ns : List Int} {Q : Value → Shared → Prop}
    (F : Fr h₀ L s.heap m) (N : News h₀ L s.heap news) (hl : s.heap.IsList l vs.toArray) (hi' : IntsAre vs ns) (pl : IsPart vl lo) (pu : IsPart vu hi) (pk : IsPart vk st) (h0 : st ≠ some 0)
    (h : ∀ h' D us, Fr h₀ L h' m → News h₀ L h' ((D, listOf us.toArray 0) :: news) → IntsAre us (pickNums ns lo hi st) → us.length ≤ vs.length → Q (.ref D) { s with heap := h' })
    (hs : subscripted slice false (.ref l) (.ref s.heap.objs.size) = operate ops (getItem (.ref l) (.ref s.heap.objs.size)) := by with_unfolding_all rfl)
    (ht : ∀ r, letTemporaryGo value (.ref l) r = pure () := by intro _; with_unfolding_all rfl)
    (hsz : vs.length ≤ 64) :
    wpAny (model prog w) A (subscriptTail value slice (.ref l) (.ref s.heap.objs.size)) Q E { s with heap := s.heap.push { cls := .type "slice", data := .fields #[vl, vu, vk] } } := by
  refine slice_list3 (hsz := by have := sizeLine_eq; simp; omega) F N hl pl pu pk h0 (fun h' F' N' => h h' _ (slicePick vs.toArray lo hi st).toList F' ?_ (hi'.pick lo hi st) ?_) hs ht
  · simpa using N'
  · have := slicePick_size_le vs.toArray lo hi st
    simpa using this
end
end Mine

local macro_rules | `(tactic| walk_at "eval Name") => `(tactic| ((with_reducible refine inCells ?_); name_kind "cell"; (rename News _ _ _ _ => N'); with_unfolding_all refine ldCN N' rfl (by news_mem) (by assumption) ?_))
local macro_rules | `(tactic| walk_at "subscriptTail Name Slice ref ref") => `(tactic| (k_here; ((rename InElt _ _ => kE'); (rename IntsAre _ _ => kI'); (rename Heap.IsList _ _ _ => kL'); (with_unfolding_all refine' Mine.slice_elt (ops := _) kE' ?k1 ?k2 kL' kI' (IsPart.int _ _) IsPart.none (IsPart.int _ _) ?k8 ?_; (case k1 => k_asm); (case k2 => k_asm);  (case k8 => simp; omega)); intro h' D' cE' F' N' hL' hI')))
local macro_rules | `(tactic| walk_at "call builtin:sum") => `(tactic| (k_here; ((rename InElt _ _ => kE'); (with_reducible show wpAny _ _ (call (Value.builtin "sum") [Value.ref _]) _ _ _); (with_unfolding_all refine' Mine.sum_elt kE' ?k0 ?k1 ?k2 ?k3 ?k4 ?_; (case k0 => with_unfolding_all rfl); (case k1 => k_asm); (case k2 => k_asm); (case k3 => assumption); (case k4 => assumption); k_whole); intro h' tk' t' cE' F' N')))
local macro_rules | `(tactic| walk_at "binaryOp Add ref ref") => `(tactic| (k_here; ((rename CarriedAll _ _ => hC'); (rename Heap.IsList _ _ _ => hL'); (with_unfolding_all refine' Mine.add_octets ?k1 ?k2 hL' hC' ?k3 ?k4 ?_; (case k1 => k_asm); (case k2 => k_asm); (case k3 => constructor <;> split <;> omega); (case k4 => (simp only [filter_tt, rangeInts_length]; split <;> omega)); k_whole); intro h' D' us' os' F' N' l1 hI' hu' hO'; (try k_lt l1); (try k_sweep))))
local macro_rules | `(tactic| walk_at "pyIter ref") => `(tactic| (k_of "octet" => ((rename Fr _ _ _ _ => lF'); (rename News _ _ _ _ => lN'); (with_unfolding_all refine' Mine.loopA (N₀ := 1048576) (by rfl) lF' lN' (by k_ne) (by k_ne) (by k_all) (by assumption) (by assumption) (by decide) ?kz (fun pre' o' t' ws' k' it' h' tk' hb' hw' hc' hI' hB' F' N' => ?_) (fun u' ws' k' h' tk' hI' hw' F' N' => ?_)); (case kz => first | exact kbm_getD (by assumption) (by decide) | decide +kernel); (all_goals (try clear lF' lN')); (all_goals (try k_fold)))))
local macro_rules | `(tactic| walk_at "PostA") => `(tactic| dsimp only [Mine.PostA])
local macro_rules | `(tactic| walk_at "EndA") => `(tactic| (((rename News _ _ _ _ => nE'); (simp only [List.push_toArray] at nE'); (with_unfolding_all refine Mine.EndA.intro (by assumption) nE' (IntsAre.append (by assumption) (.cons _ _ .nil)) rfl))))
local macro_rules | `(tactic| walk_at "exec For Tuple Call cons nil") => `(tactic| (k_here; k_of "place" => ((rename Fr _ _ _ _ => lF'); (with_unfolding_all refine' For_turns lF' ?_; k_whole))))
local macro_rules | `(tactic| walk_at "exec For Name Name cons nil") => `(tactic| (k_here; k_of "turn" => ((rename Fr _ _ _ _ => lF'); (with_unfolding_all refine' For_turns lF' ?_; k_whole))))
local macro_rules | `(tactic| walk_at "call type:enumerate") => `(tactic| (k_here; (with_reducible show wpAny _ _ (call (Value.type _) [Value.ref _]) (fun xv s₁ => wpAny _ _ (pyIter xv) (fun it s₂ => TurnsAt _ _ _ _ _ _ _ _ _ it s₂) _ s₁) _ _); ((rename Fr _ _ _ _ => lF'); (rename News _ _ _ _ => lN'); (with_unfolding_all refine' Mine.loopB (by rfl) lF' lN' (by k_mem) (by assumption) (by assumption) (by rfl) (by rfl) (by rfl) (fun I' l1 q' i' o' v' T' tp' to' ss' k' wv' fv' gv' pv' ov' h' tk' o1' o2' hqi' hi' hb' hs' hIs' hv' hT' F' h1' h2' N' => ?_) (fun ss' k' wv' fv' gv' pv' ov' h' tk' hIs' hs' F' N' => ?_)); (all_goals (try clear lF' lN')); (all_goals (try k_lt l1)); (all_goals (try k_fold)))))
local macro_rules | `(tactic| walk_at "PostB") => `(tactic| dsimp only [Mine.PostB])
local macro_rules | `(tactic| walk_at "EndB") => `(tactic| (((rename News _ _ _ _ => nE'); (simp only [List.push_toArray] at nE'); (with_unfolding_all refine Mine.EndB.intro (by assumption) nE' (IntsAre.append (by assumption) (.cons _ _ .nil)) rfl rfl (by rfl) rfl (by rfl) (by assumption) rfl (by rfl) (by intro z h1 h2 h3 h4 h5; simp [h1, h2, h3, h4, h5, Mine.mapB])))))
local macro_rules | `(tactic| walk_at "pyIter ref") => `(tactic| (k_here; (with_reducible show wpAny _ _ (pyIter (Value.ref _)) (fun it s₂ => TurnsAt _ _ _ _ _ (PySem.Expr.Name _ _) _ _ _ it s₂) _ _); ((rename Fr _ _ _ _ => lF'); (rename News _ _ _ _ => lN'); (with_unfolding_all refine' Mine.loopC (by rfl) lF' lN' (by k_mem) (by assumption) (by rfl) (fun I' l1 a' o' to' gv' tv' h' tk' o1' F' h1' N' => ?_) (fun gv' tv' h' tk' F' N' => ?_)); (all_goals (try clear lF' lN')); (all_goals (try k_fold)))))
local macro_rules | `(tactic| walk_at "PostC") => `(tactic| dsimp only [Mine.PostC])
local macro_rules | `(tactic| walk_at "EndC") => `(tactic| (((with_unfolding_all refine Mine.EndC.intro (by assumption) (by assumption) rfl (by rfl) (by intro z h1 h2; simp [h1, h2, Mine.mapC])))))
local macro_rules | `(tactic| walk_at "subscriptTail Name Slice ref ref") => `(tactic| (k_here; ((rename Fr _ _ _ _ => lF'); (rename News _ _ _ _ => lN'); (with_unfolding_all refine' Mine.slice_told (ops := _) lF' lN' ?k1 ?k2 (IsPart.int _ _) IsPart.none (IsPart.int _ _) ?k3 ?_ (by with_unfolding_all rfl) (by intro _; with_unfolding_all rfl) ?k4); (case k1 => is_list); (case k2 => assumption); (case k3 => decide); (case k4 => omega); intro h' D' us' F' N' hI' hu'; clear lF' lN')))
local macro_rules | `(tactic| walk_at "call ref") => `(tactic| (k_here; (k_dflt (refine' Mine.gen_use ?k1 ?k2 ?k3 ?k4 ?k5 ?kK ?kd ?ku ?_; (case k1 => k_asm); (case k2 => k_asm); (case k3 => k_asm); (case k4 => k_asm); (case k5 => k_asm); (case kK => first | exact rfl | assumption); (case kd => ktr_room); (case ku => ktr_units)); intro t9 h9 tk9 F9 N9; (try dsimp only); (try k_fold))))
local macro_rules | `(tactic| walk_at "call ref") => `(tactic| (k_here; (k_dflt (refine' Mine.woven_use ?k1 ?k2 ?k3 ?k4 ?k5 ?kK ?kd ?ku ?kx ?_; (case k1 => k_asm); (case k2 => k_asm); (case k3 => k_asm); (case k4 => k_asm); (case k5 => k_asm); (case kK => first | exact rfl | assumption); (case kd => ktr_room); (case ku => ktr_units); (case kx => assumption)); intro t9 h9 tk9 F9 N9; (try dsimp only); (try k_fold))))
local macro_rules | `(tactic| walk_at "binaryOp LShift int int") => `(tactic| (k_here; ((with_reducible refine lshift_int ?kbn ?kbs ?_); (case kbn => decide); (case kbs => omega))))
local macro_rules | `(tactic| kc_close) => `(tactic| (goal_has PySem.W.GoodW; exfalso; rename (¬ _ = pickNums _ _ _ _) => hne'; exact hne' (Mine.end2 (by assumption)).1))
local macro_rules | `(tactic| kc_close) => `(tactic| (goal_has PySem.W.GoodW; rw [Mine.fed_ok (by assumption)]; kc_close))
set_option maxRecDepth 100000 in
set_option maxHeartbeats 8000000 in
theorem PySem.Challenge.cw_sr0103_02_holds : PySem.Challenge.rw_sr0103_02.Holds :=
  Mine.hd_02 (by
  k_go0; (all_goals try k_fold); k_steps)

import PyProof.Rows.All
import Wide.All
import OpenK.AllK
import Wide.FinOn
import PySem.Challenge.RW_cy0002_09
open PySem PySem.W PyProof.Rows
set_option Elab.async false
set_option maxRecDepth 100000
set_option maxHeartbeats 8000000
set_option linter.unusedVariables false
namespace Mine

/-- what bisect_right hands back, told by the two neighbours alone -/
def WR (a : List Int) (x lo hi : Int) : Prop := (lo = 0 ∨ a.getD (lo - 1).toNat 0 ≤ x) ∧ (hi = a.length ∨ x < a.getD hi.toNat 0)
def WL (a : List Int) (x lo hi : Int) : Prop := (lo = 0 ∨ a.getD (lo - 1).toNat 0 < x) ∧ (hi = a.length ∨ x ≤ a.getD hi.toNat 0)
def BR (a : List Int) (x r : Int) : Prop := 0 ≤ r ∧ r ≤ a.length ∧ WR a x r r
def BL (a : List Int) (x r : Int) : Prop := 0 ≤ r ∧ r ≤ a.length ∧ WL a x r r

theorem mid_facts {lo hi : Int} (h : lo < hi) : lo ≤ (lo + hi).fdiv 2 ∧ (lo + hi).fdiv 2 < hi := by
  rw [Int.fdiv_eq_ediv_of_nonneg _ (by decide)]
  omega

theorem wr_start (a : List Int) (x : Int) : (0 ≤ (0 : Int) ∧ (0 : Int) ≤ (a.length : Int) ∧ (a.length : Int) ≤ (a.length : Int)) ∧ WR a x 0 a.length :=
  ⟨by omega, .inl rfl, .inl rfl⟩
theorem wl_start (a : List Int) (x : Int) : (0 ≤ (0 : Int) ∧ (0 : Int) ≤ (a.length : Int) ∧ (a.length : Int) ≤ (a.length : Int)) ∧ WL a x 0 a.length :=
  ⟨by omega, .inl rfl, .inl rfl⟩
theorem wr_hi {a : List Int} {x lo hi : Int} (h0 : 0 ≤ lo) (h1 : hi ≤ a.length) (w : WR a x lo hi) (h : lo < hi) (hx : x < a.getD ((lo + hi).fdiv 2).toNat 0) :
    (0 ≤ lo ∧ lo ≤ (lo + hi).fdiv 2 ∧ (lo + hi).fdiv 2 ≤ (a.length : Int)) ∧ WR a x lo ((lo + hi).fdiv 2) := by
  have := mid_facts h
  exact ⟨by omega, w.1, .inr hx⟩
theorem wr_lo {a : List Int} {x lo hi : Int} (h0 : 0 ≤ lo) (h1 : hi ≤ a.length) (w : WR a x lo hi) (h : lo < hi) (hx : ¬ x < a.getD ((lo + hi).fdiv 2).toNat 0) :
    (0 ≤ (lo + hi).fdiv 2 + 1 ∧ (lo + hi).fdiv 2 + 1 ≤ hi ∧ hi ≤ (a.length : Int)) ∧ WR a x ((lo + hi).fdiv 2 + 1) hi := by
  have := mid_facts h
  refine ⟨by omega, .inr ?_, w.2⟩
  rw [show (lo + hi).fdiv 2 + 1 - 1 = (lo + hi).fdiv 2 by omega]
  omega
theorem wl_lo {a : List Int} {x lo hi : Int} (h0 : 0 ≤ lo) (h1 : hi ≤ a.length) (w : WL a x lo hi) (h : lo < hi) (hx : a.getD ((lo + hi).fdiv 2).toNat 0 < x) :
    (0 ≤ (lo + hi).fdiv 2 + 1 ∧ (lo + hi).fdiv 2 + 1 ≤ hi ∧ hi ≤ (a.length : Int)) ∧ WL a x ((lo + hi).fdiv 2 + 1) hi := by
  have := mid_facts h
  refine ⟨by omega, .inr ?_, w.2⟩
  rw [show (lo + hi).fdiv 2 + 1 - 1 = (lo + hi).fdiv 2 by omega]
  omega
theorem wl_hi {a : List Int} {x lo hi : Int} (h0 : 0 ≤ lo) (h1 : hi ≤ a.length) (w : WL a x lo hi) (h : lo < hi) (hx : ¬ a.getD ((lo + hi).fdiv 2).toNat 0 < x) :
    (0 ≤ lo ∧ lo ≤ (lo + hi).fdiv 2 ∧ (lo + hi).fdiv 2 ≤ (a.length : Int)) ∧ WL a x lo ((lo + hi).fdiv 2) := by
  have := mid_facts h
  exact ⟨by omega, w.1, .inr (by omega)⟩
theorem mid_lo {lo hi : Int} (h : lo < hi) : (hi - ((lo + hi).fdiv 2 + 1)).toNat < (hi - lo).toNat := by
  have := mid_facts h
  omega
theorem mid_hi {lo hi : Int} (h : lo < hi) : ((lo + hi).fdiv 2 - lo).toNat < (hi - lo).toNat := by
  have := mid_facts h
  omega
theorem br_end {a : List Int} {x lo hi : Int} (h0 : 0 ≤ lo) (h1 : lo ≤ hi) (h2 : hi ≤ a.length) (w : WR a x lo hi) (h : ¬ lo < hi) : BR a x lo := by
  have : hi = lo := by omega
  subst this
  exact ⟨h0, h2, w⟩
theorem bl_end {a : List Int} {x lo hi : Int} (h0 : 0 ≤ lo) (h1 : lo ≤ hi) (h2 : hi ≤ a.length) (w : WL a x lo hi) (h : ¬ lo < hi) : BL a x lo := by
  have : hi = lo := by omega
  subst this
  exact ⟨h0, h2, w⟩

/-- a search function's contract upon a list of the ledger's -/
def BisTells (rel : List Int → Int → Int → Prop) (prog : Program) (w : World) (K : Frag) (p : Program) (loose : List Str) (mean : ExcName → Option Value) (mg mb : Str → Option Value) (f : Addr) : Prop :=
  ∀ (dp un : Nat) (gd : Option (List Code)) (cn : Str) (cs : Scope) (a : Addr) (ccd : Value) (cl : List (Str × Addr)) (outer : List Env) (A₀ : Around) (base h₀ : Heap) (L : Addr) (m : Str → Option Value) (news : List (Addr × Obj)) (s : Shared) (l : Addr) (vs : List Value) (ns : List Int) (nn : Nat) (x : Int) (tk : Tok)
    (Q E : Value → Shared → Prop),
    Below A₀ base outer h₀ → Fr h₀ L s.heap m → K.In h₀ → News h₀ L s.heap news → Top p loose mean mg mb h₀ → cs.kind = .function → (l, listOf vs.toArray nn) ∈ news → IntsAre vs ns → ns.length ≤ 2 ^ 20 → dp + 1 < recursionLimit → un + 8 < cLine →
    (∀ (r : Int) (t : Tok) (h' : Heap) (tk' : Nat), rel ns x r → Fr h₀ L h' m → News h₀ L h' news → Q (.int r t) { s with heap := h', toks := tk' }) →
    wpAny (model prog w) (ktrTop dp un gd cn cs L a ccd cl outer) (call (.ref f) [.ref l, .int x tk]) Q E s

theorem bis_ret {rel : List Int → Int → Int → Prop} {h₀ h' : Heap} {L : Addr} {m : Str → Option Value} {news : List (Addr × Obj)} {ns : List Int} {x : Int} {s : Shared} {Q : Value → Shared → Prop} {y : Int} {t : Tok} {tk' : Nat} {p : Addr × Obj}
    (hret : ∀ (r : Int) (t : Tok) (h' : Heap) (tk' : Nat), rel ns x r → Fr h₀ L h' m → News h₀ L h' news → Q (.int r t) { s with heap := h', toks := tk' }) (e : rel ns x y) (F : Fr h₀ L h' m) (N : News h₀ L h' (p :: news)) : Q (.int y t) { s with heap := h', toks := tk' } :=
  hret y t h' tk' e F (fun q hq => N q (.tail _ hq))
theorem news_dup {h₀ h : Heap} {L : Addr} {p : Addr × Obj} {news : List (Addr × Obj)} (N : News h₀ L h news) (hp : p ∈ news) : News h₀ L h (p :: news) := fun q hq => by
  rcases List.mem_cons.mp hq with rfl | hq
  · exact N _ hp
  · exact N q hq
/-- the claim for the program that a head is about -/
def ClaimOf {q : Program} {loose : List Str} {XP : (Str → Option Value) → Heap → Prop} {K : Params → Frag} {as : List Addr} {e : ∀ P, as = (K P).map (·.1)} {r : RowW} {d : DefRec} {kwd : List (Str × Expr)} {run : Value → List Value → Sem Value} {H : Prop}
    (_hd : WalkO q loose XP (kHook K as e).says r d kwd run → H) (C : Program → World → Frag → Program → List Str → (ExcName → Option Value) → (Str → Option Value) → (Str → Option Value) → Prop) : Prop :=
  ∀ (w : World) (mean : ExcName → Option Value) (mg mb : Str → Option Value), C r.prog w (K w.params) q (looseW q loose) mean mg mb
end Mine
namespace Mine
theorem ClaimOf.at {q : Program} {loose : List Str} {XP : (Str → Option Value) → Heap → Prop} {K : Params → Frag} {as : List Addr} {e : ∀ P, as = (K P).map (·.1)} {r : RowW} {d : DefRec} {kwd : List (Str × Expr)} {run : Value → List Value → Sem Value} {H : Prop}
    {hd : WalkO q loose XP (kHook K as e).says r d kwd run → H} {C : Program → World → Frag → Program → List Str → (ExcName → Option Value) → (Str → Option Value) → (Str → Option Value) → Prop} (h : ClaimOf hd C)
    (w : World) (mean : ExcName → Option Value) (mg mb : Str → Option Value) : C r.prog w (K w.params) q (looseW q loose) mean mg mb := h w mean mg mb
end Mine
namespace Mine
theorem bis_use {rel : List Int → Int → Int → Prop} {prog : Program} {w : World} {K : Frag} {p : Program} {loose : List Str} {mean : ExcName → Option Value} {mg mb : Str → Option Value} {f : Addr}
    {dp un : Nat} {gd : Option (List Code)} {cn : Str} {cs : Scope} {a : Addr} {ccd : Value} {cl : List (Str × Addr)} {outer : List Env} {A₀ : Around} {base h₀ : Heap} {L : Addr} {m : Str → Option Value} {news : List (Addr × Obj)} {s : Shared} {l : Addr} {vs : List Value} {ns : List Int} {nn : Nat} {x : Int} {tk : Tok}
    {Q E : Value → Shared → Prop} (B : Below A₀ base outer h₀) (F : Fr h₀ L s.heap m) (X : K.In h₀) (N : News h₀ L s.heap news) (T : Top p loose mean mg mb h₀) (hk : cs.kind = .function) (hm : (l, listOf vs.toArray nn) ∈ news) (hi : IntsAre vs ns) (hfit : ns.length ≤ 2 ^ 20)
    (C : BisTells rel prog w K p loose mean mg mb f) (hd : dp + 1 < recursionLimit) (hu : un + 8 < cLine)
    (ret : ∀ (r : Int) (t : Tok) (h' : Heap) (tk' : Nat), rel ns x r → Fr h₀ L h' m → News h₀ L h' news → Q (.int r t) { s with heap := h', toks := tk' }) :
    wpAny (model prog w) (ktrTop dp un gd cn cs L a ccd cl outer) (call (.ref f) [.ref l, .int x tk]) Q E s := C _ _ _ _ _ _ _ _ _ _ _ _ _ _ _ _ _ _ _ _ _ _ _ _ B F X N T hk hm hi hfit hd hu ret
theorem bool_end {p : Prop} [Decidable p] (h : p) : (decide p == true) = true := by simp [h]
end Mine
namespace Mine
def Srt (a : List Int) : Prop := ∀ i j : Nat, i ≤ j → j < a.length → a.getD i 0 ≤ a.getD j 0
def SrtS (a : List Int) : Prop := ∀ i j : Nat, i < j → j < a.length → a.getD i 0 < a.getD j 0
theorem SrtS.srt {a : List Int} (h : SrtS a) : Srt a := fun i j hij hj => by
  rcases Nat.lt_or_eq_of_le hij with h1 | rfl
  · exact Int.le_of_lt (h i j h1 hj)
  · exact Int.le_refl _
theorem BR.lo {a : List Int} {x r : Int} (hs : Srt a) (h : BR a x r) {i : Nat} (hi : (i : Int) < r) : a.getD i 0 ≤ x := by
  obtain ⟨h0, h1, h2, _⟩ := h
  rcases h2 with h2 | h2
  · omega
  · exact Int.le_trans (hs i (r - 1).toNat (by omega) (by omega)) h2
theorem BR.hi {a : List Int} {x r : Int} (hs : Srt a) (h : BR a x r) {i : Nat} (hi : r ≤ (i : Int)) (hl : i < a.length) : x < a.getD i 0 := by
  obtain ⟨h0, h1, _, h2⟩ := h
  rcases h2 with h2 | h2
  · omega
  · exact Int.lt_of_lt_of_le h2 (hs r.toNat i (by omega) hl)
theorem BL.lo {a : List Int} {x r : Int} (hs : Srt a) (h : BL a x r) {i : Nat} (hi : (i : Int) < r) : a.getD i 0 < x := by
  obtain ⟨h0, h1, h2, _⟩ := h
  rcases h2 with h2 | h2
  · omega
  · exact Int.lt_of_le_of_lt (hs i (r - 1).toNat (by omega) (by omega)) h2
theorem BL.hi {a : List Int} {x r : Int} (hs : Srt a) (h : BL a x r) {i : Nat} (hi : r ≤ (i : Int)) (hl : i < a.length) : x ≤ a.getD i 0 := by
  obtain ⟨h0, h1, _, h2⟩ := h
  rcases h2 with h2 | h2
  · omega
  · exact Int.le_trans h2 (hs r.toNat i (by omega) hl)

end Mine
namespace Mine
abbrev rngO (a b c : Int) (t u v : Tok) : Obj := { cls := .type "range", dict := none, data := .fields #[.int a t, .int b u, .int c v], slots := #[] }
section
variable {prog : Program} {w : World} {A : Around} {E : Value → Shared → Prop} {s : Shared}
theorem getItem_range {r : Addr} {a b c k : Int} {t u v tk : Tok} {Q : Value → Shared → Prop} (hr : IsRange s.heap r a b c t u v) (h0 : 0 ≤ k) (h1 : k < Builtin.Range.rangeSize a b c)
    (h : Q (.int (a + k * c) s.toks) { s with toks := s.toks + 1 }) : wpAny (model prog w) A (getItem (.ref r) (.int k tk)) Q E s := by
  have hT : s.TypeIs (.ref r) "range" := ⟨_, hr, rfl⟩
  refine wpAny_getItem_slot hT (by decide) F.slot_range_getitem (wpAny_call_entry F.slot_range_getitem hT F.entry_range_getitem ?_ (F.args_range_getitem_2 _ _))
  obtain ⟨hp, g, d, tks, os⟩ := s
  wp_walk using wpAny_loadPart' hr
  rw [int_index]
  refine wpAny_pure ?_
  dsimp only
  rw [if_neg (by simp)]
  refine wpAny_bind (wpAny_of_eq (a := k) rfl ?_)
  rw [if_neg (show ¬ k < 0 by omega), if_neg (by simp; omega)]
  wp_walk
  exact ⟨_, rfl, h⟩
theorem item_range {r : Addr} {a b c k : Int} {t u v tk : Tok} {value slice : Expr} {Q : Value → Shared → Prop} (hr : IsRange s.heap r a b c t u v) (h0 : 0 ≤ k) (h1 : k < Builtin.Range.rangeSize a b c)
    (h : Q (.int (a + k * c) s.toks) { s with toks := s.toks + 1 })
    (hs : subscripted slice false (.ref r) (.int k tk) = operate [.ref r, .int k tk] (getItem (.ref r) (.int k tk)) := by with_unfolding_all rfl) :
    wpAny (model prog w) A (subscriptTail value slice (.ref r) (.int k tk)) Q E s :=
  tail_any ⟨_, hr, rfl⟩ F.slot_range_getitem.lookup (getItem_range hr h0 h1 h) hs
end
section
variable {prog : Program} {w : World} {A : Around} {E : Value → Shared → Prop} {s : Shared} {h₀ : Heap} {L : Addr} {m : Str → Option Value} {news : List (Addr × Obj)}
/-- range(n) onto the ledger -/
theorem range1_led {Q : Value → Shared → Prop} {n : Int} {t : Tok} (F : Fr h₀ L s.heap m) (N : News h₀ L s.heap news)
    (h : ∀ r h' tk t₁ u₁ v₁, (∀ p ∈ news, p.1 < r) → Fr h₀ L h' m → News h₀ L h' ((r, rngO 0 n 1 t₁ u₁ v₁) :: news) → Q (.ref r) { s with heap := h', toks := tk }) :
    wpAny (model prog w) A (call (.type "range") [.int n t]) Q E s := by
  refine range1_rows F N fun h' tk t₁ u₁ v₁ hr F' N' _ => h _ h' tk t₁ u₁ v₁ (fun p hp => Heap.lt_size (N p hp).1) F' fun p hp => ?_
  rcases List.mem_cons.mp hp with rfl | hp
  · exact ⟨hr, Nat.ne_of_gt F.ns.lt, next_is_new F⟩
  · exact N' p hp
theorem len_range_led {Q : Value → Shared → Prop} {r : Addr} {n : Nat} {t u v : Tok} (N : News h₀ L s.heap news) (hm : (r, rngO 0 (n : Int) 1 t u v) ∈ news) (hfit : (n : Int) < 2 ^ 62)
    (h : Q (.int n (s.toks + 1)) { s with toks := s.toks + 1 + 1 }) : wpAny (model prog w) A (call (.builtin "len") [.ref r]) Q E s :=
  call_len_range (N _ hm).1 (by rw [rangeSize_nat]; omega) (by omega) h
theorem item_range_led {Q : Value → Shared → Prop} {r : Addr} {n : Nat} {k : Int} {t u v tk : Tok} {value slice : Expr} (N : News h₀ L s.heap news) (hm : (r, rngO 0 (n : Int) 1 t u v) ∈ news) (h0 : 0 ≤ k) (h1 : k < n)
    (h : Q (.int k s.toks) { s with toks := s.toks + 1 })
    (hs : subscripted slice false (.ref r) (.int k tk) = operate [.ref r, .int k tk] (getItem (.ref r) (.int k tk)) := by with_unfolding_all rfl) :
    wpAny (model prog w) A (subscriptTail value slice (.ref r) (.int k tk)) Q E s :=
  item_range (N _ hm).1 h0 (by rw [rangeSize_nat]; omega) (by rw [Int.mul_one, Int.zero_add]; exact h) hs
end
end Mine
namespace Mine
inductive All2 {α : Type} (R : α → Value → Prop) : List α → List Value → Prop
  | nil : All2 R [] []
  | cons {d : α} {v : Value} {ds : List α} {vs : List Value} : R d v → All2 R ds vs → All2 R (d :: ds) (v :: vs)
theorem All2.snoc {α : Type} {R : α → Value → Prop} {d : α} {v : Value} (h : R d v) : ∀ {ds : List α} {vs : List Value}, All2 R ds vs → All2 R (ds ++ [d]) (vs ++ [v])
  | _, _, .nil => .cons h .nil
  | _, _, .cons a r => .cons a (r.snoc h)
theorem All2.ints {g : Int → Int} : ∀ {ks : List Int} {vs : List Value}, All2 (fun k y => ∃ t, y = Value.int (g k) t) ks vs → IntsAre vs (ks.map g)
  | _, _, .nil => .nil
  | _, _, .cons ⟨t, e⟩ r => by rw [e]; exact .cons _ t r.ints
theorem All2.length {α : Type} {R : α → Value → Prop} : ∀ {ds : List α} {vs : List Value}, All2 R ds vs → vs.length = ds.length
  | _, _, .nil => rfl
  | _, _, .cons _ r => by simp [r.length]
theorem All2.get {α : Type} {R : α → Value → Prop} : ∀ {ds : List α} {vs : List Value}, All2 R ds vs → ∀ {i : Nat} {v : Value}, vs[i]? = some v → ∃ d, ds[i]? = some d ∧ R d v
  | _, _, .nil, i, v, h => by simp at h
  | _, _, .cons a r, 0, v, h => by simp at h; subst h; exact ⟨_, rfl, a⟩
  | _, _, .cons a r, i + 1, v, h => by simp only [List.getElem?_cons_succ] at h ⊢; exact r.get h

/-- the end of an item's evaluation in a comprehension -/
def CtEnd (h₀ : Heap) (L : Addr) (m : Str → Option Value) (s₁ : Shared) (need : List (Addr × Obj)) (R : Prop) (s₂ : Shared) : Prop :=
  ∃ h' tk nw, s₂ = { s₁ with heap := h', toks := tk } ∧ Fr h₀ L h' m ∧ News h₀ L h' nw ∧ (∀ p ∈ need, p ∈ nw) ∧ R
theorem ct_end {h₀ : Heap} {L : Addr} {m : Str → Option Value} {s₁ : Shared} {need nw : List (Addr × Obj)} {R : Prop} {h' : Heap} {tk : Nat} (F : Fr h₀ L h' m) (N : News h₀ L h' nw) (hn : ∀ p ∈ need, p ∈ nw) (r : R) : CtEnd h₀ L m s₁ need R { s₁ with heap := h', toks := tk } :=
  ⟨h', tk, nw, rfl, F, N, hn, r⟩
section
variable {prog : Program} {w : World} {A : Around} {h₀ : Heap} {L : Addr} {m : Str → Option Value} {env : Env} {ct elt : Expr} {x : Str} {scope : Scope} {cl : List (Str × Addr)} {s : Shared} {S : List (Addr × Obj) → Prop} {P : Nat → Value → Prop} {Fin : List Value → List (Addr × Obj) → Prop} {news : List (Addr × Obj)}
theorem ct_rest {α : Type} {n : Nat} {ds : List α} {V : α → Value → Prop} (p : α → Bool) (O : α → Value → Prop) (hds : ds.length = n) (hP : ∀ i v, i < n → P i v → ∃ d, ds[i]? = some d ∧ V d v) (hS : S news)
    (turn : ∀ d v I oI C oC D m₂ ys h tk (E' : Value → Shared → Prop), d ∈ ds → V d v → LCg.NsObj oC m₂ → m₂ x = some v → Fr h₀ L h m → News h₀ L h ((I, oI) :: (C, oC) :: (D, LCg.lst ys) :: news) → LCg.Off3 I C D news → ((@Ne Nat I C) ∧ (@Ne Nat I D) ∧ (@Ne Nat C D)) →
      wpAny (model prog w) A (isTrue ct (compEnvC scope cl C env) (eval ct (compEnvC scope cl C env))) (fun ok s' => if ok = true then
        wpAny (model prog w) A (eval elt (compEnvC scope cl C env)) (fun y s'' => CtEnd h₀ L m { s with heap := h, toks := tk } ((I, oI) :: (C, oC) :: (D, LCg.lst ys) :: news) (p d = true ∧ O d y) s'') E' s'
        else CtEnd h₀ L m { s with heap := h, toks := tk } ((I, oI) :: (C, oC) :: (D, LCg.lst ys) :: news) (p d = false) s') E' { s with heap := h, toks := tk })
    (fin : ∀ ys, All2 O (ds.filter p) ys → Fin ys news) : LCt.CompRestT prog w A h₀ L m env ct elt x scope cl s S P Fin n 0 [] news := by
  have key : ∀ (j i : Nat) (ys : List Value), i + j = n → All2 O ((ds.take i).filter p) ys → LCt.CompRestT prog w A h₀ L m env ct elt x scope cl s S P Fin j i ys news := by
    intro j
    induction j with
    | zero =>
      intro i ys hi hy
      have e : i = ds.length := by omega
      subst e
      rw [List.take_length] at hy
      exact LCt.CompRestT.zero (fin ys hy)
    | succ j ih =>
      intro i ys hi hy
      refine LCt.CompRestT.succ ?_
      intro v I oI C oC D m₂ h tk E' hv hC hx F N off ne
      obtain ⟨d, hd, hV⟩ := hP i v (by omega) hv
      have ht : ds.take (i + 1) = ds.take i ++ [d] := by rw [List.take_add_one, hd]; rfl
      refine wpAny_mono (turn d v I oI C oC D m₂ ys h tk E' (List.mem_of_getElem? hd) hV hC hx F N off ne) (fun ok s₂ hq => ?_) fun _ _ e => e
      cases ok with
      | true =>
        simp only [if_true] at hq ⊢
        refine wpAny_mono hq (fun y s₃ hz => ?_) fun _ _ e => e
        obtain ⟨h', tk', nw, e, F', N', hn', hp', hO⟩ := hz
        refine ⟨h', tk', news, e, F', fun q hq => N' q (hn' q hq), off, hS, ih (i + 1) _ (by omega) ?_⟩
        rw [ht, List.filter_append]
        simp only [List.filter_cons, hp', if_true, List.filter_nil]
        exact hy.snoc hO
      | false =>
        simp only [Bool.false_eq_true, if_false] at hq ⊢
        obtain ⟨h', tk', nw, e, F', N', hn', hp'⟩ := hq
        refine ⟨h', tk', news, e, F', fun q hq => N' q (hn' q hq), off, hS, ih (i + 1) _ (by omega) ?_⟩
        rw [ht, List.filter_append]
        simp only [List.filter_cons, hp', Bool.false_eq_true, if_false, List.filter_nil, List.append_nil]
        exact hy
  exact key n 0 [] (by omega) (by simp only [List.take_zero, List.filter_nil]; exact .nil)
theorem ct_restU {α : Type} {n : Nat} {ds : List α} {V : α → Value → Prop} (O : α → Value → Prop) (hds : ds.length = n) (hP : ∀ i v, i < n → P i v → ∃ d, ds[i]? = some d ∧ V d v) (hS : S news)
    (turn : ∀ d v I oI C oC D m₂ ys h tk (E' : Value → Shared → Prop), d ∈ ds → V d v → LCg.NsObj oC m₂ → m₂ x = some v → Fr h₀ L h m → News h₀ L h ((I, oI) :: (C, oC) :: (D, LCg.lst ys) :: news) → LCg.Off3 I C D news → ((@Ne Nat I C) ∧ (@Ne Nat I D) ∧ (@Ne Nat C D)) →
      wpAny (model prog w) A (eval elt (compEnvC scope cl C env)) (fun y s'' => CtEnd h₀ L m { s with heap := h, toks := tk } ((I, oI) :: (C, oC) :: (D, LCg.lst ys) :: news) (O d y) s'') E' { s with heap := h, toks := tk })
    (fin : ∀ ys, All2 O ds ys → Fin ys news) : LCg.CompRest prog w A h₀ L m env elt x scope cl s S P Fin n 0 [] news := by
  have key : ∀ (j i : Nat) (ys : List Value), i + j = n → All2 O (ds.take i) ys → LCg.CompRest prog w A h₀ L m env elt x scope cl s S P Fin j i ys news := by
    intro j
    induction j with
    | zero =>
      intro i ys hi hy
      have e : i = ds.length := by omega
      subst e
      rw [List.take_length] at hy
      exact LCg.CompRest.zero (fin ys hy)
    | succ j ih =>
      intro i ys hi hy
      refine LCg.CompRest.succ ?_
      intro v I oI C oC D m₂ h tk E' hv hC hx F N off ne
      obtain ⟨d, hd, hV⟩ := hP i v (by omega) hv
      have ht : ds.take (i + 1) = ds.take i ++ [d] := by rw [List.take_add_one, hd]; rfl
      refine wpAny_mono (turn d v I oI C oC D m₂ ys h tk E' (List.mem_of_getElem? hd) hV hC hx F N off ne) (fun y s₂ hq => ?_) fun _ _ e => e
      obtain ⟨h', tk', nw, e, F', N', hn', hO⟩ := hq
      refine ⟨h', tk', news, e, F', fun q hq => N' q (hn' q hq), off, hS, ih (i + 1) _ (by omega) ?_⟩
      rw [ht]
      exact hy.snoc hO
  exact key n 0 [] (by omega) (by simp only [List.take_zero]; exact .nil)
end
section
variable {prog : Program} {w : World} {A : Around} {h₀ : Heap} {L : Addr} {m : Str → Option Value} {env : Env} {ct elt : Expr} {x : Str} {scope : Scope} {cl : List (Str × Addr)} {s : Shared} {Fin : Shared → List Value → List (Addr × Obj) → Prop} {news : List (Addr × Obj)}
/-- a list of ints of the ledger's, one test, an int element -/
theorem ct_intsL {ax : Addr} {vs : List Value} {ks : List Int} {k : Nat} (p : Int → Bool) (g : Int → Int) (hh : A.handled = none) (F : Fr h₀ L s.heap m) (N : News h₀ L s.heap news) (hm : (ax, listOf vs.toArray k) ∈ news) (hi : IntsAre vs ks) (hsz : ks.length ≤ sizeLine)
    (turn : ∀ d t I oI C oC D m₂ ys hp h tk (E' : Value → Shared → Prop), d ∈ ks → LCg.NsObj oC m₂ → m₂ x = some (.int d t) → Fr h₀ L h m → News h₀ L h ((I, oI) :: (C, oC) :: (D, LCg.lst ys) :: news) → LCg.Off3 I C D news → ((@Ne Nat I C) ∧ (@Ne Nat I D) ∧ (@Ne Nat C D)) →
      wpAny (model prog w) A (isTrue ct (compEnvC scope cl C env) (eval ct (compEnvC scope cl C env))) (fun ok s' => if ok = true then
        wpAny (model prog w) A (eval elt (compEnvC scope cl C env)) (fun y s'' => CtEnd h₀ L m { s with heap := h, toks := tk } ((I, oI) :: (C, oC) :: (D, LCg.lst ys) :: news) (p d = true ∧ ∃ t', y = .int (g d) t') s'') E' s'
        else CtEnd h₀ L m { s with heap := h, toks := tk } ((I, oI) :: (C, oC) :: (D, LCg.lst ys) :: news) (p d = false) s') E' { { s with heap := hp } with heap := h, toks := tk })
    (fin : ∀ h ys, IntsAre ys ((ks.filter p).map g) → Fin { s with heap := h } ys news) : LCt.CompSrcT prog w A h₀ L m env ct elt x scope cl Fin (.ref ax) s := by
  have hl : vs.toArray.size = ks.length := by rw [List.size_toArray, hi.length]
  refine LCt.CompSrcT.ledger hh F N hm (by rw [hl]; exact hsz) fun hg => ?_
  refine ct_rest (ds := ks) (V := fun d v => ∃ t, v = .int d t) p (fun d y => ∃ t', y = .int (g d) t') hl.symm (fun i v _ hv => ?_) (.inr ⟨_, hm, rfl, _, rfl⟩) ?_ fun ys hy => fin hg ys hy.ints
  · obtain ⟨d, t, e, hk⟩ := IntsAre.at hi i v (by simpa using hv)
    exact ⟨d, hk, t, e⟩
  · rintro d v I oI C oC D m₂ ys h tk E' hd ⟨t, rfl⟩ hC hx F' N' off ne
    exact turn d t I oI C oC D m₂ ys hg h tk E' hd hC hx F' N' off ne
/-- the same, the element is the item itself -/
theorem ct_filtL {ax : Addr} {vs : List Value} {ks : List Int} {k : Nat} (p : Int → Bool) (hh : A.handled = none) (F : Fr h₀ L s.heap m) (N : News h₀ L s.heap news) (hm : (ax, listOf vs.toArray k) ∈ news) (hi : IntsAre vs ks) (hsz : ks.length ≤ sizeLine)
    (turn : ∀ d t I oI C oC D m₂ ys hp h tk (E' : Value → Shared → Prop), d ∈ ks → LCg.NsObj oC m₂ → m₂ x = some (.int d t) → Fr h₀ L h m → News h₀ L h ((I, oI) :: (C, oC) :: (D, LCg.lst ys) :: news) → LCg.Off3 I C D news → ((@Ne Nat I C) ∧ (@Ne Nat I D) ∧ (@Ne Nat C D)) →
      wpAny (model prog w) A (isTrue ct (compEnvC scope cl C env) (eval ct (compEnvC scope cl C env))) (fun ok s' => if ok = true then
        wpAny (model prog w) A (eval elt (compEnvC scope cl C env)) (fun y s'' => CtEnd h₀ L m { s with heap := h, toks := tk } ((I, oI) :: (C, oC) :: (D, LCg.lst ys) :: news) (p d = true ∧ ∃ t', y = .int d t') s'') E' s'
        else CtEnd h₀ L m { s with heap := h, toks := tk } ((I, oI) :: (C, oC) :: (D, LCg.lst ys) :: news) (p d = false) s') E' { { s with heap := hp } with heap := h, toks := tk })
    (fin : ∀ h ys, IntsAre ys (ks.filter p) → Fin { s with heap := h } ys news) : LCt.CompSrcT prog w A h₀ L m env ct elt x scope cl Fin (.ref ax) s :=
  ct_intsL p (fun d => d) hh F N hm hi hsz turn fun h ys hy => fin h ys (by simpa using hy)
end
theorem ints_filter_le {ys : List Value} {ks : List Int} {p : Int → Bool} (_h : IntsAre ys (ks.filter p)) : (ks.filter p).length ≤ ks.length := List.length_filter_le _ _
section
variable {prog : Program} {w : World} {A : Around} {h₀ : Heap} {L : Addr} {m : Str → Option Value} {env : Env} {ct elt : Expr} {x : Str} {scope : Scope} {cl : List (Str × Addr)} {s : Shared} {Fin : Shared → List Value → List (Addr × Obj) → Prop} {news : List (Addr × Obj)}
def upTo (n : Nat) : List Int := (List.range n).map Int.ofNat
theorem upTo_length (n : Nat) : (upTo n).length = n := by simp [upTo]
theorem mem_upTo {n : Nat} {d : Int} (h : d ∈ upTo n) : 0 ≤ d ∧ d < n := by
  obtain ⟨i, hi, rfl⟩ := List.mem_map.mp h
  have := List.mem_range.mp hi
  show 0 ≤ (i : Int) ∧ (i : Int) < n
  omega
/-- over a range from nought, one test, the element is the item itself -/
theorem ct_filtR {r : Addr} {n : Nat} {t₀ u₀ v₀ : Tok} (p : Int → Bool) (hh : A.handled = none) (F : Fr h₀ L s.heap m) (N : News h₀ L s.heap news) (hr : IsRange s.heap r 0 (n : Int) 1 t₀ u₀ v₀) (hsz : n ≤ 2 ^ 20)
    (turn : ∀ d t I oI C oC D m₂ ys hp h tk (E' : Value → Shared → Prop), 0 ≤ d → d < (n : Int) → LCg.NsObj oC m₂ → m₂ x = some (.int d t) → Fr h₀ L h m → News h₀ L h ((I, oI) :: (C, oC) :: (D, LCg.lst ys) :: news) → LCg.Off3 I C D news → ((@Ne Nat I C) ∧ (@Ne Nat I D) ∧ (@Ne Nat C D)) →
      wpAny (model prog w) A (isTrue ct (compEnvC scope cl C env) (eval ct (compEnvC scope cl C env))) (fun ok s' => if ok = true then
        wpAny (model prog w) A (eval elt (compEnvC scope cl C env)) (fun y s'' => CtEnd h₀ L m { s with heap := h, toks := tk } ((I, oI) :: (C, oC) :: (D, LCg.lst ys) :: news) (p d = true ∧ ∃ t', y = .int d t') s'') E' s'
        else CtEnd h₀ L m { s with heap := h, toks := tk } ((I, oI) :: (C, oC) :: (D, LCg.lst ys) :: news) (p d = false) s') E' { { s with heap := hp } with heap := h, toks := tk })
    (fin : ∀ h ys, IntsAre ys ((upTo n).filter p) → Fin { s with heap := h } ys news) : LCt.CompSrcT prog w A h₀ L m env ct elt x scope cl Fin (.ref r) s := by
  refine LCt.CompSrcT.range (n := n) hh F N hr (small_one (by omega) (by omega) (by omega) (by omega)) (by rw [rangeSize_nat]; omega) (by rw [sizeLine_eq]; omega) fun hg => ?_
  refine ct_rest (ds := upTo n) (V := fun d v => ∃ t, v = .int d t) p (fun d y => ∃ t', y = .int d t') (upTo_length n) (fun i v hi hv => ?_) trivial ?_ fun ys hy => fin hg ys (by simpa using (All2.ints (g := fun d => d) hy))
  · obtain ⟨t, rfl⟩ := hv
    exact ⟨(i : Int), by simp [upTo, hi], t, by rw [Int.zero_add]⟩
  · rintro d v I oI C oC D m₂ ys h tk E' hd ⟨t, rfl⟩ hC hx F' N' off ne
    exact turn d t I oI C oC D m₂ ys hg h tk E' (mem_upTo hd).1 (mem_upTo hd).2 hC hx F' N' off ne
end
end Mine
namespace Mine
section
variable {prog : Program} {w : World} {A : Around} {E : Value → Shared → Prop} {s : Shared} {env : Env} {h₀ : Heap} {target : Expr} {body : List Stmt} {Q : Flow → Shared → Prop}

/-- a turn's end: the next state c' of the word, borne by the frame and the ledger -/
def GEnd {σ : Type} (h₀ : Heap) (L : Addr) (I : Addr) (it : Obj) (Led : σ → List (Addr × Obj)) (ps : σ → List (Str × Value)) (stored : List Str) (m₀ : Str → Option Value) (P : σ → Prop) (s₁ s₂ : Shared) : Prop :=
  ∃ (c' : σ) (h' : Heap) (tk : Nat) (m' : Str → Option Value) (news' : List (Addr × Obj)), s₂ = { s₁ with heap := h', toks := tk } ∧ Fr h₀ L h' m' ∧ News h₀ L h' news' ∧ (I, it) ∈ news' ∧ (∀ p ∈ Led c', p ∈ news') ∧ (∀ p ∈ Led c', p.1 ≠ I) ∧
    (∀ p ∈ ps c', m' p.1 = some p.2) ∧ (∀ z, (∀ p ∈ ps c', z ≠ p.1) → stored.contains z = false → m' z = m₀ z) ∧ P c'
def GPost {σ : Type} (h₀ : Heap) (L : Addr) (I : Addr) (it : Obj) (Led : σ → List (Addr × Obj)) (ps : σ → List (Str × Value)) (stored : List Str) (m₀ : Str → Option Value) (P : σ → Prop) (s₁ : Shared) (Q : Flow → Shared → Prop) (f : Flow) (s₂ : Shared) : Prop :=
  match f with
  | .ret v => Q (.ret v) s₂
  | .brk => Q .next s₂
  | _ => GEnd h₀ L I it Led ps stored m₀ P s₁ s₂
theorem g_end {σ : Type} {L I : Addr} {it : Obj} {Led : σ → List (Addr × Obj)} {ps : σ → List (Str × Value)} {stored : List Str} {m₀ m' : Str → Option Value} {P : σ → Prop} {s₁ : Shared} {h' : Heap} {tk : Nat} {news' : List (Addr × Obj)} (c' : σ)
    (F : Fr h₀ L h' m') (N : News h₀ L h' news') (hI : (I, it) ∈ news') (hn : ∀ p ∈ Led c', p ∈ news') (ho : ∀ p ∈ Led c', p.1 ≠ I) (hk : ∀ p ∈ ps c', m' p.1 = some p.2) (hr : ∀ z, (∀ p ∈ ps c', z ≠ p.1) → stored.contains z = false → m' z = m₀ z) (hp : P c') :
    GEnd h₀ L I it Led ps stored m₀ P s₁ { s₁ with heap := h', toks := tk } := ⟨c', h', tk, m', news', rfl, F, N, hI, hn, ho, hk, hr, hp⟩

theorem g_core {σ : Type} {I : Addr} {fp : List Addr} {n : Nat} {Pi Md : Nat → Value → Heap → Prop} {St : Nat → Heap → Prop} {m₀ : Str → Option Value} (Led : σ → List (Addr × Obj)) (ps : σ → List (Str × Value)) (stored : List Str) (P : Nat → σ → Prop) (c₀ : σ) (keep : List (Addr × Obj))
    (W : KTurns prog w A target I fp [I] n Pi Md St) (hLf : env.locals ∉ fp) (hI : h₀.get? I = none) (hfp : ∀ b ∈ fp, b = I ∨ (∃ o, h₀.get? b = some o) ∨ b ∈ keep.map (·.1)) (hkeep : ∀ c i, P i c → ∀ p ∈ keep, p ∈ Led c) (hit : ∀ i h, St i h → ∃ it, h.get? I = some it)
    (hoff : ∀ p ∈ Led c₀, p.1 ≠ I) (hst : St 0 s.heap) (F : Fr h₀ env.locals s.heap m₀) (N : News h₀ env.locals s.heap (Led c₀)) (hk : ∀ p ∈ ps c₀, m₀ p.1 = some p.2) (hp : P 0 c₀)
    (turn : ∀ (c : σ) i v (u : Str → Option Value) h tk it, i < n → Pi i v h → P i c → (∀ p ∈ Led c, p.1 ≠ I) → Fr h₀ env.locals h (kstB (fun z => if stored.contains z then u z else m₀ z) (ps c)) → News h₀ env.locals h ((I, it) :: Led c) →
      wpAny (model prog w) A (assign target env v) (fun _ s₃ => wpAny (model prog w) A (execs body env) (GPost h₀ env.locals I it Led ps stored m₀ (P (i + 1)) { s with heap := h, toks := tk } Q) E s₃) E { s with heap := h, toks := tk })
    (done : ∀ (c : σ) (u : Str → Option Value) h tk, P n c → Fr h₀ env.locals h (kstB (fun z => if stored.contains z then u z else m₀ z) (ps c)) → News h₀ env.locals h (Led c) → Q .next { s with heap := h, toks := tk }) :
    TurnsAt prog w A h₀ env target body Q E (.ref I) s := by
  let J : Nat → (Str → Option Value) → List (Addr × Obj) → Prop := fun i m nx => ∃ c : σ, nx = Led c ∧ (∀ p ∈ ps c, m p.1 = some p.2) ∧ (∀ z, (∀ p ∈ ps c, z ≠ p.1) → stored.contains z = false → m z = m₀ z) ∧ P i c
  refine ⟨I, fp, [I], n, Pi, Md, St, m₀, Led c₀, J, rfl, W, hLf, ?_, ?_, hst, F, N, ⟨c₀, rfl, hk, fun _ _ _ => rfl, hp⟩, ?_, ?_⟩
  · intro b hb; rw [List.mem_singleton.mp hb]; exact hI
  · intro p hp' hb; exact hoff p hp' (List.mem_singleton.mp hb)
  · rintro i v m₁ news₁ h₁ tk₁ own hin hPi ⟨c, rfl, hk₁, hr₁, hp₁⟩ hoff₁ hown hget hall hst₁ F₁ N₁
    have off : ∀ p ∈ Led c, p.1 ≠ I := fun p hp' e => hoff₁ p hp' (List.mem_singleton.mpr e)
    obtain ⟨it, hit₁⟩ := hit _ _ hst₁
    have hIm : (I, it) ∈ own := hall I (W.sub I (List.mem_singleton.mpr rfl)) hI it hit₁
    have N₂ : News h₀ env.locals h₁ ((I, it) :: Led c) := fun p hp' => by
      rcases List.mem_cons.mp hp' with rfl | hp'
      · exact N₁ _ (List.mem_append_left _ hIm)
      · exact N₁ _ (List.mem_append_right _ hp')
    refine wpAny_mono (turn c i v m₁ h₁ tk₁ it hin hPi hp₁ off (ksw_fr hk₁ hr₁ F₁) N₂) (fun _ s₃ h₃ => wpAny_mono h₃ (fun f s₂ p => ?_) fun _ _ e => e) fun _ _ e => e
    have fin : GEnd h₀ env.locals I it Led ps stored m₀ (P (i + 1)) { s with heap := h₁, toks := tk₁ } s₂ → LoopStepU h₀ env.locals [I] own (J (i + 1)) { s with heap := h₁, toks := tk₁ } .next s₂ := by
      rintro ⟨c', h', tk, m', news', e, F', N', hI', hn', ho', hk', hr', hp'⟩
      refine ⟨rfl, h', tk, m', Led c', e, F', fun p hp₂ => ?_, fun p hp₂ hb => ho' p hp₂ (List.mem_singleton.mp hb), c', rfl, hk', hr', hp'⟩
      rcases List.mem_append.mp hp₂ with hp₂ | hp₂
      · have h2 : h₁.get? p.1 = some p.2 := hget p hp₂
        rcases hfp p.1 (hown p hp₂) with h3 | ⟨o, h3⟩ | h3
        · have : p = (I, it) := by
            rw [h3, hit₁] at h2
            exact Prod.ext h3 (Option.some.inj h2).symm
          rw [this]; exact N' _ hI'
        · have h4 := (N₁ p (List.mem_append_left _ hp₂)).2.2
          rw [h3] at h4; cases h4
        · obtain ⟨q, hq, hqe⟩ := List.mem_map.mp h3
          have h5 := (N₁ q (List.mem_append_right _ (hkeep c i hp₁ q hq))).1
          have : p = q := by
            rw [hqe, h2] at h5
            exact Prod.ext hqe.symm (Option.some.inj h5)
          rw [this]; exact N' _ (hn' _ (hkeep c' (i + 1) hp' q hq))
      · exact N' _ (hn' p hp₂)
    cases f with
    | ret v => exact .ret p
    | brk => exact .brk p
    | next => exact .next (fin p)
    | cont => exact .cont (fin p)
  · rintro h' tk m' news' F' N' _ ⟨c, rfl, hk', hr', hp'⟩
    exact done c m' h' tk hp' (ksw_fr hk' hr' F') N'

/-- over a tuple or a list of the ledger's -/
theorem g_seqL {σ : Type} {ax : Addr} {lo : Obj} {vs : List Value} {nn : Nat} {m₀ : Str → Option Value} (Led : σ → List (Addr × Obj)) (ps : σ → List (Str × Value)) (stored : List Str) (P : Nat → σ → Prop) (c₀ : σ)
    (hh : A.handled = none) (F : Fr h₀ env.locals s.heap m₀) (N : News h₀ env.locals s.heap (Led c₀)) (hm : ∀ c i, P i c → (ax, lo) ∈ Led c) (hc : lo.cls = .type "tuple" ∨ lo.cls = .type "list") (hd : lo.data = .seq vs.toArray nn) (hk : ∀ p ∈ ps c₀, m₀ p.1 = some p.2) (hp : P 0 c₀)
    (turn : ∀ (I : Addr), (∀ p ∈ Led c₀, p.1 < I) → ∀ (c : σ) i v (u : Str → Option Value) h tk it, vs[i]? = some v → P i c → (∀ p ∈ Led c, p.1 ≠ I) → Fr h₀ env.locals h (kstB (fun z => if stored.contains z then u z else m₀ z) (ps c)) → News h₀ env.locals h ((I, it) :: Led c) →
      wpAny (model prog w) A (assign target env v) (fun _ s₃ => wpAny (model prog w) A (execs body env) (GPost h₀ env.locals I it Led ps stored m₀ (P (i + 1)) { s with heap := h, toks := tk } Q) E s₃) E { s with heap := h, toks := tk })
    (done : ∀ (c : σ) (u : Str → Option Value) h tk, P vs.length c → Fr h₀ env.locals h (kstB (fun z => if stored.contains z then u z else m₀ z) (ps c)) → News h₀ env.locals h (Led c) → Q .next { s with heap := h, toks := tk }) :
    wpAny (model prog w) A (pyIter (.ref ax)) (fun it s₂ => TurnsAt prog w A h₀ env target body Q E it s₂) E s := by
  have hax := N _ (hm c₀ 0 hp)
  have hlt : ax < s.heap.objs.size := Heap.lt_size hax.1
  have hne : ax ≠ s.heap.objs.size := Nat.ne_of_lt hlt
  have hold : ∀ p ∈ Led c₀, p.1 < s.heap.objs.size := fun p hp => Heap.lt_size (N p hp).1
  have hLf : env.locals ∉ [s.heap.objs.size, ax] := fun hb => by
    rcases List.mem_cons.mp hb with e | hb
    · exact absurd F.ns.lt (e ▸ Nat.lt_irrefl _)
    · exact hax.2.1 (List.mem_singleton.mp hb).symm
  have hfp : ∀ b ∈ [s.heap.objs.size, ax], b = s.heap.objs.size ∨ (∃ o, h₀.get? b = some o) ∨ b ∈ [(ax, lo)].map (·.1) := fun b hb => by
    rcases List.mem_cons.mp hb with e | hb
    · exact .inl e
    · exact .inr (.inr (by simpa using hb))
  have hsz : vs.toArray.size = vs.length := by simp
  rcases hc with hc | hc
  · have hl : s.heap.IsTuple ax vs.toArray := ⟨lo, hax.1, hc, nn, hd⟩
    refine wpAny_pyIter_tuple hl ?_
    refine g_core (s := { s with heap := _, toks := s.toks }) Led ps stored P c₀ [(ax, lo)] (hsz ▸ KTurns.ofWalks (Walks.tuple hh s.heap.objs.size ax hne vs.toArray) fun i v s Q E st q => letGo_tupleiter st.1 q) hLf (next_is_new F) hfp (fun c i hp' p hp => by rw [List.mem_singleton.mp hp]; exact hm c i hp')
      (fun i h st => by obtain ⟨it, a, _⟩ := st.1; exact ⟨it, a⟩) (fun p hp => Nat.ne_of_lt (hold p hp)) ⟨⟨_, Heap.get?_push_size _ rfl, rfl, rfl⟩, hl.at fun o e => Heap.get?_push_of_some _ e⟩ (F.push _) (fun p hp => ⟨Heap.get?_push_of_some _ (N p hp).1, (N p hp).2⟩) hk hp ?_ ?_
    · intro c i v u h tk it hi hP hp' off F' N'
      exact turn _ hold c i v u h tk it (by simpa using hP) hp' off F' N'
    · intro c u h tk hp' F' N'
      exact done c u h tk hp' F' N'
  · have hl : s.heap.IsList ax vs.toArray := ⟨lo, hax.1, hc, nn, hd⟩
    refine wpAny_pyIter_list hl ?_
    refine g_core (s := { s with heap := _, toks := s.toks }) Led ps stored P c₀ [(ax, lo)] (hsz ▸ KTurns.ofWalks (Walks.list hh s.heap.objs.size ax hne vs.toArray) fun i v s Q E st q => letGo_listiter st.1 q) hLf (next_is_new F) hfp (fun c i hp' p hp => by rw [List.mem_singleton.mp hp]; exact hm c i hp')
      (fun i h st => by obtain ⟨it, a, _⟩ := st.1; exact ⟨it, a⟩) (fun p hp => Nat.ne_of_lt (hold p hp)) ⟨⟨_, Heap.get?_push_size _ rfl, rfl, rfl⟩, hl.at fun o e => Heap.get?_push_of_some _ e⟩ (F.push _) (fun p hp => ⟨Heap.get?_push_of_some _ (N p hp).1, (N p hp).2⟩) hk hp ?_ ?_
    · intro c i v u h tk it hi hP hp' off F' N'
      exact turn _ hold c i v u h tk it (by simpa using hP) hp' off F' N'
    · intro c u h tk hp' F' N'
      exact done c u h tk hp' F' N'
/-- over a list that stood before (the script) -/
theorem g_listB {σ : Type} {ax : Addr} {vs : List Value} {m₀ : Str → Option Value} (Led : σ → List (Addr × Obj)) (ps : σ → List (Str × Value)) (stored : List Str) (P : Nat → σ → Prop) (c₀ : σ)
    (hh : A.handled = none) (hl : h₀.IsList ax vs.toArray) (F : Fr h₀ env.locals s.heap m₀) (N : News h₀ env.locals s.heap (Led c₀)) (hk : ∀ p ∈ ps c₀, m₀ p.1 = some p.2) (hp : P 0 c₀)
    (turn : ∀ (I : Addr), (∀ p ∈ Led c₀, p.1 < I) → ∀ (c : σ) i v (u : Str → Option Value) h tk it, vs[i]? = some v → P i c → (∀ p ∈ Led c, p.1 ≠ I) → Fr h₀ env.locals h (kstB (fun z => if stored.contains z then u z else m₀ z) (ps c)) → News h₀ env.locals h ((I, it) :: Led c) →
      wpAny (model prog w) A (assign target env v) (fun _ s₃ => wpAny (model prog w) A (execs body env) (GPost h₀ env.locals I it Led ps stored m₀ (P (i + 1)) { s with heap := h, toks := tk } Q) E s₃) E { s with heap := h, toks := tk })
    (done : ∀ (c : σ) (u : Str → Option Value) h tk, P vs.length c → Fr h₀ env.locals h (kstB (fun z => if stored.contains z then u z else m₀ z) (ps c)) → News h₀ env.locals h (Led c) → Q .next { s with heap := h, toks := tk }) :
    wpAny (model prog w) A (pyIter (.ref ax)) (fun it s₂ => TurnsAt prog w A h₀ env target body Q E it s₂) E s := by
  obtain ⟨lo, hlo, _⟩ := id hl
  have hls : s.heap.IsList ax vs.toArray := hl.at fun o e => F.keep ax o e
  have hlt : ax < h₀.objs.size := Heap.lt_size hlo
  have hne : ax ≠ s.heap.objs.size := Nat.ne_of_lt (Nat.lt_trans (Nat.lt_of_lt_of_le hlt F.above) F.ns.lt)
  have hold : ∀ p ∈ Led c₀, p.1 < s.heap.objs.size := fun p hp => Heap.lt_size (N p hp).1
  have hLf : env.locals ∉ [s.heap.objs.size, ax] := fun hb => by
    rcases List.mem_cons.mp hb with e | hb
    · exact absurd F.ns.lt (e ▸ Nat.lt_irrefl _)
    · exact absurd (Nat.lt_of_lt_of_le hlt F.above) ((List.mem_singleton.mp hb) ▸ Nat.lt_irrefl _)
  have hfp : ∀ b ∈ [s.heap.objs.size, ax], b = s.heap.objs.size ∨ (∃ o, h₀.get? b = some o) ∨ b ∈ ([] : List (Addr × Obj)).map (·.1) := fun b hb => by
    rcases List.mem_cons.mp hb with e | hb
    · exact .inl e
    · exact .inr (.inl ⟨lo, by rw [List.mem_singleton.mp hb]; exact hlo⟩)
  have hsz : vs.toArray.size = vs.length := by simp
  refine wpAny_pyIter_list hls ?_
  refine g_core (s := { s with heap := _, toks := s.toks }) Led ps stored P c₀ [] (hsz ▸ KTurns.ofWalks (Walks.list hh s.heap.objs.size ax hne vs.toArray) fun i v s Q E st q => letGo_listiter st.1 q) hLf (next_is_new F) hfp (fun c i hp' p hp => nomatch hp)
    (fun i h st => by obtain ⟨it, a, _⟩ := st.1; exact ⟨it, a⟩) (fun p hp => Nat.ne_of_lt (hold p hp)) ⟨⟨_, Heap.get?_push_size _ rfl, rfl, rfl⟩, hls.at fun o e => Heap.get?_push_of_some _ e⟩ (F.push _) (fun p hp => ⟨Heap.get?_push_of_some _ (N p hp).1, (N p hp).2⟩) hk hp ?_ ?_
  · intro c i v u h tk it hi hP hp' off F' N'
    exact turn _ hold c i v u h tk it (by simpa using hP) hp' off F' N'
  · intro c u h tk hp' F' N'
    exact done c u h tk hp' F' N'
/-- over a range, any step -/
theorem g_range {σ : Type} {x : Str} {px : Pos} {r : Addr} {a₀ b₀ c : Int} {t₀ u₀ v₀ : Tok} {n : Nat} {m₀ : Str → Option Value} (Led : σ → List (Addr × Obj)) (ps : σ → List (Str × Value)) (stored : List Str) (P : Nat → σ → Prop) (c₀ : σ)
    (hh : A.handled = none) (hr : IsRange s.heap r a₀ b₀ c t₀ u₀ v₀) (hsmall : Builtin.Range.small a₀ b₀ c = true) (hn : Builtin.Range.rangeSize a₀ b₀ c = (n : Int)) (F : Fr h₀ env.locals s.heap m₀) (N : News h₀ env.locals s.heap (Led c₀)) (hk : ∀ p ∈ ps c₀, m₀ p.1 = some p.2) (hp : P 0 c₀)
    (turn : ∀ (I : Addr), (∀ p ∈ Led c₀, p.1 < I) → ∀ (st : σ) i t (u : Str → Option Value) h tk it, i < n → P i st → (∀ p ∈ Led st, p.1 ≠ I) → Fr h₀ env.locals h (kstB (fun z => if stored.contains z then u z else m₀ z) (ps st)) → News h₀ env.locals h ((I, it) :: Led st) →
      wpAny (model prog w) A (assign (.Name x px) env (.int (a₀ + (i : Int) * c) t)) (fun _ s₃ => wpAny (model prog w) A (execs body env) (GPost h₀ env.locals I it Led ps stored m₀ (P (i + 1)) { s with heap := h, toks := tk } Q) E s₃) E { s with heap := h, toks := tk })
    (done : ∀ (st : σ) (u : Str → Option Value) h tk, P n st → Fr h₀ env.locals h (kstB (fun z => if stored.contains z then u z else m₀ z) (ps st)) → News h₀ env.locals h (Led st) → Q .next { s with heap := h, toks := tk }) :
    wpAny (model prog w) A (pyIter (.ref r)) (fun it s₂ => TurnsAt prog w A h₀ env (.Name x px) body Q E it s₂) E s := by
  have hold : ∀ p ∈ Led c₀, p.1 < s.heap.objs.size := fun p hp => Heap.lt_size (N p hp).1
  have hLf : env.locals ∉ [s.heap.objs.size] := fun hb => absurd F.ns.lt ((List.mem_singleton.mp hb) ▸ Nat.lt_irrefl _)
  refine wpAny_pyIter_range hr hsmall ?_
  refine g_core (s := { s with heap := _, toks := s.toks }) Led ps stored P c₀ [] (KTurns.ofWalks (Walks.range hh s.heap.objs.size a₀ c n) fun i v s Q E st q => wpAny_pure q) hLf (next_is_new F) (fun b hb => .inl (List.mem_singleton.mp hb)) (fun c i hp' p hp => nomatch hp)
    (fun i h st => ⟨_, st⟩) (fun p hp => Nat.ne_of_lt (hold p hp)) (by show IsRangeIter _ _ _ _ _; rw [hn]; simpa using Heap.get?_push_size _ rfl) (F.push _) (fun p hp => ⟨Heap.get?_push_of_some _ (N p hp).1, (N p hp).2⟩) hk hp ?_ ?_
  · rintro st i v u h tk it hi ⟨t, rfl⟩ hp' off F' N'
    exact turn _ hold st i t u h tk it hi hp' off F' N'
  · intro st u h tk hp' F' N'
    exact done st u h tk hp' F' N'
end
end Mine
namespace Mine
section
variable {prog : Program} {w : World} {A : Around} {E : Value → Shared → Prop} {s : Shared} {env : Env} {h₀ : Heap} {target : Expr} {body : List Stmt} {Q : Flow → Shared → Prop}
/-- over a sequence of ints of the ledger's, the turns leave everything but the stored names -/
theorem g_still {ax : Addr} {lo : Obj} {vs : List Value} {ns : List Int} {nn : Nat} {m₀ : Str → Option Value} {news : List (Addr × Obj)} (stored : List Str)
    (hh : A.handled = none) (F : Fr h₀ env.locals s.heap m₀) (N : News h₀ env.locals s.heap news) (hm : (ax, lo) ∈ news) (hc : lo.cls = .type "tuple" ∨ lo.cls = .type "list") (hd : lo.data = .seq vs.toArray nn) (hi : IntsAre vs ns)
    (turn : ∀ (I : Addr), (∀ p ∈ news, p.1 < I) → ∀ (i : Nat) (x : Int) (t : Tok) (u : Str → Option Value) h tk it, ns[i]? = some x → (∀ p ∈ news, p.1 ≠ I) → Fr h₀ env.locals h (fun z => if stored.contains z then u z else m₀ z) → News h₀ env.locals h ((I, it) :: news) →
      wpAny (model prog w) A (assign target env (.int x t)) (fun _ s₃ => wpAny (model prog w) A (execs body env) (GPost h₀ env.locals I it (fun _ : Unit => news) (fun _ => []) stored m₀ (fun _ => True) { s with heap := h, toks := tk } Q) E s₃) E { s with heap := h, toks := tk })
    (done : ∀ (u : Str → Option Value) h tk, Fr h₀ env.locals h (fun z => if stored.contains z then u z else m₀ z) → News h₀ env.locals h news → Q .next { s with heap := h, toks := tk }) :
    wpAny (model prog w) A (pyIter (.ref ax)) (fun it s₂ => TurnsAt prog w A h₀ env target body Q E it s₂) E s := by
  refine g_seqL (fun _ : Unit => news) (fun _ => []) stored (fun _ _ => True) () hh F N (fun _ _ _ => hm) hc hd (fun _ h => nomatch h) trivial ?_ ?_
  · intro I hI c i v u h tk it hv _ off F' N'
    have hlt : i < vs.length := (List.getElem?_eq_some_iff.mp hv).1
    obtain ⟨t, ht⟩ := hi.get i (ns[i]'(by rw [← hi.length]; exact hlt)) (by simp)
    have : v = .int (ns[i]'(by rw [← hi.length]; exact hlt)) t := by rw [hv] at ht; exact Option.some.inj ht
    subst this
    exact turn I hI i _ t u h tk it (by simp) off F' N'
  · intro c u h tk _ F' N'
    exact done u h tk F' N'
end
end Mine
namespace Mine
section
variable {prog : Program} {w : World} {A : Around} {E : Value → Shared → Prop} {s : Shared} {env : Env} {h₀ : Heap} {target : Expr} {body : List Stmt} {Q : Flow → Shared → Prop}
/-- a turn's end where the ledger's addresses stay -/
def FEnd {σ : Type} (h₀ : Heap) (L : Addr) (I : Addr) (it : Obj) (Led : σ → List (Addr × Obj)) (ps : σ → List (Str × Value)) (Facts : σ → Prop) (stored : List Str) (m₀ : Str → Option Value) (P : σ → Prop) (s₁ s₂ : Shared) : Prop :=
  ∃ (c' : σ) (h' : Heap) (tk : Nat) (m' : Str → Option Value) (news' : List (Addr × Obj)), s₂ = { s₁ with heap := h', toks := tk } ∧ Fr h₀ L h' m' ∧ News h₀ L h' news' ∧ (I, it) ∈ news' ∧ (∀ p ∈ Led c', p ∈ news') ∧ Facts c' ∧
    (∀ p ∈ ps c', m' p.1 = some p.2) ∧ (∀ z, (∀ p ∈ ps c', z ≠ p.1) → stored.contains z = false → m' z = m₀ z) ∧ P c'
def FPost {σ : Type} (h₀ : Heap) (L : Addr) (I : Addr) (it : Obj) (Led : σ → List (Addr × Obj)) (ps : σ → List (Str × Value)) (Facts : σ → Prop) (stored : List Str) (m₀ : Str → Option Value) (P : σ → Prop) (s₁ : Shared) (Q : Flow → Shared → Prop) (f : Flow) (s₂ : Shared) : Prop :=
  match f with
  | .ret v => Q (.ret v) s₂
  | .brk => Q .next s₂
  | _ => FEnd h₀ L I it Led ps Facts stored m₀ P s₁ s₂
theorem f_end {σ : Type} {L I : Addr} {it : Obj} {Led : σ → List (Addr × Obj)} {ps : σ → List (Str × Value)} {Facts : σ → Prop} {stored : List Str} {m₀ m' : Str → Option Value} {P : σ → Prop} {s₁ : Shared} {h' : Heap} {tk : Nat} {news' : List (Addr × Obj)} (c' : σ)
    (F : Fr h₀ L h' m') (N : News h₀ L h' news') (hI : (I, it) ∈ news') (hn : ∀ p ∈ Led c', p ∈ news') (hf : Facts c') (hk : ∀ p ∈ ps c', m' p.1 = some p.2) (hr : ∀ z, (∀ p ∈ ps c', z ≠ p.1) → stored.contains z = false → m' z = m₀ z) (hp : P c') :
    FEnd h₀ L I it Led ps Facts stored m₀ P s₁ { s₁ with heap := h', toks := tk } := ⟨c', h', tk, m', news', rfl, F, N, hI, hn, hf, hk, hr, hp⟩
theorem f_post {σ : Type} {L I : Addr} {it : Obj} {Led : σ → List (Addr × Obj)} {ps : σ → List (Str × Value)} {Facts : σ → Prop} {stored : List Str} {m₀ : Str → Option Value} {P : σ → Prop} {s₁ : Shared} {c : σ} (hadr : ∀ c c' : σ, (Led c).map (·.1) = (Led c').map (·.1)) (off : ∀ p ∈ Led c, p.1 ≠ I) :
    ∀ f s₂, FPost h₀ L I it Led ps Facts stored m₀ P s₁ Q f s₂ → GPost h₀ L I it Led ps stored m₀ (fun c => Facts c ∧ P c) s₁ Q f s₂ := by
  intro f s₂ p
  have fin : FEnd h₀ L I it Led ps Facts stored m₀ P s₁ s₂ → GEnd h₀ L I it Led ps stored m₀ (fun c => Facts c ∧ P c) s₁ s₂ := by
    rintro ⟨c', h', tk, m', news', e, F, N, hI, hn, hf, hk, hr, hp⟩
    refine ⟨c', h', tk, m', news', e, F, N, hI, hn, fun q hq => ?_, hk, hr, hf, hp⟩
    have h1 : q.1 ∈ (Led c').map (·.1) := List.mem_map.mpr ⟨q, hq, rfl⟩
    rw [hadr c' c] at h1
    obtain ⟨r, hr1, hr2⟩ := List.mem_map.mp h1
    rw [← hr2]; exact off r hr1
  cases f with
  | ret v => exact p
  | brk => exact p
  | next => exact fin p
  | cont => exact fin p

theorem g_fixL {σ : Type} {ax : Addr} {lo : Obj} {vs : List Value} {nn : Nat} {m₀ : Str → Option Value} (Led : σ → List (Addr × Obj)) (ps : σ → List (Str × Value)) (Facts : σ → Prop) (stored : List Str) (P : Nat → σ → Prop) (c₀ : σ) (hadr : ∀ c c' : σ, (Led c).map (·.1) = (Led c').map (·.1))
    (hh : A.handled = none) (F : Fr h₀ env.locals s.heap m₀) (N : News h₀ env.locals s.heap (Led c₀)) (hm : ∀ c, (ax, lo) ∈ Led c) (hc : lo.cls = .type "tuple" ∨ lo.cls = .type "list") (hd : lo.data = .seq vs.toArray nn) (hf : Facts c₀) (hk : ∀ p ∈ ps c₀, m₀ p.1 = some p.2) (hp : P 0 c₀)
    (turn : ∀ (I : Addr), (∀ p ∈ Led c₀, p.1 < I) → ∀ (c : σ) (i : Nat) (v : Value) (u : Str → Option Value) h tk it, vs[i]? = some v → Facts c → P i c → (∀ p ∈ Led c, p.1 ≠ I) → Fr h₀ env.locals h (kstB (fun z => if stored.contains z then u z else m₀ z) (ps c)) → News h₀ env.locals h ((I, it) :: Led c) →
      wpAny (model prog w) A (assign target env v) (fun _ s₃ => wpAny (model prog w) A (execs body env) (FPost h₀ env.locals I it Led ps Facts stored m₀ (P (i + 1)) { s with heap := h, toks := tk } Q) E s₃) E { s with heap := h, toks := tk })
    (done : ∀ (c : σ) (u : Str → Option Value) h tk, Facts c → P vs.length c → Fr h₀ env.locals h (kstB (fun z => if stored.contains z then u z else m₀ z) (ps c)) → News h₀ env.locals h (Led c) → Q .next { s with heap := h, toks := tk }) :
    wpAny (model prog w) A (pyIter (.ref ax)) (fun it s₂ => TurnsAt prog w A h₀ env target body Q E it s₂) E s := by
  refine g_seqL Led ps stored (fun i c => Facts c ∧ P i c) c₀ hh F N (fun c _ _ => hm c) hc hd hk ⟨hf, hp⟩ ?_ ?_
  · intro I hI c i v u h tk it hv hp' off F' N'
    exact wpAny_mono (turn I hI c i v u h tk it hv hp'.1 hp'.2 off F' N') (fun _ s₃ h₃ => wpAny_mono h₃ (f_post hadr off) fun _ _ e => e) fun _ _ e => e
  · intro c u h tk hp' F' N'
    exact done c u h tk hp'.1 hp'.2 F' N'
theorem g_fixB {σ : Type} {ax : Addr} {vs : List Value} {m₀ : Str → Option Value} (Led : σ → List (Addr × Obj)) (ps : σ → List (Str × Value)) (Facts : σ → Prop) (stored : List Str) (P : Nat → σ → Prop) (c₀ : σ) (hadr : ∀ c c' : σ, (Led c).map (·.1) = (Led c').map (·.1))
    (hh : A.handled = none) (hl : h₀.IsList ax vs.toArray) (F : Fr h₀ env.locals s.heap m₀) (N : News h₀ env.locals s.heap (Led c₀)) (hf : Facts c₀) (hk : ∀ p ∈ ps c₀, m₀ p.1 = some p.2) (hp : P 0 c₀)
    (turn : ∀ (I : Addr), (∀ p ∈ Led c₀, p.1 < I) → ∀ (c : σ) (i : Nat) (v : Value) (u : Str → Option Value) h tk it, vs[i]? = some v → Facts c → P i c → (∀ p ∈ Led c, p.1 ≠ I) → Fr h₀ env.locals h (kstB (fun z => if stored.contains z then u z else m₀ z) (ps c)) → News h₀ env.locals h ((I, it) :: Led c) →
      wpAny (model prog w) A (assign target env v) (fun _ s₃ => wpAny (model prog w) A (execs body env) (FPost h₀ env.locals I it Led ps Facts stored m₀ (P (i + 1)) { s with heap := h, toks := tk } Q) E s₃) E { s with heap := h, toks := tk })
    (done : ∀ (c : σ) (u : Str → Option Value) h tk, Facts c → P vs.length c → Fr h₀ env.locals h (kstB (fun z => if stored.contains z then u z else m₀ z) (ps c)) → News h₀ env.locals h (Led c) → Q .next { s with heap := h, toks := tk }) :
    wpAny (model prog w) A (pyIter (.ref ax)) (fun it s₂ => TurnsAt prog w A h₀ env target body Q E it s₂) E s := by
  refine g_listB Led ps stored (fun i c => Facts c ∧ P i c) c₀ hh hl F N hk ⟨hf, hp⟩ ?_ ?_
  · intro I hI c i v u h tk it hv hp' off F' N'
    exact wpAny_mono (turn I hI c i v u h tk it hv hp'.1 hp'.2 off F' N') (fun _ s₃ h₃ => wpAny_mono h₃ (f_post hadr off) fun _ _ e => e) fun _ _ e => e
  · intro c u h tk hp' F' N'
    exact done c u h tk hp'.1 hp'.2 F' N'
theorem g_fixR {σ : Type} {x : Str} {px : Pos} {r : Addr} {a₀ b₀ c : Int} {t₀ u₀ v₀ : Tok} {n : Nat} {m₀ : Str → Option Value} (Led : σ → List (Addr × Obj)) (ps : σ → List (Str × Value)) (Facts : σ → Prop) (stored : List Str) (P : Nat → σ → Prop) (c₀ : σ) (hadr : ∀ c c' : σ, (Led c).map (·.1) = (Led c').map (·.1))
    (hh : A.handled = none) (hr : IsRange s.heap r a₀ b₀ c t₀ u₀ v₀) (hsmall : Builtin.Range.small a₀ b₀ c = true) (hn : Builtin.Range.rangeSize a₀ b₀ c = (n : Int)) (F : Fr h₀ env.locals s.heap m₀) (N : News h₀ env.locals s.heap (Led c₀)) (hf : Facts c₀) (hk : ∀ p ∈ ps c₀, m₀ p.1 = some p.2) (hp : P 0 c₀)
    (turn : ∀ (I : Addr), (∀ p ∈ Led c₀, p.1 < I) → ∀ (st : σ) (i : Nat) (t : Tok) (u : Str → Option Value) h tk it, i < n → Facts st → P i st → (∀ p ∈ Led st, p.1 ≠ I) → Fr h₀ env.locals h (kstB (fun z => if stored.contains z then u z else m₀ z) (ps st)) → News h₀ env.locals h ((I, it) :: Led st) →
      wpAny (model prog w) A (assign (.Name x px) env (.int (a₀ + (i : Int) * c) t)) (fun _ s₃ => wpAny (model prog w) A (execs body env) (FPost h₀ env.locals I it Led ps Facts stored m₀ (P (i + 1)) { s with heap := h, toks := tk } Q) E s₃) E { s with heap := h, toks := tk })
    (done : ∀ (st : σ) (u : Str → Option Value) h tk, Facts st → P n st → Fr h₀ env.locals h (kstB (fun z => if stored.contains z then u z else m₀ z) (ps st)) → News h₀ env.locals h (Led st) → Q .next { s with heap := h, toks := tk }) :
    wpAny (model prog w) A (pyIter (.ref r)) (fun it s₂ => TurnsAt prog w A h₀ env (.Name x px) body Q E it s₂) E s := by
  refine g_range Led ps stored (fun i c => Facts c ∧ P i c) c₀ hh hr hsmall hn F N hk ⟨hf, hp⟩ ?_ ?_
  · intro I hI st i t u h tk it hi hp' off F' N'
    exact wpAny_mono (turn I hI st i t u h tk it hi hp'.1 hp'.2 off F' N') (fun _ s₃ h₃ => wpAny_mono h₃ (f_post hadr off) fun _ _ e => e) fun _ _ e => e
  · intro st u h tk hp' F' N'
    exact done st u h tk hp'.1 hp'.2 F' N'
theorem ints_at {vs : List Value} {ns : List Int} {i : Nat} {v : Value} (h : IntsAre vs ns) (hv : vs[i]? = some v) : ∃ k t, v = .int k t ∧ ns[i]? = some k := by
  obtain ⟨k, t, e, hk⟩ := IntsAre.at h i v hv
  exact ⟨k, t, e, hk⟩
end
theorem perm_drop_le {a w : List Int} {k : Nat} (h : a.Perm (w.drop k)) : a.length ≤ w.length := by
  rw [h.length_eq, List.length_drop]; omega
theorem ints_len_le {vs : List Value} {ns : List Int} {z : Nat} (h : IntsAre vs ns) (hz : z ≤ vs.length) : z ≤ ns.length := by rw [← h.length]; exact hz
theorem pos_of_ne {zs : List Int} (h : decide (zs = []) = false) : 0 < zs.length := by
  rcases Nat.eq_zero_or_pos zs.length with e | e
  · simp [List.eq_nil_of_length_eq_zero e] at h
  · exact e
theorem zero_of_eq {zs : List Int} (h : decide (zs = []) = true) : zs.length = 0 := by
  have := of_decide_eq_true h
  simp [this]
section
variable {prog : Program} {w : World} {A : Around} {E : Value → Shared → Prop} {s : Shared} {h₀ : Heap} {L : Addr} {news : List (Addr × Obj)}
/-- the last item of a list of ints of the ledger's -/
theorem item_last {l : Addr} {us : List Value} {zs : List Int} {nn : Nat} {tk : Tok} {value slice : Expr} {Q : Value → Shared → Prop} (N : News h₀ L s.heap news) (hm : (l, listOf us.toArray nn) ∈ news) (hi : IntsAre us zs) (hpos : 0 < zs.length) (hfit : zs.length < 2 ^ 62)
    (h : ∀ t, Q (.int (zs.getD (zs.length - 1) 0) t) s)
    (hs : subscripted slice false (.ref l) (.int (-1) tk) = operate [.ref l, .int (-1) tk] (getItem (.ref l) (.int (-1) tk)) := by with_unfolding_all rfl) :
    wpAny (model prog w) A (subscriptTail value slice (.ref l) (.int (-1) tk)) Q E s := by
  have hl : s.heap.IsList l us.toArray := ⟨_, (N _ hm).1, rfl, nn, rfl⟩
  have e : zs[zs.length - 1]? = some (zs.getD (zs.length - 1) 0) := by
    rw [List.getD_eq_getElem?_getD, List.getElem?_eq_getElem (by omega)]; rfl
  obtain ⟨t, ht⟩ := hi.get _ _ e
  refine tail_any hl.typeIs slot_list_getitem.lookup ?_ hs
  refine wpAny_getItem_list_neg hl (by omega) (by rw [List.size_toArray, hi.length]; omega) (by decide) ?_ (h t)
  rw [List.size_toArray, hi.length, show ((-1 : Int) + (zs.length : Int)).toNat = zs.length - 1 by omega]
  simpa using ht
end
end Mine
namespace Mine
section
variable {prog : Program} {w : World} {A : Around} {E : Value → Shared → Prop} {s : Shared} {h₀ : Heap} {L : Addr} {news : List (Addr × Obj)}
/-- an item of a list of ints of the ledger's -/
theorem item_led {l : Addr} {us : List Value} {zs : List Int} {nn : Nat} {k : Int} {tk : Tok} {value slice : Expr} {Q : Value → Shared → Prop} (N : News h₀ L s.heap news) (hm : (l, listOf us.toArray nn) ∈ news) (hi : IntsAre us zs) (h0 : 0 ≤ k) (h1 : k < zs.length) (hfit : zs.length < 2 ^ 62)
    (h : ∀ t, Q (.int (zs.getD k.toNat 0) t) s)
    (hs : subscripted slice false (.ref l) (.int k tk) = operate [.ref l, .int k tk] (getItem (.ref l) (.int k tk)) := by with_unfolding_all rfl) :
    wpAny (model prog w) A (subscriptTail value slice (.ref l) (.int k tk)) Q E s := by
  have hl : s.heap.IsList l us.toArray := ⟨_, (N _ hm).1, rfl, nn, rfl⟩
  have e : zs[k.toNat]? = some (zs.getD k.toNat 0) := by
    rw [List.getD_eq_getElem?_getD, List.getElem?_eq_getElem (by omega)]; rfl
  obtain ⟨t, ht⟩ := hi.get _ _ e
  exact tail_any hl.typeIs slot_list_getitem.lookup (wpAny_getItem_list hl h0 (by omega) (by simpa using ht) (h t)) hs
end
end Mine
namespace Mine
theorem rangeSize_two (L : Nat) : Builtin.Range.rangeSize 0 ((L : Int) - 1) 2 = ((L / 2 : Nat) : Int) := by
  unfold Builtin.Range.rangeSize
  simp only [show ((2 : Int) > 0) from by decide, if_true]
  by_cases h : (0 : Int) < (L : Int) - 1
  · simp only [h, if_true]; omega
  · simp only [h, if_false]; omega
theorem small_two {L : Nat} (h : L ≤ 2 ^ 20) : Builtin.Range.small 0 ((L : Int) - 1) 2 = true := by
  unfold Builtin.Range.small
  rw [rangeSize_two]
  simp only [Builtin.Range.rangeFitsLong, Bool.and_eq_true, Bool.or_eq_true, decide_eq_true_eq, show ((2 : Int) > 0) from by decide, if_true]
  refine ⟨⟨⟨⟨by decide, by omega, by omega⟩, by decide⟩, by omega, by omega⟩, .inr ⟨by omega, by omega⟩⟩
theorem rangeSize_three (L : Nat) : Builtin.Range.rangeSize 0 ((L : Int) - 2) 3 = ((L / 3 : Nat) : Int) := by
  unfold Builtin.Range.rangeSize
  simp only [show ((3 : Int) > 0) from by decide, if_true]
  by_cases h : (0 : Int) < (L : Int) - 2
  · simp only [h, if_true]; omega
  · simp only [h, if_false]; omega
theorem small_three {L : Nat} (h : L ≤ 2 ^ 20) : Builtin.Range.small 0 ((L : Int) - 2) 3 = true := by
  unfold Builtin.Range.small
  rw [rangeSize_three]
  simp only [Builtin.Range.rangeFitsLong, Bool.and_eq_true, Bool.or_eq_true, decide_eq_true_eq, show ((3 : Int) > 0) from by decide, if_true]
  refine ⟨⟨⟨⟨by decide, by omega, by omega⟩, by decide⟩, by omega, by omega⟩, .inr ⟨by omega, by omega⟩⟩
end Mine
namespace Mine
theorem IntsAre_take {vs : List Value} {ns : List Int} (h : IntsAre vs ns) (k : Nat) : IntsAre (vs.take k) (ns.take k) := by
  induction h generalizing k with
  | nil => simp; exact .nil
  | cons n t _ ih => cases k with
    | zero => exact .nil
    | succ k => exact .cons n t (ih k)
theorem IntsAre_drop {vs : List Value} {ns : List Int} (h : IntsAre vs ns) (k : Nat) : IntsAre (vs.drop k) (ns.drop k) := by
  induction h generalizing k with
  | nil => simp; exact .nil
  | cons n t h ih => cases k with
    | zero => exact .cons n t h
    | succ k => exact ih k
theorem IntsAre_erase {vs : List Value} {ns : List Int} (h : IntsAre vs ns) (k : Nat) : IntsAre (vs.eraseIdx k) (ns.eraseIdx k) := by
  induction h generalizing k with
  | nil => simp; exact .nil
  | cons n t h ih => cases k with
    | zero => exact h
    | succ k => exact .cons n t (ih k)
theorem upd_get {h : Heap} {D : Addr} {f : Array Value → Array Value} {items items' : Array Value} {n : Nat} (hz : h.get? D = some (listOf items n)) (e : f items = items') (hne : items'.size ≠ items.size) :
    (h.update D (Obj.mapSeq f)).get? D = some (listOf items' (n + 1)) := by
  have hu := IsL.update (h := h) (l := D) (items := items) (n := n) hz f
  rw [e, beq_eq_false_iff_ne.mpr hne] at hu
  exact hu
section
variable {prog : Program} {w : World} {A : Around} {E : Value → Shared → Prop} {s : Shared} {h₀ : Heap} {L D : Addr} {m : Str → Option Value} {news news' : List (Addr × Obj)}
/-- xs.insert(r, x) upon a list of ints of the ledger's -/
theorem insert_led {vs : List Value} {zs : List Int} {n : Nat} {r x : Int} {tr tx : Tok} {Q : Value → Shared → Prop} (hF : Fr h₀ L s.heap m) (N : News h₀ L s.heap news) (hi : IntsAre vs zs) (h0 : 0 ≤ r) (h1 : r ≤ zs.length) (hz : zs.length ≤ 2 ^ 20)
    (U : Upd D (listOf vs.toArray n) (listOf (vs.take r.toNat ++ .int x tx :: vs.drop r.toNat).toArray (n + 1)) news news')
    (h : ∀ h', Fr h₀ L h' m → News h₀ L h' news' → IntsAre (vs.take r.toNat ++ .int x tx :: vs.drop r.toNat) (zs.take r.toNat ++ x :: zs.drop r.toNat) → (zs.take r.toNat ++ x :: zs.drop r.toNat).length = zs.length + 1 → Q .none { s with heap := h' }) :
    wpAny (model prog w) A (call (.builtin "list.insert") [.ref D, .int r tr, .int x tx]) Q E s := by
  obtain ⟨pre, post, rfl, rfl, a, b⟩ := U.split
  have z := N (D, listOf vs.toArray n) (List.mem_append.mpr (.inr (.head _)))
  have hfit : ¬ (!Builtin.List.listFitsIndex r) = true := by rw [fitsIndex_of h0 (by omega)]; simp
  have hl := hi.length
  refine call_meets F.slot_list_insert ⟨_, z.1, rfl⟩ F.entry_list_insert (F.args_list_insert_3 _ _ _) (AutoSeq1.list_insert_list_int_val_1 D vs.toArray n r tr (.int x tx) hfit (by rw [sizeLine_eq, List.size_toArray]; omega)) ⟨z.1, ?_⟩
  refine h _ (Fr.change hF (Heap.SameBut.update ..) z.2.1 z.2.2) (news_set N a b (Heap.SameBut.update ..) ?_) ?_ ?_
  · refine upd_get z.1 ?_ (by simp; omega)
    dsimp only
    rw [if_neg (show ¬ r < 0 by omega), List.size_toArray, Nat.min_eq_left (show r.toNat ≤ vs.length by omega)]
    apply Array.ext'
    simp
    exact List.take_of_length_le (by simp)
  · exact IntsAre.append (IntsAre_take hi _) (.cons x tx (IntsAre_drop hi _))
  · simp; omega
/-- del xs[r] upon a list of ints of the ledger's -/
theorem del_led {vs : List Value} {zs : List Int} {n : Nat} {r : Int} {tr : Tok} {Q : Unit → Shared → Prop} (hF : Fr h₀ L s.heap m) (N : News h₀ L s.heap news) (hi : IntsAre vs zs) (h0 : 0 ≤ r) (h1 : r < zs.length) (hz : zs.length ≤ 2 ^ 20)
    (U : Upd D (listOf vs.toArray n) (listOf (vs.eraseIdx r.toNat).toArray (n + 1)) news news')
    (h : ∀ h', Fr h₀ L h' m → News h₀ L h' news' → IntsAre (vs.eraseIdx r.toNat) (zs.eraseIdx r.toNat) → (zs.eraseIdx r.toNat).length = zs.length - 1 → Q () { s with heap := h' }) :
    wpAny (model prog w) A (delItem (.ref D) (.int r tr)) Q E s := by
  obtain ⟨pre, post, rfl, rfl, a, b⟩ := U.split
  have z := N (D, listOf vs.toArray n) (List.mem_append.mpr (.inr (.head _)))
  have hl := hi.length
  have hlt : r.toNat < vs.length := by omega
  refine P.delItem_list (k := r.toNat) z.1 (fitsIndex_of h0 (by omega)) ?_ ?_ (by rw [sizeLine_eq, List.size_toArray]; omega)
  · unfold seqIndex?
    rw [List.size_toArray]
    simp only [show ¬ r < 0 by omega, if_false]
    rw [if_pos (by simp only [Bool.and_eq_true, decide_eq_true_eq]; omega)]
  · refine h _ (Fr.change hF (Heap.SameBut.update ..) z.2.1 z.2.2) (news_set N a b (Heap.SameBut.update ..) ?_) (IntsAre_erase hi _) (by rw [List.length_eraseIdx, if_pos (by omega)])
    refine upd_get z.1 ?_ (by simp [List.length_eraseIdx, hlt]; omega)
    apply Array.ext'
    simp
/-- xs.remove(x) upon a list of ints of the ledger's that holds x -/
theorem remove_led {vs : List Value} {zs : List Int} {n : Nat} {x : Int} {tx : Tok} {Q : Value → Shared → Prop} (hF : Fr h₀ L s.heap m) (N : News h₀ L s.heap news) (hi : IntsAre vs zs) (hx : x ∈ zs) (hz : zs.length ≤ 2 ^ 20)
    (U : Upd D (listOf vs.toArray n) (listOf (vs.eraseIdx (zs.idxOf x)).toArray (n + 1)) news news')
    (h : ∀ h', Fr h₀ L h' m → News h₀ L h' news' → IntsAre (vs.eraseIdx (zs.idxOf x)) (zs.eraseIdx (zs.idxOf x)) → (zs.eraseIdx (zs.idxOf x)).length = zs.length - 1 → Q .none { s with heap := h' }) :
    wpAny (model prog w) A (call (.builtin "list.remove") [.ref D, .int x tx]) Q E s := by
  obtain ⟨pre, post, rfl, rfl, a, b⟩ := U.split
  have z := N (D, listOf vs.toArray n) (List.mem_append.mpr (.inr (.head _)))
  have hl := hi.length
  have hj : zs.idxOf x < zs.length := List.idxOf_lt_length_of_mem hx
  have hjv : zs.idxOf x < vs.length := by omega
  have val : ∀ i (h : i < vs.length), ∃ t, vs[i] = .int (zs[i]'(by omega)) t := fun i h => by
    obtain ⟨t, ht⟩ := hi.get i (zs[i]'(by omega)) (by simp)
    exact ⟨t, by rw [List.getElem?_eq_getElem h] at ht; exact Option.some.inj ht⟩
  let e : Value → Bool := fun v => match v with | .int k _ => k == x | _ => false
  refine call_meets F.slot_list_remove ⟨_, z.1, rfl⟩ F.entry_list_remove (F.args_list_remove_2 _ _) (MeetsSeq.list_remove D vs.toArray n (.int x tx) e (fun y hy => ?_) (zs.idxOf x) (by simpa using hjv) ?_ (fun i hi' hlt => ?_) (by rw [sizeLine_eq, List.size_toArray]; omega)) ⟨z.1, ?_⟩
  · obtain ⟨i, hi', rfl⟩ := List.getElem_of_mem (by simpa using hy : y ∈ vs)
    obtain ⟨t, ht⟩ := val i hi'
    rw [ht]
    exact MeetsSeq.EqGives.int _ _ _ _
  · obtain ⟨t, ht⟩ := val _ hjv
    simp only [List.getElem_toArray, ht, e]
    simp
  · have hiv : i < vs.length := by simpa using hi'
    obtain ⟨t, ht⟩ := val i hiv
    simp only [List.getElem_toArray, ht, e]
    rw [beq_eq_false_iff_ne]
    intro q
    have := List.not_of_lt_findIdx (p := (· == x)) (xs := zs) (i := i) hlt
    simp [q] at this
  · refine h _ (Fr.change hF (Heap.SameBut.update ..) z.2.1 z.2.2) (news_set N a b (Heap.SameBut.update ..) ?_) (IntsAre_erase hi _) (by rw [List.length_eraseIdx, if_pos hj])
    refine upd_get z.1 ?_ (by simp [List.length_eraseIdx, hjv]; omega)
    apply Array.ext'
    simp
/-- xs.append(x) upon a list of ints of the ledger's -/
theorem append_led {vs : List Value} {zs : List Int} {n : Nat} {x : Int} {tx : Tok} {Q : Value → Shared → Prop} (hF : Fr h₀ L s.heap m) (N : News h₀ L s.heap news) (hi : IntsAre vs zs) (hz : zs.length ≤ 2 ^ 20)
    (U : Upd D (listOf vs.toArray n) (listOf (vs ++ [Value.int x tx]).toArray (n + 1)) news news')
    (h : ∀ h', Fr h₀ L h' m → News h₀ L h' news' → IntsAre (vs ++ [Value.int x tx]) (zs ++ [x]) → (zs ++ [x]).length = zs.length + 1 → Q .none { s with heap := h' }) :
    wpAny (model prog w) A (call (.builtin "list.append") [.ref D, .int x tx]) Q E s := by
  have hl := hi.length
  have e : vs.toArray.push (Value.int x tx) = (vs ++ [Value.int x tx]).toArray := by simp
  refine append_K (its := vs.toArray) (n := n) (x := .int x tx) hF N (e ▸ U) (fun h' F' N' => h h' F' N' (IntsAre.append hi (.cons x tx .nil)) (by simp)) (by rw [sizeLine_eq, List.size_toArray]; omega)
end
end Mine
namespace Mine
/-- gives a name to the ints of the list that a name of the frame holds -/
theorem nameL {R : Prop} {h₀ h : Heap} {L : Addr} {m : Str → Option Value} {news : List (Addr × Obj)} {lo : Addr} {ovs : List Value} {other : List Int} {no : Nat} (z : Str) (_F : Fr h₀ L h m) (_ho : m z = some (.ref lo)) (_N : News h₀ L h news) (_hm : (lo, listOf ovs.toArray no) ∈ news) (_hi : IntsAre ovs other)
    (k : ∀ o : List Int, o = other → IntsAre ovs o → R) : R := k other rfl _hi
theorem fdiv_neg2 {n : Nat} (h : (n : Int).fdiv 2 < 0) : False := by
  rw [Int.fdiv_eq_ediv_of_nonneg _ (by decide)] at h; omega
theorem getD_of {a : List Int} {i : Nat} {k : Int} (h : a[i]? = some k) : a.getD i 0 = k := by rw [List.getD_eq_getElem?_getD, h]; rfl
theorem rangeSize_down (n : Nat) : Builtin.Range.rangeSize ((n : Int) - 1) (-1) (-1) = (n : Int) := by
  unfold Builtin.Range.rangeSize
  simp only [show ¬ ((-1 : Int) > 0) from by decide, if_false]
  by_cases h : (-1 : Int) < (n : Int) - 1
  · simp only [h, if_true]; rw [show (- -1 : Int) = 1 from by decide]; omega
  · simp only [h, if_false]; omega
theorem small_down {n : Nat} (h : n ≤ 2 ^ 20) : Builtin.Range.small ((n : Int) - 1) (-1) (-1) = true := by
  unfold Builtin.Range.small
  rw [rangeSize_down]
  simp only [Builtin.Range.rangeFitsLong, Bool.and_eq_true, Bool.or_eq_true, decide_eq_true_eq, show ¬ ((-1 : Int) > 0) from by decide, if_false]
  refine ⟨⟨⟨⟨by omega, by omega, by omega⟩, by decide⟩, by omega, by omega⟩, .inr ⟨by omega, by omega⟩⟩
theorem pw_len {n : Nat} {zs : List Int} (h : zs.Pairwise (· < ·)) (b : ∀ z ∈ zs, 0 ≤ z ∧ z < (n : Int)) : zs.length ≤ n := by
  have key : ∀ i (hi : i < zs.length), (i : Int) ≤ zs[i] := by
    intro i
    induction i with
    | zero => intro hi; exact (b _ (List.getElem_mem hi)).1
    | succ i ih =>
      intro hi
      have h1 := ih (by omega)
      have h2 := List.pairwise_iff_getElem.mp h i (i + 1) (by omega) hi (by omega)
      omega
  rcases Nat.eq_zero_or_pos zs.length with e | e
  · omega
  · have h1 := key (zs.length - 1) (by omega)
    have h2 := (b _ (List.getElem_mem (show zs.length - 1 < zs.length by omega))).2
    omega
end Mine
namespace Mine
def P10 (pl ke : List Int) : Prop := ke.Perm pl ∧ ke.Pairwise (· ≤ ·)
theorem getD_eq {a : List Int} {i : Nat} (h : i < a.length) : a.getD i 0 = a[i] := by
  rw [List.getD_eq_getElem?_getD, List.getElem?_eq_getElem h]; rfl
theorem srt_of_pw {a : List Int} (h : a.Pairwise (· ≤ ·)) : Srt a := by
  intro i j hij hj
  rw [getD_eq hj, getD_eq (show i < a.length by omega)]
  rcases Nat.lt_or_eq_of_le hij with h1 | rfl
  · exact List.pairwise_iff_getElem.mp h i j _ _ h1
  · exact Int.le_refl _
theorem pw_of_srt {a : List Int} (h : Srt a) : a.Pairwise (· ≤ ·) := by
  rw [List.pairwise_iff_getElem]
  intro i j hi hj hij
  have := h i j (by omega) hj
  rwa [getD_eq hi, getD_eq hj] at this
theorem filter_cut {a : List Int} {p : Int → Bool} {r : Nat} (hr : r ≤ a.length) (lo : ∀ i, i < r → p (a.getD i 0) = true) (hi : ∀ i, r ≤ i → i < a.length → p (a.getD i 0) = false) : (a.filter p).length = r := by
  have e : a.filter p = (a.take r).filter p ++ (a.drop r).filter p := by rw [← List.filter_append, List.take_append_drop]
  have e1 : (a.take r).filter p = a.take r := by
    rw [List.filter_eq_self]
    intro x hx
    obtain ⟨i, h, rfl⟩ := List.getElem_of_mem hx
    rw [List.length_take] at h
    have := lo i (by omega)
    rw [getD_eq (by omega)] at this
    simpa using this
  have e2 : (a.drop r).filter p = [] := by
    rw [List.filter_eq_nil_iff]
    intro x hx
    obtain ⟨i, h, rfl⟩ := List.getElem_of_mem hx
    rw [List.length_drop] at h
    have := hi (r + i) (by omega) (by omega)
    rw [getD_eq (by omega)] at this
    simp [this]
  rw [e, e1, e2, List.append_nil, List.length_take]; omega
theorem filter_atmost {a : List Int} {p : Int → Bool} {r : Nat} (hi : ∀ i, r ≤ i → i < a.length → p (a.getD i 0) = false) : (a.filter p).length ≤ r := by
  have e : a.filter p = (a.take r).filter p ++ (a.drop r).filter p := by rw [← List.filter_append, List.take_append_drop]
  have e2 : (a.drop r).filter p = [] := by
    rw [List.filter_eq_nil_iff]
    intro x hx
    obtain ⟨i, h, rfl⟩ := List.getElem_of_mem hx
    rw [List.length_drop] at h
    have := hi (r + i) (by omega) (by omega)
    rw [getD_eq (by omega)] at this
    simp [this]
  rw [e, e2, List.append_nil]
  have := List.length_filter_le p (a.take r)
  rw [List.length_take] at this; omega
theorem filter_atleast {a : List Int} {p : Int → Bool} {r : Nat} (hr : r ≤ a.length) (lo : ∀ i, i < r → p (a.getD i 0) = true) : r ≤ (a.filter p).length := by
  have e : a.filter p = (a.take r).filter p ++ (a.drop r).filter p := by rw [← List.filter_append, List.take_append_drop]
  have e1 : (a.take r).filter p = a.take r := by
    rw [List.filter_eq_self]
    intro x hx
    obtain ⟨i, h, rfl⟩ := List.getElem_of_mem hx
    rw [List.length_take] at h
    have := lo i (by omega)
    rw [getD_eq (by omega)] at this
    simpa using this
  rw [e, e1, List.length_append, List.length_take]; omega
theorem p10_start : P10 [] [] := ⟨.nil, .nil⟩
theorem p10_uniq {pl ke n : List Int} (h : P10 pl ke) (p : n.Perm pl) (o : n.Pairwise (· ≤ ·)) : ke = n :=
  (h.1.trans p.symm).eq_of_pairwise (fun _ _ _ _ a b => Int.le_antisymm a b) h.2 o
theorem ins_perm {ke : List Int} {x : Int} {r : Nat} : (ke.take r ++ x :: ke.drop r).Perm (ke ++ [x]) := by
  have h1 : (ke.take r ++ x :: ke.drop r).Perm (x :: (ke.take r ++ ke.drop r)) := List.perm_middle
  rw [List.take_append_drop] at h1
  exact h1.trans (List.perm_append_singleton x ke).symm
theorem p10_ins {pl ke : List Int} {x r : Int} (h : P10 pl ke) (b : BR ke x r) : P10 (pl ++ [x]) (ke.take r.toNat ++ x :: ke.drop r.toNat) := by
  have hs := srt_of_pw h.2
  have b0 := b.1
  have b1 := b.2.1
  refine ⟨ins_perm.trans (h.1.append_right [x]), ?_⟩
  rw [List.pairwise_append]
  refine ⟨h.2.sublist (List.take_sublist _ _), ?_, ?_⟩
  · rw [List.pairwise_cons]
    refine ⟨fun y hy => ?_, h.2.sublist (List.drop_sublist _ _)⟩
    obtain ⟨i, hi, rfl⟩ := List.getElem_of_mem hy
    rw [List.length_drop] at hi
    have := b.hi hs (i := r.toNat + i) (by omega) (by omega)
    rw [getD_eq (by omega)] at this
    rw [List.getElem_drop]; omega
  · intro y hy z hz
    obtain ⟨i, hi, rfl⟩ := List.getElem_of_mem hy
    rw [List.length_take] at hi
    have hy' := b.lo hs (i := i) (by omega)
    rw [getD_eq (by omega)] at hy'
    rw [List.getElem_take]
    rcases List.mem_cons.mp hz with rfl | hz
    · exact hy'
    · obtain ⟨j, hj, rfl⟩ := List.getElem_of_mem hz
      rw [List.length_drop] at hj
      have := b.hi hs (i := r.toNat + j) (by omega) (by omega)
      rw [getD_eq (by omega)] at this
      rw [List.getElem_drop]; omega
theorem p10_bl {pl ke : List Int} {x r : Int} (h : P10 pl ke) (b : BL ke x r) : r = ((pl.filter (fun d => decide (d < x))).length : Int) := by
  have hs := srt_of_pw h.2
  have b0 := b.1
  have b1 := b.2.1
  rw [← (h.1.filter _).length_eq, filter_cut (r := r.toNat) (by omega) (fun i hi => decide_eq_true (b.lo hs (by omega))) (fun i hi hl => decide_eq_false (by have := b.hi hs (i := i) (by omega) hl; omega))]
  omega
theorem p10_br {pl ke : List Int} {x r : Int} (h : P10 pl ke) (b : BR ke x r) : r = ((pl.filter (fun d => decide (d ≤ x))).length : Int) := by
  have hs := srt_of_pw h.2
  have b0 := b.1
  have b1 := b.2.1
  rw [← (h.1.filter _).length_eq, filter_cut (r := r.toNat) (by omega) (fun i hi => decide_eq_true (b.lo hs (by omega))) (fun i hi hl => decide_eq_false (by have := b.hi hs (i := i) (by omega) hl; omega))]
  omega
theorem p10_in {pl ke : List Int} {x r : Int} (h : P10 pl ke) (b : BL ke x r) : x ∈ pl ↔ (r < ke.length ∧ ke.getD r.toNat 0 = x) := by
  have hs := srt_of_pw h.2
  have b0 := b.1
  have b1 := b.2.1
  rw [← h.1.mem_iff]
  constructor
  · intro hx
    obtain ⟨i, hi, e⟩ := List.getElem_of_mem hx
    have h1 : r ≤ (i : Int) := by
      rcases Int.lt_or_le (i : Int) r with q | q
      · have := b.lo hs q
        rw [getD_eq hi] at this; omega
      · exact q
    have h2 := hs r.toNat i (by omega) hi
    have h3 := b.hi hs (i := r.toNat) (by omega) (by omega)
    rw [getD_eq hi] at h2
    exact ⟨by omega, by omega⟩
  · rintro ⟨h1, h2⟩
    rw [← h2, getD_eq (by omega)]
    exact List.getElem_mem _
theorem p10_lo {pl ke : List Int} {k : Int} (h : P10 pl ke) (h0 : 0 ≤ k) (h1 : k < pl.length) : ((pl.filter (fun d => decide (d < ke.getD k.toNat 0))).length : Int) ≤ k := by
  have hs := srt_of_pw h.2
  have hl := h.1.length_eq
  rw [← (h.1.filter _).length_eq]
  have := filter_atmost (a := ke) (p := fun d => decide (d < ke.getD k.toNat 0)) (r := k.toNat) (fun i hi hl => decide_eq_false (by have := hs k.toNat i hi hl; omega))
  omega
theorem p10_hi {pl ke : List Int} {k : Int} (h : P10 pl ke) (h0 : 0 ≤ k) (h1 : k < pl.length) : k < ((pl.filter (fun d => decide (d ≤ ke.getD k.toNat 0))).length : Int) := by
  have hs := srt_of_pw h.2
  have hl := h.1.length_eq
  rw [← (h.1.filter _).length_eq]
  have := filter_atleast (a := ke) (p := fun d => decide (d ≤ ke.getD k.toNat 0)) (r := k.toNat + 1) (by omega) (fun i hi => decide_eq_true (hs i k.toNat (by omega) (by omega)))
  omega
theorem erase_perm {a : List Int} {i : Nat} (h : i < a.length) : (a[i] :: a.eraseIdx i).Perm a := by
  rw [List.eraseIdx_eq_take_drop_succ]
  have := List.perm_middle (a := a[i]) (l₁ := a.take i) (l₂ := a.drop (i + 1))
  rw [← List.drop_eq_getElem_cons h, List.take_append_drop] at this
  exact this.symm
theorem p10_del {pl ke : List Int} {r x : Int} (h : P10 pl ke) (h0 : 0 ≤ r) (h1 : r < ke.length) (e : ke.getD r.toNat 0 = x) : P10 (pl.eraseIdx (pl.idxOf x)) (ke.eraseIdx r.toNat) := by
  refine ⟨?_, h.2.sublist (List.eraseIdx_sublist _ _)⟩
  have hx : x ∈ pl := by
    rw [← h.1.mem_iff, ← e, getD_eq (by omega)]; exact List.getElem_mem _
  have hj := List.idxOf_lt_length_of_mem hx
  have p1 := erase_perm (a := ke) (i := r.toNat) (by omega)
  have p2 := erase_perm hj
  rw [← getD_eq (by omega), e] at p1
  rw [List.getElem_idxOf] at p2
  exact (List.perm_cons x).mp (p1.trans (h.1.trans p2.symm))
end Mine
namespace Mine
abbrev Iv := Int × Int
def flat2 (js : List Iv) : List Int := js.flatMap fun a => [a.1, a.2]
def Apart (js : List Iv) : Prop := js.Pairwise (fun a b => a.2 ≤ b.1) ∧ ∀ a ∈ js, a.1 < a.2
def lap (s e : Int) (a : Iv) : Bool := decide (s < a.2) && decide (a.1 < e)
def cLe (z : Int) (l : List Int) : Nat := (l.filter (fun d => decide (d ≤ z))).length
def cLt (z : Int) (l : List Int) : Nat := (l.filter (fun d => decide (d < z))).length
theorem flat2_cons (a : Iv) (js : List Iv) : flat2 (a :: js) = a.1 :: a.2 :: flat2 js := rfl
theorem flat2_app (a b : List Iv) : flat2 (a ++ b) = flat2 a ++ flat2 b := by unfold flat2; rw [List.flatMap_append]
theorem cLe_cons (z d : Int) (l : List Int) : cLe z (d :: l) = (if d ≤ z then 1 else 0) + cLe z l := by
  unfold cLe
  by_cases h : d ≤ z
  · simp [h]; omega
  · simp [h]
theorem cLt_cons (z d : Int) (l : List Int) : cLt z (d :: l) = (if d < z then 1 else 0) + cLt z l := by
  unfold cLt
  by_cases h : d < z
  · simp [h]; omega
  · simp [h]
theorem lap_false {s e : Int} {a : Iv} : lap s e a = false ↔ (a.2 ≤ s ∨ e ≤ a.1) := by
  unfold lap
  simp only [Bool.and_eq_false_iff, decide_eq_false_iff_not]
  omega
theorem free_counts {s e : Int} (hse : s < e) : ∀ {js : List Iv}, (∀ a ∈ js, a.1 < a.2) → (∀ a ∈ js, lap s e a = false) → cLe s (flat2 js) = cLt e (flat2 js) ∧ cLe s (flat2 js) % 2 = 0
  | [], _, _ => ⟨rfl, rfl⟩
  | a :: js, h1, h2 => by
    have ih := free_counts hse (js := js) (fun b hb => h1 b (.tail _ hb)) (fun b hb => h2 b (.tail _ hb))
    have a1 := h1 a (.head _)
    have a2 := lap_false.mp (h2 a (.head _))
    rw [flat2_cons, cLe_cons, cLe_cons, cLt_cons, cLt_cons]
    rcases a2 with a2 | a2
    · rw [if_pos (by omega), if_pos (by omega), if_pos (by omega), if_pos (by omega)]; omega
    · rw [if_neg (by omega), if_neg (by omega), if_neg (by omega), if_neg (by omega)]; omega
theorem counts_le {s e : Int} (hse : s < e) : ∀ {l : List Int}, cLe s l ≤ cLt e l
  | [] => Nat.le_refl _
  | d :: l => by
    have ih := counts_le hse (l := l)
    rw [cLe_cons, cLt_cons]
    split <;> split <;> omega
theorem counts_free {s e : Int} (hse : s < e) : ∀ {js : List Iv}, Apart js → cLe s (flat2 js) = cLt e (flat2 js) → cLe s (flat2 js) % 2 = 0 → ∀ a ∈ js, lap s e a = false
  | [], _, _, _ => fun _ h => nomatch h
  | a :: js, ap, h1, h2 => by
    have apt : Apart js := ⟨(List.pairwise_cons.mp ap.1).2, fun b hb => ap.2 b (.tail _ hb)⟩
    have ahd := (List.pairwise_cons.mp ap.1).1
    have a1 := ap.2 a (.head _)
    have cl := counts_le hse (l := flat2 js)
    rw [flat2_cons, cLe_cons, cLe_cons] at h1 h2
    rw [cLt_cons, cLt_cons] at h1
    by_cases c1 : a.2 ≤ s
    · rw [if_pos (by omega), if_pos (by omega)] at h1 h2
      rw [if_pos (by omega), if_pos (by omega)] at h1
      have ih := counts_free hse apt (by omega) (by omega)
      intro b hb
      rcases List.mem_cons.mp hb with rfl | hb
      · exact lap_false.mpr (.inl c1)
      · exact ih b hb
    · by_cases c2 : e ≤ a.1
      · rw [if_neg (by omega), if_neg (by omega)] at h1 h2
        rw [if_neg (by omega), if_neg (by omega)] at h1
        have ih := counts_free hse apt (by omega) (by omega)
        intro b hb
        rcases List.mem_cons.mp hb with rfl | hb
        · exact lap_false.mpr (.inr c2)
        · exact ih b hb
      · exfalso
        have f : ∀ b ∈ js, lap s e b = false ∨ a.2 < e := fun b hb => by
          have := ahd b hb
          by_cases q : a.2 < e
          · exact .inr q
          · exact .inl (lap_false.mpr (.inr (by omega)))
        by_cases q : a.2 < e
        · rw [if_neg (show ¬ a.2 ≤ s by omega)] at h1
          rw [if_pos (show a.1 < e by omega), if_pos q] at h1
          split at h1 <;> omega
        · have fr : ∀ b ∈ js, lap s e b = false := fun b hb => (f b hb).resolve_right q
          have ev := (free_counts hse apt.2 fr).2
          rw [if_neg (show ¬ a.2 ≤ s by omega)] at h1 h2
          rw [if_pos (show a.1 < e by omega), if_neg q] at h1
          split at h1
          · rw [if_pos (by assumption)] at h2; omega
          · omega
theorem split_free {s e : Int} (hse : s < e) : ∀ {js : List Iv}, Apart js → (∀ a ∈ js, lap s e a = false) → ∃ a b, js = a ++ b ∧ (∀ i ∈ a, i.2 ≤ s) ∧ ∀ i ∈ b, e ≤ i.1
  | [], _, _ => ⟨[], [], rfl, (fun _ h => nomatch h), fun _ h => nomatch h⟩
  | a :: js, ap, h => by
    have apt : Apart js := ⟨(List.pairwise_cons.mp ap.1).2, fun b hb => ap.2 b (.tail _ hb)⟩
    have ahd := (List.pairwise_cons.mp ap.1).1
    have a1 := ap.2 a (.head _)
    rcases lap_false.mp (h a (.head _)) with c | c
    · obtain ⟨p, q, rfl, h1, h2⟩ := split_free hse apt fun b hb => h b (.tail _ hb)
      refine ⟨a :: p, q, rfl, fun i hi => ?_, h2⟩
      rcases List.mem_cons.mp hi with rfl | hi
      · exact c
      · exact h1 i hi
    · refine ⟨[], a :: js, rfl, (fun _ h => nomatch h), fun i hi => ?_⟩
      rcases List.mem_cons.mp hi with rfl | hi
      · exact c
      · have := ahd i hi; omega
theorem mem_flat2 {z : Int} {js : List Iv} (h : z ∈ flat2 js) : ∃ a ∈ js, z = a.1 ∨ z = a.2 := by
  obtain ⟨a, ha, hz⟩ := List.mem_flatMap.mp h
  exact ⟨a, ha, by simpa using hz⟩
theorem flat2_pw : ∀ {js : List Iv}, Apart js → (flat2 js).Pairwise (· ≤ ·)
  | [], _ => .nil
  | a :: js, ap => by
    have apt : Apart js := ⟨(List.pairwise_cons.mp ap.1).2, fun b hb => ap.2 b (.tail _ hb)⟩
    have ahd := (List.pairwise_cons.mp ap.1).1
    have a1 := ap.2 a (.head _)
    have low : ∀ z ∈ flat2 js, a.2 ≤ z := fun z hz => by
      obtain ⟨b, hb, hz⟩ := mem_flat2 hz
      have h1 := ahd b hb
      have h2 := apt.2 b hb
      rcases hz with rfl | rfl <;> omega
    rw [flat2_cons, List.pairwise_cons, List.pairwise_cons]
    refine ⟨fun z hz => ?_, low, flat2_pw apt⟩
    rcases List.mem_cons.mp hz with rfl | hz
    · omega
    · have := low z hz; omega
/-- the word between the turns: the marks are the wishes taken, in rising order -/
def P09 (iv : List Iv) (zs : List Int) : Prop := ∃ js, js.Perm iv ∧ zs = flat2 js ∧ Apart js
theorem p09_start : P09 [] [] := ⟨[], .nil, rfl, .nil, fun _ h => nomatch h⟩
theorem br_cnt {zs : List Int} {s r : Int} (h : zs.Pairwise (· ≤ ·)) (b : BR zs s r) : r = (cLe s zs : Int) := p10_br ⟨.refl _, h⟩ b
theorem bl_cnt9 {zs : List Int} {s r : Int} (h : zs.Pairwise (· ≤ ·)) (b : BL zs s r) : r = (cLt s zs : Int) := p10_bl ⟨.refl _, h⟩ b
theorem lap_perm {iv js : List Iv} {s e : Int} (p : js.Perm iv) : iv.filter (lap s e) = [] ↔ ∀ a ∈ js, lap s e a = false := by
  rw [List.filter_eq_nil_iff]
  constructor
  · intro h a ha
    have := h a (p.mem_iff.mp ha)
    simpa using this
  · intro h a ha
    simp [h a (p.mem_iff.mpr ha)]
/-- a wish that laps over none is told by an even place -/
theorem p09_free {iv : List Iv} {zs : List Int} {s e r q : Int} (h : P09 iv zs) (hse : s < e) (b : BR zs s r) (c : BL zs e q) : iv.filter (lap s e) = [] ↔ r = q ∧ r.fmod 2 = 0 := by
  obtain ⟨js, p, rfl, ap⟩ := h
  have pw := flat2_pw ap
  have er := br_cnt pw b
  have eq := bl_cnt9 pw c
  rw [lap_perm p, er, eq, Int.fmod_eq_emod_of_nonneg _ (by decide)]
  constructor
  · intro h
    have := free_counts hse ap.2 h
    omega
  · rintro ⟨h1, h2⟩
    exact counts_free hse ap (by omega) (by omega)
theorem p09_put {iv : List Iv} {zs : List Int} {s e r : Int} (h : P09 iv zs) (hse : s < e) (b : BR zs s r) (hf : iv.filter (lap s e) = []) : P09 (iv ++ [(s, e)]) (zs.take r.toNat ++ [s, e] ++ zs.drop r.toNat) := by
  obtain ⟨js, p, rfl, ap⟩ := h
  have pw := flat2_pw ap
  have er := br_cnt pw b
  obtain ⟨a, c, rfl, h1, h2⟩ := split_free hse ap ((lap_perm p).mp hf)
  have hca : cLe s (flat2 a) = (flat2 a).length := by
    unfold cLe
    rw [List.filter_eq_self.mpr fun z hz => ?_]
    obtain ⟨i, hi, hz⟩ := mem_flat2 hz
    have := h1 i hi
    have := ap.2 i (List.mem_append_left _ hi)
    rcases hz with rfl | rfl <;> simp <;> omega
  have hcc : cLe s (flat2 c) = 0 := by
    unfold cLe
    rw [List.filter_eq_nil_iff.mpr fun z hz => ?_]; rfl
    obtain ⟨i, hi, hz⟩ := mem_flat2 hz
    have := h2 i hi
    have := ap.2 i (List.mem_append_right _ hi)
    rcases hz with rfl | rfl <;> simp <;> omega
  have hl : r.toNat = (flat2 a).length := by
    have : cLe s (flat2 (a ++ c)) = cLe s (flat2 a) + cLe s (flat2 c) := by rw [flat2_app]; unfold cLe; rw [List.filter_append, List.length_append]
    omega
  refine ⟨a ++ (s, e) :: c, ?_, ?_, ?_, ?_⟩
  · exact List.perm_middle.trans (((List.perm_cons (s, e)).mpr p).trans (List.perm_append_singleton _ _).symm)
  · rw [hl, flat2_app, List.take_left, List.drop_left, flat2_app, flat2_cons]; simp
  · have ap1 := List.pairwise_append.mp ap.1
    rw [List.pairwise_append, List.pairwise_cons]
    refine ⟨ap1.1, ⟨fun i hi => h2 i hi, ap1.2.1⟩, fun i hi j hj => ?_⟩
    rcases List.mem_cons.mp hj with rfl | hj
    · exact h1 i hi
    · exact ap1.2.2 i hi j hj
  · intro i hi
    rcases List.mem_append.mp hi with hi | hi
    · exact ap.2 i (List.mem_append_left _ hi)
    · rcases List.mem_cons.mp hi with rfl | hi
      · exact hse
      · exact ap.2 i (List.mem_append_right _ hi)
theorem p09_sorted {iv : List Iv} {zs n : List Int} (h : P09 iv zs) (p : n.Perm (flat2 iv)) (o : n.Pairwise (· ≤ ·)) : zs = n := by
  obtain ⟨js, pj, rfl, ap⟩ := h
  have : (flat2 js).Perm (flat2 iv) := List.Perm.flatMap_right _ pj
  exact (this.trans p.symm).eq_of_pairwise (fun _ _ _ _ a b => Int.le_antisymm a b) (flat2_pw ap) o
end Mine
namespace Mine
abbrev twoE (x y : Str) (p1 px py qy : Pos) (iter : Expr) (scope : Scope) (pos : Pos) : Expr := .ListComp (.Name x p1) [⟨.Name y py, iter, [], 0⟩, ⟨.Name x px, .Name y qy, [], 0⟩] scope pos
theorem two_turn1 (x y : Str) (p1 px py qy : Pos) (iter : Expr) (scope : Scope) (pos : Pos) (it acc : Value) (env : Env) :
    compTurn (twoE x y p1 px py qy iter scope pos) 1 it acc env = (standAt qy >>= fun _ => pyNext it >>= fun r => match r with
      | none => pure (.done .next)
      | some v => letOwnedTupleGo (.Name x px) it v >>= fun _ => assign (.Name x px) env v >>= fun _ =>
        (eval (.Name x p1) env >>= fun z => call (.builtin "list.append") [acc, z] >>= fun _ => pure ()) >>= fun _ =>
          again (.compLoop (twoE x y p1 px py qy iter scope pos) 1 it acc env)) := by rfl
theorem two_turn0 (x y : Str) (p1 px py qy : Pos) (iter : Expr) (scope : Scope) (pos : Pos) (it acc : Value) (env : Env) :
    compTurn (twoE x y p1 px py qy iter scope pos) 0 it acc env = (standAt iter.pos >>= fun _ => pyNext it >>= fun r => match r with
      | none => pure (.done .next)
      | some v => letOwnedTupleGo (.Name y py) it v >>= fun _ => assign (.Name y py) env v >>= fun _ =>
        eval (.Name y qy) env >>= fun z => standAt qy >>= fun _ => foldedSetIterable (.Name y qy) env z >>= fun z => holding [z] (pyIter z) >>= fun j => runOwn (.compStart (twoE x y p1 px py qy iter scope pos) 1 j acc env) env >>= fun _ =>
          again (.compLoop (twoE x y p1 px py qy iter scope pos) 0 it acc env)) := by rfl
section
variable {prog : Program} {w : World} {A : Around} {R : Result → Shared → Prop} {s : Shared} {h₀ : Heap} {L : Addr} {m : Str → Option Value} {env : Env} {x y : Str} {p1 px py qy : Pos} {iter : Expr} {scope : Scope} {pos : Pos} {cl : List (Str × Addr)}
theorem two_name {A : Around} {E : Value → Shared → Prop} {s : Shared} {C : Addr} {m' : Str → Option Value} {z : Str} {v : Value} {q : Pos} {Q : Value → Shared → Prop} (hkind : scope.kind = .function) (hz : scope.names.lookup z = some .local) (hd : (z == ("__debug__" : Str)) = false) (hC : s.heap.Ns C m') (hv : m' z = some v) (h : Q v s) :
    wpAny (model prog w) A (eval (.Name z q) (compEnvC scope cl C env)) Q E s :=
  wpAny_Name (wpAny_loadName_local (by simp [compEnvC, relabel, hkind]) (lookup_relabel_local hz) hC hv h) hd
theorem two_inner {J D C : Addr} {fp : List Addr} {n : Nat} {P : Nat → Value → Prop} {St : Nat → Heap → Prop} {zs : List Int} {ys : List Value} {nw : List (Addr × Obj)} {m₁ : Str → Option Value}
    (W : Walks prog w A J fp [J] n P St) (hP : ∀ i v, i < n → P i v → ∃ k t, v = Value.int k t ∧ zs[i]? = some k) (hz : zs.length = n) (hsz : ys.length + n ≤ 2 ^ 20) (hx : scope.names.lookup x = some .local) (hkind : scope.kind = .function) (hxd : (x == ("__debug__" : Str)) = false)
    (hCf : C ∉ fp) (hDf : D ∉ fp) (hJL : L ≠ J) (hJ₀ : h₀.get? J = none) (hCL : C ≠ L) (hDL : D ≠ L) (hCD : C ≠ D) (hC₀ : h₀.get? C = none) (hD₀ : h₀.get? D = none) (off : ∀ p ∈ nw, p.1 ≠ D ∧ p.1 ≠ C ∧ p.1 ≠ J)
    (hst : St 0 s.heap) (F : Fr h₀ L s.heap m) (hC : s.heap.Ns C m₁) (N : News h₀ L s.heap ((D, LCg.lst ys) :: nw))
    (fin : ∀ h tk m' ys', Fr h₀ L h m → h.Ns C m' → News h₀ L h ((D, LCg.lst (ys ++ ys')) :: nw) → IntsAre ys' zs → R (.ok .next) { s with heap := h, toks := tk }) :
    codeAny (model prog w) A (.compLoop (twoE x y p1 px py qy iter scope pos) 1 (.ref J) (.ref D) (compEnvC scope cl C env)) R s := by
  have hJf : J ∈ fp := W.sub J (List.mem_singleton.mpr rfl)
  have hCJ : C ≠ J := fun e => hCf (e ▸ hJf)
  have hDJ : D ≠ J := fun e => hDf (e ▸ hJf)
  refine codeAny_loop rfl (fun k s' => ∃ h' tk i ys' m', s' = { s with heap := h', toks := tk } ∧ i ≤ n ∧ k = n + 1 - i ∧ St i h' ∧ Fr h₀ L h' m ∧ h'.Ns C m' ∧ News h₀ L h' ((D, LCg.lst (ys ++ ys')) :: nw) ∧ IntsAre ys' (zs.take i)) ?_ (n + 1)
    ⟨s.heap, s.toks, 0, [], m₁, rfl, Nat.zero_le _, rfl, hst, F, hC, by simpa using N, by simpa using IntsAre.nil⟩
  rintro k s' ⟨h', tk, i, ys', m', rfl, hi, rfl, hst', F', hC', N', hI'⟩
  show wpAny _ A ((compTurn (twoE x y p1 px py qy iter scope pos) 1 (.ref J) (.ref D) (compEnvC scope cl C env)).onRaise (fun x => do noteFrame x (compEnvC scope cl C env); theTreesLotGoes x)) _ _ _
  refine wpAny_noted ?_
  rw [two_turn1]
  refine wpAny_bind (wpAny_standAt (wpAny_bind ?_))
  by_cases hlt : i < n
  · refine W.item i _ _ _ hlt hst' fun v h₂ tk₂ hPv hst₂ hk₂ => ?_
    obtain ⟨k, t, rfl, hk⟩ := hP i v hlt hPv
    refine wpAny_bind (wpAny_of_eq (show letOwnedTupleGo (.Name x px) (.ref J) _ = pure () from rfl) ?_)
    refine wpAny_bind (wpAny_assign_Name (wpAny_storeName_local (lookup_relabel_local hx) (hC'.at' fun o e => hk₂ _ o (by simpa using hCJ) e) (fun h₃ hn₃ hs₃ => ?_) (by simp [compEnvC, relabel, hkind])))
    have F₃ : Fr h₀ L h₃ m := (LCg.fr_but F' hk₂ hJL hJ₀).change hs₃ hCL hC₀
    have hst₃ : St (i + 1) h₃ := W.frame _ _ _ hst₂ fun b hb o e => hs₃.extBut b o (fun q => hCf (by have q' : b = C := q; rw [← q']; exact hb)) e
    have N₂ := LCg.news_but N' hk₂ fun p hp => by
      rcases List.mem_cons.mp hp with rfl | hp
      · exact hDJ
      · exact (off p hp).2.2
    have zD : h₃.get? D = some (LCg.lst (ys ++ ys')) := hs₃.extBut _ _ (Ne.symm hCD) (N₂ _ (.head _)).1
    have hle : ys'.length = i := by rw [hI'.length, List.length_take]; omega
    refine wpAny_bind (wpAny_bind (two_name hkind hx hxd hn₃ (v := .int k t) (by simp) (wpAny_bind (append_at (hsz := by show (ys ++ ys').toArray.size ≤ sizeLine; rw [sizeLine_eq, List.size_toArray, List.length_append]; omega) zD fun h₅ hs₅ hD₅ => wpAny_pure (wpAny_pure ?_)))))
    refine ⟨rfl, n + 1 - (i + 1), by omega, h₅, _, i + 1, ys' ++ [.int k t], _, rfl, hlt, rfl, W.frame _ _ _ hst₃ fun b hb o e => hs₅.extBut b o (fun q => hDf (q ▸ hb)) e, F₃.change hs₅ hDL hD₀, hn₃.sameBut hs₅ hCD, fun p hp => ?_, ?_⟩
    · rcases List.mem_cons.mp hp with rfl | hp
      · refine ⟨?_, hDL, hD₀⟩
        rw [← List.append_assoc]
        exact hD₅.trans (congrArg some (LCg.lst_snoc (ys ++ ys') (.int k t)))
      · have z := N₂ p (.tail _ hp)
        exact ⟨hs₅.extBut _ _ (off p hp).1 (hs₃.extBut _ _ (off p hp).2.1 z.1), z.2⟩
    · rw [List.take_add_one, hk]
      exact IntsAre.append hI' (.cons k t .nil)
  · obtain rfl : i = n := Nat.le_antisymm hi (Nat.not_lt.mp hlt)
    refine W.done _ _ _ hst' fun h₂ tk₂ hk₂ => wpAny_pure ?_
    refine fin h₂ tk₂ m' ys' (LCg.fr_but F' hk₂ hJL hJ₀) (hC'.at' fun o e => hk₂ _ o (by simpa using hCJ) e) (LCg.news_but N' hk₂ fun p hp => by
      rcases List.mem_cons.mp hp with rfl | hp
      · exact hDJ
      · exact (off p hp).2.2) ?_
    rwa [List.take_of_length_le (by omega)] at hI'
theorem two_start {J acc : Value} {cenv : Env}
    (h0 : codeAny (model prog w) A (.compLoop (twoE x y p1 px py qy iter scope pos) 1 J acc cenv) R s)
    (h : wpAny (model prog w) A (pyIter J) (fun it' s' => codeAny (model prog w) A (.compLoop (twoE x y p1 px py qy iter scope pos) 1 it' acc cenv) R s') (notedBy (model prog w) A cenv fun x s' => R (.error x) s') s) :
    codeAny (model prog w) A (.compStart (twoE x y p1 px py qy iter scope pos) 1 J acc cenv) R s := by
  refine codeAny_of_tree ?_
  show wpAny _ _ ((compStart (twoE x y p1 px py qy iter scope pos) 1 J acc cenv).onRaise (fun x => do noteFrame x cenv; standAt theWindowsPlace)) _ _ s
  refine wpAny_notedAt ?_
  unfold compStart
  show wpAny _ _ (ask >>= _) _ _ s
  refine wpAny_bind (wpAny_askSetting (wpAny_ite ?_))
  split
  · first
      | exact wpAny_bind (wpAny_pure (wpAny_pure (And.intro rfl h0)))
      | exact wpAny_pure (And.intro rfl h0)
  · first
      | exact wpAny_bind (wpAny_rule (wpAny_bind (wpAny_standAt (wpAny_bind (wpAny_mono h (fun it' s' h' => wpAny_pure (And.intro rfl h')) fun _ _ x => x)))))
      | (refine wpAny_bind (wpAny_rule ?_); show wpAny _ _ (standAt qy >>= _) _ _ s; exact wpAny_bind (wpAny_standAt (wpAny_bind (wpAny_mono h (fun it' s' h' => wpAny_pure (And.intro rfl h')) fun _ _ x => x))))
/-- a ledger's tuple or list of ints -/
def SeqInts (news : List (Addr × Obj)) (b : Addr) (zs : List Int) : Prop := ∃ o us n, (b, o) ∈ news ∧ (o.cls = .type "tuple" ∨ o.cls = .type "list") ∧ o.data = .seq us.toArray n ∧ IntsAre us zs
theorem flat_take_le (zss : List (List Int)) (i : Nat) : (zss.take i).flatten.length ≤ zss.flatten.length := by
  have : zss.flatten = (zss.take i).flatten ++ (zss.drop i).flatten := by rw [← List.flatten_append, List.take_append_drop]
  rw [this, List.length_append]; omega
theorem flat_take_succ {zss : List (List Int)} {i : Nat} {zs : List Int} (h : zss[i]? = some zs) : (zss.take (i + 1)).flatten = (zss.take i).flatten ++ zs := by
  rw [List.take_add_one, h, List.flatten_append]; simp
theorem two_outer {I D C : Addr} {fp : List Addr} {n : Nat} {P : Nat → Value → Prop} {St : Nat → Heap → Prop} {zss : List (List Int)} {news : List (Addr × Obj)} {m₁ : Str → Option Value}
    (hh : A.handled = none) (W : Walks prog w A I fp [I] n P St) (hP : ∀ i v, i < n → P i v → ∃ b zs, v = Value.ref b ∧ zss[i]? = some zs ∧ SeqInts news b zs) (hz : zss.length = n) (hsz : zss.flatten.length ≤ 2 ^ 20)
    (hIo : ∀ i h, St i h → ∃ o, h.get? I = some o) (hSt : ∀ i h h' o, St i h → h.get? I = some o → h'.get? I = some o → News h₀ L h' news → St i h')
    (hx : scope.names.lookup x = some .local) (hy : scope.names.lookup y = some .local) (hkind : scope.kind = .function) (hxd : (x == ("__debug__" : Str)) = false) (hyd : (y == ("__debug__" : Str)) = false)
    (hCf : C ∉ fp) (hDf : D ∉ fp) (hIL : L ≠ I) (hI₀ : h₀.get? I = none) (hCL : C ≠ L) (hDL : D ≠ L) (hCD : C ≠ D) (hC₀ : h₀.get? C = none) (hD₀ : h₀.get? D = none) (off : ∀ p ∈ news, p.1 ≠ D ∧ p.1 ≠ C ∧ p.1 ≠ I)
    (hst : St 0 s.heap) (F : Fr h₀ L s.heap m) (hC : s.heap.Ns C m₁) (N : News h₀ L s.heap ((D, LCg.lst []) :: news))
    (fin : ∀ h tk m' ys, Fr h₀ L h m → h.Ns C m' → News h₀ L h ((D, LCg.lst ys) :: news) → IntsAre ys zss.flatten → R (.ok .next) { s with heap := h, toks := tk }) :
    codeAny (model prog w) A (.compLoop (twoE x y p1 px py qy iter scope pos) 0 (.ref I) (.ref D) (compEnvC scope cl C env)) R s := by
  have hIf : I ∈ fp := W.sub I (List.mem_singleton.mpr rfl)
  have hCI : C ≠ I := fun e => hCf (e ▸ hIf)
  have hDI : D ≠ I := fun e => hDf (e ▸ hIf)
  refine codeAny_loop rfl (fun k s' => ∃ h' tk i ys m', s' = { s with heap := h', toks := tk } ∧ i ≤ n ∧ k = n + 1 - i ∧ St i h' ∧ Fr h₀ L h' m ∧ h'.Ns C m' ∧ News h₀ L h' ((D, LCg.lst ys) :: news) ∧ IntsAre ys (zss.take i).flatten) ?_ (n + 1)
    ⟨s.heap, s.toks, 0, [], m₁, rfl, Nat.zero_le _, rfl, hst, F, hC, N, by simpa using IntsAre.nil⟩
  rintro k s' ⟨h', tk, i, ys, m', rfl, hi, rfl, hst', F', hC', N', hI'⟩
  show wpAny _ A ((compTurn (twoE x y p1 px py qy iter scope pos) 0 (.ref I) (.ref D) (compEnvC scope cl C env)).onRaise (fun x => do noteFrame x (compEnvC scope cl C env); theTreesLotGoes x)) _ _ _
  refine wpAny_noted ?_
  rw [two_turn0]
  refine wpAny_bind (wpAny_standAt (wpAny_bind ?_))
  by_cases hlt : i < n
  · refine W.item i _ _ _ hlt hst' fun v h₂ tk₂ hPv hst₂ hk₂ => ?_
    obtain ⟨b, zs, rfl, hzs, o, us, q, hbm, hcls, hdat, hus⟩ := hP i v hlt hPv
    refine wpAny_bind (wpAny_of_eq (show letOwnedTupleGo (.Name y py) (.ref I) _ = pure () from rfl) ?_)
    refine wpAny_bind (wpAny_assign_Name (wpAny_storeName_local (lookup_relabel_local hy) (hC'.at' fun o e => hk₂ _ o (by simpa using hCI) e) (fun h₃ hn₃ hs₃ => ?_) (by simp [compEnvC, relabel, hkind])))
    have F₃ : Fr h₀ L h₃ m := (LCg.fr_but F' hk₂ hIL hI₀).change hs₃ hCL hC₀
    have hst₃ : St (i + 1) h₃ := W.frame _ _ _ hst₂ fun b hb o e => hs₃.extBut b o (fun q => hCf (by have q' : b = C := q; rw [← q']; exact hb)) e
    have N₂ := LCg.news_but N' hk₂ fun p hp => by
      rcases List.mem_cons.mp hp with rfl | hp
      · exact hDI
      · exact (off p hp).2.2
    obtain ⟨oI, heI⟩ := hIo _ _ hst₃
    have N₃ : News h₀ L h₃ ((D, LCg.lst ys) :: (I, oI) :: news) := fun p hp => by
      rcases List.mem_cons.mp hp with rfl | hp
      · exact ⟨hs₃.extBut _ _ (Ne.symm hCD) (N₂ _ (.head _)).1, hDL, hD₀⟩
      · rcases List.mem_cons.mp hp with rfl | hp
        · exact ⟨heI, Ne.symm hIL, hI₀⟩
        · have z := N₂ p (.tail _ hp)
          exact ⟨hs₃.extBut _ _ (off p hp).2.1 z.1, z.2⟩
    have hb := (N₃ _ (.tail _ (.tail _ hbm))).1
    have hle : ys.length = (zss.take i).flatten.length := hI'.length
    have hle2 := flat_take_le zss (i + 1)
    rw [flat_take_succ hzs, List.length_append] at hle2
    have hul := hus.length
    refine wpAny_bind (two_name hkind hy hyd hn₃ (v := .ref b) (by simp) ?_)
    refine wpAny_bind (wpAny_standAt (wpAny_bind (wpAny_of_eq (show foldedSetIterable (.Name y qy) (compEnvC scope cl C env) (.ref b) = pure (.ref b) from rfl) ?_)))
    have up : ∀ (ob : Obj) a o, h₃.get? a = some o → (h₃.push ob).get? a = some o := fun ob a o e => Heap.get?_push_of_some _ e
    have hCs : C < h₃.objs.size := hn₃.lt
    have hDs : D < h₃.objs.size := Heap.lt_size (N₃ _ (.head _)).1
    have hbs : b < h₃.objs.size := Heap.lt_size hb
    have hLs : L < h₃.objs.size := F₃.ns.lt
    have rest : ∀ (oJ : Obj) (fq : List Addr) (Sq : Nat → Heap → Prop) (tk' : Nat), Walks prog w (A.mark none) h₃.objs.size fq [h₃.objs.size] us.length (fun j v => us[j]? = some v) Sq → (∀ a ∈ fq, a = h₃.objs.size ∨ a = b) → Sq 0 (h₃.push oJ) →
        wpAny (model prog w) A (runOwn (.compStart (twoE x y p1 px py qy iter scope pos) 1 (.ref h₃.objs.size) (.ref D) (compEnvC scope cl C env)) (compEnvC scope cl C env) >>= fun _ => again (.compLoop (twoE x y p1 px py qy iter scope pos) 0 (.ref I) (.ref D) (compEnvC scope cl C env)))
          (fun fin s' => match fin with
            | .done f => R (.ok f) s'
            | .again c' => c' = .compLoop (twoE x y p1 px py qy iter scope pos) 0 (.ref I) (.ref D) (compEnvC scope cl C env) ∧ ∃ k', k' < n + 1 - i ∧ ∃ h' tk i ys m', s' = { s with heap := h', toks := tk } ∧ i ≤ n ∧ k' = n + 1 - i ∧ St i h' ∧ Fr h₀ L h' m ∧ h'.Ns C m' ∧ News h₀ L h' ((D, LCg.lst ys) :: news) ∧ IntsAre ys (zss.take i).flatten)
          (notedBy (model prog w) A (compEnvC scope cl C env) fun e s' => R (.error e) s') { s with heap := h₃.push oJ, toks := tk' } := by
      intro oJ fq Sq tk' Wq hfq hSq
      refine wpAny_bind (wpAny_runOwn ?_)
      have inner := two_inner (A := A.mark none) (R := fun r s' => match r with
          | .ok f => wpAny (model prog w) A (again (.compLoop (twoE x y p1 px py qy iter scope pos) 0 (.ref I) (.ref D) (compEnvC scope cl C env))) (fun fin s' => match fin with
            | .done f => R (.ok f) s'
            | .again c' => c' = .compLoop (twoE x y p1 px py qy iter scope pos) 0 (.ref I) (.ref D) (compEnvC scope cl C env) ∧ ∃ k', k' < n + 1 - i ∧ ∃ h' tk i ys m', s' = { s with heap := h', toks := tk } ∧ i ≤ n ∧ k' = n + 1 - i ∧ St i h' ∧ Fr h₀ L h' m ∧ h'.Ns C m' ∧ News h₀ L h' ((D, LCg.lst ys) :: news) ∧ IntsAre ys (zss.take i).flatten)
            (notedBy (model prog w) A (compEnvC scope cl C env) fun e s' => R (.error e) s') s'
          | .error e => cameBackBy (model prog w) A (compEnvC scope cl C env) (notedBy (model prog w) A (compEnvC scope cl C env) fun e s' => R (.error e) s') e s')
        (s := { s with heap := h₃.push oJ, toks := tk' }) (x := x) (y := y) (p1 := p1) (px := px) (py := py) (qy := qy) (iter := iter) (scope := scope) (pos := pos) (cl := cl) (env := env) (D := D) (C := C) (zs := zs) (ys := ys) (nw := (I, oI) :: news) (m₁ := _) (m := m) (h₀ := h₀) (L := L)
        Wq (fun j v hj hv => by obtain ⟨k, t, e, hk⟩ := IntsAre.at hus j v hv; exact ⟨k, t, e, hk⟩) hul.symm (by omega) hx hkind hxd
        (fun hm => by rcases hfq _ hm with e | e; exact absurd hCs (e ▸ Nat.lt_irrefl _); exact (off _ hbm).2.1 e.symm)
        (fun hm => by rcases hfq _ hm with e | e; exact absurd hDs (e ▸ Nat.lt_irrefl _); exact (off _ hbm).1 e.symm)
        (Nat.ne_of_lt hLs) (next_is_new F₃) hCL hDL hCD hC₀ hD₀
        (fun p hp => by
          have hlt' := Heap.lt_size (N₃ p (.tail _ hp)).1
          refine ⟨?_, ?_, Nat.ne_of_lt hlt'⟩
          · rcases List.mem_cons.mp hp with rfl | hp
            · exact Ne.symm hDI
            · exact (off p hp).1
          · rcases List.mem_cons.mp hp with rfl | hp
            · exact Ne.symm hCI
            · exact (off p hp).2.1)
        hSq (F₃.keeps (up oJ)) (hn₃.at' fun o e => up oJ _ o e) (fun p hp => ⟨up oJ _ _ (N₃ p hp).1, (N₃ p hp).2⟩)
        (fun h tk m' ys' F4 hC4 N4 hI4 => wpAny_pure ⟨rfl, n + 1 - (i + 1), by omega, h, tk, i + 1, ys ++ ys', m', rfl, hlt, rfl,
          hSt _ _ _ _ hst₃ heI (N4 (I, oI) (.tail _ (.head _))).1 (fun p hp => N4 p (.tail _ (.tail _ hp))), F4, hC4,
          (fun p hp => by
            rcases List.mem_cons.mp hp with rfl | hp
            · exact N4 _ (.head _)
            · exact N4 p (.tail _ (.tail _ hp))),
          by rw [flat_take_succ hzs]; exact IntsAre.append hI' hI4⟩)
      exact two_start inner (Wq.self 0 _ _ _ hSq inner)
    rcases hcls with hcls | hcls
    · have hbl : h₃.IsTuple b us.toArray := ⟨o, hb, hcls, q, hdat⟩
      refine wpAny_bind (wpAny_holding (wpAny_pyIter_tuple hbl ?_))
      have Wq := Walks.tuple (prog := prog) (w := w) (A := A.mark none) hh h₃.objs.size b (Nat.ne_of_lt hbs) us.toArray
      simp only [List.size_toArray, List.getElem?_toArray] at Wq
      exact rest _ _ _ _ Wq (fun a ha => by simpa using ha) ⟨⟨_, Heap.get?_push_size _ rfl, rfl, rfl⟩, hbl.at fun o e => Heap.get?_push_of_some _ e⟩
    · have hbl : h₃.IsList b us.toArray := ⟨o, hb, hcls, q, hdat⟩
      refine wpAny_bind (wpAny_holding (wpAny_pyIter_list hbl ?_))
      have Wq := Walks.list (prog := prog) (w := w) (A := A.mark none) hh h₃.objs.size b (Nat.ne_of_lt hbs) us.toArray
      simp only [List.size_toArray, List.getElem?_toArray] at Wq
      exact rest _ _ _ _ Wq (fun a ha => by simpa using ha) ⟨⟨_, Heap.get?_push_size _ rfl, rfl, rfl⟩, hbl.at fun o e => Heap.get?_push_of_some _ e⟩
  · obtain rfl : i = n := Nat.le_antisymm hi (Nat.not_lt.mp hlt)
    refine W.done _ _ _ hst' fun h₂ tk₂ hk₂ => wpAny_pure ?_
    refine fin h₂ tk₂ m' ys (LCg.fr_but F' hk₂ hIL hI₀) (hC'.at' fun o e => hk₂ _ o (by simpa using hCI) e) (LCg.news_but N' hk₂ fun p hp => by
      rcases List.mem_cons.mp hp with rfl | hp
      · exact hDI
      · exact (off p hp).2.2) ?_
    rwa [List.take_of_length_le (by omega)] at hI'
end
section
variable {prog : Program} {w : World} {A : Around} {E : Value → Shared → Prop} {s : Shared} {h₀ : Heap} {L : Addr} {m : Str → Option Value} {env : Env} {x y : Str} {p1 px py qy : Pos} {iter : Expr} {scope : Scope} {pos : Pos} {cl : List (Str × Addr)}
/-- what the outer source of a comprehension of two clauses is -/
def TwoSrc (A : Around) (h₀ : Heap) (L : Addr) (m : Str → Option Value) (Q : Value → Shared → Prop) (xv : Value) (s₁ : Shared) : Prop :=
  ∃ (ax : Addr) (vs : List Value) (k : Nat) (news : List (Addr × Obj)) (zss : List (List Int)), xv = .ref ax ∧ A.handled = none ∧ Fr h₀ L s₁.heap m ∧ News h₀ L s₁.heap news ∧ (ax, listOf vs.toArray k) ∈ news ∧ zss.length = vs.length ∧ (∀ (i : Nat) (v : Value), vs[i]? = some v → ∃ (b : Addr) (zs : List Int), v = Value.ref b ∧ zss[i]? = some zs ∧ SeqInts news b zs) ∧ zss.flatten.length ≤ 2 ^ 20 ∧
    ∀ D h tk ys, Fr h₀ L h m → News h₀ L h ((D, LCg.lst ys) :: news) → (∀ p ∈ news, p.1 < D) → IntsAre ys zss.flatten → Q (.ref D) { s₁ with heap := h, toks := tk }
theorem TwoSrc.intro {Q : Value → Shared → Prop} {ax : Addr} {vs : List Value} {k : Nat} {news : List (Addr × Obj)} {zss : List (List Int)} (hh : A.handled = none) (F : Fr h₀ L s.heap m) (N : News h₀ L s.heap news) (hm : (ax, listOf vs.toArray k) ∈ news) (hl : zss.length = vs.length) (hv : ∀ (i : Nat) (v : Value), vs[i]? = some v → ∃ (b : Addr) (zs : List Int), v = Value.ref b ∧ zss[i]? = some zs ∧ SeqInts news b zs) (hz : zss.flatten.length ≤ 2 ^ 20)
    (h : ∀ D h tk ys, Fr h₀ L h m → News h₀ L h ((D, LCg.lst ys) :: news) → (∀ p ∈ news, p.1 < D) → IntsAre ys zss.flatten → Q (.ref D) { s with heap := h, toks := tk }) : TwoSrc A h₀ L m Q (.ref ax) s := ⟨ax, vs, k, news, zss, rfl, hh, F, N, hm, hl, hv, hz, h⟩
theorem ListComp_two {Q : Value → Shared → Prop} (F₀ : Fr h₀ L s.heap m) (hclos : closureFor scope env = pure cl) (hcell : ∀ y ∈ scope.names, y.2 ≠ .cell) (hkind : scope.kind = .function)
    (hnames : ∀ y ∈ scope.names, y.2 = .local → scope.names.lookup y.1 = some .local) (hx : scope.names.lookup x = some .local) (hy : scope.names.lookup y = some .local) (hxd : (x == ("__debug__" : Str)) = false) (hyd : (y == ("__debug__" : Str)) = false)
    (h : wpAny (model prog w) A (eval iter env) (TwoSrc A h₀ L m Q) E s) (hs : ∀ x, foldedSetIterable iter env x = pure x := by intro _; rfl) :
    wpAny (model prog w) A (eval (twoE x y p1 px py qy iter scope pos) env) Q E s := by
  rw [eval_ListComp]
  refine wpAny_comprehension_free (use := none) rfl hs hclos hkind hnames (wpAny_mono h (fun xv s₁ h₁ => ?_) fun _ _ e => e)
  obtain ⟨ax, vs, k, news, zss, rfl, hh, F, N, hm, hl, hv, hz, fin⟩ := h₁
  have hlist : s₁.heap.IsList ax vs.toArray := ⟨_, (N _ hm).1, rfl, k, rfl⟩
  have hlt : ax < s₁.heap.objs.size := Heap.lt_size (N _ hm).1
  refine wpAny_pyIter_list hlist ?_
  generalize hI1 : s₁.heap.push { cls := .type "list_iterator", data := .fields #[.ref ax, .int 0 0] } = H1
  have up1 : ∀ b o, s₁.heap.get? b = some o → H1.get? b = some o := fun b o e => hI1 ▸ Heap.get?_push_of_some _ e
  have hz1 : H1.objs.size = s₁.heap.objs.size + 1 := by rw [← hI1, Heap.size_push]
  have hIt : H1.IsListIter s₁.heap.objs.size ax 0 := ⟨_, by rw [← hI1]; exact Heap.get?_push_size _ rfl, rfl, rfl⟩
  refine wpAny_newObj_type (wpAny_newFunctionEnv hcell (by intro y hy; simp at hy) (fun h₁ hns₁ hsb₁ => ?_) hkind)
  dsimp only at hns₁ hsb₁ ⊢
  generalize hH2 : H1.push { cls := .type "list", dict := none, data := .seq ([] : List Value).toArray } = H2 at hns₁ hsb₁ ⊢
  have hz2 : H2.objs.size = s₁.heap.objs.size + 2 := by rw [← hH2, Heap.size_push, hz1]
  have old : ∀ b o, b ≠ H2.objs.size → H2.get? b = some o → h₁.get? b = some o := fun b o hb e => hsb₁.extBut b o hb (Heap.get?_push_of_some _ e)
  have up2 : ∀ b o, H1.get? b = some o → H2.get? b = some o := fun b o e => hH2 ▸ Heap.get?_push_of_some _ e
  have oldS : ∀ b o, s₁.heap.get? b = some o → h₁.get? b = some o := fun b o e => old b o (neN (by have := ltN (Heap.lt_size e); omega)) (up2 _ _ (up1 _ _ e))
  have hItNe : s₁.heap.objs.size ≠ H2.objs.size := neN (by omega)
  have hDne : H1.objs.size ≠ H2.objs.size := neN (by omega)
  have hIt₁ : h₁.IsListIter s₁.heap.objs.size ax 0 := hIt.at fun o e => old _ o hItNe (up2 _ _ e)
  have hacc : h₁.get? H1.objs.size = some (LCg.lst []) := old _ _ hDne (by rw [← hH2]; exact Heap.get?_push_size _ rfl)
  have fresh₀ : ∀ a, s₁.heap.objs.size ≤ a → h₀.get? a = none := fun a ha => by
    cases e : h₀.get? a with
    | none => rfl
    | some o' => exact absurd (ltN (Heap.lt_size (F.keep a o' e))) (Nat.not_lt.mpr ha)
  have hL := ltN F.ns.lt
  have hltN := ltN hlt
  have W := Walks.list (prog := prog) (w := w) (A := A) hh s₁.heap.objs.size ax (Nat.ne_of_lt hlt) vs.toArray
  have loop : ∀ s₃ : Shared, s₃ = { s₁ with heap := h₁, toks := s₁.toks + ([] : List (Str × Value)).length } →
      codeAny (model prog w) A (.compLoop (twoE x y p1 px py qy iter scope pos) 0 (.ref s₁.heap.objs.size) (.ref H1.objs.size) (compEnvC scope cl H2.objs.size env)) (compPost (model prog w) A E none Q (.ref H1.objs.size) H2.objs.size) s₃ := by
    rintro s₃ rfl
    refine two_outer (news := news) (zss := zss) hh W (fun i v _ hP => hv i v (by simpa using hP)) (by rw [hl, List.size_toArray]) hz (fun i h st => by obtain ⟨o, e, _⟩ := st.1; exact ⟨o, e⟩)
      (fun i h h' o st e1 e2 N' => ⟨st.1.at fun o' e' => by rw [e1] at e'; rw [← e']; exact e2, ⟨_, (N' _ hm).1, rfl, k, rfl⟩⟩)
      hx hy hkind hxd hyd ?_ ?_ (neN (by omega)) (fresh₀ _ (Nat.le_refl _)) (neN (by omega)) (neN (by omega)) (neN (by omega)) (fresh₀ _ (by rw [hz2]; exact Nat.le_add_right _ _)) (fresh₀ _ (by rw [hz1]; exact Nat.le_add_right _ _)) (fun p hp => ?_) ⟨hIt₁, hlist.at fun o e => oldS _ o e⟩ (F.keeps oldS) hns₁ (fun p hp => ?_) ?_
    · intro hm'
      rcases List.mem_cons.mp hm' with e | hm'
      · exact absurd e (neN (by omega))
      · exact absurd (List.mem_singleton.mp hm') (neN (by omega))
    · intro hm'
      rcases List.mem_cons.mp hm' with e | hm'
      · exact absurd e (neN (by omega))
      · exact absurd (List.mem_singleton.mp hm') (neN (by omega))
    · have := ltN (Heap.lt_size (N p hp).1)
      exact ⟨neN (by omega), neN (by omega), neN (by omega)⟩
    · rcases List.mem_cons.mp hp with rfl | hp
      · exact ⟨hacc, neN (by show (H1.objs.size : Nat) ≠ L; omega), fresh₀ _ (by show s₁.heap.objs.size ≤ H1.objs.size; rw [hz1]; exact Nat.le_add_right _ _)⟩
      · exact ⟨oldS _ _ (N p hp).1, (N p hp).2⟩
    · intro h tk m' ys F' hC' N' hI'
      refine ⟨m', hC', fun h'' hs'' => fin H1.objs.size h'' tk ys (F'.change hs'' (neN (by omega)) (fresh₀ _ (by rw [hz2]; exact Nat.le_add_right _ _))) (fun p hp => ?_) (fun p hp => by have := ltN (Heap.lt_size (N p hp).1); exact ltN (by omega)) hI'⟩
      refine ⟨hs''.extBut _ _ ?_ (N' p hp).1, (N' p hp).2⟩
      rcases List.mem_cons.mp hp with rfl | hp
      · exact hDne
      · have := ltN (Heap.lt_size (N p hp).1)
        exact neN (by omega)
  exact codeAny_compStart_list (loop _ rfl) (W.self 0 _ _ _ ⟨hIt₁, hlist.at fun o e => oldS _ o e⟩ (loop _ rfl))
end
end Mine
namespace Mine
/-- a list of pairs of ints: each tuple's address, its two ints with their tokens -/
abbrev PrT := Addr × Int × Tok × Int × Tok
abbrev tupO (p : PrT) : Obj := { cls := .type "tuple", data := .seq [Value.int p.2.1 p.2.2.1, Value.int p.2.2.2.1 p.2.2.2.2].toArray }
def prsObj (ps : List PrT) : List (Addr × Obj) := ps.map fun p => (p.1, tupO p)
def prefs (ps : List PrT) : List Value := ps.map fun p => Value.ref p.1
def ivs (ps : List PrT) : List Iv := ps.map fun p => (p.2.1, p.2.2.2.1)
structure PrOk (a1 a2 a3 a4 : Addr) (ps : List PrT) : Prop where
  h1 : ∀ p ∈ prsObj ps, p.1 ≠ a1
  h2 : ∀ p ∈ prsObj ps, p.1 ≠ a2
  h3 : ∀ p ∈ prsObj ps, p.1 ≠ a3
  h4 : ∀ p ∈ prsObj ps, p.1 ≠ a4
theorem prsObj_app (a b : List PrT) : prsObj (a ++ b) = prsObj a ++ prsObj b := by unfold prsObj; rw [List.map_append]
theorem ivs_app (a b : List PrT) : ivs (a ++ b) = ivs a ++ ivs b := by unfold ivs; rw [List.map_append]
theorem ivs_length (a : List PrT) : (ivs a).length = a.length := by unfold ivs; rw [List.length_map]
theorem prok_nil {a1 a2 a3 a4 : Addr} : PrOk a1 a2 a3 a4 [] := ⟨(fun _ h => nomatch h), (fun _ h => nomatch h), (fun _ h => nomatch h), (fun _ h => nomatch h)⟩
theorem PrOk.snoc {a1 a2 a3 a4 D : Addr} {ps : List PrT} {s e : Int} {ts te : Tok} (h : PrOk a1 a2 a3 a4 ps) (n1 : @Ne Nat D a1) (n2 : @Ne Nat D a2) (n3 : @Ne Nat D a3) (n4 : @Ne Nat D a4) : PrOk a1 a2 a3 a4 (ps ++ [(D, s, ts, e, te)]) := by
  have key : ∀ a : Addr, (∀ p ∈ prsObj ps, p.1 ≠ a) → D ≠ a → ∀ p ∈ prsObj (ps ++ [(D, s, ts, e, te)]), p.1 ≠ a := fun a h1 h2 p hp => by
    rw [prsObj_app] at hp
    rcases List.mem_append.mp hp with hp | hp
    · exact h1 p hp
    · rw [List.mem_singleton.mp hp]; exact h2
  exact ⟨key _ h.h1 n1, key _ h.h2 n2, key _ h.h3 n3, key _ h.h4 n4⟩
abbrev S09 := List Value × List Int × Nat × List PrT × Nat × Obj × Obj
abbrev Led09 (lt lm c1 c2 : Addr) (c : S09) : List (Addr × Obj) :=
  (lt, listOf (prefs c.2.2.2.1).toArray c.2.2.2.2.1) :: (lm, listOf c.1.toArray c.2.2.1) :: (c1, c.2.2.2.2.2.1) :: (c2, c.2.2.2.2.2.2) :: prsObj c.2.2.2.1
def Q09 (lt lm c1 c2 : Addr) (i : Nat) (c : S09) : Prop := IntsAre c.1 c.2.1 ∧ (∃ v, c.2.2.2.2.2.1.data = .cell v) ∧ (∃ v, c.2.2.2.2.2.2.data = .cell v) ∧ PrOk lt lm c1 c2 c.2.2.2.1 ∧ c.2.1.length ≤ 2 * i ∧ c.2.2.2.1.length ≤ i ∧ P09 (ivs c.2.2.2.1) c.2.1
theorem q09_start {lt lm c1 c2 : Addr} {nn nt : Nat} {o1 o2 : Obj} {v1 v2 : Option Value} (h1 : o1.data = .cell v1) (h2 : o2.data = .cell v2) : Q09 lt lm c1 c2 0 ([], [], nn, [], nt, o1, o2) := ⟨IntsAre.nil, ⟨_, h1⟩, ⟨_, h2⟩, prok_nil, Nat.le_refl _, Nat.le_refl _, p09_start⟩
theorem name4 {R : Prop} {h₀ h : Heap} {L a1 a2 a3 a4 : Addr} {o1 o2 o3 o4 : Obj} (_N : News h₀ L h [(a1, o1), (a2, o2), (a3, o3), (a4, o4)]) (k : ∀ b1 b2 b3 b4 : Addr, b1 = a1 → b2 = a2 → b3 = a3 → b4 = a4 → R) : R := k a1 a2 a3 a4 rfl rfl rfl rfl
theorem lap_t {s e a b : Int} (h1 : s < b) (h2 : a < e) : lap s e (a, b) = true := by unfold lap; rw [decide_eq_true h1, decide_eq_true h2]; rfl
theorem lap_f1 {s e a b : Int} (h1 : ¬ s < b) : lap s e (a, b) = false := by unfold lap; rw [decide_eq_false h1]; rfl
theorem lap_f2 {s e a b : Int} (h2 : ¬ a < e) : lap s e (a, b) = false := by unfold lap; rw [decide_eq_false h2, Bool.and_false]
section
variable {prog : Program} {w : World} {A : Around} {h₀ : Heap} {L : Addr} {m : Str → Option Value} {env : Env} {ct elt : Expr} {x : Str} {scope : Scope} {cl : List (Str × Addr)} {s : Shared} {Fin : Shared → List Value → List (Addr × Obj) → Prop} {news : List (Addr × Obj)}
/-- [one for one in taken if start < one[1] and one[0] < end] -/
theorem ct_lap {zs zs' : List Int} {b e r q : Int} (_hb : BR zs b r) (_hc : BL zs' e q) {ax : Addr} {ps : List PrT} {k : Nat} (hh : A.handled = none) (F : Fr h₀ L s.heap m) (N : News h₀ L s.heap news) (hm : (ax, listOf (prefs ps).toArray k) ∈ news) (hsub : ∀ p ∈ prsObj ps, p ∈ news) (hsz : ps.length ≤ 2 ^ 20)
    (turn : ∀ (a : Addr) (u v : Int) (tu tv : Tok) I oI C oC D m₂ ys hp h tk (E' : Value → Shared → Prop), (a, tupO (a, u, tu, v, tv)) ∈ news → LCg.NsObj oC m₂ → m₂ x = some (.ref a) → Fr h₀ L h m → News h₀ L h ((I, oI) :: (C, oC) :: (D, LCg.lst ys) :: news) → LCg.Off3 I C D news → ((@Ne Nat I C) ∧ (@Ne Nat I D) ∧ (@Ne Nat C D)) →
      wpAny (model prog w) A (isTrue ct (compEnvC scope cl C env) (eval ct (compEnvC scope cl C env))) (fun ok s' => if ok = true then
        wpAny (model prog w) A (eval elt (compEnvC scope cl C env)) (fun _ s'' => CtEnd h₀ L m { s with heap := h, toks := tk } ((I, oI) :: (C, oC) :: (D, LCg.lst ys) :: news) (lap b e (u, v) = true) s'') E' s'
        else CtEnd h₀ L m { s with heap := h, toks := tk } ((I, oI) :: (C, oC) :: (D, LCg.lst ys) :: news) (lap b e (u, v) = false) s') E' { { s with heap := hp } with heap := h, toks := tk })
    (fin : ∀ h ys, ys.length = ((ivs ps).filter (lap b e)).length → Fin { s with heap := h } ys news) : LCt.CompSrcT prog w A h₀ L m env ct elt x scope cl Fin (.ref ax) s := by
  have hl : (prefs ps).toArray.size = ps.length := by simp [prefs]
  refine LCt.CompSrcT.ledger hh F N hm (by rw [hl, sizeLine_eq]; omega) fun hg => ?_
  refine ct_rest (ds := ps) (V := fun d v => v = Value.ref d.1 ∧ (d.1, tupO d) ∈ news) (fun d => lap b e (d.2.1, d.2.2.2.1)) (fun _ _ => True) hl.symm (fun i v _ hv => ?_) (.inr ⟨_, hm, rfl, _, rfl⟩) ?_ fun ys hy => fin hg ys ?_
  · have hv' : (prefs ps)[i]? = some v := by simpa using hv
    unfold prefs at hv'
    rw [List.getElem?_map] at hv'
    cases e : ps[i]? with
    | none => rw [e] at hv'; simp at hv'
    | some d =>
      rw [e] at hv'
      simp only [Option.map_some, Option.some.injEq] at hv'
      exact ⟨d, rfl, hv'.symm, hsub _ (List.mem_map.mpr ⟨d, List.mem_of_getElem? e, rfl⟩)⟩
  · rintro ⟨a, u, tu, v, tv⟩ _ I oI C oC D m₂ ys h tk E' hd ⟨rfl, hmem⟩ hC hx F' N' off ne
    refine wpAny_mono (turn a u v tu tv I oI C oC D m₂ ys hg h tk E' hmem hC hx F' N' off ne) (fun ok s₂ hq => ?_) fun _ _ z => z
    cases ok with
    | true =>
      simp only [if_true] at hq ⊢
      refine wpAny_mono hq (fun y s₃ hz => ?_) fun _ _ z => z
      obtain ⟨h', tk', nw, z, F2, N2, hn, hp⟩ := hz
      exact ⟨h', tk', nw, z, F2, N2, hn, hp, trivial⟩
    | false => exact hq
  · rw [hy.length]
    unfold ivs
    rw [List.filter_map, List.length_map]; rfl
end
section
variable {prog : Program} {w : World} {A : Around} {E : Value → Shared → Prop} {s : Shared} {h₀ : Heap} {L : Addr} {news : List (Addr × Obj)}
/-- xs == [] -/
theorem eq_nil_led {a b : Addr} {vs : List Value} {n n2 : Nat} {Q : Value → Shared → Prop} (N : News h₀ L s.heap news) (hm : (a, listOf vs.toArray n) ∈ news) (hm2 : (b, listOf #[] n2) ∈ news) (hu : A.units < cLine) (h : Q (.bool (decide (vs.length = 0))) s) :
    wpAny (model prog w) A (compareOp .Eq (.ref a) (.ref b)) Q E s := by
  have z1 := (N _ hm).1
  have z2 := (N _ hm2).1
  refine cmp_ofEq ?_
  by_cases e : vs.length = 0
  · have ev : vs = [] := List.eq_nil_of_length_eq_zero e
    subst ev
    exact richCompare_meets_room (op := .Eq) ⟨_, z1, rfl⟩ ⟨_, z2, rfl⟩ PySem.F.slot_list_eq PySem.F.entry_list_eq (PySem.F.args_list_eq_2 _ _) (MeetsSeq3.list_eq a b #[] #[] n n2 rfl (fun _ => true) (fun j h1 _ => absurd h1 (Nat.not_lt_zero _))) ⟨z1, z2, by simp, by simpa using h⟩ hu
  · rw [decide_eq_false e] at h
    exact richCompare_meets_room (op := .Eq) ⟨_, z1, rfl⟩ ⟨_, z2, rfl⟩ PySem.F.slot_list_eq PySem.F.entry_list_eq (PySem.F.args_list_eq_2 _ _) (AutoSeq1.list___eq___list_list_0 a vs.toArray n b #[] n2 (by simpa using e)) ⟨z1, z2, by simp, h⟩ hu
end
section
variable {prog : Program} {w : World} {A : Around} {E : Value → Shared → Prop} {s : Shared} {h₀ : Heap} {L : Addr} {news : List (Addr × Obj)}
/-- one[0], one[1] of a pair of the ledger's -/
theorem tup_item {a : Addr} {u v : Int} {tu tv tk : Tok} {k : Int} {j : Nat} {y : Value} {value slice : Expr} {Q : Value → Shared → Prop} (N : News h₀ L s.heap news) (hm : (a, tupO (a, u, tu, v, tv)) ∈ news) (hlo : -(2 ^ 63) ≤ k) (hhi : k < 2 ^ 63) (hj : seqIndex? k 2 = some j) (hy : [Value.int u tu, Value.int v tv][j]? = some y) (h : Q y s)
    (hs : subscripted slice false (.ref a) (.int k tk) = operate [.ref a, .int k tk] (getItem (.ref a) (.int k tk)) := by with_unfolding_all rfl) :
    wpAny (model prog w) A (subscriptTail value slice (.ref a) (.int k tk)) Q E s :=
  item_tupleT (l := [Value.int u tu, Value.int v tv]) (News.isTup N hm) hlo hhi hj hy h hs
end
def zssOf (ps : List PrT) : List (List Int) := ps.map fun p => [p.2.1, p.2.2.2.1]
theorem zss_flat (ps : List PrT) : (zssOf ps).flatten = flat2 (ivs ps) := by
  unfold zssOf flat2 ivs
  rw [List.flatMap_map, List.flatMap_def]
theorem flat2_length (js : List Iv) : (flat2 js).length = 2 * js.length := by
  induction js with
  | nil => rfl
  | cons a js ih => rw [flat2_cons, List.length_cons, List.length_cons, ih, List.length_cons]; omega
theorem prs_src {news : List (Addr × Obj)} {ps : List PrT} (hsub : ∀ p ∈ prsObj ps, p ∈ news) : ∀ (i : Nat) (v : Value), (prefs ps)[i]? = some v → ∃ (b : Addr) (zs : List Int), v = Value.ref b ∧ (zssOf ps)[i]? = some zs ∧ SeqInts news b zs := by
  intro i v hv
  unfold prefs at hv
  rw [List.getElem?_map] at hv
  cases e : ps[i]? with
  | none => rw [e] at hv; simp at hv
  | some d =>
    rw [e] at hv
    simp only [Option.map_some, Option.some.injEq] at hv
    refine ⟨d.1, [d.2.1, d.2.2.2.1], hv.symm, by unfold zssOf; rw [List.getElem?_map, e]; rfl, tupO d, _, 0, hsub _ (List.mem_map.mpr ⟨d, List.mem_of_getElem? e, rfl⟩), .inl rfl, rfl, .cons _ _ (.cons _ _ .nil)⟩
theorem sub_snoc {news : List (Addr × Obj)} {ps : List PrT} {x : PrT} (h1 : ∀ p ∈ prsObj ps, p ∈ news) (h2 : (x.1, tupO x) ∈ news) : ∀ p ∈ prsObj (ps ++ [x]), p ∈ news := by
  intro p hp
  rw [prsObj_app] at hp
  rcases List.mem_append.mp hp with hp | hp
  · exact h1 p hp
  · rw [List.mem_singleton.mp hp]; exact h2
section
variable {prog : Program} {w : World} {A : Around} {E : Value → Shared → Prop} {s : Shared} {h₀ : Heap} {L : Addr} {m : Str → Option Value} {news news' : List (Addr × Obj)}
/-- taken.append((u, v)) -/
theorem append_pair {lt D : Addr} {ps : List PrT} {u v : Int} {tu tv : Tok} {nn : Nat} {Q : Value → Shared → Prop} (hF : Fr h₀ L s.heap m) (N : News h₀ L s.heap news) (_hm : (D, tupO (D, u, tu, v, tv)) ∈ news) (hz : ps.length ≤ 2 ^ 20)
    (U : Upd lt (listOf (prefs ps).toArray nn) (listOf (prefs (ps ++ [(D, u, tu, v, tv)])).toArray (nn + 1)) news news')
    (h : ∀ h', Fr h₀ L h' m → News h₀ L h' news' → Q .none { s with heap := h' }) :
    wpAny (model prog w) A (call (.builtin "list.append") [.ref lt, .ref D]) Q E s := by
  have e : (prefs ps).toArray.push (Value.ref D) = (prefs (ps ++ [(D, u, tu, v, tv)])).toArray := by simp [prefs]
  exact append_K (its := (prefs ps).toArray) (n := nn) (x := .ref D) hF N (e ▸ U) h (by rw [sizeLine_eq]; simp [prefs]; omega)
end
theorem len_zero {iv : List Iv} {f : Iv → Bool} {ys : List Value} (h : ys.length = (iv.filter f).length) : ys.length = 0 ↔ iv.filter f = [] := by
  rw [h, List.length_eq_zero_iff]
theorem e09a {iv : List Iv} {zs : List Int} {s e r q : Int} {ys : List Value} (x : ((r == q) != decide (ys.length = 0)) = true) (hne : r ≠ q) (h : P09 iv zs) (hse : s < e) (b : BR zs s r) (c : BL zs e q) (hy : ys.length = (iv.filter (lap s e)).length) : False := by
  have f := p09_free h hse b c
  rw [← len_zero hy] at f
  by_cases z : ys.length = 0
  · exact hne (f.mp z).1
  · rw [decide_eq_false z, beq_eq_false_iff_ne.mpr hne] at x
    exact absurd x (by decide)
theorem e09b {iv : List Iv} {zs : List Int} {s e r q : Int} {ys : List Value} (x : ((r.fmod 2 == 0) != decide (ys.length = 0)) = true) (heq : r = q) (h : P09 iv zs) (hse : s < e) (b : BR zs s r) (c : BL zs e q) (hy : ys.length = (iv.filter (lap s e)).length) : False := by
  have f := p09_free h hse b c
  rw [← len_zero hy] at f
  by_cases z : ys.length = 0
  · rw [(f.mp z).2, decide_eq_true z] at x
    exact absurd x (by decide)
  · rw [decide_eq_false z] at x
    have : r.fmod 2 = 0 := by
      cases e2 : (r.fmod 2 == 0) with
      | true => exact eq_of_beq e2
      | false => rw [e2] at x; exact absurd x (by decide)
    exact z (f.mpr ⟨heq, this⟩)
theorem e09c {iv : List Iv} {zs n : List Int} (x : ¬ zs = n) (h : P09 iv zs) (p : n.Perm (flat2 iv)) (o : n.Pairwise (· ≤ ·)) : False := x (p09_sorted h p o)
theorem p09_fit {ps : List PrT} {zs : List Int} {s e r q : Int} {D : Addr} {ts te : Tok} (h : P09 (ivs ps) zs) (hse : s < e) (b : BR zs s r) (c : BL zs e q) (h1 : r = q) (h2 : r.fmod 2 = 0) : P09 (ivs (ps ++ [(D, s, ts, e, te)])) (zs.take r.toNat ++ [s, e] ++ zs.drop r.toNat) := by
  rw [ivs_app]
  exact p09_put h hse b ((p09_free h hse b c).mpr ⟨h1, h2⟩)
theorem flen {ys : List Value} {ps : List PrT} (_h : IntsAre ys (flat2 (ivs ps))) : (flat2 (ivs ps)).length = 2 * ps.length := by rw [flat2_length, ivs_length]
theorem flen1 {ps : List PrT} {x : PrT} : (ps ++ [x]).length = ps.length + 1 := by rw [List.length_append]; rfl
theorem in09 {lt lm c1 c2 : Addr} {nw : List (Addr × Obj)} {c' : S09} (m1 : (lt, listOf (prefs c'.2.2.2.1).toArray c'.2.2.2.2.1) ∈ nw) (m2 : (lm, listOf c'.1.toArray c'.2.2.1) ∈ nw) (m3 : (c1, c'.2.2.2.2.2.1) ∈ nw) (m4 : (c2, c'.2.2.2.2.2.2) ∈ nw) (m5 : ∀ p ∈ prsObj c'.2.2.2.1, p ∈ nw) : ∀ p ∈ Led09 lt lm c1 c2 c', p ∈ nw := by
  intro p hp
  rcases List.mem_cons.mp hp with rfl | hp
  · exact m1
  · rcases List.mem_cons.mp hp with rfl | hp
    · exact m2
    · rcases List.mem_cons.mp hp with rfl | hp
      · exact m3
      · rcases List.mem_cons.mp hp with rfl | hp
        · exact m4
        · exact m5 p hp
theorem off_same {lt lm c1 c2 I : Addr} {q1 q2 q3 q4 : Obj} {us : List Value} {zs : List Int} {nn nt : Nat} {ps : List PrT} {o1 o2 : Obj} (off : ∀ p ∈ (lt, q1) :: (lm, q2) :: (c1, q3) :: (c2, q4) :: prsObj ps, p.1 ≠ I) : ∀ p ∈ Led09 lt lm c1 c2 (us, zs, nn, ps, nt, o1, o2), p.1 ≠ I := by
  intro p hp
  rcases List.mem_cons.mp hp with rfl | hp
  · exact off (lt, q1) (.head _)
  · rcases List.mem_cons.mp hp with rfl | hp
    · exact off (lm, q2) (.tail _ (.head _))
    · rcases List.mem_cons.mp hp with rfl | hp
      · exact off (c1, q3) (.tail _ (.tail _ (.head _)))
      · rcases List.mem_cons.mp hp with rfl | hp
        · exact off (c2, q4) (.tail _ (.tail _ (.tail _ (.head _))))
        · exact off p (.tail _ (.tail _ (.tail _ (.tail _ hp))))
theorem off_snoc {lt lm c1 c2 I : Addr} {q1 q2 q3 q4 : Obj} {us : List Value} {zs : List Int} {nn nt : Nat} {ps : List PrT} {x : PrT} {o1 o2 : Obj} (off : ∀ p ∈ (lt, q1) :: (lm, q2) :: (c1, q3) :: (c2, q4) :: prsObj ps, p.1 ≠ I) (hD : @Ne Nat x.1 I) : ∀ p ∈ Led09 lt lm c1 c2 (us, zs, nn, ps ++ [x], nt, o1, o2), p.1 ≠ I := by
  intro p hp
  rcases List.mem_cons.mp hp with rfl | hp
  · exact off (lt, q1) (.head _)
  · rcases List.mem_cons.mp hp with rfl | hp
    · exact off (lm, q2) (.tail _ (.head _))
    · rcases List.mem_cons.mp hp with rfl | hp
      · exact off (c1, q3) (.tail _ (.tail _ (.head _)))
      · rcases List.mem_cons.mp hp with rfl | hp
        · exact off (c2, q4) (.tail _ (.tail _ (.tail _ (.head _))))
        · rw [prsObj_app] at hp
          rcases List.mem_append.mp hp with hp | hp
          · exact off p (.tail _ (.tail _ (.tail _ (.tail _ hp))))
          · rw [List.mem_singleton.mp hp]; exact hD
theorem q09_same {lt lm c1 c2 : Addr} {us : List Value} {zs : List Int} {nn nt i : Nat} {ps : List PrT} {o1 o2 : Obj} {v1 v2 : Option Value} (h1 : o1.data = .cell v1) (h2 : o2.data = .cell v2) (ia : IntsAre us zs) (ok : PrOk lt lm c1 c2 ps) (lz : zs.length ≤ 2 * i) (lp : ps.length ≤ i) (p : P09 (ivs ps) zs) : Q09 lt lm c1 c2 (i + 1) (us, zs, nn, ps, nt, o1, o2) :=
  ⟨ia, ⟨_, h1⟩, ⟨_, h2⟩, ok, by dsimp only; omega, by dsimp only; omega, p⟩
theorem q09_fit {lt lm c1 c2 D : Addr} {us : List Value} {zs : List Int} {nn nt i : Nat} {ps : List PrT} {o1 o2 : Obj} {v1 v2 : Option Value} {s e r q : Int} {ts te : Tok} (h1 : o1.data = .cell v1) (h2 : o2.data = .cell v2) (ia : IntsAre us (zs.take r.toNat ++ [s, e] ++ zs.drop r.toNat)) (ok : PrOk lt lm c1 c2 ps) (lz : zs.length ≤ 2 * i) (lp : ps.length ≤ i) (p : P09 (ivs ps) zs)
    (hse : s < e) (b : BR zs s r) (c : BL zs e q) (x1 : r = q) (x2 : r.fmod 2 = 0) (n1 : @Ne Nat D lt) (n2 : @Ne Nat D lm) (n3 : @Ne Nat D c1) (n4 : @Ne Nat D c2) : Q09 lt lm c1 c2 (i + 1) (us, zs.take r.toNat ++ [s, e] ++ zs.drop r.toNat, nn, ps ++ [(D, s, ts, e, te)], nt, o1, o2) := by
  have := b.2.1
  refine ⟨ia, ⟨_, h1⟩, ⟨_, h2⟩, ok.snoc n1 n2 n3 n4, ?_, ?_, p09_fit p hse b c x1 x2⟩
  · dsimp only; simp only [List.length_append, List.length_take, List.length_drop, List.length_cons, List.length_nil]; omega
  · dsimp only; simp only [List.length_append, List.length_cons, List.length_nil]; omega
end Mine
namespace Mine
section
variable {prog : Program} {w : World} {A : Around} {E : Value → Shared → Prop} {s : Shared}
theorem setSlice_list {l sl b : Addr} {items new : Array Value} {vl vu : Value} {lo hi : Option Int} {nl nb : Nat} {Q : Unit → Shared → Prop} (ho : s.heap.get? l = some (listOf items nl)) (hb : s.heap.get? b = some (listOf new nb)) (hbl : b ≠ l)
    (hs : s.heap.IsSliceOf sl vl vu .none) (pl : IsPart vl lo) (pu : IsPart vu hi) (hz : items.size + new.size ≤ 2 ^ 20)
    (h : Q () { s with heap := s.heap.update l (Obj.mapSeq fun xs => xs.extract 0 (sliceBounds lo hi none items.size).1.toNat ++ new ++ xs.extract (max (sliceBounds lo hi none items.size).1 (sliceBounds lo hi none items.size).2.1).toNat xs.size) }) :
    wpAny (model prog w) A (setItem (.ref l) (.ref sl) (.ref b)) Q E s := by
  obtain ⟨os, hos, hcs, hds⟩ := id hs
  have hTs : s.TypeIs (.ref sl) "slice" := ⟨os, hos, hcs⟩
  have hTl : s.TypeIs (.ref l) "list" := ⟨_, ho, rfl⟩
  have hTb : s.TypeIs (.ref b) "list" := ⟨_, hb, rfl⟩
  unfold setItem
  try with_reducible refine wpAny_holding ?_
  first | refine wpAny_bind (wpAny_pure ?_) | skip
  refine wpAny_bind (wpAny_sequenceKey hTl (by decide) ?_)
  refine wpAny_bind (wpAny_callSpecial?_slot (name := Str.ofString "__setitem__") hTl slot_list_setitem
    (wpAny_call_entry slot_list_setitem hTl entry_list_setitem ?_ (args_list_setitem _ _ _)))
  show wpAny _ _ (Builtin.List.listSubscript? (.ref sl) >>= _) _ _ s
  refine wpAny_bind ?_
  unfold Builtin.List.listSubscript?
  refine wpAny_bind (wpAny_specialOf hTs slice_no_index ?_)
  simp only [Option.isNone_none, if_true]
  refine wpAny_pure ?_
  show wpAny _ _ (typeOf (.ref sl) >>= _) _ _ s
  refine wpAny_bind (wpAny_typeOf hTs ?_)
  rw [if_neg (by decide)]
  rw [listSliceParts_eq]
  refine wpAny_bind (wpAny_bind (wpAny_field hos hds (x := .none) rfl (wpAny_bind (wpAny_listPart .none ?_))))
  rw [if_neg (by exact Bool.false_ne_true)]
  refine wpAny_bind (wpAny_field hos hds (x := vl) rfl (wpAny_bind (wpAny_listPart pl ?_)))
  refine wpAny_bind (wpAny_field hos hds (x := vu) rfl (wpAny_bind (wpAny_listPart pu (wpAny_pure ?_))))
  have h1 : Builtin.List.listSameRef (.ref l) (.ref b) = false := by simp [Builtin.List.listSameRef, Ne.symm hbl]
  rw [if_neg (by rw [h1]; exact Bool.false_ne_true)]
  refine wpAny_bind (m := Builtin.List.listAllItems (.ref b) _) ?_
  unfold Builtin.List.listAllItems
  refine wpAny_bind (wpAny_typeOf hTb ?_)
  rw [if_pos (by decide)]
  refine wpAny_listItems hb rfl ?_
  refine wpAny_bind (wpAny_listItems ho rfl ?_)
  refine wpAny_bind (wpAny_of_eq (sliceIndices_raw lo hi none items.size (by simp)) ?_)
  rw [if_pos (by rfl)]
  refine wpAny_bind (wpAny_rule ?_)
  have h2 : Builtin.List.listTooLong (items.size + new.size) = false := by
    unfold Builtin.List.listTooLong
    rw [sizeLine_eq]
    simp; omega
  rw [if_neg (by rw [h2]; exact Bool.false_ne_true)]
  refine wpAny_bind (wpAny_updateSeq ho rfl ?_ (by rw [sizeLine_eq]; omega) (by simp only [Array.size_append, Array.size_extract]; rw [sizeLine_eq]; omega))
  refine wpAny_bind (wpAny_letGo ?_)
  exact wpAny_pure ⟨.none, rfl, wpAny_pure h⟩
end
theorem bounds_in {i j : Int} {n : Nat} (h0 : 0 ≤ i) (h1 : i ≤ n) (h2 : 0 ≤ j) (h3 : j ≤ n) : sliceBounds (some i) (some j) none n = (i, j, 1) := by
  unfold sliceBounds
  simp only [Option.getD_none, show ((1 : Int) > 0) from by decide, if_true, show ¬ i < 0 by omega, show ¬ j < 0 by omega, if_false]
  rw [show max 0 (min i (n : Int)) = i by omega, show max 0 (min j (n : Int)) = j by omega]
section
variable {prog : Program} {w : World} {A : Around} {E : Value → Shared → Prop} {s : Shared} {h₀ : Heap} {L D : Addr} {m : Str → Option Value} {news : List (Addr × Obj)} {news' : Nat → List (Addr × Obj)}
/-- the count of changes behind a slice's store -/
def chg (n a b : Nat) : Nat := if a == b then n else n + 1
/-- xs[i:j] = ys, both lists of ints of the ledger's -/
theorem slice_led {vs us : List Value} {zs ws : List Int} {n k : Nat} {b : Addr} {i j : Int} {ti tj : Tok} {Q : Unit → Shared → Prop} (hF : Fr h₀ L s.heap m) (N : News h₀ L s.heap news) (hb : (b, listOf us.toArray k) ∈ news) (hbD : @Ne Nat b D) (hi : IntsAre vs zs) (hu : IntsAre us ws) (h0 : 0 ≤ i) (hij : i ≤ j) (h1 : j ≤ zs.length) (hz : zs.length + ws.length ≤ 2 ^ 20)
    (U : ∀ n', Upd D (listOf vs.toArray n) (listOf (vs.take i.toNat ++ us ++ vs.drop j.toNat).toArray n') news (news' n'))
    (h : ∀ h' n', Fr h₀ L h' m → News h₀ L h' (news' n') → IntsAre (vs.take i.toNat ++ us ++ vs.drop j.toNat) (zs.take i.toNat ++ ws ++ zs.drop j.toNat) → Q () { s with heap := h' }) :
    wpAny (model prog w) A (setItem (.ref D) (.ref s.heap.objs.size) (.ref b)) Q E { s with heap := s.heap.push { cls := .type "slice", data := .fields #[.int i ti, .int j tj, .none] } } := by
  have hl := hi.length
  have hul := hu.length
  have F1 : Fr h₀ L (s.heap.push { cls := .type "slice", data := .fields #[.int i ti, .int j tj, .none] }) m := hF.push _
  have N1 : News h₀ L (s.heap.push { cls := .type "slice", data := .fields #[.int i ti, .int j tj, .none] }) news := News.pushKeep N _
  obtain ⟨pre, post, e1, e2, a, b'⟩ := (U 0).split
  have zD := N1 (D, listOf vs.toArray n) (by rw [e1]; exact List.mem_append.mpr (.inr (.head _)))
  have zb := N1 _ hb
  refine setSlice_list (lo := some i) (hi := some j) zD.1 zb.1 hbD (Heap.IsSliceOf.new ..) (.int i ti) (.int j tj) (by simp only [List.size_toArray]; omega) ?_
  have hsz : vs.toArray.size = zs.length := by rw [List.size_toArray, hl]
  rw [bounds_in h0 (by omega) (by omega) (by omega)]
  have ef : vs.toArray.extract 0 i.toNat ++ us.toArray ++ vs.toArray.extract (max i j).toNat vs.toArray.size = (vs.take i.toNat ++ us ++ vs.drop j.toNat).toArray := by
    apply Array.ext'
    rw [show max i j = j by omega]
    simp [List.take_of_length_le]
  have hu2 := IsL.update (h := s.heap.push { cls := .type "slice", data := .fields #[.int i ti, .int j tj, .none] }) (l := D) (items := vs.toArray) (n := n) zD.1 (fun xs : Array Value => xs.extract 0 i.toNat ++ us.toArray ++ xs.extract (max i j).toNat xs.size)
  rw [ef] at hu2
  obtain ⟨pre, post, e1, e2, a, b'⟩ := (U (if (((vs.take i.toNat ++ us ++ vs.drop j.toNat).toArray.size == vs.toArray.size) = true) then n else n + 1)).split
  refine h _ (if (((vs.take i.toNat ++ us ++ vs.drop j.toNat).toArray.size == vs.toArray.size) = true) then n else n + 1) (Fr.change F1 (Heap.SameBut.update ..) zD.2.1 zD.2.2) ?_ (IntsAre.append (IntsAre.append (IntsAre_take hi _) hu) (IntsAre_drop hi _))
  rw [e2]
  rw [e1] at N1
  exact news_set N1 a b' (Heap.SameBut.update ..) hu2
end
end Mine
namespace Mine
open_top hd for PySem.Challenge.rw_cy0002_09
end Mine
namespace Mine
theorem bisR : ClaimOf hd (fun prog w K p loose mean mg mb => BisTells BR prog w K p loose mean mg mb 23) := by
  unfold ClaimOf
  k_fill
  intro w mean mg mb
  unfold BisTells
  intro dp un gd cn cs a ccd cl outer A₀ base h₀ L m news s l vs ns nn x tk Q E B F X N T hk hl hi hfit hd hu hret
  replace N := news_dup N hl
  clear hl
  refine wpAny_call ?_
  k_with_none
  k_with "exec While Compare cons nil" => k_while_given ["a", "x"] (fun a x _ lo hi => (0 ≤ lo ∧ lo ≤ hi ∧ hi ≤ (a.length : Int)) ∧ WR a x lo hi) (fun _ _ _ lo hi => (hi - lo).toNat) "lo" "hi"
  k_with "state" => first | exact wr_start _ _ | exact wr_hi (by assumption) (by assumption) (by assumption) (by assumption) (by assumption) | exact wr_lo (by assumption) (by assumption) (by assumption) (by assumption) (by assumption)
  k_with "measure" => first | exact mid_lo (by assumption) | exact mid_hi (by assumption)
  k_dflt (refine' code_def ?k1 ?k2 ?k3 ?k4 ?k5 ?kA ?kF ?kK ?k6 ?k7 ?k8 ?k9 ?kB ?_ ?c2 ?c3 ?c4 ?c5; (case kA => exact rfl); (case kF => exact rfl); (case kK => assumption); (case k1 => k_asm); (case k2 => k_asm); (case k3 => k_asm); (case k4 => k_asm); (case k5 => k_asm); (case k6 => k_is); (case k7 => k_is); (case k8 => ktr_room); (case k9 => (refine' kp_binds ?kx ?ke; (case kx => k_in); (case ke => exact fun _ => rfl))); (case c5 => decide); (case kB => exact locs rfl); (case c2 => exact rfl); (case c3 => exact rfl); (case c4 => exact rfl); k_whole; intro g' L' h' FG' F' N' B' X' T'; (try dsimp only); (try k_lift B'); (try k_fold))
  k_steps
  all_goals exact bis_ret (Q := Q) (s := s) (rel := BR) hret (br_end (by assumption) (by assumption) (by assumption) (by assumption) (by assumption)) (by assumption) (by assumption)
theorem bisL : ClaimOf hd (fun prog w K p loose mean mg mb => BisTells BL prog w K p loose mean mg mb 32) := by
  unfold ClaimOf
  k_fill
  intro w mean mg mb
  unfold BisTells
  intro dp un gd cn cs a ccd cl outer A₀ base h₀ L m news s l vs ns nn x tk Q E B F X N T hk hl hi hfit hd hu hret
  replace N := news_dup N hl
  clear hl
  refine wpAny_call ?_
  k_with_none
  k_with "exec While Compare cons nil" => k_while_given ["a", "x"] (fun a x _ lo hi => (0 ≤ lo ∧ lo ≤ hi ∧ hi ≤ (a.length : Int)) ∧ WL a x lo hi) (fun _ _ _ lo hi => (hi - lo).toNat) "lo" "hi"
  k_with "state" => first | exact wl_start _ _ | exact wl_hi (by assumption) (by assumption) (by assumption) (by assumption) (by assumption) | exact wl_lo (by assumption) (by assumption) (by assumption) (by assumption) (by assumption)
  k_with "measure" => first | exact mid_lo (by assumption) | exact mid_hi (by assumption)
  k_dflt (refine' code_def ?k1 ?k2 ?k3 ?k4 ?k5 ?kA ?kF ?kK ?k6 ?k7 ?k8 ?k9 ?kB ?_ ?c2 ?c3 ?c4 ?c5; (case kA => exact rfl); (case kF => exact rfl); (case kK => assumption); (case k1 => k_asm); (case k2 => k_asm); (case k3 => k_asm); (case k4 => k_asm); (case k5 => k_asm); (case k6 => k_is); (case k7 => k_is); (case k8 => ktr_room); (case k9 => (refine' kp_binds ?kx ?ke; (case kx => k_in); (case ke => exact fun _ => rfl))); (case c5 => decide); (case kB => exact locs rfl); (case c2 => exact rfl); (case c3 => exact rfl); (case c4 => exact rfl); k_whole; intro g' L' h' FG' F' N' B' X' T'; (try dsimp only); (try k_lift B'); (try k_fold))
  k_steps
  all_goals exact bis_ret (Q := Q) (s := s) (rel := BL) hret (bl_end (by assumption) (by assumption) (by assumption) (by assumption) (by assumption)) (by assumption) (by assumption)
end Mine
namespace Mine
local macro_rules | `(tactic| walk_at "exec For Name Call cons nil") => `(tactic| (k_here; (rename Fr _ _ _ _ => lF'); (with_unfolding_all refine' For_turns lF' ?_; k_whole)))
local macro_rules | `(tactic| walk_at "GPost") => `(tactic| (dsimp only [GPost]))
local macro_rules | `(tactic| walk_at "subscriptTail") => `(tactic| (k_here; (with_reducible show wpAny _ _ (subscriptTail _ _ (Value.ref _) (Value.int _ _)) _ _ _); (k_dflt (refine' item_led ?N ?m ?i ?a ?b ?c ?_ ?hs; (case N => k_asm); (case m => k_mem); (case i => l_ints); (case a => first | omega | (have hm9 := mid_facts (by assumption); omega)); (case b => first | omega | (have hm9 := mid_facts (by assumption); omega) | (have hm9 := pos_of_ne (by assumption); omega)); (case c => omega); (case hs => with_unfolding_all rfl); k_whole)); intro t9))
local macro_rules | `(tactic| walk_at "call ref") => `(tactic| (
  k_here
  k_dflt (
    (first
      | ((with_reducible show wpAny _ _ (call (Value.ref 23) _) _ _ _); refine' bis_use ?B ?F ?X ?N ?T ?hk ?hm ?hi ?hf (bisR.at _ _ _ _) ?hd ?hu ?_)
      | ((with_reducible show wpAny _ _ (call (Value.ref 32) _) _ _ _); refine' bis_use ?B ?F ?X ?N ?T ?hk ?hm ?hi ?hf (bisL.at _ _ _ _) ?hd ?hu ?_))
    (case B => k_asm)
    (case F => k_asm)
    (case X => k_asm)
    (case N => k_asm)
    (case T => k_asm)
    (case hk => exact rfl)
    (case hm => k_mem)
    (case hi => l_ints)
    (case hf => l_fact)
    (case hd => ktr_room)
    (case hu => ktr_units)
    (intro r9 t9 h9 tk9 hB9 F9 N9)
    (have hB0 := hB9.1)
    (have hB1 := hB9.2.1)
    (try dsimp only)
    (try k_fold)
    )))
local macro_rules | `(tactic| walk_at "call builtin:list.append") => `(tactic| (k_here; (with_reducible show wpAny _ _ (call (Value.builtin _) [Value.ref _, Value.int _ _]) _ _ _); k_dflt (refine' append_led ?F ?N ?i ?z ?U ?_; (case F => k_asm); (case N => k_asm); (case U => k_upd); (case i => l_ints); (case z => omega)); intro h9 F9 N9 hi9 hl9; (try k_sweep)))
local macro_rules | `(tactic| walk_at "call builtin:list.remove") => `(tactic| (k_here; (with_reducible show wpAny _ _ (call (Value.builtin _) [Value.ref _, Value.int _ _]) _ _ _); k_dflt (refine' remove_led ?F ?N ?i ?x ?z ?U ?_; (case F => k_asm); (case N => k_asm); (case U => k_upd); (case i => l_ints); (case x => k_extra "held"); (case z => omega)); intro h9 F9 N9 hi9 hl9; (try k_sweep)))
local macro_rules | `(tactic| walk_at "call builtin:list.insert") => `(tactic| (k_here; (with_reducible show wpAny _ _ (call (Value.builtin _) [Value.ref _, Value.int _ _, Value.int _ _]) _ _ _); k_dflt (refine' insert_led ?F ?N ?i ?a ?b ?z ?U ?_; (case F => k_asm); (case N => k_asm); (case U => k_upd); (case i => l_ints); (case a => omega); (case b => omega); (case z => omega)); intro h9 F9 N9 hi9 hl9; (try k_sweep)))
local macro_rules | `(tactic| walk_at "delItem") => `(tactic| (k_here; (with_reducible show wpAny _ _ (delItem (Value.ref _) (Value.int _ _)) _ _ _); k_dflt (refine' del_led ?F ?N ?i ?a ?b ?z ?U ?_; (case F => k_asm); (case N => k_asm); (case U => k_upd); (case i => l_ints); (case a => omega); (case b => omega); (case z => omega)); intro h9 F9 N9 hi9 hl9; (try k_sweep)))
local macro_rules | `(tactic| k_mem) => `(tactic| with_reducible_and_instances assumption)
local macro_rules | `(tactic| k_all) => `(tactic| first | exact PrOk.h1 (by assumption) | exact PrOk.h2 (by assumption) | exact PrOk.h3 (by assumption) | exact PrOk.h4 (by assumption))
local macro_rules | `(tactic| walk_at "pyIter ref") => `(tactic| (
  k_here
  (with_reducible show wpAny _ _ (pyIter (Value.ref _)) (fun it s₂ => TurnsAt _ _ _ _ _ _ _ _ _ it s₂) _ _)
  k_dflt (refine' name4 (by assumption) ?_)
  intro b1 b2 b3 b4 e1 e2 e3 e4
  k_dflt (
    refine' g_range (Led09 b1 b2 b3 b4) (fun _ => []) [Str.ofString "k", Str.ofString "place", Str.ofString "fits"] (Q09 b1 b2 b3 b4) (_, [], _, [], 0, _, _) ?hh ?r ?s ?n ?F ?N ?k ?p ?_ ?_
    (case hh => exact rfl)
    (case r => assumption)
    (case s => exact small_two (by omega))
    (case n => exact rangeSize_two _)
    (case F => k_asm)
    (case N => rw [e1, e2, e3, e4]; first | k_asm | (with_unfolding_all k_asm))
    (case k => kst_all)
    (case p => exact q09_start (by assumption) (by assumption)))
  all_goals (subst e1; subst e2; subst e3; subst e4)
  all_goals first
    | (intro I9 hI9 c9 i9 t9 u9 h9 tk9 it9 hi9 hp9 off9 F9 N9; obtain ⟨us9, zs9, nn9, ps9, nt9, o9, o8⟩ := c9; dsimp only [Led09, Q09, kstB] at hp9 F9 N9 hI9 off9; obtain ⟨ia9, ⟨w9, hw9⟩, ⟨w8, hw8⟩, ok9, lz9, lp9, hp9⟩ := hp9; have hl9 := ia9.length; (try k_lt hI9); try k_fold)
    | (intro c9 u9 h9 tk9 hp9 F9 N9; obtain ⟨us9, zs9, nn9, ps9, nt9, o9, o8⟩ := c9; dsimp only [Led09, Q09, kstB] at hp9 F9 N9; obtain ⟨ia9, ⟨w9, hw9⟩, ⟨w8, hw8⟩, ok9, lz9, lp9, hp9⟩ := hp9; try k_fold)
  ))
local macro_rules | `(tactic| walk_at "eval ListComp") => `(tactic| (k_here; k_dflt (refine LCt.ListComp_T (F₀ := by k_asm) (by with_unfolding_all rfl) (by decide) (by rfl) (by decide) (by rfl) ?_)))
local macro_rules | `(tactic| walk_at "CompSrcT") => `(tactic| (
  k_here
  k_dflt (
    refine' ct_lap (by assumption) (by assumption) ?hh ?F ?N ?m ?u ?z ?_ ?_
    (case hh => exact rfl)
    (case F => k_asm)
    (case N => k_asm)
    (case m => k_mem)
    (case u => (intro p9 hp9; repeat (first | exact hp9 | refine List.Mem.tail _ ?_)))
    (case z => omega))
  all_goals first | (intro a9 u9 v9 tu9 tv9 I9 oI9 C9 oC9 D9 m9 ys9 hp9 h9 tk9 E9 hd9 hC9 hx9 F9 N9 off9 ne9) | (intro h9 ys9 hy9)
  ))
local macro_rules | `(tactic| walk_at "subscriptTail") => `(tactic| (k_here; (with_reducible show wpAny _ _ (subscriptTail _ _ (Value.ref _) (Value.int _ _)) _ _ _); (k_dflt (refine' tup_item ?N ?m ?a ?b ?j ?c ?_ ?hs; (case N => k_asm); (case m => k_mem); (case a => decide); (case b => decide); (case j => exact rfl); (case c => exact rfl); (case hs => with_unfolding_all rfl); k_whole))))
local macro_rules | `(tactic| walk_at "CtEnd") => `(tactic| (refine ct_end (by assumption) (by assumption) (by (intro p9 hp9; repeat (first | exact hp9 | refine List.Mem.tail _ ?_))) ?_; first | exact lap_t (by assumption) (by assumption) | exact lap_f1 (by assumption) | exact lap_f2 (by assumption)))
local macro_rules | `(tactic| walk_at "compareOp Eq ref ref") => `(tactic| (k_here; (with_reducible show wpAny _ _ (compareOp CmpOp.Eq (Value.ref _) (Value.ref _)) _ _ _); (k_dflt (refine' eq_nil_led ?k1 ?k2 ?k3 ?k5 ?_; (case k1 => k_asm); (case k2 => k_mem); (case k3 => k_mem); (case k5 => units_room); k_whole))))
local macro_rules | `(tactic| walk_at "eval ListComp") => `(tactic| (k_here; (with_reducible show wpAny _ _ (eval (Expr.ListComp _ (_ :: _ :: _) _ _) _) _ _ _); k_dflt (refine ListComp_two (F₀ := by k_asm) (by with_unfolding_all rfl) (by decide) (by rfl) (by decide) (by rfl) (by rfl) (by decide) (by decide) ?_)))
local macro_rules | `(tactic| walk_at "TwoSrc") => `(tactic| (
  k_here
  k_dflt (
    refine' TwoSrc.intro (zss := zssOf _) ?hh ?F ?N ?m ?l ?v ?z ?_
    (case hh => exact rfl)
    (case F => k_asm)
    (case N => k_asm)
    (case m => k_mem)
    (case v => refine' prs_src ?v1; (case v1 => first | (refine' sub_snoc ?w1 ?w2; (case w1 => (intro p9 hp9; repeat (first | exact hp9 | refine List.Mem.tail _ ?_))); (case w2 => k_mem)) | (intro p9 hp9; repeat (first | exact hp9 | refine List.Mem.tail _ ?_))))
    (case l => simp [zssOf, prefs])
    (case z => (rw [zss_flat, flat2_length, ivs_length]; (try rw [List.length_append, List.length_singleton]); omega)))
  intro D9 h9 tk9 ys9 F9 N9 l19 ia9
  rw [zss_flat] at ia9
  (have hfl9 := ia9.length)
  (have hgl9 := flen ia9)
  (try simp only [flen1] at hgl9)
  (try k_lt l19)
  (try k_sweep)
  ))
local macro_rules | `(tactic| walk_at "setItem ref ref") => `(tactic| (k_here; (first | (exfalso; omega) | (
  k_dflt (refine' slice_led ?F ?N ?b ?d ?i ?u ?h0 ?hij ?h1 ?hz ?U ?_; (case F => k_asm); (case N => k_asm); (case b => k_mem); (case U => (intro n9; k_upd)); (case d => (refine neN ?_; omega)); (case i => assumption); (case u => exact .cons _ _ (.cons _ _ .nil)); (case h0 => omega); (case hij => omega); (case h1 => omega); (case hz => (simp only [List.length_cons, List.length_nil]; omega)))
  intro h9 n9 F9 N9 hi9
  (try dsimp only at N9)
  (try k_sweep)))))
local macro_rules | `(tactic| walk_at "call builtin:list.append") => `(tactic| (k_here; (with_reducible show wpAny _ _ (call (Value.builtin _) [Value.ref _, Value.ref _]) _ _ _); k_dflt (refine' append_pair ?F ?N ?m ?z ?U ?_; (case F => k_asm); (case N => k_asm); (case m => k_mem); (case U => k_upd); (case z => omega)); intro h9 F9 N9; (try k_sweep)))
local macro_rules | `(tactic| walk_at "GEnd") => `(tactic| (
  k_here
  (rename News _ _ _ _ => nE9)
  k_dflt (
    refine' g_end (_, _, _, _, _, _, _) ?F ?N ?hI ?hn ?ho ?hk ?hr ?hp
    (case F => assumption)
    (case N => exact nE9)
    (case hk => kst_all)
    (case hI => k_mem)
    (case hn => refine' in09 ?m1 ?m2 ?m3 ?m4 ?m5; (case m1 => (try dsimp only); k_mem); (case m2 => (try dsimp only); k_mem); (case m3 => (try dsimp only); k_mem); (case m4 => (try dsimp only); k_mem); (case m5 => (try dsimp only); first | (refine' sub_snoc ?w1 ?w2; (case w1 => (intro p9 hp9; repeat (first | exact hp9 | refine List.Mem.tail _ ?_))); (case w2 => k_mem)) | (intro p9 hp9; repeat (first | exact hp9 | refine List.Mem.tail _ ?_))))
    (case ho => first | exact off_same (by assumption) | exact off_snoc (by assumption) (by (refine neN ?_; dsimp only; omega)))
    (case hr => ksw_same)
    (case hp => first | (refine' q09_same ?d1 ?d2 ?d3 ?d4 ?d5 ?d6 ?d7; (case d1 => assumption); (case d2 => assumption); (case d3 => assumption); (case d4 => assumption); (case d5 => assumption); (case d6 => assumption); (case d7 => assumption)) | (refine' q09_fit ?d1 ?d2 ?d3 ?d4 ?d5 ?d6 ?d7 ?d8 ?d9 ?da ?db ?dc ?n1 ?n2 ?n3 ?n4; (case d1 => assumption); (case d2 => assumption); (case d3 => assumption); (case d4 => assumption); (case d5 => assumption); (case d6 => assumption); (case d7 => assumption); (case d8 => assumption); (case d9 => assumption); (case da => assumption); (case db => assumption); (case dc => assumption); (case n1 => (refine neN ?_; omega)); (case n2 => (refine neN ?_; omega)); (case n3 => (refine neN ?_; omega)); (case n4 => (refine neN ?_; omega)))))))
theorem t : PySem.Challenge.rw_cy0002_09.Holds := hd (by
  k_with_none
  (k_with "end" => first | exact rfl | (exfalso; first | exact e09a (by assumption) (by assumption) (by assumption) (by assumption) (by assumption) (by assumption) (by assumption) | exact e09b (by assumption) (by assumption) (by assumption) (by assumption) (by assumption) (by assumption) (by assumption) | exact e09c (by assumption) (by assumption) (by assumption) (by assumption) | exact e09c (by assumption) (p09_fit (by assumption) (by assumption) (by assumption) (by assumption) (by assumption) (by assumption)) (by assumption) (by assumption)))
  k_go)
end Mine
theorem PySem.Challenge.cw_cy0002_09_holds : PySem.Challenge.rw_cy0002_09.Holds := by
  exact Mine.t

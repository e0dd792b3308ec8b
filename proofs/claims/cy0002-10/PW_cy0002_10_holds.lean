import PyProof.Rows.All
import Wide.All
import OpenK.AllK
import Wide.FinOn
import PySem.Challenge.RW_cy0002_10
open PySem PySem.W PyProof.Rows
set_option Elab.async false
set_option maxRecDepth 100000
set_option maxHeartbeats 8000000
set_option linter.unusedVariables false
namespace Mine

/-- what bisect_right hands back, told by the two neighbours alone -/
def WR (a : List Int) (x lo hi : Int) : Prop := (lo = 0 ∨ a.getD (lo - 1).toNat 0 ≤ x) ∧ (hi = a.length ∨ x < a.getD hi.toNat 0)
def WL (a : List Int) (x lo hi : Int) : Prop := (lo = 0 ∨ a.getD (lo - 1).toNat 0 < x) ∧ (hi = a.length ∨ x ≤ a.getD hi.toNat 0)
def BR (a : List Int) (x r : Int) : Prop := 0 ≤ r ∧ r ≤ a.length ∧ WR a x r r
def BL (a : List Int) (x r : Int) : Prop := 0 ≤ r ∧ r ≤ a.length ∧ WL a x r r

theorem mid_facts {lo hi : Int} (h : lo < hi) : lo ≤ (lo + hi).fdiv 2 ∧ (lo + hi).fdiv 2 < hi := by
  rw [Int.fdiv_eq_ediv_of_nonneg _ (by decide)]
  omega

theorem wr_start (a : List Int) (x : Int) : (0 ≤ (0 : Int) ∧ (0 : Int) ≤ (a.length : Int) ∧ (a.length : Int) ≤ (a.length : Int)) ∧ WR a x 0 a.length :=
  ⟨by omega, .inl rfl, .inl rfl⟩
theorem wl_start (a : List Int) (x : Int) : (0 ≤ (0 : Int) ∧ (0 : Int) ≤ (a.length : Int) ∧ (a.length : Int) ≤ (a.length : Int)) ∧ WL a x 0 a.length :=
  ⟨by omega, .inl rfl, .inl rfl⟩
theorem wr_hi {a : List Int} {x lo hi : Int} (h0 : 0 ≤ lo) (h1 : hi ≤ a.length) (w : WR a x lo hi) (h : lo < hi) (hx : x < a.getD ((lo + hi).fdiv 2).toNat 0) :
    (0 ≤ lo ∧ lo ≤ (lo + hi).fdiv 2 ∧ (lo + hi).fdiv 2 ≤ (a.length : Int)) ∧ WR a x lo ((lo + hi).fdiv 2) := by
  have := mid_facts h
  exact ⟨by omega, w.1, .inr hx⟩
theorem wr_lo {a : List Int} {x lo hi : Int} (h0 : 0 ≤ lo) (h1 : hi ≤ a.length) (w : WR a x lo hi) (h : lo < hi) (hx : ¬ x < a.getD ((lo + hi).fdiv 2).toNat 0) :
    (0 ≤ (lo + hi).fdiv 2 + 1 ∧ (lo + hi).fdiv 2 + 1 ≤ hi ∧ hi ≤ (a.length : Int)) ∧ WR a x ((lo + hi).fdiv 2 + 1) hi := by
  have := mid_facts h
  refine ⟨by omega, .inr ?_, w.2⟩
  rw [show (lo + hi).fdiv 2 + 1 - 1 = (lo + hi).fdiv 2 by omega]
  omega
theorem wl_lo {a : List Int} {x lo hi : Int} (h0 : 0 ≤ lo) (h1 : hi ≤ a.length) (w : WL a x lo hi) (h : lo < hi) (hx : a.getD ((lo + hi).fdiv 2).toNat 0 < x) :
    (0 ≤ (lo + hi).fdiv 2 + 1 ∧ (lo + hi).fdiv 2 + 1 ≤ hi ∧ hi ≤ (a.length : Int)) ∧ WL a x ((lo + hi).fdiv 2 + 1) hi := by
  have := mid_facts h
  refine ⟨by omega, .inr ?_, w.2⟩
  rw [show (lo + hi).fdiv 2 + 1 - 1 = (lo + hi).fdiv 2 by omega]
  omega
theorem wl_hi {a : List Int} {x lo hi : Int} (h0 : 0 ≤ lo) (h1 : hi ≤ a.length) (w : WL a x lo hi) (h : lo < hi) (hx : ¬ a.getD ((lo + hi).fdiv 2).toNat 0 < x) :
    (0 ≤ lo ∧ lo ≤ (lo + hi).fdiv 2 ∧ (lo + hi).fdiv 2 ≤ (a.length : Int)) ∧ WL a x lo ((lo + hi).fdiv 2) := by
  have := mid_facts h
  exact ⟨by omega, w.1, .inr (by omega)⟩
theorem mid_lo {lo hi : Int} (h : lo < hi) : (hi - ((lo + hi).fdiv 2 + 1)).toNat < (hi - lo).toNat := by
  have := mid_facts h
  omega
theorem mid_hi {lo hi : Int} (h : lo < hi) : ((lo + hi).fdiv 2 - lo).toNat < (hi - lo).toNat := by
  have := mid_facts h
  omega
theorem br_end {a : List Int} {x lo hi : Int} (h0 : 0 ≤ lo) (h1 : lo ≤ hi) (h2 : hi ≤ a.length) (w : WR a x lo hi) (h : ¬ lo < hi) : BR a x lo := by
  have : hi = lo := by omega
  subst this
  exact ⟨h0, h2, w⟩
theorem bl_end {a : List Int} {x lo hi : Int} (h0 : 0 ≤ lo) (h1 : lo ≤ hi) (h2 : hi ≤ a.length) (w : WL a x lo hi) (h : ¬ lo < hi) : BL a x lo := by
  have : hi = lo := by omega
  subst this
  exact ⟨h0, h2, w⟩

/-- a search function's contract upon a list of the ledger's -/
def BisTells (rel : List Int → Int → Int → Prop) (prog : Program) (w : World) (K : Frag) (p : Program) (loose : List Str) (mean : ExcName → Option Value) (mg mb : Str → Option Value) (f : Addr) : Prop :=
  ∀ (dp un : Nat) (gd : Option (List Code)) (cn : Str) (cs : Scope) (a : Addr) (ccd : Value) (cl : List (Str × Addr)) (outer : List Env) (A₀ : Around) (base h₀ : Heap) (L : Addr) (m : Str → Option Value) (news : List (Addr × Obj)) (s : Shared) (l : Addr) (vs : List Value) (ns : List Int) (nn : Nat) (x : Int) (tk : Tok)
    (Q E : Value → Shared → Prop),
    Below A₀ base outer h₀ → Fr h₀ L s.heap m → K.In h₀ → News h₀ L s.heap news → Top p loose mean mg mb h₀ → cs.kind = .function → (l, listOf vs.toArray nn) ∈ news → IntsAre vs ns → ns.length ≤ 2 ^ 20 → dp + 1 < recursionLimit → un + 8 < cLine →
    (∀ (r : Int) (t : Tok) (h' : Heap) (tk' : Nat), rel ns x r → Fr h₀ L h' m → News h₀ L h' news → Q (.int r t) { s with heap := h', toks := tk' }) →
    wpAny (model prog w) (ktrTop dp un gd cn cs L a ccd cl outer) (call (.ref f) [.ref l, .int x tk]) Q E s

theorem bis_ret {rel : List Int → Int → Int → Prop} {h₀ h' : Heap} {L : Addr} {m : Str → Option Value} {news : List (Addr × Obj)} {ns : List Int} {x : Int} {s : Shared} {Q : Value → Shared → Prop} {y : Int} {t : Tok} {tk' : Nat} {p : Addr × Obj}
    (hret : ∀ (r : Int) (t : Tok) (h' : Heap) (tk' : Nat), rel ns x r → Fr h₀ L h' m → News h₀ L h' news → Q (.int r t) { s with heap := h', toks := tk' }) (e : rel ns x y) (F : Fr h₀ L h' m) (N : News h₀ L h' (p :: news)) : Q (.int y t) { s with heap := h', toks := tk' } :=
  hret y t h' tk' e F (fun q hq => N q (.tail _ hq))
theorem news_dup {h₀ h : Heap} {L : Addr} {p : Addr × Obj} {news : List (Addr × Obj)} (N : News h₀ L h news) (hp : p ∈ news) : News h₀ L h (p :: news) := fun q hq => by
  rcases List.mem_cons.mp hq with rfl | hq
  · exact N _ hp
  · exact N q hq
/-- the claim for the program that a head is about -/
def ClaimOf {q : Program} {loose : List Str} {XP : (Str → Option Value) → Heap → Prop} {K : Params → Frag} {as : List Addr} {e : ∀ P, as = (K P).map (·.1)} {r : RowW} {d : DefRec} {kwd : List (Str × Expr)} {run : Value → List Value → Sem Value} {H : Prop}
    (_hd : WalkO q loose XP (kHook K as e).says r d kwd run → H) (C : Program → World → Frag → Program → List Str → (ExcName → Option Value) → (Str → Option Value) → (Str → Option Value) → Prop) : Prop :=
  ∀ (w : World) (mean : ExcName → Option Value) (mg mb : Str → Option Value), C r.prog w (K w.params) q (looseW q loose) mean mg mb
end Mine
namespace Mine
theorem ClaimOf.at {q : Program} {loose : List Str} {XP : (Str → Option Value) → Heap → Prop} {K : Params → Frag} {as : List Addr} {e : ∀ P, as = (K P).map (·.1)} {r : RowW} {d : DefRec} {kwd : List (Str × Expr)} {run : Value → List Value → Sem Value} {H : Prop}
    {hd : WalkO q loose XP (kHook K as e).says r d kwd run → H} {C : Program → World → Frag → Program → List Str → (ExcName → Option Value) → (Str → Option Value) → (Str → Option Value) → Prop} (h : ClaimOf hd C)
    (w : World) (mean : ExcName → Option Value) (mg mb : Str → Option Value) : C r.prog w (K w.params) q (looseW q loose) mean mg mb := h w mean mg mb
end Mine
namespace Mine
theorem bis_use {rel : List Int → Int → Int → Prop} {prog : Program} {w : World} {K : Frag} {p : Program} {loose : List Str} {mean : ExcName → Option Value} {mg mb : Str → Option Value} {f : Addr}
    {dp un : Nat} {gd : Option (List Code)} {cn : Str} {cs : Scope} {a : Addr} {ccd : Value} {cl : List (Str × Addr)} {outer : List Env} {A₀ : Around} {base h₀ : Heap} {L : Addr} {m : Str → Option Value} {news : List (Addr × Obj)} {s : Shared} {l : Addr} {vs : List Value} {ns : List Int} {nn : Nat} {x : Int} {tk : Tok}
    {Q E : Value → Shared → Prop} (B : Below A₀ base outer h₀) (F : Fr h₀ L s.heap m) (X : K.In h₀) (N : News h₀ L s.heap news) (T : Top p loose mean mg mb h₀) (hk : cs.kind = .function) (hm : (l, listOf vs.toArray nn) ∈ news) (hi : IntsAre vs ns) (hfit : ns.length ≤ 2 ^ 20)
    (C : BisTells rel prog w K p loose mean mg mb f) (hd : dp + 1 < recursionLimit) (hu : un + 8 < cLine)
    (ret : ∀ (r : Int) (t : Tok) (h' : Heap) (tk' : Nat), rel ns x r → Fr h₀ L h' m → News h₀ L h' news → Q (.int r t) { s with heap := h', toks := tk' }) :
    wpAny (model prog w) (ktrTop dp un gd cn cs L a ccd cl outer) (call (.ref f) [.ref l, .int x tk]) Q E s := C _ _ _ _ _ _ _ _ _ _ _ _ _ _ _ _ _ _ _ _ _ _ _ _ B F X N T hk hm hi hfit hd hu ret
theorem bool_end {p : Prop} [Decidable p] (h : p) : (decide p == true) = true := by simp [h]
end Mine
namespace Mine
/-- the same contract, lo and hi handed over as 0 and None -/
def BisTells4 (rel : List Int → Int → Int → Prop) (prog : Program) (w : World) (K : Frag) (p : Program) (loose : List Str) (mean : ExcName → Option Value) (mg mb : Str → Option Value) (f : Addr) : Prop :=
  ∀ (dp un : Nat) (gd : Option (List Code)) (cn : Str) (cs : Scope) (a : Addr) (ccd : Value) (cl : List (Str × Addr)) (outer : List Env) (A₀ : Around) (base h₀ : Heap) (L : Addr) (m : Str → Option Value) (news : List (Addr × Obj)) (s : Shared) (l : Addr) (vs : List Value) (ns : List Int) (nn : Nat) (x : Int) (tk t0 : Tok)
    (Q E : Value → Shared → Prop),
    Below A₀ base outer h₀ → Fr h₀ L s.heap m → K.In h₀ → News h₀ L s.heap news → Top p loose mean mg mb h₀ → cs.kind = .function → (l, listOf vs.toArray nn) ∈ news → IntsAre vs ns → ns.length ≤ 2 ^ 20 → dp + 1 < recursionLimit → un + 8 < cLine →
    (∀ (r : Int) (t : Tok) (h' : Heap) (tk' : Nat), rel ns x r → Fr h₀ L h' m → News h₀ L h' news → Q (.int r t) { s with heap := h', toks := tk' }) →
    wpAny (model prog w) (ktrTop dp un gd cn cs L a ccd cl outer) (call (.ref f) [.ref l, .int x tk, .int 0 t0, .none]) Q E s
theorem bis_use4 {rel : List Int → Int → Int → Prop} {prog : Program} {w : World} {K : Frag} {p : Program} {loose : List Str} {mean : ExcName → Option Value} {mg mb : Str → Option Value} {f : Addr}
    {dp un : Nat} {gd : Option (List Code)} {cn : Str} {cs : Scope} {a : Addr} {ccd : Value} {cl : List (Str × Addr)} {outer : List Env} {A₀ : Around} {base h₀ : Heap} {L : Addr} {m : Str → Option Value} {news : List (Addr × Obj)} {s : Shared} {l : Addr} {vs : List Value} {ns : List Int} {nn : Nat} {x : Int} {tk t0 : Tok}
    {Q E : Value → Shared → Prop} (B : Below A₀ base outer h₀) (F : Fr h₀ L s.heap m) (X : K.In h₀) (N : News h₀ L s.heap news) (T : Top p loose mean mg mb h₀) (hk : cs.kind = .function) (hm : (l, listOf vs.toArray nn) ∈ news) (hi : IntsAre vs ns) (hfit : ns.length ≤ 2 ^ 20)
    (C : BisTells4 rel prog w K p loose mean mg mb f) (hd : dp + 1 < recursionLimit) (hu : un + 8 < cLine)
    (ret : ∀ (r : Int) (t : Tok) (h' : Heap) (tk' : Nat), rel ns x r → Fr h₀ L h' m → News h₀ L h' news → Q (.int r t) { s with heap := h', toks := tk' }) :
    wpAny (model prog w) (ktrTop dp un gd cn cs L a ccd cl outer) (call (.ref f) [.ref l, .int x tk, .int 0 t0, .none]) Q E s := C _ _ _ _ _ _ _ _ _ _ _ _ _ _ _ _ _ _ _ _ _ _ _ _ _ B F X N T hk hm hi hfit hd hu ret
end Mine
namespace Mine
def Srt (a : List Int) : Prop := ∀ i j : Nat, i ≤ j → j < a.length → a.getD i 0 ≤ a.getD j 0
def SrtS (a : List Int) : Prop := ∀ i j : Nat, i < j → j < a.length → a.getD i 0 < a.getD j 0
theorem SrtS.srt {a : List Int} (h : SrtS a) : Srt a := fun i j hij hj => by
  rcases Nat.lt_or_eq_of_le hij with h1 | rfl
  · exact Int.le_of_lt (h i j h1 hj)
  · exact Int.le_refl _
theorem BR.lo {a : List Int} {x r : Int} (hs : Srt a) (h : BR a x r) {i : Nat} (hi : (i : Int) < r) : a.getD i 0 ≤ x := by
  obtain ⟨h0, h1, h2, _⟩ := h
  rcases h2 with h2 | h2
  · omega
  · exact Int.le_trans (hs i (r - 1).toNat (by omega) (by omega)) h2
theorem BR.hi {a : List Int} {x r : Int} (hs : Srt a) (h : BR a x r) {i : Nat} (hi : r ≤ (i : Int)) (hl : i < a.length) : x < a.getD i 0 := by
  obtain ⟨h0, h1, _, h2⟩ := h
  rcases h2 with h2 | h2
  · omega
  · exact Int.lt_of_lt_of_le h2 (hs r.toNat i (by omega) hl)
theorem BL.lo {a : List Int} {x r : Int} (hs : Srt a) (h : BL a x r) {i : Nat} (hi : (i : Int) < r) : a.getD i 0 < x := by
  obtain ⟨h0, h1, h2, _⟩ := h
  rcases h2 with h2 | h2
  · omega
  · exact Int.lt_of_le_of_lt (hs i (r - 1).toNat (by omega) (by omega)) h2
theorem BL.hi {a : List Int} {x r : Int} (hs : Srt a) (h : BL a x r) {i : Nat} (hi : r ≤ (i : Int)) (hl : i < a.length) : x ≤ a.getD i 0 := by
  obtain ⟨h0, h1, _, h2⟩ := h
  rcases h2 with h2 | h2
  · omega
  · exact Int.le_trans h2 (hs r.toNat i (by omega) hl)

end Mine
namespace Mine
abbrev rngO (a b c : Int) (t u v : Tok) : Obj := { cls := .type "range", dict := none, data := .fields #[.int a t, .int b u, .int c v], slots := #[] }
section
variable {prog : Program} {w : World} {A : Around} {E : Value → Shared → Prop} {s : Shared}
theorem getItem_range {r : Addr} {a b c k : Int} {t u v tk : Tok} {Q : Value → Shared → Prop} (hr : IsRange s.heap r a b c t u v) (h0 : 0 ≤ k) (h1 : k < Builtin.Range.rangeSize a b c)
    (h : Q (.int (a + k * c) s.toks) { s with toks := s.toks + 1 }) : wpAny (model prog w) A (getItem (.ref r) (.int k tk)) Q E s := by
  have hT : s.TypeIs (.ref r) "range" := ⟨_, hr, rfl⟩
  refine wpAny_getItem_slot hT (by decide) F.slot_range_getitem (wpAny_call_entry F.slot_range_getitem hT F.entry_range_getitem ?_ (F.args_range_getitem_2 _ _))
  obtain ⟨hp, g, d, tks, os⟩ := s
  wp_walk using wpAny_loadPart' hr
  rw [int_index]
  refine wpAny_pure ?_
  dsimp only
  rw [if_neg (by simp)]
  refine wpAny_bind (wpAny_of_eq (a := k) rfl ?_)
  rw [if_neg (show ¬ k < 0 by omega), if_neg (by simp; omega)]
  wp_walk
  exact ⟨_, rfl, h⟩
theorem item_range {r : Addr} {a b c k : Int} {t u v tk : Tok} {value slice : Expr} {Q : Value → Shared → Prop} (hr : IsRange s.heap r a b c t u v) (h0 : 0 ≤ k) (h1 : k < Builtin.Range.rangeSize a b c)
    (h : Q (.int (a + k * c) s.toks) { s with toks := s.toks + 1 })
    (hs : subscripted slice false (.ref r) (.int k tk) = operate [.ref r, .int k tk] (getItem (.ref r) (.int k tk)) := by with_unfolding_all rfl) :
    wpAny (model prog w) A (subscriptTail value slice (.ref r) (.int k tk)) Q E s :=
  tail_any ⟨_, hr, rfl⟩ F.slot_range_getitem.lookup (getItem_range hr h0 h1 h) hs
end
section
variable {prog : Program} {w : World} {A : Around} {E : Value → Shared → Prop} {s : Shared} {h₀ : Heap} {L : Addr} {m : Str → Option Value} {news : List (Addr × Obj)}
/-- range(n) onto the ledger -/
theorem range1_led {Q : Value → Shared → Prop} {n : Int} {t : Tok} (F : Fr h₀ L s.heap m) (N : News h₀ L s.heap news)
    (h : ∀ r h' tk t₁ u₁ v₁, (∀ p ∈ news, p.1 < r) → Fr h₀ L h' m → News h₀ L h' ((r, rngO 0 n 1 t₁ u₁ v₁) :: news) → Q (.ref r) { s with heap := h', toks := tk }) :
    wpAny (model prog w) A (call (.type "range") [.int n t]) Q E s := by
  refine range1_rows F N fun h' tk t₁ u₁ v₁ hr F' N' _ => h _ h' tk t₁ u₁ v₁ (fun p hp => Heap.lt_size (N p hp).1) F' fun p hp => ?_
  rcases List.mem_cons.mp hp with rfl | hp
  · exact ⟨hr, Nat.ne_of_gt F.ns.lt, next_is_new F⟩
  · exact N' p hp
theorem len_range_led {Q : Value → Shared → Prop} {r : Addr} {n : Nat} {t u v : Tok} (N : News h₀ L s.heap news) (hm : (r, rngO 0 (n : Int) 1 t u v) ∈ news) (hfit : (n : Int) < 2 ^ 62)
    (h : Q (.int n (s.toks + 1)) { s with toks := s.toks + 1 + 1 }) : wpAny (model prog w) A (call (.builtin "len") [.ref r]) Q E s :=
  call_len_range (N _ hm).1 (by rw [rangeSize_nat]; omega) (by omega) h
theorem item_range_led {Q : Value → Shared → Prop} {r : Addr} {n : Nat} {k : Int} {t u v tk : Tok} {value slice : Expr} (N : News h₀ L s.heap news) (hm : (r, rngO 0 (n : Int) 1 t u v) ∈ news) (h0 : 0 ≤ k) (h1 : k < n)
    (h : Q (.int k s.toks) { s with toks := s.toks + 1 })
    (hs : subscripted slice false (.ref r) (.int k tk) = operate [.ref r, .int k tk] (getItem (.ref r) (.int k tk)) := by with_unfolding_all rfl) :
    wpAny (model prog w) A (subscriptTail value slice (.ref r) (.int k tk)) Q E s :=
  item_range (N _ hm).1 h0 (by rw [rangeSize_nat]; omega) (by rw [Int.mul_one, Int.zero_add]; exact h) hs
end
end Mine
namespace Mine
inductive All2 {α : Type} (R : α → Value → Prop) : List α → List Value → Prop
  | nil : All2 R [] []
  | cons {d : α} {v : Value} {ds : List α} {vs : List Value} : R d v → All2 R ds vs → All2 R (d :: ds) (v :: vs)
theorem All2.snoc {α : Type} {R : α → Value → Prop} {d : α} {v : Value} (h : R d v) : ∀ {ds : List α} {vs : List Value}, All2 R ds vs → All2 R (ds ++ [d]) (vs ++ [v])
  | _, _, .nil => .cons h .nil
  | _, _, .cons a r => .cons a (r.snoc h)
theorem All2.ints {g : Int → Int} : ∀ {ks : List Int} {vs : List Value}, All2 (fun k y => ∃ t, y = Value.int (g k) t) ks vs → IntsAre vs (ks.map g)
  | _, _, .nil => .nil
  | _, _, .cons ⟨t, e⟩ r => by rw [e]; exact .cons _ t r.ints
theorem All2.length {α : Type} {R : α → Value → Prop} : ∀ {ds : List α} {vs : List Value}, All2 R ds vs → vs.length = ds.length
  | _, _, .nil => rfl
  | _, _, .cons _ r => by simp [r.length]
theorem All2.get {α : Type} {R : α → Value → Prop} : ∀ {ds : List α} {vs : List Value}, All2 R ds vs → ∀ {i : Nat} {v : Value}, vs[i]? = some v → ∃ d, ds[i]? = some d ∧ R d v
  | _, _, .nil, i, v, h => by simp at h
  | _, _, .cons a r, 0, v, h => by simp at h; subst h; exact ⟨_, rfl, a⟩
  | _, _, .cons a r, i + 1, v, h => by simp only [List.getElem?_cons_succ] at h ⊢; exact r.get h

/-- the end of an item's evaluation in a comprehension -/
def CtEnd (h₀ : Heap) (L : Addr) (m : Str → Option Value) (s₁ : Shared) (need : List (Addr × Obj)) (R : Prop) (s₂ : Shared) : Prop :=
  ∃ h' tk nw, s₂ = { s₁ with heap := h', toks := tk } ∧ Fr h₀ L h' m ∧ News h₀ L h' nw ∧ (∀ p ∈ need, p ∈ nw) ∧ R
theorem ct_end {h₀ : Heap} {L : Addr} {m : Str → Option Value} {s₁ : Shared} {need nw : List (Addr × Obj)} {R : Prop} {h' : Heap} {tk : Nat} (F : Fr h₀ L h' m) (N : News h₀ L h' nw) (hn : ∀ p ∈ need, p ∈ nw) (r : R) : CtEnd h₀ L m s₁ need R { s₁ with heap := h', toks := tk } :=
  ⟨h', tk, nw, rfl, F, N, hn, r⟩
section
variable {prog : Program} {w : World} {A : Around} {h₀ : Heap} {L : Addr} {m : Str → Option Value} {env : Env} {ct elt : Expr} {x : Str} {scope : Scope} {cl : List (Str × Addr)} {s : Shared} {S : List (Addr × Obj) → Prop} {P : Nat → Value → Prop} {Fin : List Value → List (Addr × Obj) → Prop} {news : List (Addr × Obj)}
theorem ct_rest {α : Type} {n : Nat} {ds : List α} {V : α → Value → Prop} (p : α → Bool) (O : α → Value → Prop) (hds : ds.length = n) (hP : ∀ i v, i < n → P i v → ∃ d, ds[i]? = some d ∧ V d v) (hS : S news)
    (turn : ∀ d v I oI C oC D m₂ ys h tk (E' : Value → Shared → Prop), d ∈ ds → V d v → LCg.NsObj oC m₂ → m₂ x = some v → Fr h₀ L h m → News h₀ L h ((I, oI) :: (C, oC) :: (D, LCg.lst ys) :: news) → LCg.Off3 I C D news → ((@Ne Nat I C) ∧ (@Ne Nat I D) ∧ (@Ne Nat C D)) →
      wpAny (model prog w) A (isTrue ct (compEnvC scope cl C env) (eval ct (compEnvC scope cl C env))) (fun ok s' => if ok = true then
        wpAny (model prog w) A (eval elt (compEnvC scope cl C env)) (fun y s'' => CtEnd h₀ L m { s with heap := h, toks := tk } ((I, oI) :: (C, oC) :: (D, LCg.lst ys) :: news) (p d = true ∧ O d y) s'') E' s'
        else CtEnd h₀ L m { s with heap := h, toks := tk } ((I, oI) :: (C, oC) :: (D, LCg.lst ys) :: news) (p d = false) s') E' { s with heap := h, toks := tk })
    (fin : ∀ ys, All2 O (ds.filter p) ys → Fin ys news) : LCt.CompRestT prog w A h₀ L m env ct elt x scope cl s S P Fin n 0 [] news := by
  have key : ∀ (j i : Nat) (ys : List Value), i + j = n → All2 O ((ds.take i).filter p) ys → LCt.CompRestT prog w A h₀ L m env ct elt x scope cl s S P Fin j i ys news := by
    intro j
    induction j with
    | zero =>
      intro i ys hi hy
      have e : i = ds.length := by omega
      subst e
      rw [List.take_length] at hy
      exact LCt.CompRestT.zero (fin ys hy)
    | succ j ih =>
      intro i ys hi hy
      refine LCt.CompRestT.succ ?_
      intro v I oI C oC D m₂ h tk E' hv hC hx F N off ne
      obtain ⟨d, hd, hV⟩ := hP i v (by omega) hv
      have ht : ds.take (i + 1) = ds.take i ++ [d] := by rw [List.take_add_one, hd]; rfl
      refine wpAny_mono (turn d v I oI C oC D m₂ ys h tk E' (List.mem_of_getElem? hd) hV hC hx F N off ne) (fun ok s₂ hq => ?_) fun _ _ e => e
      cases ok with
      | true =>
        simp only [if_true] at hq ⊢
        refine wpAny_mono hq (fun y s₃ hz => ?_) fun _ _ e => e
        obtain ⟨h', tk', nw, e, F', N', hn', hp', hO⟩ := hz
        refine ⟨h', tk', news, e, F', fun q hq => N' q (hn' q hq), off, hS, ih (i + 1) _ (by omega) ?_⟩
        rw [ht, List.filter_append]
        simp only [List.filter_cons, hp', if_true, List.filter_nil]
        exact hy.snoc hO
      | false =>
        simp only [Bool.false_eq_true, if_false] at hq ⊢
        obtain ⟨h', tk', nw, e, F', N', hn', hp'⟩ := hq
        refine ⟨h', tk', news, e, F', fun q hq => N' q (hn' q hq), off, hS, ih (i + 1) _ (by omega) ?_⟩
        rw [ht, List.filter_append]
        simp only [List.filter_cons, hp', Bool.false_eq_true, if_false, List.filter_nil, List.append_nil]
        exact hy
  exact key n 0 [] (by omega) (by simp only [List.take_zero, List.filter_nil]; exact .nil)
theorem ct_restU {α : Type} {n : Nat} {ds : List α} {V : α → Value → Prop} (O : α → Value → Prop) (hds : ds.length = n) (hP : ∀ i v, i < n → P i v → ∃ d, ds[i]? = some d ∧ V d v) (hS : S news)
    (turn : ∀ d v I oI C oC D m₂ ys h tk (E' : Value → Shared → Prop), d ∈ ds → V d v → LCg.NsObj oC m₂ → m₂ x = some v → Fr h₀ L h m → News h₀ L h ((I, oI) :: (C, oC) :: (D, LCg.lst ys) :: news) → LCg.Off3 I C D news → ((@Ne Nat I C) ∧ (@Ne Nat I D) ∧ (@Ne Nat C D)) →
      wpAny (model prog w) A (eval elt (compEnvC scope cl C env)) (fun y s'' => CtEnd h₀ L m { s with heap := h, toks := tk } ((I, oI) :: (C, oC) :: (D, LCg.lst ys) :: news) (O d y) s'') E' { s with heap := h, toks := tk })
    (fin : ∀ ys, All2 O ds ys → Fin ys news) : LCg.CompRest prog w A h₀ L m env elt x scope cl s S P Fin n 0 [] news := by
  have key : ∀ (j i : Nat) (ys : List Value), i + j = n → All2 O (ds.take i) ys → LCg.CompRest prog w A h₀ L m env elt x scope cl s S P Fin j i ys news := by
    intro j
    induction j with
    | zero =>
      intro i ys hi hy
      have e : i = ds.length := by omega
      subst e
      rw [List.take_length] at hy
      exact LCg.CompRest.zero (fin ys hy)
    | succ j ih =>
      intro i ys hi hy
      refine LCg.CompRest.succ ?_
      intro v I oI C oC D m₂ h tk E' hv hC hx F N off ne
      obtain ⟨d, hd, hV⟩ := hP i v (by omega) hv
      have ht : ds.take (i + 1) = ds.take i ++ [d] := by rw [List.take_add_one, hd]; rfl
      refine wpAny_mono (turn d v I oI C oC D m₂ ys h tk E' (List.mem_of_getElem? hd) hV hC hx F N off ne) (fun y s₂ hq => ?_) fun _ _ e => e
      obtain ⟨h', tk', nw, e, F', N', hn', hO⟩ := hq
      refine ⟨h', tk', news, e, F', fun q hq => N' q (hn' q hq), off, hS, ih (i + 1) _ (by omega) ?_⟩
      rw [ht]
      exact hy.snoc hO
  exact key n 0 [] (by omega) (by simp only [List.take_zero]; exact .nil)
end
section
variable {prog : Program} {w : World} {A : Around} {h₀ : Heap} {L : Addr} {m : Str → Option Value} {env : Env} {ct elt : Expr} {x : Str} {scope : Scope} {cl : List (Str × Addr)} {s : Shared} {Fin : Shared → List Value → List (Addr × Obj) → Prop} {news : List (Addr × Obj)}
/-- a list of ints of the ledger's, one test, an int element -/
theorem ct_intsL {ax : Addr} {vs : List Value} {ks : List Int} {k : Nat} (p : Int → Bool) (g : Int → Int) (hh : A.handled = none) (F : Fr h₀ L s.heap m) (N : News h₀ L s.heap news) (hm : (ax, listOf vs.toArray k) ∈ news) (hi : IntsAre vs ks) (hsz : ks.length ≤ sizeLine)
    (turn : ∀ d t I oI C oC D m₂ ys hp h tk (E' : Value → Shared → Prop), d ∈ ks → LCg.NsObj oC m₂ → m₂ x = some (.int d t) → Fr h₀ L h m → News h₀ L h ((I, oI) :: (C, oC) :: (D, LCg.lst ys) :: news) → LCg.Off3 I C D news → ((@Ne Nat I C) ∧ (@Ne Nat I D) ∧ (@Ne Nat C D)) →
      wpAny (model prog w) A (isTrue ct (compEnvC scope cl C env) (eval ct (compEnvC scope cl C env))) (fun ok s' => if ok = true then
        wpAny (model prog w) A (eval elt (compEnvC scope cl C env)) (fun y s'' => CtEnd h₀ L m { s with heap := h, toks := tk } ((I, oI) :: (C, oC) :: (D, LCg.lst ys) :: news) (p d = true ∧ ∃ t', y = .int (g d) t') s'') E' s'
        else CtEnd h₀ L m { s with heap := h, toks := tk } ((I, oI) :: (C, oC) :: (D, LCg.lst ys) :: news) (p d = false) s') E' { { s with heap := hp } with heap := h, toks := tk })
    (fin : ∀ h ys, IntsAre ys ((ks.filter p).map g) → Fin { s with heap := h } ys news) : LCt.CompSrcT prog w A h₀ L m env ct elt x scope cl Fin (.ref ax) s := by
  have hl : vs.toArray.size = ks.length := by rw [List.size_toArray, hi.length]
  refine LCt.CompSrcT.ledger hh F N hm (by rw [hl]; exact hsz) fun hg => ?_
  refine ct_rest (ds := ks) (V := fun d v => ∃ t, v = .int d t) p (fun d y => ∃ t', y = .int (g d) t') hl.symm (fun i v _ hv => ?_) (.inr ⟨_, hm, rfl, _, rfl⟩) ?_ fun ys hy => fin hg ys hy.ints
  · obtain ⟨d, t, e, hk⟩ := IntsAre.at hi i v (by simpa using hv)
    exact ⟨d, hk, t, e⟩
  · rintro d v I oI C oC D m₂ ys h tk E' hd ⟨t, rfl⟩ hC hx F' N' off ne
    exact turn d t I oI C oC D m₂ ys hg h tk E' hd hC hx F' N' off ne
/-- the same, the element is the item itself -/
theorem ct_filtL {ax : Addr} {vs : List Value} {ks : List Int} {k : Nat} (p : Int → Bool) (hh : A.handled = none) (F : Fr h₀ L s.heap m) (N : News h₀ L s.heap news) (hm : (ax, listOf vs.toArray k) ∈ news) (hi : IntsAre vs ks) (hsz : ks.length ≤ sizeLine)
    (turn : ∀ d t I oI C oC D m₂ ys hp h tk (E' : Value → Shared → Prop), d ∈ ks → LCg.NsObj oC m₂ → m₂ x = some (.int d t) → Fr h₀ L h m → News h₀ L h ((I, oI) :: (C, oC) :: (D, LCg.lst ys) :: news) → LCg.Off3 I C D news → ((@Ne Nat I C) ∧ (@Ne Nat I D) ∧ (@Ne Nat C D)) →
      wpAny (model prog w) A (isTrue ct (compEnvC scope cl C env) (eval ct (compEnvC scope cl C env))) (fun ok s' => if ok = true then
        wpAny (model prog w) A (eval elt (compEnvC scope cl C env)) (fun y s'' => CtEnd h₀ L m { s with heap := h, toks := tk } ((I, oI) :: (C, oC) :: (D, LCg.lst ys) :: news) (p d = true ∧ ∃ t', y = .int d t') s'') E' s'
        else CtEnd h₀ L m { s with heap := h, toks := tk } ((I, oI) :: (C, oC) :: (D, LCg.lst ys) :: news) (p d = false) s') E' { { s with heap := hp } with heap := h, toks := tk })
    (fin : ∀ h ys, IntsAre ys (ks.filter p) → Fin { s with heap := h } ys news) : LCt.CompSrcT prog w A h₀ L m env ct elt x scope cl Fin (.ref ax) s :=
  ct_intsL p (fun d => d) hh F N hm hi hsz turn fun h ys hy => fin h ys (by simpa using hy)
end
theorem ints_filter_le {ys : List Value} {ks : List Int} {p : Int → Bool} (_h : IntsAre ys (ks.filter p)) : (ks.filter p).length ≤ ks.length := List.length_filter_le _ _
section
variable {prog : Program} {w : World} {A : Around} {h₀ : Heap} {L : Addr} {m : Str → Option Value} {env : Env} {ct elt : Expr} {x : Str} {scope : Scope} {cl : List (Str × Addr)} {s : Shared} {Fin : Shared → List Value → List (Addr × Obj) → Prop} {news : List (Addr × Obj)}
def upTo (n : Nat) : List Int := (List.range n).map Int.ofNat
theorem upTo_length (n : Nat) : (upTo n).length = n := by simp [upTo]
theorem mem_upTo {n : Nat} {d : Int} (h : d ∈ upTo n) : 0 ≤ d ∧ d < n := by
  obtain ⟨i, hi, rfl⟩ := List.mem_map.mp h
  have := List.mem_range.mp hi
  show 0 ≤ (i : Int) ∧ (i : Int) < n
  omega
/-- over a range from nought, one test, the element is the item itself -/
theorem ct_filtR {r : Addr} {n : Nat} {t₀ u₀ v₀ : Tok} (p : Int → Bool) (hh : A.handled = none) (F : Fr h₀ L s.heap m) (N : News h₀ L s.heap news) (hr : IsRange s.heap r 0 (n : Int) 1 t₀ u₀ v₀) (hsz : n ≤ 2 ^ 20)
    (turn : ∀ d t I oI C oC D m₂ ys hp h tk (E' : Value → Shared → Prop), 0 ≤ d → d < (n : Int) → LCg.NsObj oC m₂ → m₂ x = some (.int d t) → Fr h₀ L h m → News h₀ L h ((I, oI) :: (C, oC) :: (D, LCg.lst ys) :: news) → LCg.Off3 I C D news → ((@Ne Nat I C) ∧ (@Ne Nat I D) ∧ (@Ne Nat C D)) →
      wpAny (model prog w) A (isTrue ct (compEnvC scope cl C env) (eval ct (compEnvC scope cl C env))) (fun ok s' => if ok = true then
        wpAny (model prog w) A (eval elt (compEnvC scope cl C env)) (fun y s'' => CtEnd h₀ L m { s with heap := h, toks := tk } ((I, oI) :: (C, oC) :: (D, LCg.lst ys) :: news) (p d = true ∧ ∃ t', y = .int d t') s'') E' s'
        else CtEnd h₀ L m { s with heap := h, toks := tk } ((I, oI) :: (C, oC) :: (D, LCg.lst ys) :: news) (p d = false) s') E' { { s with heap := hp } with heap := h, toks := tk })
    (fin : ∀ h ys, IntsAre ys ((upTo n).filter p) → Fin { s with heap := h } ys news) : LCt.CompSrcT prog w A h₀ L m env ct elt x scope cl Fin (.ref r) s := by
  refine LCt.CompSrcT.range (n := n) hh F N hr (small_one (by omega) (by omega) (by omega) (by omega)) (by rw [rangeSize_nat]; omega) (by rw [sizeLine_eq]; omega) fun hg => ?_
  refine ct_rest (ds := upTo n) (V := fun d v => ∃ t, v = .int d t) p (fun d y => ∃ t', y = .int d t') (upTo_length n) (fun i v hi hv => ?_) trivial ?_ fun ys hy => fin hg ys (by simpa using (All2.ints (g := fun d => d) hy))
  · obtain ⟨t, rfl⟩ := hv
    exact ⟨(i : Int), by simp [upTo, hi], t, by rw [Int.zero_add]⟩
  · rintro d v I oI C oC D m₂ ys h tk E' hd ⟨t, rfl⟩ hC hx F' N' off ne
    exact turn d t I oI C oC D m₂ ys hg h tk E' (mem_upTo hd).1 (mem_upTo hd).2 hC hx F' N' off ne
end
end Mine
namespace Mine
section
variable {prog : Program} {w : World} {A : Around} {E : Value → Shared → Prop} {s : Shared} {env : Env} {h₀ : Heap} {target : Expr} {body : List Stmt} {Q : Flow → Shared → Prop}

/-- a turn's end: the next state c' of the word, borne by the frame and the ledger -/
def GEnd {σ : Type} (h₀ : Heap) (L : Addr) (I : Addr) (it : Obj) (Led : σ → List (Addr × Obj)) (ps : σ → List (Str × Value)) (stored : List Str) (m₀ : Str → Option Value) (P : σ → Prop) (s₁ s₂ : Shared) : Prop :=
  ∃ (c' : σ) (h' : Heap) (tk : Nat) (m' : Str → Option Value) (news' : List (Addr × Obj)), s₂ = { s₁ with heap := h', toks := tk } ∧ Fr h₀ L h' m' ∧ News h₀ L h' news' ∧ (I, it) ∈ news' ∧ (∀ p ∈ Led c', p ∈ news') ∧ (∀ p ∈ Led c', p.1 ≠ I) ∧
    (∀ p ∈ ps c', m' p.1 = some p.2) ∧ (∀ z, (∀ p ∈ ps c', z ≠ p.1) → stored.contains z = false → m' z = m₀ z) ∧ P c'
def GPost {σ : Type} (h₀ : Heap) (L : Addr) (I : Addr) (it : Obj) (Led : σ → List (Addr × Obj)) (ps : σ → List (Str × Value)) (stored : List Str) (m₀ : Str → Option Value) (P : σ → Prop) (s₁ : Shared) (Q : Flow → Shared → Prop) (f : Flow) (s₂ : Shared) : Prop :=
  match f with
  | .ret v => Q (.ret v) s₂
  | .brk => Q .next s₂
  | _ => GEnd h₀ L I it Led ps stored m₀ P s₁ s₂
theorem g_end {σ : Type} {L I : Addr} {it : Obj} {Led : σ → List (Addr × Obj)} {ps : σ → List (Str × Value)} {stored : List Str} {m₀ m' : Str → Option Value} {P : σ → Prop} {s₁ : Shared} {h' : Heap} {tk : Nat} {news' : List (Addr × Obj)} (c' : σ)
    (F : Fr h₀ L h' m') (N : News h₀ L h' news') (hI : (I, it) ∈ news') (hn : ∀ p ∈ Led c', p ∈ news') (ho : ∀ p ∈ Led c', p.1 ≠ I) (hk : ∀ p ∈ ps c', m' p.1 = some p.2) (hr : ∀ z, (∀ p ∈ ps c', z ≠ p.1) → stored.contains z = false → m' z = m₀ z) (hp : P c') :
    GEnd h₀ L I it Led ps stored m₀ P s₁ { s₁ with heap := h', toks := tk } := ⟨c', h', tk, m', news', rfl, F, N, hI, hn, ho, hk, hr, hp⟩

theorem g_core {σ : Type} {I : Addr} {fp : List Addr} {n : Nat} {Pi Md : Nat → Value → Heap → Prop} {St : Nat → Heap → Prop} {m₀ : Str → Option Value} (Led : σ → List (Addr × Obj)) (ps : σ → List (Str × Value)) (stored : List Str) (P : Nat → σ → Prop) (c₀ : σ) (keep : List (Addr × Obj))
    (W : KTurns prog w A target I fp [I] n Pi Md St) (hLf : env.locals ∉ fp) (hI : h₀.get? I = none) (hfp : ∀ b ∈ fp, b = I ∨ (∃ o, h₀.get? b = some o) ∨ b ∈ keep.map (·.1)) (hkeep : ∀ c i, P i c → ∀ p ∈ keep, p ∈ Led c) (hit : ∀ i h, St i h → ∃ it, h.get? I = some it)
    (hoff : ∀ p ∈ Led c₀, p.1 ≠ I) (hst : St 0 s.heap) (F : Fr h₀ env.locals s.heap m₀) (N : News h₀ env.locals s.heap (Led c₀)) (hk : ∀ p ∈ ps c₀, m₀ p.1 = some p.2) (hp : P 0 c₀)
    (turn : ∀ (c : σ) i v (u : Str → Option Value) h tk it, i < n → Pi i v h → P i c → (∀ p ∈ Led c, p.1 ≠ I) → Fr h₀ env.locals h (kstB (fun z => if stored.contains z then u z else m₀ z) (ps c)) → News h₀ env.locals h ((I, it) :: Led c) →
      wpAny (model prog w) A (assign target env v) (fun _ s₃ => wpAny (model prog w) A (execs body env) (GPost h₀ env.locals I it Led ps stored m₀ (P (i + 1)) { s with heap := h, toks := tk } Q) E s₃) E { s with heap := h, toks := tk })
    (done : ∀ (c : σ) (u : Str → Option Value) h tk, P n c → Fr h₀ env.locals h (kstB (fun z => if stored.contains z then u z else m₀ z) (ps c)) → News h₀ env.locals h (Led c) → Q .next { s with heap := h, toks := tk }) :
    TurnsAt prog w A h₀ env target body Q E (.ref I) s := by
  let J : Nat → (Str → Option Value) → List (Addr × Obj) → Prop := fun i m nx => ∃ c : σ, nx = Led c ∧ (∀ p ∈ ps c, m p.1 = some p.2) ∧ (∀ z, (∀ p ∈ ps c, z ≠ p.1) → stored.contains z = false → m z = m₀ z) ∧ P i c
  refine ⟨I, fp, [I], n, Pi, Md, St, m₀, Led c₀, J, rfl, W, hLf, ?_, ?_, hst, F, N, ⟨c₀, rfl, hk, fun _ _ _ => rfl, hp⟩, ?_, ?_⟩
  · intro b hb; rw [List.mem_singleton.mp hb]; exact hI
  · intro p hp' hb; exact hoff p hp' (List.mem_singleton.mp hb)
  · rintro i v m₁ news₁ h₁ tk₁ own hin hPi ⟨c, rfl, hk₁, hr₁, hp₁⟩ hoff₁ hown hget hall hst₁ F₁ N₁
    have off : ∀ p ∈ Led c, p.1 ≠ I := fun p hp' e => hoff₁ p hp' (List.mem_singleton.mpr e)
    obtain ⟨it, hit₁⟩ := hit _ _ hst₁
    have hIm : (I, it) ∈ own := hall I (W.sub I (List.mem_singleton.mpr rfl)) hI it hit₁
    have N₂ : News h₀ env.locals h₁ ((I, it) :: Led c) := fun p hp' => by
      rcases List.mem_cons.mp hp' with rfl | hp'
      · exact N₁ _ (List.mem_append_left _ hIm)
      · exact N₁ _ (List.mem_append_right _ hp')
    refine wpAny_mono (turn c i v m₁ h₁ tk₁ it hin hPi hp₁ off (ksw_fr hk₁ hr₁ F₁) N₂) (fun _ s₃ h₃ => wpAny_mono h₃ (fun f s₂ p => ?_) fun _ _ e => e) fun _ _ e => e
    have fin : GEnd h₀ env.locals I it Led ps stored m₀ (P (i + 1)) { s with heap := h₁, toks := tk₁ } s₂ → LoopStepU h₀ env.locals [I] own (J (i + 1)) { s with heap := h₁, toks := tk₁ } .next s₂ := by
      rintro ⟨c', h', tk, m', news', e, F', N', hI', hn', ho', hk', hr', hp'⟩
      refine ⟨rfl, h', tk, m', Led c', e, F', fun p hp₂ => ?_, fun p hp₂ hb => ho' p hp₂ (List.mem_singleton.mp hb), c', rfl, hk', hr', hp'⟩
      rcases List.mem_append.mp hp₂ with hp₂ | hp₂
      · have h2 : h₁.get? p.1 = some p.2 := hget p hp₂
        rcases hfp p.1 (hown p hp₂) with h3 | ⟨o, h3⟩ | h3
        · have : p = (I, it) := by
            rw [h3, hit₁] at h2
            exact Prod.ext h3 (Option.some.inj h2).symm
          rw [this]; exact N' _ hI'
        · have h4 := (N₁ p (List.mem_append_left _ hp₂)).2.2
          rw [h3] at h4; cases h4
        · obtain ⟨q, hq, hqe⟩ := List.mem_map.mp h3
          have h5 := (N₁ q (List.mem_append_right _ (hkeep c i hp₁ q hq))).1
          have : p = q := by
            rw [hqe, h2] at h5
            exact Prod.ext hqe.symm (Option.some.inj h5)
          rw [this]; exact N' _ (hn' _ (hkeep c' (i + 1) hp' q hq))
      · exact N' _ (hn' p hp₂)
    cases f with
    | ret v => exact .ret p
    | brk => exact .brk p
    | next => exact .next (fin p)
    | cont => exact .cont (fin p)
  · rintro h' tk m' news' F' N' _ ⟨c, rfl, hk', hr', hp'⟩
    exact done c m' h' tk hp' (ksw_fr hk' hr' F') N'

/-- over a tuple or a list of the ledger's -/
theorem g_seqL {σ : Type} {ax : Addr} {lo : Obj} {vs : List Value} {nn : Nat} {m₀ : Str → Option Value} (Led : σ → List (Addr × Obj)) (ps : σ → List (Str × Value)) (stored : List Str) (P : Nat → σ → Prop) (c₀ : σ)
    (hh : A.handled = none) (F : Fr h₀ env.locals s.heap m₀) (N : News h₀ env.locals s.heap (Led c₀)) (hm : ∀ c i, P i c → (ax, lo) ∈ Led c) (hc : lo.cls = .type "tuple" ∨ lo.cls = .type "list") (hd : lo.data = .seq vs.toArray nn) (hk : ∀ p ∈ ps c₀, m₀ p.1 = some p.2) (hp : P 0 c₀)
    (turn : ∀ (I : Addr), (∀ p ∈ Led c₀, p.1 < I) → ∀ (c : σ) i v (u : Str → Option Value) h tk it, vs[i]? = some v → P i c → (∀ p ∈ Led c, p.1 ≠ I) → Fr h₀ env.locals h (kstB (fun z => if stored.contains z then u z else m₀ z) (ps c)) → News h₀ env.locals h ((I, it) :: Led c) →
      wpAny (model prog w) A (assign target env v) (fun _ s₃ => wpAny (model prog w) A (execs body env) (GPost h₀ env.locals I it Led ps stored m₀ (P (i + 1)) { s with heap := h, toks := tk } Q) E s₃) E { s with heap := h, toks := tk })
    (done : ∀ (c : σ) (u : Str → Option Value) h tk, P vs.length c → Fr h₀ env.locals h (kstB (fun z => if stored.contains z then u z else m₀ z) (ps c)) → News h₀ env.locals h (Led c) → Q .next { s with heap := h, toks := tk }) :
    wpAny (model prog w) A (pyIter (.ref ax)) (fun it s₂ => TurnsAt prog w A h₀ env target body Q E it s₂) E s := by
  have hax := N _ (hm c₀ 0 hp)
  have hlt : ax < s.heap.objs.size := Heap.lt_size hax.1
  have hne : ax ≠ s.heap.objs.size := Nat.ne_of_lt hlt
  have hold : ∀ p ∈ Led c₀, p.1 < s.heap.objs.size := fun p hp => Heap.lt_size (N p hp).1
  have hLf : env.locals ∉ [s.heap.objs.size, ax] := fun hb => by
    rcases List.mem_cons.mp hb with e | hb
    · exact absurd F.ns.lt (e ▸ Nat.lt_irrefl _)
    · exact hax.2.1 (List.mem_singleton.mp hb).symm
  have hfp : ∀ b ∈ [s.heap.objs.size, ax], b = s.heap.objs.size ∨ (∃ o, h₀.get? b = some o) ∨ b ∈ [(ax, lo)].map (·.1) := fun b hb => by
    rcases List.mem_cons.mp hb with e | hb
    · exact .inl e
    · exact .inr (.inr (by simpa using hb))
  have hsz : vs.toArray.size = vs.length := by simp
  rcases hc with hc | hc
  · have hl : s.heap.IsTuple ax vs.toArray := ⟨lo, hax.1, hc, nn, hd⟩
    refine wpAny_pyIter_tuple hl ?_
    refine g_core (s := { s with heap := _, toks := s.toks }) Led ps stored P c₀ [(ax, lo)] (hsz ▸ KTurns.ofWalks (Walks.tuple hh s.heap.objs.size ax hne vs.toArray) fun i v s Q E st q => letGo_tupleiter st.1 q) hLf (next_is_new F) hfp (fun c i hp' p hp => by rw [List.mem_singleton.mp hp]; exact hm c i hp')
      (fun i h st => by obtain ⟨it, a, _⟩ := st.1; exact ⟨it, a⟩) (fun p hp => Nat.ne_of_lt (hold p hp)) ⟨⟨_, Heap.get?_push_size _ rfl, rfl, rfl⟩, hl.at fun o e => Heap.get?_push_of_some _ e⟩ (F.push _) (fun p hp => ⟨Heap.get?_push_of_some _ (N p hp).1, (N p hp).2⟩) hk hp ?_ ?_
    · intro c i v u h tk it hi hP hp' off F' N'
      exact turn _ hold c i v u h tk it (by simpa using hP) hp' off F' N'
    · intro c u h tk hp' F' N'
      exact done c u h tk hp' F' N'
  · have hl : s.heap.IsList ax vs.toArray := ⟨lo, hax.1, hc, nn, hd⟩
    refine wpAny_pyIter_list hl ?_
    refine g_core (s := { s with heap := _, toks := s.toks }) Led ps stored P c₀ [(ax, lo)] (hsz ▸ KTurns.ofWalks (Walks.list hh s.heap.objs.size ax hne vs.toArray) fun i v s Q E st q => letGo_listiter st.1 q) hLf (next_is_new F) hfp (fun c i hp' p hp => by rw [List.mem_singleton.mp hp]; exact hm c i hp')
      (fun i h st => by obtain ⟨it, a, _⟩ := st.1; exact ⟨it, a⟩) (fun p hp => Nat.ne_of_lt (hold p hp)) ⟨⟨_, Heap.get?_push_size _ rfl, rfl, rfl⟩, hl.at fun o e => Heap.get?_push_of_some _ e⟩ (F.push _) (fun p hp => ⟨Heap.get?_push_of_some _ (N p hp).1, (N p hp).2⟩) hk hp ?_ ?_
    · intro c i v u h tk it hi hP hp' off F' N'
      exact turn _ hold c i v u h tk it (by simpa using hP) hp' off F' N'
    · intro c u h tk hp' F' N'
      exact done c u h tk hp' F' N'
/-- over a list that stood before (the script) -/
theorem g_listB {σ : Type} {ax : Addr} {vs : List Value} {m₀ : Str → Option Value} (Led : σ → List (Addr × Obj)) (ps : σ → List (Str × Value)) (stored : List Str) (P : Nat → σ → Prop) (c₀ : σ)
    (hh : A.handled = none) (hl : h₀.IsList ax vs.toArray) (F : Fr h₀ env.locals s.heap m₀) (N : News h₀ env.locals s.heap (Led c₀)) (hk : ∀ p ∈ ps c₀, m₀ p.1 = some p.2) (hp : P 0 c₀)
    (turn : ∀ (I : Addr), (∀ p ∈ Led c₀, p.1 < I) → ∀ (c : σ) i v (u : Str → Option Value) h tk it, vs[i]? = some v → P i c → (∀ p ∈ Led c, p.1 ≠ I) → Fr h₀ env.locals h (kstB (fun z => if stored.contains z then u z else m₀ z) (ps c)) → News h₀ env.locals h ((I, it) :: Led c) →
      wpAny (model prog w) A (assign target env v) (fun _ s₃ => wpAny (model prog w) A (execs body env) (GPost h₀ env.locals I it Led ps stored m₀ (P (i + 1)) { s with heap := h, toks := tk } Q) E s₃) E { s with heap := h, toks := tk })
    (done : ∀ (c : σ) (u : Str → Option Value) h tk, P vs.length c → Fr h₀ env.locals h (kstB (fun z => if stored.contains z then u z else m₀ z) (ps c)) → News h₀ env.locals h (Led c) → Q .next { s with heap := h, toks := tk }) :
    wpAny (model prog w) A (pyIter (.ref ax)) (fun it s₂ => TurnsAt prog w A h₀ env target body Q E it s₂) E s := by
  obtain ⟨lo, hlo, _⟩ := id hl
  have hls : s.heap.IsList ax vs.toArray := hl.at fun o e => F.keep ax o e
  have hlt : ax < h₀.objs.size := Heap.lt_size hlo
  have hne : ax ≠ s.heap.objs.size := Nat.ne_of_lt (Nat.lt_trans (Nat.lt_of_lt_of_le hlt F.above) F.ns.lt)
  have hold : ∀ p ∈ Led c₀, p.1 < s.heap.objs.size := fun p hp => Heap.lt_size (N p hp).1
  have hLf : env.locals ∉ [s.heap.objs.size, ax] := fun hb => by
    rcases List.mem_cons.mp hb with e | hb
    · exact absurd F.ns.lt (e ▸ Nat.lt_irrefl _)
    · exact absurd (Nat.lt_of_lt_of_le hlt F.above) ((List.mem_singleton.mp hb) ▸ Nat.lt_irrefl _)
  have hfp : ∀ b ∈ [s.heap.objs.size, ax], b = s.heap.objs.size ∨ (∃ o, h₀.get? b = some o) ∨ b ∈ ([] : List (Addr × Obj)).map (·.1) := fun b hb => by
    rcases List.mem_cons.mp hb with e | hb
    · exact .inl e
    · exact .inr (.inl ⟨lo, by rw [List.mem_singleton.mp hb]; exact hlo⟩)
  have hsz : vs.toArray.size = vs.length := by simp
  refine wpAny_pyIter_list hls ?_
  refine g_core (s := { s with heap := _, toks := s.toks }) Led ps stored P c₀ [] (hsz ▸ KTurns.ofWalks (Walks.list hh s.heap.objs.size ax hne vs.toArray) fun i v s Q E st q => letGo_listiter st.1 q) hLf (next_is_new F) hfp (fun c i hp' p hp => nomatch hp)
    (fun i h st => by obtain ⟨it, a, _⟩ := st.1; exact ⟨it, a⟩) (fun p hp => Nat.ne_of_lt (hold p hp)) ⟨⟨_, Heap.get?_push_size _ rfl, rfl, rfl⟩, hls.at fun o e => Heap.get?_push_of_some _ e⟩ (F.push _) (fun p hp => ⟨Heap.get?_push_of_some _ (N p hp).1, (N p hp).2⟩) hk hp ?_ ?_
  · intro c i v u h tk it hi hP hp' off F' N'
    exact turn _ hold c i v u h tk it (by simpa using hP) hp' off F' N'
  · intro c u h tk hp' F' N'
    exact done c u h tk hp' F' N'
/-- over a range, any step -/
theorem g_range {σ : Type} {x : Str} {px : Pos} {r : Addr} {a₀ b₀ c : Int} {t₀ u₀ v₀ : Tok} {n : Nat} {m₀ : Str → Option Value} (Led : σ → List (Addr × Obj)) (ps : σ → List (Str × Value)) (stored : List Str) (P : Nat → σ → Prop) (c₀ : σ)
    (hh : A.handled = none) (hr : IsRange s.heap r a₀ b₀ c t₀ u₀ v₀) (hsmall : Builtin.Range.small a₀ b₀ c = true) (hn : Builtin.Range.rangeSize a₀ b₀ c = (n : Int)) (F : Fr h₀ env.locals s.heap m₀) (N : News h₀ env.locals s.heap (Led c₀)) (hk : ∀ p ∈ ps c₀, m₀ p.1 = some p.2) (hp : P 0 c₀)
    (turn : ∀ (I : Addr), (∀ p ∈ Led c₀, p.1 < I) → ∀ (st : σ) i t (u : Str → Option Value) h tk it, i < n → P i st → (∀ p ∈ Led st, p.1 ≠ I) → Fr h₀ env.locals h (kstB (fun z => if stored.contains z then u z else m₀ z) (ps st)) → News h₀ env.locals h ((I, it) :: Led st) →
      wpAny (model prog w) A (assign (.Name x px) env (.int (a₀ + (i : Int) * c) t)) (fun _ s₃ => wpAny (model prog w) A (execs body env) (GPost h₀ env.locals I it Led ps stored m₀ (P (i + 1)) { s with heap := h, toks := tk } Q) E s₃) E { s with heap := h, toks := tk })
    (done : ∀ (st : σ) (u : Str → Option Value) h tk, P n st → Fr h₀ env.locals h (kstB (fun z => if stored.contains z then u z else m₀ z) (ps st)) → News h₀ env.locals h (Led st) → Q .next { s with heap := h, toks := tk }) :
    wpAny (model prog w) A (pyIter (.ref r)) (fun it s₂ => TurnsAt prog w A h₀ env (.Name x px) body Q E it s₂) E s := by
  have hold : ∀ p ∈ Led c₀, p.1 < s.heap.objs.size := fun p hp => Heap.lt_size (N p hp).1
  have hLf : env.locals ∉ [s.heap.objs.size] := fun hb => absurd F.ns.lt ((List.mem_singleton.mp hb) ▸ Nat.lt_irrefl _)
  refine wpAny_pyIter_range hr hsmall ?_
  refine g_core (s := { s with heap := _, toks := s.toks }) Led ps stored P c₀ [] (KTurns.ofWalks (Walks.range hh s.heap.objs.size a₀ c n) fun i v s Q E st q => wpAny_pure q) hLf (next_is_new F) (fun b hb => .inl (List.mem_singleton.mp hb)) (fun c i hp' p hp => nomatch hp)
    (fun i h st => ⟨_, st⟩) (fun p hp => Nat.ne_of_lt (hold p hp)) (by show IsRangeIter _ _ _ _ _; rw [hn]; simpa using Heap.get?_push_size _ rfl) (F.push _) (fun p hp => ⟨Heap.get?_push_of_some _ (N p hp).1, (N p hp).2⟩) hk hp ?_ ?_
  · rintro st i v u h tk it hi ⟨t, rfl⟩ hp' off F' N'
    exact turn _ hold st i t u h tk it hi hp' off F' N'
  · intro st u h tk hp' F' N'
    exact done st u h tk hp' F' N'
end
end Mine
namespace Mine
section
variable {prog : Program} {w : World} {A : Around} {E : Value → Shared → Prop} {s : Shared} {env : Env} {h₀ : Heap} {target : Expr} {body : List Stmt} {Q : Flow → Shared → Prop}
/-- over a sequence of ints of the ledger's, the turns leave everything but the stored names -/
theorem g_still {ax : Addr} {lo : Obj} {vs : List Value} {ns : List Int} {nn : Nat} {m₀ : Str → Option Value} {news : List (Addr × Obj)} (stored : List Str)
    (hh : A.handled = none) (F : Fr h₀ env.locals s.heap m₀) (N : News h₀ env.locals s.heap news) (hm : (ax, lo) ∈ news) (hc : lo.cls = .type "tuple" ∨ lo.cls = .type "list") (hd : lo.data = .seq vs.toArray nn) (hi : IntsAre vs ns)
    (turn : ∀ (I : Addr), (∀ p ∈ news, p.1 < I) → ∀ (i : Nat) (x : Int) (t : Tok) (u : Str → Option Value) h tk it, ns[i]? = some x → (∀ p ∈ news, p.1 ≠ I) → Fr h₀ env.locals h (fun z => if stored.contains z then u z else m₀ z) → News h₀ env.locals h ((I, it) :: news) →
      wpAny (model prog w) A (assign target env (.int x t)) (fun _ s₃ => wpAny (model prog w) A (execs body env) (GPost h₀ env.locals I it (fun _ : Unit => news) (fun _ => []) stored m₀ (fun _ => True) { s with heap := h, toks := tk } Q) E s₃) E { s with heap := h, toks := tk })
    (done : ∀ (u : Str → Option Value) h tk, Fr h₀ env.locals h (fun z => if stored.contains z then u z else m₀ z) → News h₀ env.locals h news → Q .next { s with heap := h, toks := tk }) :
    wpAny (model prog w) A (pyIter (.ref ax)) (fun it s₂ => TurnsAt prog w A h₀ env target body Q E it s₂) E s := by
  refine g_seqL (fun _ : Unit => news) (fun _ => []) stored (fun _ _ => True) () hh F N (fun _ _ _ => hm) hc hd (fun _ h => nomatch h) trivial ?_ ?_
  · intro I hI c i v u h tk it hv _ off F' N'
    have hlt : i < vs.length := (List.getElem?_eq_some_iff.mp hv).1
    obtain ⟨t, ht⟩ := hi.get i (ns[i]'(by rw [← hi.length]; exact hlt)) (by simp)
    have : v = .int (ns[i]'(by rw [← hi.length]; exact hlt)) t := by rw [hv] at ht; exact Option.some.inj ht
    subst this
    exact turn I hI i _ t u h tk it (by simp) off F' N'
  · intro c u h tk _ F' N'
    exact done u h tk F' N'
end
end Mine
namespace Mine
section
variable {prog : Program} {w : World} {A : Around} {E : Value → Shared → Prop} {s : Shared} {env : Env} {h₀ : Heap} {target : Expr} {body : List Stmt} {Q : Flow → Shared → Prop}
/-- a turn's end where the ledger's addresses stay -/
def FEnd {σ : Type} (h₀ : Heap) (L : Addr) (I : Addr) (it : Obj) (Led : σ → List (Addr × Obj)) (ps : σ → List (Str × Value)) (Facts : σ → Prop) (stored : List Str) (m₀ : Str → Option Value) (P : σ → Prop) (s₁ s₂ : Shared) : Prop :=
  ∃ (c' : σ) (h' : Heap) (tk : Nat) (m' : Str → Option Value) (news' : List (Addr × Obj)), s₂ = { s₁ with heap := h', toks := tk } ∧ Fr h₀ L h' m' ∧ News h₀ L h' news' ∧ (I, it) ∈ news' ∧ (∀ p ∈ Led c', p ∈ news') ∧ Facts c' ∧
    (∀ p ∈ ps c', m' p.1 = some p.2) ∧ (∀ z, (∀ p ∈ ps c', z ≠ p.1) → stored.contains z = false → m' z = m₀ z) ∧ P c'
def FPost {σ : Type} (h₀ : Heap) (L : Addr) (I : Addr) (it : Obj) (Led : σ → List (Addr × Obj)) (ps : σ → List (Str × Value)) (Facts : σ → Prop) (stored : List Str) (m₀ : Str → Option Value) (P : σ → Prop) (s₁ : Shared) (Q : Flow → Shared → Prop) (f : Flow) (s₂ : Shared) : Prop :=
  match f with
  | .ret v => Q (.ret v) s₂
  | .brk => Q .next s₂
  | _ => FEnd h₀ L I it Led ps Facts stored m₀ P s₁ s₂
theorem f_end {σ : Type} {L I : Addr} {it : Obj} {Led : σ → List (Addr × Obj)} {ps : σ → List (Str × Value)} {Facts : σ → Prop} {stored : List Str} {m₀ m' : Str → Option Value} {P : σ → Prop} {s₁ : Shared} {h' : Heap} {tk : Nat} {news' : List (Addr × Obj)} (c' : σ)
    (F : Fr h₀ L h' m') (N : News h₀ L h' news') (hI : (I, it) ∈ news') (hn : ∀ p ∈ Led c', p ∈ news') (hf : Facts c') (hk : ∀ p ∈ ps c', m' p.1 = some p.2) (hr : ∀ z, (∀ p ∈ ps c', z ≠ p.1) → stored.contains z = false → m' z = m₀ z) (hp : P c') :
    FEnd h₀ L I it Led ps Facts stored m₀ P s₁ { s₁ with heap := h', toks := tk } := ⟨c', h', tk, m', news', rfl, F, N, hI, hn, hf, hk, hr, hp⟩
theorem f_post {σ : Type} {L I : Addr} {it : Obj} {Led : σ → List (Addr × Obj)} {ps : σ → List (Str × Value)} {Facts : σ → Prop} {stored : List Str} {m₀ : Str → Option Value} {P : σ → Prop} {s₁ : Shared} {c : σ} (hadr : ∀ c c' : σ, (Led c).map (·.1) = (Led c').map (·.1)) (off : ∀ p ∈ Led c, p.1 ≠ I) :
    ∀ f s₂, FPost h₀ L I it Led ps Facts stored m₀ P s₁ Q f s₂ → GPost h₀ L I it Led ps stored m₀ (fun c => Facts c ∧ P c) s₁ Q f s₂ := by
  intro f s₂ p
  have fin : FEnd h₀ L I it Led ps Facts stored m₀ P s₁ s₂ → GEnd h₀ L I it Led ps stored m₀ (fun c => Facts c ∧ P c) s₁ s₂ := by
    rintro ⟨c', h', tk, m', news', e, F, N, hI, hn, hf, hk, hr, hp⟩
    refine ⟨c', h', tk, m', news', e, F, N, hI, hn, fun q hq => ?_, hk, hr, hf, hp⟩
    have h1 : q.1 ∈ (Led c').map (·.1) := List.mem_map.mpr ⟨q, hq, rfl⟩
    rw [hadr c' c] at h1
    obtain ⟨r, hr1, hr2⟩ := List.mem_map.mp h1
    rw [← hr2]; exact off r hr1
  cases f with
  | ret v => exact p
  | brk => exact p
  | next => exact fin p
  | cont => exact fin p

theorem g_fixL {σ : Type} {ax : Addr} {lo : Obj} {vs : List Value} {nn : Nat} {m₀ : Str → Option Value} (Led : σ → List (Addr × Obj)) (ps : σ → List (Str × Value)) (Facts : σ → Prop) (stored : List Str) (P : Nat → σ → Prop) (c₀ : σ) (hadr : ∀ c c' : σ, (Led c).map (·.1) = (Led c').map (·.1))
    (hh : A.handled = none) (F : Fr h₀ env.locals s.heap m₀) (N : News h₀ env.locals s.heap (Led c₀)) (hm : ∀ c, (ax, lo) ∈ Led c) (hc : lo.cls = .type "tuple" ∨ lo.cls = .type "list") (hd : lo.data = .seq vs.toArray nn) (hf : Facts c₀) (hk : ∀ p ∈ ps c₀, m₀ p.1 = some p.2) (hp : P 0 c₀)
    (turn : ∀ (I : Addr), (∀ p ∈ Led c₀, p.1 < I) → ∀ (c : σ) (i : Nat) (v : Value) (u : Str → Option Value) h tk it, vs[i]? = some v → Facts c → P i c → (∀ p ∈ Led c, p.1 ≠ I) → Fr h₀ env.locals h (kstB (fun z => if stored.contains z then u z else m₀ z) (ps c)) → News h₀ env.locals h ((I, it) :: Led c) →
      wpAny (model prog w) A (assign target env v) (fun _ s₃ => wpAny (model prog w) A (execs body env) (FPost h₀ env.locals I it Led ps Facts stored m₀ (P (i + 1)) { s with heap := h, toks := tk } Q) E s₃) E { s with heap := h, toks := tk })
    (done : ∀ (c : σ) (u : Str → Option Value) h tk, Facts c → P vs.length c → Fr h₀ env.locals h (kstB (fun z => if stored.contains z then u z else m₀ z) (ps c)) → News h₀ env.locals h (Led c) → Q .next { s with heap := h, toks := tk }) :
    wpAny (model prog w) A (pyIter (.ref ax)) (fun it s₂ => TurnsAt prog w A h₀ env target body Q E it s₂) E s := by
  refine g_seqL Led ps stored (fun i c => Facts c ∧ P i c) c₀ hh F N (fun c _ _ => hm c) hc hd hk ⟨hf, hp⟩ ?_ ?_
  · intro I hI c i v u h tk it hv hp' off F' N'
    exact wpAny_mono (turn I hI c i v u h tk it hv hp'.1 hp'.2 off F' N') (fun _ s₃ h₃ => wpAny_mono h₃ (f_post hadr off) fun _ _ e => e) fun _ _ e => e
  · intro c u h tk hp' F' N'
    exact done c u h tk hp'.1 hp'.2 F' N'
theorem g_fixB {σ : Type} {ax : Addr} {vs : List Value} {m₀ : Str → Option Value} (Led : σ → List (Addr × Obj)) (ps : σ → List (Str × Value)) (Facts : σ → Prop) (stored : List Str) (P : Nat → σ → Prop) (c₀ : σ) (hadr : ∀ c c' : σ, (Led c).map (·.1) = (Led c').map (·.1))
    (hh : A.handled = none) (hl : h₀.IsList ax vs.toArray) (F : Fr h₀ env.locals s.heap m₀) (N : News h₀ env.locals s.heap (Led c₀)) (hf : Facts c₀) (hk : ∀ p ∈ ps c₀, m₀ p.1 = some p.2) (hp : P 0 c₀)
    (turn : ∀ (I : Addr), (∀ p ∈ Led c₀, p.1 < I) → ∀ (c : σ) (i : Nat) (v : Value) (u : Str → Option Value) h tk it, vs[i]? = some v → Facts c → P i c → (∀ p ∈ Led c, p.1 ≠ I) → Fr h₀ env.locals h (kstB (fun z => if stored.contains z then u z else m₀ z) (ps c)) → News h₀ env.locals h ((I, it) :: Led c) →
      wpAny (model prog w) A (assign target env v) (fun _ s₃ => wpAny (model prog w) A (execs body env) (FPost h₀ env.locals I it Led ps Facts stored m₀ (P (i + 1)) { s with heap := h, toks := tk } Q) E s₃) E { s with heap := h, toks := tk })
    (done : ∀ (c : σ) (u : Str → Option Value) h tk, Facts c → P vs.length c → Fr h₀ env.locals h (kstB (fun z => if stored.contains z then u z else m₀ z) (ps c)) → News h₀ env.locals h (Led c) → Q .next { s with heap := h, toks := tk }) :
    wpAny (model prog w) A (pyIter (.ref ax)) (fun it s₂ => TurnsAt prog w A h₀ env target body Q E it s₂) E s := by
  refine g_listB Led ps stored (fun i c => Facts c ∧ P i c) c₀ hh hl F N hk ⟨hf, hp⟩ ?_ ?_
  · intro I hI c i v u h tk it hv hp' off F' N'
    exact wpAny_mono (turn I hI c i v u h tk it hv hp'.1 hp'.2 off F' N') (fun _ s₃ h₃ => wpAny_mono h₃ (f_post hadr off) fun _ _ e => e) fun _ _ e => e
  · intro c u h tk hp' F' N'
    exact done c u h tk hp'.1 hp'.2 F' N'
theorem g_fixR {σ : Type} {x : Str} {px : Pos} {r : Addr} {a₀ b₀ c : Int} {t₀ u₀ v₀ : Tok} {n : Nat} {m₀ : Str → Option Value} (Led : σ → List (Addr × Obj)) (ps : σ → List (Str × Value)) (Facts : σ → Prop) (stored : List Str) (P : Nat → σ → Prop) (c₀ : σ) (hadr : ∀ c c' : σ, (Led c).map (·.1) = (Led c').map (·.1))
    (hh : A.handled = none) (hr : IsRange s.heap r a₀ b₀ c t₀ u₀ v₀) (hsmall : Builtin.Range.small a₀ b₀ c = true) (hn : Builtin.Range.rangeSize a₀ b₀ c = (n : Int)) (F : Fr h₀ env.locals s.heap m₀) (N : News h₀ env.locals s.heap (Led c₀)) (hf : Facts c₀) (hk : ∀ p ∈ ps c₀, m₀ p.1 = some p.2) (hp : P 0 c₀)
    (turn : ∀ (I : Addr), (∀ p ∈ Led c₀, p.1 < I) → ∀ (st : σ) (i : Nat) (t : Tok) (u : Str → Option Value) h tk it, i < n → Facts st → P i st → (∀ p ∈ Led st, p.1 ≠ I) → Fr h₀ env.locals h (kstB (fun z => if stored.contains z then u z else m₀ z) (ps st)) → News h₀ env.locals h ((I, it) :: Led st) →
      wpAny (model prog w) A (assign (.Name x px) env (.int (a₀ + (i : Int) * c) t)) (fun _ s₃ => wpAny (model prog w) A (execs body env) (FPost h₀ env.locals I it Led ps Facts stored m₀ (P (i + 1)) { s with heap := h, toks := tk } Q) E s₃) E { s with heap := h, toks := tk })
    (done : ∀ (st : σ) (u : Str → Option Value) h tk, Facts st → P n st → Fr h₀ env.locals h (kstB (fun z => if stored.contains z then u z else m₀ z) (ps st)) → News h₀ env.locals h (Led st) → Q .next { s with heap := h, toks := tk }) :
    wpAny (model prog w) A (pyIter (.ref r)) (fun it s₂ => TurnsAt prog w A h₀ env (.Name x px) body Q E it s₂) E s := by
  refine g_range Led ps stored (fun i c => Facts c ∧ P i c) c₀ hh hr hsmall hn F N hk ⟨hf, hp⟩ ?_ ?_
  · intro I hI st i t u h tk it hi hp' off F' N'
    exact wpAny_mono (turn I hI st i t u h tk it hi hp'.1 hp'.2 off F' N') (fun _ s₃ h₃ => wpAny_mono h₃ (f_post hadr off) fun _ _ e => e) fun _ _ e => e
  · intro st u h tk hp' F' N'
    exact done st u h tk hp'.1 hp'.2 F' N'
theorem ints_at {vs : List Value} {ns : List Int} {i : Nat} {v : Value} (h : IntsAre vs ns) (hv : vs[i]? = some v) : ∃ k t, v = .int k t ∧ ns[i]? = some k := by
  obtain ⟨k, t, e, hk⟩ := IntsAre.at h i v hv
  exact ⟨k, t, e, hk⟩
end
theorem perm_drop_le {a w : List Int} {k : Nat} (h : a.Perm (w.drop k)) : a.length ≤ w.length := by
  rw [h.length_eq, List.length_drop]; omega
theorem ints_len_le {vs : List Value} {ns : List Int} {z : Nat} (h : IntsAre vs ns) (hz : z ≤ vs.length) : z ≤ ns.length := by rw [← h.length]; exact hz
theorem pos_of_ne {zs : List Int} (h : decide (zs = []) = false) : 0 < zs.length := by
  rcases Nat.eq_zero_or_pos zs.length with e | e
  · simp [List.eq_nil_of_length_eq_zero e] at h
  · exact e
theorem zero_of_eq {zs : List Int} (h : decide (zs = []) = true) : zs.length = 0 := by
  have := of_decide_eq_true h
  simp [this]
section
variable {prog : Program} {w : World} {A : Around} {E : Value → Shared → Prop} {s : Shared} {h₀ : Heap} {L : Addr} {news : List (Addr × Obj)}
/-- the last item of a list of ints of the ledger's -/
theorem item_last {l : Addr} {us : List Value} {zs : List Int} {nn : Nat} {tk : Tok} {value slice : Expr} {Q : Value → Shared → Prop} (N : News h₀ L s.heap news) (hm : (l, listOf us.toArray nn) ∈ news) (hi : IntsAre us zs) (hpos : 0 < zs.length) (hfit : zs.length < 2 ^ 62)
    (h : ∀ t, Q (.int (zs.getD (zs.length - 1) 0) t) s)
    (hs : subscripted slice false (.ref l) (.int (-1) tk) = operate [.ref l, .int (-1) tk] (getItem (.ref l) (.int (-1) tk)) := by with_unfolding_all rfl) :
    wpAny (model prog w) A (subscriptTail value slice (.ref l) (.int (-1) tk)) Q E s := by
  have hl : s.heap.IsList l us.toArray := ⟨_, (N _ hm).1, rfl, nn, rfl⟩
  have e : zs[zs.length - 1]? = some (zs.getD (zs.length - 1) 0) := by
    rw [List.getD_eq_getElem?_getD, List.getElem?_eq_getElem (by omega)]; rfl
  obtain ⟨t, ht⟩ := hi.get _ _ e
  refine tail_any hl.typeIs slot_list_getitem.lookup ?_ hs
  refine wpAny_getItem_list_neg hl (by omega) (by rw [List.size_toArray, hi.length]; omega) (by decide) ?_ (h t)
  rw [List.size_toArray, hi.length, show ((-1 : Int) + (zs.length : Int)).toNat = zs.length - 1 by omega]
  simpa using ht
end
end Mine
namespace Mine
section
variable {prog : Program} {w : World} {A : Around} {E : Value → Shared → Prop} {s : Shared} {h₀ : Heap} {L : Addr} {news : List (Addr × Obj)}
/-- an item of a list of ints of the ledger's -/
theorem item_led {l : Addr} {us : List Value} {zs : List Int} {nn : Nat} {k : Int} {tk : Tok} {value slice : Expr} {Q : Value → Shared → Prop} (N : News h₀ L s.heap news) (hm : (l, listOf us.toArray nn) ∈ news) (hi : IntsAre us zs) (h0 : 0 ≤ k) (h1 : k < zs.length) (hfit : zs.length < 2 ^ 62)
    (h : ∀ t, Q (.int (zs.getD k.toNat 0) t) s)
    (hs : subscripted slice false (.ref l) (.int k tk) = operate [.ref l, .int k tk] (getItem (.ref l) (.int k tk)) := by with_unfolding_all rfl) :
    wpAny (model prog w) A (subscriptTail value slice (.ref l) (.int k tk)) Q E s := by
  have hl : s.heap.IsList l us.toArray := ⟨_, (N _ hm).1, rfl, nn, rfl⟩
  have e : zs[k.toNat]? = some (zs.getD k.toNat 0) := by
    rw [List.getD_eq_getElem?_getD, List.getElem?_eq_getElem (by omega)]; rfl
  obtain ⟨t, ht⟩ := hi.get _ _ e
  exact tail_any hl.typeIs slot_list_getitem.lookup (wpAny_getItem_list hl h0 (by omega) (by simpa using ht) (h t)) hs
end
end Mine
namespace Mine
theorem rangeSize_two (L : Nat) : Builtin.Range.rangeSize 0 ((L : Int) - 1) 2 = ((L / 2 : Nat) : Int) := by
  unfold Builtin.Range.rangeSize
  simp only [show ((2 : Int) > 0) from by decide, if_true]
  by_cases h : (0 : Int) < (L : Int) - 1
  · simp only [h, if_true]; omega
  · simp only [h, if_false]; omega
theorem small_two {L : Nat} (h : L ≤ 2 ^ 20) : Builtin.Range.small 0 ((L : Int) - 1) 2 = true := by
  unfold Builtin.Range.small
  rw [rangeSize_two]
  simp only [Builtin.Range.rangeFitsLong, Bool.and_eq_true, Bool.or_eq_true, decide_eq_true_eq, show ((2 : Int) > 0) from by decide, if_true]
  refine ⟨⟨⟨⟨by decide, by omega, by omega⟩, by decide⟩, by omega, by omega⟩, .inr ⟨by omega, by omega⟩⟩
theorem rangeSize_three (L : Nat) : Builtin.Range.rangeSize 0 ((L : Int) - 2) 3 = ((L / 3 : Nat) : Int) := by
  unfold Builtin.Range.rangeSize
  simp only [show ((3 : Int) > 0) from by decide, if_true]
  by_cases h : (0 : Int) < (L : Int) - 2
  · simp only [h, if_true]; omega
  · simp only [h, if_false]; omega
theorem small_three {L : Nat} (h : L ≤ 2 ^ 20) : Builtin.Range.small 0 ((L : Int) - 2) 3 = true := by
  unfold Builtin.Range.small
  rw [rangeSize_three]
  simp only [Builtin.Range.rangeFitsLong, Bool.and_eq_true, Bool.or_eq_true, decide_eq_true_eq, show ((3 : Int) > 0) from by decide, if_true]
  refine ⟨⟨⟨⟨by decide, by omega, by omega⟩, by decide⟩, by omega, by omega⟩, .inr ⟨by omega, by omega⟩⟩
end Mine
namespace Mine
theorem IntsAre_take {vs : List Value} {ns : List Int} (h : IntsAre vs ns) (k : Nat) : IntsAre (vs.take k) (ns.take k) := by
  induction h generalizing k with
  | nil => simp; exact .nil
  | cons n t _ ih => cases k with
    | zero => exact .nil
    | succ k => exact .cons n t (ih k)
theorem IntsAre_drop {vs : List Value} {ns : List Int} (h : IntsAre vs ns) (k : Nat) : IntsAre (vs.drop k) (ns.drop k) := by
  induction h generalizing k with
  | nil => simp; exact .nil
  | cons n t h ih => cases k with
    | zero => exact .cons n t h
    | succ k => exact ih k
theorem IntsAre_erase {vs : List Value} {ns : List Int} (h : IntsAre vs ns) (k : Nat) : IntsAre (vs.eraseIdx k) (ns.eraseIdx k) := by
  induction h generalizing k with
  | nil => simp; exact .nil
  | cons n t h ih => cases k with
    | zero => exact h
    | succ k => exact .cons n t (ih k)
theorem upd_get {h : Heap} {D : Addr} {f : Array Value → Array Value} {items items' : Array Value} {n : Nat} (hz : h.get? D = some (listOf items n)) (e : f items = items') (hne : items'.size ≠ items.size) :
    (h.update D (Obj.mapSeq f)).get? D = some (listOf items' (n + 1)) := by
  have hu := IsL.update (h := h) (l := D) (items := items) (n := n) hz f
  rw [e, beq_eq_false_iff_ne.mpr hne] at hu
  exact hu
section
variable {prog : Program} {w : World} {A : Around} {E : Value → Shared → Prop} {s : Shared} {h₀ : Heap} {L D : Addr} {m : Str → Option Value} {news news' : List (Addr × Obj)}
/-- xs.insert(r, x) upon a list of ints of the ledger's -/
theorem insert_led {vs : List Value} {zs : List Int} {n : Nat} {r x : Int} {tr tx : Tok} {Q : Value → Shared → Prop} (hF : Fr h₀ L s.heap m) (N : News h₀ L s.heap news) (hi : IntsAre vs zs) (h0 : 0 ≤ r) (h1 : r ≤ zs.length) (hz : zs.length ≤ 2 ^ 20)
    (U : Upd D (listOf vs.toArray n) (listOf (vs.take r.toNat ++ .int x tx :: vs.drop r.toNat).toArray (n + 1)) news news')
    (h : ∀ h', Fr h₀ L h' m → News h₀ L h' news' → IntsAre (vs.take r.toNat ++ .int x tx :: vs.drop r.toNat) (zs.take r.toNat ++ x :: zs.drop r.toNat) → (zs.take r.toNat ++ x :: zs.drop r.toNat).length = zs.length + 1 → Q .none { s with heap := h' }) :
    wpAny (model prog w) A (call (.builtin "list.insert") [.ref D, .int r tr, .int x tx]) Q E s := by
  obtain ⟨pre, post, rfl, rfl, a, b⟩ := U.split
  have z := N (D, listOf vs.toArray n) (List.mem_append.mpr (.inr (.head _)))
  have hfit : ¬ (!Builtin.List.listFitsIndex r) = true := by rw [fitsIndex_of h0 (by omega)]; simp
  have hl := hi.length
  refine call_meets F.slot_list_insert ⟨_, z.1, rfl⟩ F.entry_list_insert (F.args_list_insert_3 _ _ _) (AutoSeq1.list_insert_list_int_val_1 D vs.toArray n r tr (.int x tx) hfit (by rw [sizeLine_eq, List.size_toArray]; omega)) ⟨z.1, ?_⟩
  refine h _ (Fr.change hF (Heap.SameBut.update ..) z.2.1 z.2.2) (news_set N a b (Heap.SameBut.update ..) ?_) ?_ ?_
  · refine upd_get z.1 ?_ (by simp; omega)
    dsimp only
    rw [if_neg (show ¬ r < 0 by omega), List.size_toArray, Nat.min_eq_left (show r.toNat ≤ vs.length by omega)]
    apply Array.ext'
    simp
    exact List.take_of_length_le (by simp)
  · exact IntsAre.append (IntsAre_take hi _) (.cons x tx (IntsAre_drop hi _))
  · simp; omega
/-- del xs[r] upon a list of ints of the ledger's -/
theorem del_led {vs : List Value} {zs : List Int} {n : Nat} {r : Int} {tr : Tok} {Q : Unit → Shared → Prop} (hF : Fr h₀ L s.heap m) (N : News h₀ L s.heap news) (hi : IntsAre vs zs) (h0 : 0 ≤ r) (h1 : r < zs.length) (hz : zs.length ≤ 2 ^ 20)
    (U : Upd D (listOf vs.toArray n) (listOf (vs.eraseIdx r.toNat).toArray (n + 1)) news news')
    (h : ∀ h', Fr h₀ L h' m → News h₀ L h' news' → IntsAre (vs.eraseIdx r.toNat) (zs.eraseIdx r.toNat) → (zs.eraseIdx r.toNat).length = zs.length - 1 → Q () { s with heap := h' }) :
    wpAny (model prog w) A (delItem (.ref D) (.int r tr)) Q E s := by
  obtain ⟨pre, post, rfl, rfl, a, b⟩ := U.split
  have z := N (D, listOf vs.toArray n) (List.mem_append.mpr (.inr (.head _)))
  have hl := hi.length
  have hlt : r.toNat < vs.length := by omega
  refine P.delItem_list (k := r.toNat) z.1 (fitsIndex_of h0 (by omega)) ?_ ?_ (by rw [sizeLine_eq, List.size_toArray]; omega)
  · unfold seqIndex?
    rw [List.size_toArray]
    simp only [show ¬ r < 0 by omega, if_false]
    rw [if_pos (by simp only [Bool.and_eq_true, decide_eq_true_eq]; omega)]
  · refine h _ (Fr.change hF (Heap.SameBut.update ..) z.2.1 z.2.2) (news_set N a b (Heap.SameBut.update ..) ?_) (IntsAre_erase hi _) (by rw [List.length_eraseIdx, if_pos (by omega)])
    refine upd_get z.1 ?_ (by simp [List.length_eraseIdx, hlt]; omega)
    apply Array.ext'
    simp
/-- xs.remove(x) upon a list of ints of the ledger's that holds x -/
theorem remove_led {vs : List Value} {zs : List Int} {n : Nat} {x : Int} {tx : Tok} {Q : Value → Shared → Prop} (hF : Fr h₀ L s.heap m) (N : News h₀ L s.heap news) (hi : IntsAre vs zs) (hx : x ∈ zs) (hz : zs.length ≤ 2 ^ 20)
    (U : Upd D (listOf vs.toArray n) (listOf (vs.eraseIdx (zs.idxOf x)).toArray (n + 1)) news news')
    (h : ∀ h', Fr h₀ L h' m → News h₀ L h' news' → IntsAre (vs.eraseIdx (zs.idxOf x)) (zs.eraseIdx (zs.idxOf x)) → (zs.eraseIdx (zs.idxOf x)).length = zs.length - 1 → Q .none { s with heap := h' }) :
    wpAny (model prog w) A (call (.builtin "list.remove") [.ref D, .int x tx]) Q E s := by
  obtain ⟨pre, post, rfl, rfl, a, b⟩ := U.split
  have z := N (D, listOf vs.toArray n) (List.mem_append.mpr (.inr (.head _)))
  have hl := hi.length
  have hj : zs.idxOf x < zs.length := List.idxOf_lt_length_of_mem hx
  have hjv : zs.idxOf x < vs.length := by omega
  have val : ∀ i (h : i < vs.length), ∃ t, vs[i] = .int (zs[i]'(by omega)) t := fun i h => by
    obtain ⟨t, ht⟩ := hi.get i (zs[i]'(by omega)) (by simp)
    exact ⟨t, by rw [List.getElem?_eq_getElem h] at ht; exact Option.some.inj ht⟩
  let e : Value → Bool := fun v => match v with | .int k _ => k == x | _ => false
  refine call_meets F.slot_list_remove ⟨_, z.1, rfl⟩ F.entry_list_remove (F.args_list_remove_2 _ _) (MeetsSeq.list_remove D vs.toArray n (.int x tx) e (fun y hy => ?_) (zs.idxOf x) (by simpa using hjv) ?_ (fun i hi' hlt => ?_) (by rw [sizeLine_eq, List.size_toArray]; omega)) ⟨z.1, ?_⟩
  · obtain ⟨i, hi', rfl⟩ := List.getElem_of_mem (by simpa using hy : y ∈ vs)
    obtain ⟨t, ht⟩ := val i hi'
    rw [ht]
    exact MeetsSeq.EqGives.int _ _ _ _
  · obtain ⟨t, ht⟩ := val _ hjv
    simp only [List.getElem_toArray, ht, e]
    simp
  · have hiv : i < vs.length := by simpa using hi'
    obtain ⟨t, ht⟩ := val i hiv
    simp only [List.getElem_toArray, ht, e]
    rw [beq_eq_false_iff_ne]
    intro q
    have := List.not_of_lt_findIdx (p := (· == x)) (xs := zs) (i := i) hlt
    simp [q] at this
  · refine h _ (Fr.change hF (Heap.SameBut.update ..) z.2.1 z.2.2) (news_set N a b (Heap.SameBut.update ..) ?_) (IntsAre_erase hi _) (by rw [List.length_eraseIdx, if_pos hj])
    refine upd_get z.1 ?_ (by simp [List.length_eraseIdx, hjv]; omega)
    apply Array.ext'
    simp
/-- xs.append(x) upon a list of ints of the ledger's -/
theorem append_led {vs : List Value} {zs : List Int} {n : Nat} {x : Int} {tx : Tok} {Q : Value → Shared → Prop} (hF : Fr h₀ L s.heap m) (N : News h₀ L s.heap news) (hi : IntsAre vs zs) (hz : zs.length ≤ 2 ^ 20)
    (U : Upd D (listOf vs.toArray n) (listOf (vs ++ [Value.int x tx]).toArray (n + 1)) news news')
    (h : ∀ h', Fr h₀ L h' m → News h₀ L h' news' → IntsAre (vs ++ [Value.int x tx]) (zs ++ [x]) → (zs ++ [x]).length = zs.length + 1 → Q .none { s with heap := h' }) :
    wpAny (model prog w) A (call (.builtin "list.append") [.ref D, .int x tx]) Q E s := by
  have hl := hi.length
  have e : vs.toArray.push (Value.int x tx) = (vs ++ [Value.int x tx]).toArray := by simp
  refine append_K (its := vs.toArray) (n := n) (x := .int x tx) hF N (e ▸ U) (fun h' F' N' => h h' F' N' (IntsAre.append hi (.cons x tx .nil)) (by simp)) (by rw [sizeLine_eq, List.size_toArray]; omega)
end
end Mine
namespace Mine
def P10 (pl ke : List Int) : Prop := ke.Perm pl ∧ ke.Pairwise (· ≤ ·)
theorem getD_eq {a : List Int} {i : Nat} (h : i < a.length) : a.getD i 0 = a[i] := by
  rw [List.getD_eq_getElem?_getD, List.getElem?_eq_getElem h]; rfl
theorem srt_of_pw {a : List Int} (h : a.Pairwise (· ≤ ·)) : Srt a := by
  intro i j hij hj
  rw [getD_eq hj, getD_eq (show i < a.length by omega)]
  rcases Nat.lt_or_eq_of_le hij with h1 | rfl
  · exact List.pairwise_iff_getElem.mp h i j _ _ h1
  · exact Int.le_refl _
theorem pw_of_srt {a : List Int} (h : Srt a) : a.Pairwise (· ≤ ·) := by
  rw [List.pairwise_iff_getElem]
  intro i j hi hj hij
  have := h i j (by omega) hj
  rwa [getD_eq hi, getD_eq hj] at this
theorem filter_cut {a : List Int} {p : Int → Bool} {r : Nat} (hr : r ≤ a.length) (lo : ∀ i, i < r → p (a.getD i 0) = true) (hi : ∀ i, r ≤ i → i < a.length → p (a.getD i 0) = false) : (a.filter p).length = r := by
  have e : a.filter p = (a.take r).filter p ++ (a.drop r).filter p := by rw [← List.filter_append, List.take_append_drop]
  have e1 : (a.take r).filter p = a.take r := by
    rw [List.filter_eq_self]
    intro x hx
    obtain ⟨i, h, rfl⟩ := List.getElem_of_mem hx
    rw [List.length_take] at h
    have := lo i (by omega)
    rw [getD_eq (by omega)] at this
    simpa using this
  have e2 : (a.drop r).filter p = [] := by
    rw [List.filter_eq_nil_iff]
    intro x hx
    obtain ⟨i, h, rfl⟩ := List.getElem_of_mem hx
    rw [List.length_drop] at h
    have := hi (r + i) (by omega) (by omega)
    rw [getD_eq (by omega)] at this
    simp [this]
  rw [e, e1, e2, List.append_nil, List.length_take]; omega
theorem filter_atmost {a : List Int} {p : Int → Bool} {r : Nat} (hi : ∀ i, r ≤ i → i < a.length → p (a.getD i 0) = false) : (a.filter p).length ≤ r := by
  have e : a.filter p = (a.take r).filter p ++ (a.drop r).filter p := by rw [← List.filter_append, List.take_append_drop]
  have e2 : (a.drop r).filter p = [] := by
    rw [List.filter_eq_nil_iff]
    intro x hx
    obtain ⟨i, h, rfl⟩ := List.getElem_of_mem hx
    rw [List.length_drop] at h
    have := hi (r + i) (by omega) (by omega)
    rw [getD_eq (by omega)] at this
    simp [this]
  rw [e, e2, List.append_nil]
  have := List.length_filter_le p (a.take r)
  rw [List.length_take] at this; omega
theorem filter_atleast {a : List Int} {p : Int → Bool} {r : Nat} (hr : r ≤ a.length) (lo : ∀ i, i < r → p (a.getD i 0) = true) : r ≤ (a.filter p).length := by
  have e : a.filter p = (a.take r).filter p ++ (a.drop r).filter p := by rw [← List.filter_append, List.take_append_drop]
  have e1 : (a.take r).filter p = a.take r := by
    rw [List.filter_eq_self]
    intro x hx
    obtain ⟨i, h, rfl⟩ := List.getElem_of_mem hx
    rw [List.length_take] at h
    have := lo i (by omega)
    rw [getD_eq (by omega)] at this
    simpa using this
  rw [e, e1, List.length_append, List.length_take]; omega
theorem p10_start : P10 [] [] := ⟨.nil, .nil⟩
theorem p10_uniq {pl ke n : List Int} (h : P10 pl ke) (p : n.Perm pl) (o : n.Pairwise (· ≤ ·)) : ke = n :=
  (h.1.trans p.symm).eq_of_pairwise (fun _ _ _ _ a b => Int.le_antisymm a b) h.2 o
theorem ins_perm {ke : List Int} {x : Int} {r : Nat} : (ke.take r ++ x :: ke.drop r).Perm (ke ++ [x]) := by
  have h1 : (ke.take r ++ x :: ke.drop r).Perm (x :: (ke.take r ++ ke.drop r)) := List.perm_middle
  rw [List.take_append_drop] at h1
  exact h1.trans (List.perm_append_singleton x ke).symm
theorem p10_ins {pl ke : List Int} {x r : Int} (h : P10 pl ke) (b : BR ke x r) : P10 (pl ++ [x]) (ke.take r.toNat ++ x :: ke.drop r.toNat) := by
  have hs := srt_of_pw h.2
  have b0 := b.1
  have b1 := b.2.1
  refine ⟨ins_perm.trans (h.1.append_right [x]), ?_⟩
  rw [List.pairwise_append]
  refine ⟨h.2.sublist (List.take_sublist _ _), ?_, ?_⟩
  · rw [List.pairwise_cons]
    refine ⟨fun y hy => ?_, h.2.sublist (List.drop_sublist _ _)⟩
    obtain ⟨i, hi, rfl⟩ := List.getElem_of_mem hy
    rw [List.length_drop] at hi
    have := b.hi hs (i := r.toNat + i) (by omega) (by omega)
    rw [getD_eq (by omega)] at this
    rw [List.getElem_drop]; omega
  · intro y hy z hz
    obtain ⟨i, hi, rfl⟩ := List.getElem_of_mem hy
    rw [List.length_take] at hi
    have hy' := b.lo hs (i := i) (by omega)
    rw [getD_eq (by omega)] at hy'
    rw [List.getElem_take]
    rcases List.mem_cons.mp hz with rfl | hz
    · exact hy'
    · obtain ⟨j, hj, rfl⟩ := List.getElem_of_mem hz
      rw [List.length_drop] at hj
      have := b.hi hs (i := r.toNat + j) (by omega) (by omega)
      rw [getD_eq (by omega)] at this
      rw [List.getElem_drop]; omega
theorem p10_bl {pl ke : List Int} {x r : Int} (h : P10 pl ke) (b : BL ke x r) : r = ((pl.filter (fun d => decide (d < x))).length : Int) := by
  have hs := srt_of_pw h.2
  have b0 := b.1
  have b1 := b.2.1
  rw [← (h.1.filter _).length_eq, filter_cut (r := r.toNat) (by omega) (fun i hi => decide_eq_true (b.lo hs (by omega))) (fun i hi hl => decide_eq_false (by have := b.hi hs (i := i) (by omega) hl; omega))]
  omega
theorem p10_br {pl ke : List Int} {x r : Int} (h : P10 pl ke) (b : BR ke x r) : r = ((pl.filter (fun d => decide (d ≤ x))).length : Int) := by
  have hs := srt_of_pw h.2
  have b0 := b.1
  have b1 := b.2.1
  rw [← (h.1.filter _).length_eq, filter_cut (r := r.toNat) (by omega) (fun i hi => decide_eq_true (b.lo hs (by omega))) (fun i hi hl => decide_eq_false (by have := b.hi hs (i := i) (by omega) hl; omega))]
  omega
theorem p10_in {pl ke : List Int} {x r : Int} (h : P10 pl ke) (b : BL ke x r) : x ∈ pl ↔ (r < ke.length ∧ ke.getD r.toNat 0 = x) := by
  have hs := srt_of_pw h.2
  have b0 := b.1
  have b1 := b.2.1
  rw [← h.1.mem_iff]
  constructor
  · intro hx
    obtain ⟨i, hi, e⟩ := List.getElem_of_mem hx
    have h1 : r ≤ (i : Int) := by
      rcases Int.lt_or_le (i : Int) r with q | q
      · have := b.lo hs q
        rw [getD_eq hi] at this; omega
      · exact q
    have h2 := hs r.toNat i (by omega) hi
    have h3 := b.hi hs (i := r.toNat) (by omega) (by omega)
    rw [getD_eq hi] at h2
    exact ⟨by omega, by omega⟩
  · rintro ⟨h1, h2⟩
    rw [← h2, getD_eq (by omega)]
    exact List.getElem_mem _
theorem p10_lo {pl ke : List Int} {k : Int} (h : P10 pl ke) (h0 : 0 ≤ k) (h1 : k < pl.length) : ((pl.filter (fun d => decide (d < ke.getD k.toNat 0))).length : Int) ≤ k := by
  have hs := srt_of_pw h.2
  have hl := h.1.length_eq
  rw [← (h.1.filter _).length_eq]
  have := filter_atmost (a := ke) (p := fun d => decide (d < ke.getD k.toNat 0)) (r := k.toNat) (fun i hi hl => decide_eq_false (by have := hs k.toNat i hi hl; omega))
  omega
theorem p10_hi {pl ke : List Int} {k : Int} (h : P10 pl ke) (h0 : 0 ≤ k) (h1 : k < pl.length) : k < ((pl.filter (fun d => decide (d ≤ ke.getD k.toNat 0))).length : Int) := by
  have hs := srt_of_pw h.2
  have hl := h.1.length_eq
  rw [← (h.1.filter _).length_eq]
  have := filter_atleast (a := ke) (p := fun d => decide (d ≤ ke.getD k.toNat 0)) (r := k.toNat + 1) (by omega) (fun i hi => decide_eq_true (hs i k.toNat (by omega) (by omega)))
  omega
theorem erase_perm {a : List Int} {i : Nat} (h : i < a.length) : (a[i] :: a.eraseIdx i).Perm a := by
  rw [List.eraseIdx_eq_take_drop_succ]
  have := List.perm_middle (a := a[i]) (l₁ := a.take i) (l₂ := a.drop (i + 1))
  rw [← List.drop_eq_getElem_cons h, List.take_append_drop] at this
  exact this.symm
theorem p10_del {pl ke : List Int} {r x : Int} (h : P10 pl ke) (h0 : 0 ≤ r) (h1 : r < ke.length) (e : ke.getD r.toNat 0 = x) : P10 (pl.eraseIdx (pl.idxOf x)) (ke.eraseIdx r.toNat) := by
  refine ⟨?_, h.2.sublist (List.eraseIdx_sublist _ _)⟩
  have hx : x ∈ pl := by
    rw [← h.1.mem_iff, ← e, getD_eq (by omega)]; exact List.getElem_mem _
  have hj := List.idxOf_lt_length_of_mem hx
  have p1 := erase_perm (a := ke) (i := r.toNat) (by omega)
  have p2 := erase_perm hj
  rw [← getD_eq (by omega), e] at p1
  rw [List.getElem_idxOf] at p2
  exact (List.perm_cons x).mp (p1.trans (h.1.trans p2.symm))
end Mine
namespace Mine
abbrev ltP (H d : Int) : Bool := decide (d < H)
abbrev leP (H d : Int) : Bool := decide (d ≤ H)
section
variable {prog : Program} {w : World} {A : Around} {h₀ : Heap} {L : Addr} {m : Str → Option Value} {env : Env} {ct elt : Expr} {x : Str} {scope : Scope} {cl : List (Str × Addr)} {s : Shared} {Fin : Shared → List Value → List (Addr × Obj) → Prop} {news : List (Addr × Obj)}
theorem ct_lt {ke : List Int} {H r : Int} (_hb : BL ke H r) {ax : Addr} {vs : List Value} {ks : List Int} {k : Nat} (hh : A.handled = none) (F : Fr h₀ L s.heap m) (N : News h₀ L s.heap news) (hm : (ax, listOf vs.toArray k) ∈ news) (hi : IntsAre vs ks) (hsz : ks.length ≤ sizeLine)
    (turn : ∀ d t I oI C oC D m₂ ys hp h tk (E' : Value → Shared → Prop), d ∈ ks → LCg.NsObj oC m₂ → m₂ x = some (.int d t) → Fr h₀ L h m → News h₀ L h ((I, oI) :: (C, oC) :: (D, LCg.lst ys) :: news) → LCg.Off3 I C D news → ((@Ne Nat I C) ∧ (@Ne Nat I D) ∧ (@Ne Nat C D)) →
      wpAny (model prog w) A (isTrue ct (compEnvC scope cl C env) (eval ct (compEnvC scope cl C env))) (fun ok s' => if ok = true then
        wpAny (model prog w) A (eval elt (compEnvC scope cl C env)) (fun y s'' => CtEnd h₀ L m { s with heap := h, toks := tk } ((I, oI) :: (C, oC) :: (D, LCg.lst ys) :: news) (ltP H d = true ∧ ∃ t', y = .int d t') s'') E' s'
        else CtEnd h₀ L m { s with heap := h, toks := tk } ((I, oI) :: (C, oC) :: (D, LCg.lst ys) :: news) (ltP H d = false) s') E' { { s with heap := hp } with heap := h, toks := tk })
    (fin : ∀ h ys, IntsAre ys (ks.filter (ltP H)) → Fin { s with heap := h } ys news) : LCt.CompSrcT prog w A h₀ L m env ct elt x scope cl Fin (.ref ax) s :=
  ct_filtL (ltP H) hh F N hm hi hsz turn fin
theorem ct_le {ke : List Int} {H r : Int} (_hb : BR ke H r) {ax : Addr} {vs : List Value} {ks : List Int} {k : Nat} (hh : A.handled = none) (F : Fr h₀ L s.heap m) (N : News h₀ L s.heap news) (hm : (ax, listOf vs.toArray k) ∈ news) (hi : IntsAre vs ks) (hsz : ks.length ≤ sizeLine)
    (turn : ∀ d t I oI C oC D m₂ ys hp h tk (E' : Value → Shared → Prop), d ∈ ks → LCg.NsObj oC m₂ → m₂ x = some (.int d t) → Fr h₀ L h m → News h₀ L h ((I, oI) :: (C, oC) :: (D, LCg.lst ys) :: news) → LCg.Off3 I C D news → ((@Ne Nat I C) ∧ (@Ne Nat I D) ∧ (@Ne Nat C D)) →
      wpAny (model prog w) A (isTrue ct (compEnvC scope cl C env) (eval ct (compEnvC scope cl C env))) (fun ok s' => if ok = true then
        wpAny (model prog w) A (eval elt (compEnvC scope cl C env)) (fun y s'' => CtEnd h₀ L m { s with heap := h, toks := tk } ((I, oI) :: (C, oC) :: (D, LCg.lst ys) :: news) (leP H d = true ∧ ∃ t', y = .int d t') s'') E' s'
        else CtEnd h₀ L m { s with heap := h, toks := tk } ((I, oI) :: (C, oC) :: (D, LCg.lst ys) :: news) (leP H d = false) s') E' { { s with heap := hp } with heap := h, toks := tk })
    (fin : ∀ h ys, IntsAre ys (ks.filter (leP H)) → Fin { s with heap := h } ys news) : LCt.CompSrcT prog w A h₀ L m env ct elt x scope cl Fin (.ref ax) s :=
  ct_filtL (leP H) hh F N hm hi hsz turn fin
theorem ct_klt {ke : List Int} {o o₂ : Obj} {lk : Addr} {us : List Value} {n : Nat} {a b : Int} {tK : Tok} (_ho : o.data = .cell (some (.int (Int.fmod a b) tK))) (_hr : o₂.data = .cell (some (.ref lk))) (_hm : (lk, listOf us.toArray n) ∈ news) (_hi : IntsAre us ke) {ax : Addr} {vs : List Value} {ks : List Int} {k : Nat} (hh : A.handled = none) (F : Fr h₀ L s.heap m) (N : News h₀ L s.heap news) (hm : (ax, listOf vs.toArray k) ∈ news) (hi : IntsAre vs ks) (hsz : ks.length ≤ sizeLine)
    (turn : ∀ d t I oI C oC D m₂ ys hp h tk (E' : Value → Shared → Prop), d ∈ ks → LCg.NsObj oC m₂ → m₂ x = some (.int d t) → Fr h₀ L h m → News h₀ L h ((I, oI) :: (C, oC) :: (D, LCg.lst ys) :: news) → LCg.Off3 I C D news → ((@Ne Nat I C) ∧ (@Ne Nat I D) ∧ (@Ne Nat C D)) →
      wpAny (model prog w) A (isTrue ct (compEnvC scope cl C env) (eval ct (compEnvC scope cl C env))) (fun ok s' => if ok = true then
        wpAny (model prog w) A (eval elt (compEnvC scope cl C env)) (fun y s'' => CtEnd h₀ L m { s with heap := h, toks := tk } ((I, oI) :: (C, oC) :: (D, LCg.lst ys) :: news) (ltP (ke.getD (Int.fmod a b).toNat 0) d = true ∧ ∃ t', y = .int d t') s'') E' s'
        else CtEnd h₀ L m { s with heap := h, toks := tk } ((I, oI) :: (C, oC) :: (D, LCg.lst ys) :: news) (ltP (ke.getD (Int.fmod a b).toNat 0) d = false) s') E' { { s with heap := hp } with heap := h, toks := tk })
    (fin : ∀ h ys, IntsAre ys (ks.filter (ltP (ke.getD (Int.fmod a b).toNat 0))) → Fin { s with heap := h } ys news) : LCt.CompSrcT prog w A h₀ L m env ct elt x scope cl Fin (.ref ax) s :=
  ct_filtL (ltP (ke.getD (Int.fmod a b).toNat 0)) hh F N hm hi hsz turn fin
theorem ct_kle {ke : List Int} {o o₂ : Obj} {lk : Addr} {us : List Value} {n : Nat} {a b : Int} {tK : Tok} (_ho : o.data = .cell (some (.int (Int.fmod a b) tK))) (_hr : o₂.data = .cell (some (.ref lk))) (_hm : (lk, listOf us.toArray n) ∈ news) (_hi : IntsAre us ke) {ax : Addr} {vs : List Value} {ks : List Int} {k : Nat} (hh : A.handled = none) (F : Fr h₀ L s.heap m) (N : News h₀ L s.heap news) (hm : (ax, listOf vs.toArray k) ∈ news) (hi : IntsAre vs ks) (hsz : ks.length ≤ sizeLine)
    (turn : ∀ d t I oI C oC D m₂ ys hp h tk (E' : Value → Shared → Prop), d ∈ ks → LCg.NsObj oC m₂ → m₂ x = some (.int d t) → Fr h₀ L h m → News h₀ L h ((I, oI) :: (C, oC) :: (D, LCg.lst ys) :: news) → LCg.Off3 I C D news → ((@Ne Nat I C) ∧ (@Ne Nat I D) ∧ (@Ne Nat C D)) →
      wpAny (model prog w) A (isTrue ct (compEnvC scope cl C env) (eval ct (compEnvC scope cl C env))) (fun ok s' => if ok = true then
        wpAny (model prog w) A (eval elt (compEnvC scope cl C env)) (fun y s'' => CtEnd h₀ L m { s with heap := h, toks := tk } ((I, oI) :: (C, oC) :: (D, LCg.lst ys) :: news) (leP (ke.getD (Int.fmod a b).toNat 0) d = true ∧ ∃ t', y = .int d t') s'') E' s'
        else CtEnd h₀ L m { s with heap := h, toks := tk } ((I, oI) :: (C, oC) :: (D, LCg.lst ys) :: news) (leP (ke.getD (Int.fmod a b).toNat 0) d = false) s') E' { { s with heap := hp } with heap := h, toks := tk })
    (fin : ∀ h ys, IntsAre ys (ks.filter (leP (ke.getD (Int.fmod a b).toNat 0))) → Fin { s with heap := h } ys news) : LCt.CompSrcT prog w A h₀ L m env ct elt x scope cl Fin (.ref ax) s :=
  ct_filtL (leP (ke.getD (Int.fmod a b).toNat 0)) hh F N hm hi hsz turn fin
end
theorem any_mem {zs : List Int} {x : Int} : (zs.any fun y => y == x) = true ↔ x ∈ zs := by
  rw [List.any_eq_true]
  exact ⟨fun ⟨y, hy, e⟩ => by rw [← eq_of_beq e]; exact hy, fun h => ⟨x, h, by simp⟩⟩
theorem p10_e1 {pl ke : List Int} {x r : Int} (h : P10 pl ke) (b : BL ke x r) (a : r < ke.length) (q : ((ke.getD r.toNat 0 == x) != pl.any fun y => y == x) = true) : False := by
  have h1 := p10_in h b
  rw [← any_mem] at h1
  cases e : (pl.any fun y => y == x) with
  | true => have := (h1.mp e).2; rw [e, this] at q; simp at q
  | false =>
    rw [e] at q h1
    have q' : ke.getD r.toNat 0 = x := by
      cases e2 : (ke.getD r.toNat 0 == x) with
      | true => exact eq_of_beq e2
      | false => rw [e2] at q; simp at q
    exact absurd (h1.mpr ⟨a, q'⟩) (by simp)
theorem p10_e2 {pl ke : List Int} {x r : Int} (h : P10 pl ke) (b : BL ke x r) (a : ¬ r < ke.length) (q : (decide (r < ke.length) != pl.any fun y => y == x) = true) : False := by
  have h1 := p10_in h b
  rw [← any_mem] at h1
  rw [decide_eq_false a] at q
  cases e : (pl.any fun y => y == x) with
  | true => exact a (h1.mp e).1
  | false => rw [e] at q; simp at q
theorem p10_held {pl ke : List Int} {x r : Int} (h : P10 pl ke) (b : BL ke x r) (a : r < ke.length) (q : ke.getD r.toNat 0 = x) : x ∈ pl := (p10_in h b).mpr ⟨a, q⟩
theorem p10_of {pl ke n : List Int} (e : ke = n) (p : n.Perm pl) (o : n.Pairwise (· ≤ ·)) : P10 pl ke := by subst e; exact ⟨p, o⟩
theorem end_ins {pl ke n : List Int} {x r : Int} (q : ¬ (ke.take r.toNat ++ x :: ke.drop r.toNat) = n) (h : P10 pl ke) (b : BR ke x r) (p : n.Perm (pl ++ [x])) (o : n.Pairwise (· ≤ ·)) : False := q (p10_uniq (p10_ins h b) p o)
theorem end_del {pl ke n : List Int} {x r : Int} (q : ¬ ke.eraseIdx r.toNat = n) (h : P10 pl ke) (h0 : 0 ≤ r) (h1 : r < ke.length) (e : ke.getD r.toNat 0 = x) (p : n.Perm (pl.eraseIdx (pl.idxOf x))) (o : n.Pairwise (· ≤ ·)) : False := q (p10_uniq (p10_del h h0 h1 e) p o)
theorem end_same {pl ke n : List Int} (q : ¬ ke = n) (h : P10 pl ke) (p : n.Perm pl) (o : n.Pairwise (· ≤ ·)) : False := q (p10_uniq h p o)
theorem end_bl {pl ke n : List Int} {x r : Int} (q : r ≠ ((pl.filter (ltP x)).length : Int)) (b : BL ke x r) (e : ke = n) (p : n.Perm pl) (o : n.Pairwise (· ≤ ·)) : False := q (p10_bl (p10_of e p o) b)
theorem end_br {pl ke n : List Int} {x r : Int} (q : r ≠ ((pl.filter (leP x)).length : Int)) (b : BR ke x r) (e : ke = n) (p : n.Perm pl) (o : n.Pairwise (· ≤ ·)) : False := q (p10_br (p10_of e p o) b)
theorem end_lo {pl ke : List Int} {k : Int} (q : ¬ ((pl.filter (ltP (ke.getD k.toNat 0))).length : Int) ≤ k) (h : P10 pl ke) (h0 : 0 ≤ k) (h1 : k < pl.length) : False := q (p10_lo h h0 h1)
theorem end_hi {pl ke : List Int} {k : Int} (q : ¬ k < ((pl.filter (leP (ke.getD k.toNat 0))).length : Int)) (h : P10 pl ke) (h0 : 0 ≤ k) (h1 : k < pl.length) : False := q (p10_hi h h0 h1)
theorem fmod_lo {x : Int} {zs : List Int} (h : (zs.length : Int) ≠ 0) : 0 ≤ x.fmod zs.length := Int.fmod_nonneg_of_pos _ (by omega)
theorem fmod_hi {x : Int} {zs : List Int} (h : (zs.length : Int) ≠ 0) : x.fmod zs.length < zs.length := Int.fmod_lt_of_pos _ (by omega)
end Mine
namespace Mine
open_top hd for PySem.Challenge.rw_cy0002_10
end Mine
namespace Mine
theorem bisR : ClaimOf hd (fun prog w K p loose mean mg mb => BisTells BR prog w K p loose mean mg mb 32) := by
  unfold ClaimOf
  k_fill
  intro w mean mg mb
  unfold BisTells
  intro dp un gd cn cs a ccd cl outer A₀ base h₀ L m news s l vs ns nn x tk Q E B F X N T hk hl hi hfit hd hu hret
  replace N := news_dup N hl
  clear hl
  refine wpAny_call ?_
  k_with_none
  k_with "exec While Compare cons nil" => k_while_given ["a", "x"] (fun a x _ lo hi => (0 ≤ lo ∧ lo ≤ hi ∧ hi ≤ (a.length : Int)) ∧ WR a x lo hi) (fun _ _ _ lo hi => (hi - lo).toNat) "lo" "hi"
  k_with "state" => first | exact wr_start _ _ | exact wr_hi (by assumption) (by assumption) (by assumption) (by assumption) (by assumption) | exact wr_lo (by assumption) (by assumption) (by assumption) (by assumption) (by assumption)
  k_with "measure" => first | exact mid_lo (by assumption) | exact mid_hi (by assumption)
  k_dflt (refine' code_def ?k1 ?k2 ?k3 ?k4 ?k5 ?kA ?kF ?kK ?k6 ?k7 ?k8 ?k9 ?kB ?_ ?c2 ?c3 ?c4 ?c5; (case kA => exact rfl); (case kF => exact rfl); (case kK => assumption); (case k1 => k_asm); (case k2 => k_asm); (case k3 => k_asm); (case k4 => k_asm); (case k5 => k_asm); (case k6 => k_is); (case k7 => k_is); (case k8 => ktr_room); (case k9 => (refine' kp_binds ?kx ?ke; (case kx => k_in); (case ke => exact fun _ => rfl))); (case c5 => decide); (case kB => exact locs rfl); (case c2 => exact rfl); (case c3 => exact rfl); (case c4 => exact rfl); k_whole; intro g' L' h' FG' F' N' B' X' T'; (try dsimp only); (try k_lift B'); (try k_fold))
  k_steps
  all_goals exact bis_ret (Q := Q) (s := s) (rel := BR) hret (br_end (by assumption) (by assumption) (by assumption) (by assumption) (by assumption)) (by assumption) (by assumption)
theorem bisL : ClaimOf hd (fun prog w K p loose mean mg mb => BisTells BL prog w K p loose mean mg mb 41) := by
  unfold ClaimOf
  k_fill
  intro w mean mg mb
  unfold BisTells
  intro dp un gd cn cs a ccd cl outer A₀ base h₀ L m news s l vs ns nn x tk Q E B F X N T hk hl hi hfit hd hu hret
  replace N := news_dup N hl
  clear hl
  refine wpAny_call ?_
  k_with_none
  k_with "exec While Compare cons nil" => k_while_given ["a", "x"] (fun a x _ lo hi => (0 ≤ lo ∧ lo ≤ hi ∧ hi ≤ (a.length : Int)) ∧ WL a x lo hi) (fun _ _ _ lo hi => (hi - lo).toNat) "lo" "hi"
  k_with "state" => first | exact wl_start _ _ | exact wl_hi (by assumption) (by assumption) (by assumption) (by assumption) (by assumption) | exact wl_lo (by assumption) (by assumption) (by assumption) (by assumption) (by assumption)
  k_with "measure" => first | exact mid_lo (by assumption) | exact mid_hi (by assumption)
  k_dflt (refine' code_def ?k1 ?k2 ?k3 ?k4 ?k5 ?kA ?kF ?kK ?k6 ?k7 ?k8 ?k9 ?kB ?_ ?c2 ?c3 ?c4 ?c5; (case kA => exact rfl); (case kF => exact rfl); (case kK => assumption); (case k1 => k_asm); (case k2 => k_asm); (case k3 => k_asm); (case k4 => k_asm); (case k5 => k_asm); (case k6 => k_is); (case k7 => k_is); (case k8 => ktr_room); (case k9 => (refine' kp_binds ?kx ?ke; (case kx => k_in); (case ke => exact fun _ => rfl))); (case c5 => decide); (case kB => exact locs rfl); (case c2 => exact rfl); (case c3 => exact rfl); (case c4 => exact rfl); k_whole; intro g' L' h' FG' F' N' B' X' T'; (try dsimp only); (try k_lift B'); (try k_fold))
  k_steps
  all_goals exact bis_ret (Q := Q) (s := s) (rel := BL) hret (bl_end (by assumption) (by assumption) (by assumption) (by assumption) (by assumption)) (by assumption) (by assumption)
theorem bisR4 : ClaimOf hd (fun prog w K p loose mean mg mb => BisTells4 BR prog w K p loose mean mg mb 32) := by
  unfold ClaimOf
  k_fill
  intro w mean mg mb
  unfold BisTells4
  intro dp un gd cn cs a ccd cl outer A₀ base h₀ L m news s l vs ns nn x tk t0 Q E B F X N T hk hl hi hfit hd hu hret
  replace N := news_dup N hl
  clear hl
  refine wpAny_call ?_
  k_with_none
  k_with "exec While Compare cons nil" => k_while_given ["a", "x"] (fun a x _ lo hi => (0 ≤ lo ∧ lo ≤ hi ∧ hi ≤ (a.length : Int)) ∧ WR a x lo hi) (fun _ _ _ lo hi => (hi - lo).toNat) "lo" "hi"
  k_with "state" => first | exact wr_start _ _ | exact wr_hi (by assumption) (by assumption) (by assumption) (by assumption) (by assumption) | exact wr_lo (by assumption) (by assumption) (by assumption) (by assumption) (by assumption)
  k_with "measure" => first | exact mid_lo (by assumption) | exact mid_hi (by assumption)
  k_dflt (refine' code_def ?k1 ?k2 ?k3 ?k4 ?k5 ?kA ?kF ?kK ?k6 ?k7 ?k8 ?k9 ?kB ?_ ?c2 ?c3 ?c4 ?c5; (case kA => exact rfl); (case kF => exact rfl); (case kK => assumption); (case k1 => k_asm); (case k2 => k_asm); (case k3 => k_asm); (case k4 => k_asm); (case k5 => k_asm); (case k6 => k_is); (case k7 => k_is); (case k8 => ktr_room); (case k9 => (refine' kp_binds ?kx ?ke; (case kx => k_in); (case ke => exact fun _ => rfl))); (case c5 => decide); (case kB => exact locs rfl); (case c2 => exact rfl); (case c3 => exact rfl); (case c4 => exact rfl); k_whole; intro g' L' h' FG' F' N' B' X' T'; (try dsimp only); (try k_lift B'); (try k_fold))
  k_steps
  all_goals exact bis_ret (Q := Q) (s := s) (rel := BR) hret (br_end (by assumption) (by assumption) (by assumption) (by assumption) (by assumption)) (by assumption) (by assumption)
end Mine
namespace Mine
abbrev S10 := List Value × List Int × Nat × List Value × List Int × Nat × Obj × Obj
abbrev Led10 (lp lk c3 c2 : Addr) (rest : List (Addr × Obj)) (c : S10) : List (Addr × Obj) :=
  (lp, listOf c.1.toArray c.2.2.1) :: (lk, listOf c.2.2.2.1.toArray c.2.2.2.2.2.1) :: (c3, c.2.2.2.2.2.2.1) :: (c2, c.2.2.2.2.2.2.2) :: rest
abbrev Fa10 (c : S10) : Prop := IntsAre c.1 c.2.1 ∧ IntsAre c.2.2.2.1 c.2.2.2.2.1 ∧ (∃ v, c.2.2.2.2.2.2.1.data = .cell v) ∧ ∃ v, c.2.2.2.2.2.2.2.data = .cell v
local macro_rules | `(tactic| walk_at "exec For Name Call cons nil") => `(tactic| (k_here; (rename Fr _ _ _ _ => lF'); (with_unfolding_all refine' For_turns lF' ?_; k_whole)))
local macro_rules | `(tactic| walk_at "FPost") => `(tactic| (dsimp only [FPost]))
local macro_rules | `(tactic| walk_at "pyIter ref") => `(tactic| (
  k_here
  (with_reducible show wpAny _ _ (pyIter (Value.ref _)) (fun it s₂ => TurnsAt _ _ _ _ _ _ _ _ _ it s₂) _ _)
  k_dflt (
    refine' g_fixR (Led10 _ _ _ _ _) (fun _ => []) Fa10 [Str.ofString "i", Str.ofString "way", Str.ofString "at", Str.ofString "inside"] (fun i c => (c.2.1.length ≤ i ∧ c.2.2.2.2.1.length ≤ i) ∧ P10 c.2.1 c.2.2.2.2.1) (_, _, _, _, _, _, _, _) ?hadr ?hh ?r ?s ?n ?F ?N ?f ?k ?p ?_ ?_
    (case hadr => exact fun _ _ => rfl)
    (case hh => exact rfl)
    (case r => assumption)
    (case s => exact small_two (by omega))
    (case n => exact rangeSize_two _)
    (case F => k_asm)
    (case N => first | k_asm | (with_unfolding_all k_asm))
    (case f => (refine ⟨?_, ?_, ⟨_, by assumption⟩, ⟨_, by assumption⟩⟩ <;> (dsimp only; exact IntsAre.nil)))
    (case k => kst_all)
    (case p => k_extra "state")
    )
  all_goals first | (intro I9 hI9 c9 i9 t9 u9 h9 tk9 it9 hi9 hf9 hp9 off9 F9 N9; obtain ⟨us9, zs9, nn9, us8, zs8, nn8, o9, o8⟩ := c9; dsimp only [Led10, Fa10, kstB] at hf9 hp9 F9 N9 hI9; (try k_lt hI9); clear off9; obtain ⟨hf9a, hf9b, ⟨w9, hw9⟩, ⟨w8, hw8⟩⟩ := hf9; obtain ⟨⟨hp9a, hp9b⟩, hp9c⟩ := hp9; have hl9 := hf9a.length; have hl8 := hf9b.length; have hl7 := hp9c.1.length_eq; try k_fold) | (intro c9 u9 h9 tk9 hf9 hp9 F9 N9; obtain ⟨us9, zs9, nn9, us8, zs8, nn8, o9, o8⟩ := c9; dsimp only [Led10, Fa10, kstB] at hf9 hp9 F9 N9; obtain ⟨hf9a, hf9b, ⟨w9, hw9⟩, ⟨w8, hw8⟩⟩ := hf9; obtain ⟨⟨hp9a, hp9b⟩, hp9c⟩ := hp9; have hl9 := hf9a.length; have hl8 := hf9b.length; try k_fold)
  ))
local macro_rules | `(tactic| walk_at "FEnd") => `(tactic| (
  k_here
  (rename News _ _ _ _ => nE9)
  (try simp only [List.push_toArray] at nE9)
  refine' f_end (_, _, _, _, _, _, _, _) ?F ?N ?hI ?hn ?hf ?hk ?hr ?hp
  (case F => assumption)
  (case N => exact nE9)
  (case hI => k_mem)
  (case hn => kst_in)
  (case hf => exact ⟨by kst_facts, by kst_facts, ⟨_, by assumption⟩, ⟨_, by assumption⟩⟩)
  (case hk => kst_all)
  (case hr => ksw_same)
  (case hp => ((try dsimp only); k_extra "state"))))
local macro_rules | `(tactic| walk_at "call builtin:list.append") => `(tactic| (k_here; (with_reducible show wpAny _ _ (call (Value.builtin _) [Value.ref _, Value.int _ _]) _ _ _); k_dflt (refine' append_led ?F ?N ?i ?z ?U ?_; (case F => k_asm); (case N => k_asm); (case U => k_upd); (case i => l_ints); (case z => omega)); intro h9 F9 N9 hi9 hl9; (try k_sweep)))
local macro_rules | `(tactic| walk_at "call builtin:list.remove") => `(tactic| (k_here; (with_reducible show wpAny _ _ (call (Value.builtin _) [Value.ref _, Value.int _ _]) _ _ _); k_dflt (refine' remove_led ?F ?N ?i ?x ?z ?U ?_; (case F => k_asm); (case N => k_asm); (case U => k_upd); (case i => l_ints); (case x => k_extra "held"); (case z => omega)); intro h9 F9 N9 hi9 hl9; (try k_sweep)))
local macro_rules | `(tactic| walk_at "call builtin:list.insert") => `(tactic| (k_here; (with_reducible show wpAny _ _ (call (Value.builtin _) [Value.ref _, Value.int _ _, Value.int _ _]) _ _ _); k_dflt (refine' insert_led ?F ?N ?i ?a ?b ?z ?U ?_; (case F => k_asm); (case N => k_asm); (case U => k_upd); (case i => l_ints); (case a => omega); (case b => omega); (case z => omega)); intro h9 F9 N9 hi9 hl9; (try k_sweep)))
local macro_rules | `(tactic| walk_at "delItem") => `(tactic| (k_here; (with_reducible show wpAny _ _ (delItem (Value.ref _) (Value.int _ _)) _ _ _); k_dflt (refine' del_led ?F ?N ?i ?a ?b ?z ?U ?_; (case F => k_asm); (case N => k_asm); (case U => k_upd); (case i => l_ints); (case a => omega); (case b => omega); (case z => omega)); intro h9 F9 N9 hi9 hl9; (try k_sweep)))
local macro_rules | `(tactic| walk_at "subscriptTail") => `(tactic| (k_here; (with_reducible show wpAny _ _ (subscriptTail _ _ (Value.ref _) (Value.int _ _)) _ _ _); (k_dflt (refine' item_led ?N ?m ?i ?a ?b ?c ?_ ?hs; (case N => k_asm); (case m => k_mem); (case i => l_ints); (case a => first | omega | (have hm9 := mid_facts (by assumption); omega)); (case b => first | omega | (have hm9 := mid_facts (by assumption); omega) | (have hm9 := pos_of_ne (by assumption); omega)); (case c => omega); (case hs => with_unfolding_all rfl); k_whole)); intro t9))
local macro_rules | `(tactic| walk_at "eval ListComp") => `(tactic| (k_here; k_dflt (refine LCt.ListComp_T (F₀ := by k_asm) (by with_unfolding_all rfl) (by decide) (by rfl) (by decide) (by rfl) ?_)))
local macro_rules | `(tactic| walk_at "call ref") => `(tactic| (
  k_here
  k_dflt (
    (first
      | ((with_reducible show wpAny _ _ (call (Value.ref 32) [_, _]) _ _ _); refine' bis_use ?B ?F ?X ?N ?T ?hk ?hm ?hi ?hf (bisR.at _ _ _ _) ?hd ?hu ?_)
      | ((with_reducible show wpAny _ _ (call (Value.ref 32) [_, _, _, _]) _ _ _); refine' bis_use4 ?B ?F ?X ?N ?T ?hk ?hm ?hi ?hf (bisR4.at _ _ _ _) ?hd ?hu ?_)
      | ((with_reducible show wpAny _ _ (call (Value.ref 41) _) _ _ _); refine' bis_use ?B ?F ?X ?N ?T ?hk ?hm ?hi ?hf (bisL.at _ _ _ _) ?hd ?hu ?_))
    (case B => k_asm)
    (case F => k_asm)
    (case X => k_asm)
    (case N => k_asm)
    (case T => k_asm)
    (case hk => exact rfl)
    (case hm => k_mem)
    (case hi => l_ints)
    (case hf => l_fact)
    (case hd => ktr_room)
    (case hu => ktr_units)
    (intro r9 t9 h9 tk9 hB9 F9 N9)
    (have hB0 := hB9.1)
    (have hB1 := hB9.2.1)
    (try dsimp only)
    (try k_fold)
    )))
local macro_rules | `(tactic| walk_at "leaving") => `(tactic| (exfalso; first | omega | (have hz9 := pos_of_ne (by assumption); omega)))
local macro_rules | `(tactic| walk_at "CompSrcT") => `(tactic| (
  k_here
  k_dflt (
    (first
     | (refine' (show _ → LCt.CompSrcT _ _ _ _ _ _ _ (Expr.Compare _ [CmpOp.Lt] [Expr.Name _ _] _) _ _ _ _ _ _ _ from fun z => z) ?_; refine' ct_lt (by assumption) ?hh ?F ?N ?m ?i ?z ?_ ?_)
     | (refine' (show _ → LCt.CompSrcT _ _ _ _ _ _ _ (Expr.Compare _ [CmpOp.LtE] [Expr.Name _ _] _) _ _ _ _ _ _ _ from fun z => z) ?_; refine' ct_le (by assumption) ?hh ?F ?N ?m ?i ?z ?_ ?_)
     | (refine' (show _ → LCt.CompSrcT _ _ _ _ _ _ _ (Expr.Compare _ [CmpOp.Lt] [Expr.Subscript _ _ _] _) _ _ _ _ _ _ _ from fun z => z) ?_; refine' ct_klt (by assumption) (by assumption) ?km ?ki ?hh ?F ?N ?m ?i ?z ?_ ?_)
     | (refine' (show _ → LCt.CompSrcT _ _ _ _ _ _ _ (Expr.Compare _ [CmpOp.LtE] [Expr.Subscript _ _ _] _) _ _ _ _ _ _ _ from fun z => z) ?_; refine' ct_kle (by assumption) (by assumption) ?km ?ki ?hh ?F ?N ?m ?i ?z ?_ ?_))
    (case hh => exact rfl)
    (case F => k_asm)
    (case N => k_asm)
    (case m => k_mem)
    (case i => l_ints)
    (case z => first | size_fits | l_fact)
    (try (case km => k_mem))
    (try (case ki => assumption))
    )
  all_goals first | (intro d9 t9 I9 oI9 C9 oC9 D9 m9 ys9 hp9 h9 tk9 E9 hd9 hC9 hx9 F9 N9 off9 ne9) | (intro h9 ys9 hy9; have hq9 := ints_filter_le hy9; have hr9 := hy9.length)
  ))
local macro_rules | `(tactic| walk_at "CtEnd") => `(tactic| (refine ct_end (by assumption) (by assumption) (by (intro p9 hp9; repeat (first | exact hp9 | refine List.Mem.tail _ ?_))) ?_; first | exact ⟨decide_eq_true (by first | assumption | omega), _, rfl⟩ | exact decide_eq_false (by first | assumption | omega)))
theorem t : PySem.Challenge.rw_cy0002_10.Holds := hd (by
  k_with_none
  (k_with "held" => exact p10_held (by assumption) (by assumption) (by assumption) (by assumption))
  (k_with "state" => first | exact ⟨⟨Nat.le_refl _, Nat.le_refl _⟩, p10_start⟩ | exact ⟨⟨by omega, by omega⟩, p10_of (by assumption) (by assumption) (by assumption)⟩)
  (k_with "end" => first | exact rfl | (exfalso; first | exact end_ins (by assumption) (by assumption) (by assumption) (by assumption) (by assumption) | exact end_del (by assumption) (by assumption) (by assumption) (by assumption) (by assumption) (by assumption) (by assumption) | exact end_bl (by assumption) (by assumption) (by assumption) (by assumption) (by assumption) | exact end_br (by assumption) (by assumption) (by assumption) (by assumption) (by assumption) | exact p10_e1 (by assumption) (by assumption) (by assumption) (by assumption) | exact p10_e2 (by assumption) (by assumption) (by assumption) (by assumption) | exact end_lo (by assumption) (by assumption) (fmod_lo (by assumption)) (fmod_hi (by assumption)) | exact end_hi (by assumption) (by assumption) (fmod_lo (by assumption)) (fmod_hi (by assumption)) | exact end_same (by assumption) (by assumption) (by assumption) (by assumption)))
  k_go)
end Mine
theorem PySem.Challenge.cw_cy0002_10_holds : PySem.Challenge.rw_cy0002_10.Holds := by
  exact Mine.t

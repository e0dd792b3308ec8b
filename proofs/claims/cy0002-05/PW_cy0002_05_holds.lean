import PyProof.Rows.All
import Wide.All
import OpenK.AllK
import Wide.FinOn
import PySem.Challenge.RW_cy0002_05
open PySem PySem.W PyProof.Rows
set_option Elab.async false
set_option maxRecDepth 100000
set_option maxHeartbeats 8000000
set_option linter.unusedVariables false
namespace Mine

/-- what bisect_right hands back, told by the two neighbours alone -/
def WR (a : List Int) (x lo hi : Int) : Prop := (lo = 0 ∨ a.getD (lo - 1).toNat 0 ≤ x) ∧ (hi = a.length ∨ x < a.getD hi.toNat 0)
def WL (a : List Int) (x lo hi : Int) : Prop := (lo = 0 ∨ a.getD (lo - 1).toNat 0 < x) ∧ (hi = a.length ∨ x ≤ a.getD hi.toNat 0)
def BR (a : List Int) (x r : Int) : Prop := 0 ≤ r ∧ r ≤ a.length ∧ WR a x r r
def BL (a : List Int) (x r : Int) : Prop := 0 ≤ r ∧ r ≤ a.length ∧ WL a x r r

theorem mid_facts {lo hi : Int} (h : lo < hi) : lo ≤ (lo + hi).fdiv 2 ∧ (lo + hi).fdiv 2 < hi := by
  rw [Int.fdiv_eq_ediv_of_nonneg _ (by decide)]
  omega

theorem wr_start (a : List Int) (x : Int) : (0 ≤ (0 : Int) ∧ (0 : Int) ≤ (a.length : Int) ∧ (a.length : Int) ≤ (a.length : Int)) ∧ WR a x 0 a.length :=
  ⟨by omega, .inl rfl, .inl rfl⟩
theorem wl_start (a : List Int) (x : Int) : (0 ≤ (0 : Int) ∧ (0 : Int) ≤ (a.length : Int) ∧ (a.length : Int) ≤ (a.length : Int)) ∧ WL a x 0 a.length :=
  ⟨by omega, .inl rfl, .inl rfl⟩
theorem wr_hi {a : List Int} {x lo hi : Int} (h0 : 0 ≤ lo) (h1 : hi ≤ a.length) (w : WR a x lo hi) (h : lo < hi) (hx : x < a.getD ((lo + hi).fdiv 2).toNat 0) :
    (0 ≤ lo ∧ lo ≤ (lo + hi).fdiv 2 ∧ (lo + hi).fdiv 2 ≤ (a.length : Int)) ∧ WR a x lo ((lo + hi).fdiv 2) := by
  have := mid_facts h
  exact ⟨by omega, w.1, .inr hx⟩
theorem wr_lo {a : List Int} {x lo hi : Int} (h0 : 0 ≤ lo) (h1 : hi ≤ a.length) (w : WR a x lo hi) (h : lo < hi) (hx : ¬ x < a.getD ((lo + hi).fdiv 2).toNat 0) :
    (0 ≤ (lo + hi).fdiv 2 + 1 ∧ (lo + hi).fdiv 2 + 1 ≤ hi ∧ hi ≤ (a.length : Int)) ∧ WR a x ((lo + hi).fdiv 2 + 1) hi := by
  have := mid_facts h
  refine ⟨by omega, .inr ?_, w.2⟩
  rw [show (lo + hi).fdiv 2 + 1 - 1 = (lo + hi).fdiv 2 by omega]
  omega
theorem wl_lo {a : List Int} {x lo hi : Int} (h0 : 0 ≤ lo) (h1 : hi ≤ a.length) (w : WL a x lo hi) (h : lo < hi) (hx : a.getD ((lo + hi).fdiv 2).toNat 0 < x) :
    (0 ≤ (lo + hi).fdiv 2 + 1 ∧ (lo + hi).fdiv 2 + 1 ≤ hi ∧ hi ≤ (a.length : Int)) ∧ WL a x ((lo + hi).fdiv 2 + 1) hi := by
  have := mid_facts h
  refine ⟨by omega, .inr ?_, w.2⟩
  rw [show (lo + hi).fdiv 2 + 1 - 1 = (lo + hi).fdiv 2 by omega]
  omega
theorem wl_hi {a : List Int} {x lo hi : Int} (h0 : 0 ≤ lo) (h1 : hi ≤ a.length) (w : WL a x lo hi) (h : lo < hi) (hx : ¬ a.getD ((lo + hi).fdiv 2).toNat 0 < x) :
    (0 ≤ lo ∧ lo ≤ (lo + hi).fdiv 2 ∧ (lo + hi).fdiv 2 ≤ (a.length : Int)) ∧ WL a x lo ((lo + hi).fdiv 2) := by
  have := mid_facts h
  exact ⟨by omega, w.1, .inr (by omega)⟩
theorem mid_lo {lo hi : Int} (h : lo < hi) : (hi - ((lo + hi).fdiv 2 + 1)).toNat < (hi - lo).toNat := by
  have := mid_facts h
  omega
theorem mid_hi {lo hi : Int} (h : lo < hi) : ((lo + hi).fdiv 2 - lo).toNat < (hi - lo).toNat := by
  have := mid_facts h
  omega
theorem br_end {a : List Int} {x lo hi : Int} (h0 : 0 ≤ lo) (h1 : lo ≤ hi) (h2 : hi ≤ a.length) (w : WR a x lo hi) (h : ¬ lo < hi) : BR a x lo := by
  have : hi = lo := by omega
  subst this
  exact ⟨h0, h2, w⟩
theorem bl_end {a : List Int} {x lo hi : Int} (h0 : 0 ≤ lo) (h1 : lo ≤ hi) (h2 : hi ≤ a.length) (w : WL a x lo hi) (h : ¬ lo < hi) : BL a x lo := by
  have : hi = lo := by omega
  subst this
  exact ⟨h0, h2, w⟩

/-- a search function's contract upon a list of the ledger's -/
def BisTells (rel : List Int → Int → Int → Prop) (prog : Program) (w : World) (K : Frag) (p : Program) (loose : List Str) (mean : ExcName → Option Value) (mg mb : Str → Option Value) (f : Addr) : Prop :=
  ∀ (dp un : Nat) (gd : Option (List Code)) (cn : Str) (cs : Scope) (a : Addr) (ccd : Value) (cl : List (Str × Addr)) (outer : List Env) (A₀ : Around) (base h₀ : Heap) (L : Addr) (m : Str → Option Value) (news : List (Addr × Obj)) (s : Shared) (l : Addr) (vs : List Value) (ns : List Int) (nn : Nat) (x : Int) (tk : Tok)
    (Q E : Value → Shared → Prop),
    Below A₀ base outer h₀ → Fr h₀ L s.heap m → K.In h₀ → News h₀ L s.heap news → Top p loose mean mg mb h₀ → cs.kind = .function → (l, listOf vs.toArray nn) ∈ news → IntsAre vs ns → ns.length ≤ 2 ^ 20 → dp + 1 < recursionLimit → un + 8 < cLine →
    (∀ (r : Int) (t : Tok) (h' : Heap) (tk' : Nat), rel ns x r → Fr h₀ L h' m → News h₀ L h' news → Q (.int r t) { s with heap := h', toks := tk' }) →
    wpAny (model prog w) (ktrTop dp un gd cn cs L a ccd cl outer) (call (.ref f) [.ref l, .int x tk]) Q E s

theorem bis_ret {rel : List Int → Int → Int → Prop} {h₀ h' : Heap} {L : Addr} {m : Str → Option Value} {news : List (Addr × Obj)} {ns : List Int} {x : Int} {s : Shared} {Q : Value → Shared → Prop} {y : Int} {t : Tok} {tk' : Nat} {p : Addr × Obj}
    (hret : ∀ (r : Int) (t : Tok) (h' : Heap) (tk' : Nat), rel ns x r → Fr h₀ L h' m → News h₀ L h' news → Q (.int r t) { s with heap := h', toks := tk' }) (e : rel ns x y) (F : Fr h₀ L h' m) (N : News h₀ L h' (p :: news)) : Q (.int y t) { s with heap := h', toks := tk' } :=
  hret y t h' tk' e F (fun q hq => N q (.tail _ hq))
theorem news_dup {h₀ h : Heap} {L : Addr} {p : Addr × Obj} {news : List (Addr × Obj)} (N : News h₀ L h news) (hp : p ∈ news) : News h₀ L h (p :: news) := fun q hq => by
  rcases List.mem_cons.mp hq with rfl | hq
  · exact N _ hp
  · exact N q hq
/-- the claim for the program that a head is about -/
def ClaimOf {q : Program} {loose : List Str} {XP : (Str → Option Value) → Heap → Prop} {K : Params → Frag} {as : List Addr} {e : ∀ P, as = (K P).map (·.1)} {r : RowW} {d : DefRec} {kwd : List (Str × Expr)} {run : Value → List Value → Sem Value} {H : Prop}
    (_hd : WalkO q loose XP (kHook K as e).says r d kwd run → H) (C : Program → World → Frag → Program → List Str → (ExcName → Option Value) → (Str → Option Value) → (Str → Option Value) → Prop) : Prop :=
  ∀ (w : World) (mean : ExcName → Option Value) (mg mb : Str → Option Value), C r.prog w (K w.params) q (looseW q loose) mean mg mb
end Mine
namespace Mine
theorem ClaimOf.at {q : Program} {loose : List Str} {XP : (Str → Option Value) → Heap → Prop} {K : Params → Frag} {as : List Addr} {e : ∀ P, as = (K P).map (·.1)} {r : RowW} {d : DefRec} {kwd : List (Str × Expr)} {run : Value → List Value → Sem Value} {H : Prop}
    {hd : WalkO q loose XP (kHook K as e).says r d kwd run → H} {C : Program → World → Frag → Program → List Str → (ExcName → Option Value) → (Str → Option Value) → (Str → Option Value) → Prop} (h : ClaimOf hd C)
    (w : World) (mean : ExcName → Option Value) (mg mb : Str → Option Value) : C r.prog w (K w.params) q (looseW q loose) mean mg mb := h w mean mg mb
end Mine
namespace Mine
theorem bis_use {rel : List Int → Int → Int → Prop} {prog : Program} {w : World} {K : Frag} {p : Program} {loose : List Str} {mean : ExcName → Option Value} {mg mb : Str → Option Value} {f : Addr}
    {dp un : Nat} {gd : Option (List Code)} {cn : Str} {cs : Scope} {a : Addr} {ccd : Value} {cl : List (Str × Addr)} {outer : List Env} {A₀ : Around} {base h₀ : Heap} {L : Addr} {m : Str → Option Value} {news : List (Addr × Obj)} {s : Shared} {l : Addr} {vs : List Value} {ns : List Int} {nn : Nat} {x : Int} {tk : Tok}
    {Q E : Value → Shared → Prop} (B : Below A₀ base outer h₀) (F : Fr h₀ L s.heap m) (X : K.In h₀) (N : News h₀ L s.heap news) (T : Top p loose mean mg mb h₀) (hk : cs.kind = .function) (hm : (l, listOf vs.toArray nn) ∈ news) (hi : IntsAre vs ns) (hfit : ns.length ≤ 2 ^ 20)
    (C : BisTells rel prog w K p loose mean mg mb f) (hd : dp + 1 < recursionLimit) (hu : un + 8 < cLine)
    (ret : ∀ (r : Int) (t : Tok) (h' : Heap) (tk' : Nat), rel ns x r → Fr h₀ L h' m → News h₀ L h' news → Q (.int r t) { s with heap := h', toks := tk' }) :
    wpAny (model prog w) (ktrTop dp un gd cn cs L a ccd cl outer) (call (.ref f) [.ref l, .int x tk]) Q E s := C _ _ _ _ _ _ _ _ _ _ _ _ _ _ _ _ _ _ _ _ _ _ _ _ B F X N T hk hm hi hfit hd hu ret
theorem bool_end {p : Prop} [Decidable p] (h : p) : (decide p == true) = true := by simp [h]
end Mine
namespace Mine
abbrev rngO (a b c : Int) (t u v : Tok) : Obj := { cls := .type "range", dict := none, data := .fields #[.int a t, .int b u, .int c v], slots := #[] }
section
variable {prog : Program} {w : World} {A : Around} {E : Value → Shared → Prop} {s : Shared}
theorem getItem_range {r : Addr} {a b c k : Int} {t u v tk : Tok} {Q : Value → Shared → Prop} (hr : IsRange s.heap r a b c t u v) (h0 : 0 ≤ k) (h1 : k < Builtin.Range.rangeSize a b c)
    (h : Q (.int (a + k * c) s.toks) { s with toks := s.toks + 1 }) : wpAny (model prog w) A (getItem (.ref r) (.int k tk)) Q E s := by
  have hT : s.TypeIs (.ref r) "range" := ⟨_, hr, rfl⟩
  refine wpAny_getItem_slot hT (by decide) F.slot_range_getitem (wpAny_call_entry F.slot_range_getitem hT F.entry_range_getitem ?_ (F.args_range_getitem_2 _ _))
  obtain ⟨hp, g, d, tks, os⟩ := s
  wp_walk using wpAny_loadPart' hr
  rw [int_index]
  refine wpAny_pure ?_
  dsimp only
  rw [if_neg (by simp)]
  refine wpAny_bind (wpAny_of_eq (a := k) rfl ?_)
  rw [if_neg (show ¬ k < 0 by omega), if_neg (by simp; omega)]
  wp_walk
  exact ⟨_, rfl, h⟩
theorem item_range {r : Addr} {a b c k : Int} {t u v tk : Tok} {value slice : Expr} {Q : Value → Shared → Prop} (hr : IsRange s.heap r a b c t u v) (h0 : 0 ≤ k) (h1 : k < Builtin.Range.rangeSize a b c)
    (h : Q (.int (a + k * c) s.toks) { s with toks := s.toks + 1 })
    (hs : subscripted slice false (.ref r) (.int k tk) = operate [.ref r, .int k tk] (getItem (.ref r) (.int k tk)) := by with_unfolding_all rfl) :
    wpAny (model prog w) A (subscriptTail value slice (.ref r) (.int k tk)) Q E s :=
  tail_any ⟨_, hr, rfl⟩ F.slot_range_getitem.lookup (getItem_range hr h0 h1 h) hs
end
section
variable {prog : Program} {w : World} {A : Around} {E : Value → Shared → Prop} {s : Shared} {h₀ : Heap} {L : Addr} {m : Str → Option Value} {news : List (Addr × Obj)}
/-- range(n) onto the ledger -/
theorem range1_led {Q : Value → Shared → Prop} {n : Int} {t : Tok} (F : Fr h₀ L s.heap m) (N : News h₀ L s.heap news)
    (h : ∀ r h' tk t₁ u₁ v₁, (∀ p ∈ news, p.1 < r) → Fr h₀ L h' m → News h₀ L h' ((r, rngO 0 n 1 t₁ u₁ v₁) :: news) → Q (.ref r) { s with heap := h', toks := tk }) :
    wpAny (model prog w) A (call (.type "range") [.int n t]) Q E s := by
  refine range1_rows F N fun h' tk t₁ u₁ v₁ hr F' N' _ => h _ h' tk t₁ u₁ v₁ (fun p hp => Heap.lt_size (N p hp).1) F' fun p hp => ?_
  rcases List.mem_cons.mp hp with rfl | hp
  · exact ⟨hr, Nat.ne_of_gt F.ns.lt, next_is_new F⟩
  · exact N' p hp
theorem len_range_led {Q : Value → Shared → Prop} {r : Addr} {n : Nat} {t u v : Tok} (N : News h₀ L s.heap news) (hm : (r, rngO 0 (n : Int) 1 t u v) ∈ news) (hfit : (n : Int) < 2 ^ 62)
    (h : Q (.int n (s.toks + 1)) { s with toks := s.toks + 1 + 1 }) : wpAny (model prog w) A (call (.builtin "len") [.ref r]) Q E s :=
  call_len_range (N _ hm).1 (by rw [rangeSize_nat]; omega) (by omega) h
theorem item_range_led {Q : Value → Shared → Prop} {r : Addr} {n : Nat} {k : Int} {t u v tk : Tok} {value slice : Expr} (N : News h₀ L s.heap news) (hm : (r, rngO 0 (n : Int) 1 t u v) ∈ news) (h0 : 0 ≤ k) (h1 : k < n)
    (h : Q (.int k s.toks) { s with toks := s.toks + 1 })
    (hs : subscripted slice false (.ref r) (.int k tk) = operate [.ref r, .int k tk] (getItem (.ref r) (.int k tk)) := by with_unfolding_all rfl) :
    wpAny (model prog w) A (subscriptTail value slice (.ref r) (.int k tk)) Q E s :=
  item_range (N _ hm).1 h0 (by rw [rangeSize_nat]; omega) (by rw [Int.mul_one, Int.zero_add]; exact h) hs
end
end Mine
namespace Mine
/-- the word of bisect_left by a key: g is the key upon the places -/
def WK (g : Int → Int) (n x lo hi : Int) : Prop := (lo = 0 ∨ g (lo - 1) < x) ∧ (hi = n ∨ x ≤ g hi)
def BK (g : Int → Int) (n x r : Int) : Prop := 0 ≤ r ∧ r ≤ n ∧ WK g n x r r
theorem wk_start (g : Int → Int) (n x : Int) (hn : 0 ≤ n) : (0 ≤ (0 : Int) ∧ (0 : Int) ≤ n ∧ n ≤ n) ∧ WK g n x 0 n := ⟨by omega, .inl rfl, .inl rfl⟩
theorem wk_lo {g : Int → Int} {n x lo hi : Int} (h0 : 0 ≤ lo) (h1 : hi ≤ n) (w : WK g n x lo hi) (h : lo < hi) (hx : g ((lo + hi).fdiv 2) < x) :
    (0 ≤ (lo + hi).fdiv 2 + 1 ∧ (lo + hi).fdiv 2 + 1 ≤ hi ∧ hi ≤ n) ∧ WK g n x ((lo + hi).fdiv 2 + 1) hi := by
  have := mid_facts h
  refine ⟨by omega, .inr ?_, w.2⟩
  rw [show (lo + hi).fdiv 2 + 1 - 1 = (lo + hi).fdiv 2 by omega]
  exact hx
theorem wk_hi {g : Int → Int} {n x lo hi : Int} (h0 : 0 ≤ lo) (h1 : hi ≤ n) (w : WK g n x lo hi) (h : lo < hi) (hx : ¬ g ((lo + hi).fdiv 2) < x) :
    (0 ≤ lo ∧ lo ≤ (lo + hi).fdiv 2 ∧ (lo + hi).fdiv 2 ≤ n) ∧ WK g n x lo ((lo + hi).fdiv 2) := by
  have := mid_facts h
  exact ⟨by omega, w.1, .inr (by omega)⟩
theorem bk_end {g : Int → Int} {n x lo hi : Int} (h0 : 0 ≤ lo) (h1 : lo ≤ hi) (h2 : hi ≤ n) (w : WK g n x lo hi) (h : ¬ lo < hi) : BK g n x lo := by
  have : hi = lo := by omega
  subst this
  exact ⟨h0, h2, w⟩
theorem BK.lo {g : Int → Int} {n x r : Int} (hs : ∀ i j, 0 ≤ i → i ≤ j → j < n → g i ≤ g j) (h : BK g n x r) {i : Int} (h0 : 0 ≤ i) (hi : i < r) : g i < x := by
  obtain ⟨a, b, h2, _⟩ := h
  rcases h2 with h2 | h2
  · omega
  · exact Int.lt_of_le_of_lt (hs i (r - 1) h0 (by omega) (by omega)) h2
theorem BK.hi {g : Int → Int} {n x r : Int} (hs : ∀ i j, 0 ≤ i → i ≤ j → j < n → g i ≤ g j) (h : BK g n x r) {i : Int} (hi : r ≤ i) (hl : i < n) : x ≤ g i := by
  obtain ⟨a, b, _, h2⟩ := h
  rcases h2 with h2 | h2
  · omega
  · exact Int.le_trans h2 (hs r i a hi hl)
section
variable {prog : Program} {w : World} {A : Around} {E : Value → Shared → Prop} {Q : Flow → Shared → Prop} {s : Shared} {env : Env} {h₀ : Heap} {L : Addr}
/-- the while of bisect_left by a key, the ledger unchanged -/
theorem key_while {test : Expr} {body : List Stmt} {pos : Pos} {m₀ : Str → Option Value} {news : List (Addr × Obj)} (g : Int → Int) {n x : Int} {tl th : Tok}
    (F : Fr h₀ L s.heap m₀) (N : News h₀ L s.heap news) (hlo : m₀ (Str.ofString "lo") = some (.int 0 tl)) (hhi : m₀ (Str.ofString "hi") = some (.int n th)) (hn : 0 ≤ n)
    (turn : ∀ lo t₁ hi t₂ (u : Str → Option Value) h tk, 0 ≤ lo → lo ≤ hi → hi ≤ n → WK g n x lo hi → Fr h₀ L h (kstB (fun z => if [Str.ofString "mid"].contains z then u z else m₀ z) [(Str.ofString "lo", .int lo t₁), (Str.ofString "hi", .int hi t₂)]) → News h₀ L h news →
      wpAny (model prog w) A (isTrue test env (eval test env)) (fun b s₂ =>
        if b = true then wpAny (model prog w) A (execs body env) (KswPost h₀ L s (fun _ : Int × Tok × Int × Tok => news) (fun c => [(Str.ofString "lo", .int c.1 c.2.1), (Str.ofString "hi", .int c.2.2.1 c.2.2.2)]) (fun _ => True) [Str.ofString "mid"] m₀
          (fun c => (0 ≤ c.1 ∧ c.1 ≤ c.2.2.1 ∧ c.2.2.1 ≤ n) ∧ WK g n x c.1 c.2.2.1) (fun c => (c.2.2.1 - c.1).toNat) Q (lo, t₁, hi, t₂)) E s₂ else Q .next s₂) E { s with heap := h, toks := tk })
    (hE : PassesOwn (model prog w) A env E := by passes_own) :
    wpAny (model prog w) A (exec (.While test body [] pos) env) Q E s := by
  refine ksw_while (fun _ : Int × Tok × Int × Tok => news) (fun c => [(Str.ofString "lo", .int c.1 c.2.1), (Str.ofString "hi", .int c.2.2.1 c.2.2.2)]) (fun _ => True) [Str.ofString "mid"] (fun c => (0 ≤ c.1 ∧ c.1 ≤ c.2.2.1 ∧ c.2.2.1 ≤ n) ∧ WK g n x c.1 c.2.2.1) (fun c => (c.2.2.1 - c.1).toNat)
    (0, tl, n, th) F N trivial ?_ (wk_start g n x hn) ?_ hE
  · intro p hp
    rcases List.mem_cons.mp hp with rfl | hp
    · exact hlo
    · rw [List.mem_singleton.mp hp]; exact hhi
  · rintro ⟨lo, t₁, hi, t₂⟩ u h tk _ ⟨⟨h1, h2, h3⟩, hw⟩ F' N'
    exact turn lo t₁ hi t₂ u h tk h1 h2 h3 hw F' N'
theorem key_whileL {test : Expr} {body : List Stmt} {pos : Pos} {m₀ : Str → Option Value} {news : List (Addr × Obj)} (G : List Int → Int → Int) {n x : Int} {tl th tx : Tok} {l : Addr} {vs : List Value} {ns : List Int} {nn : Nat}
    (F : Fr h₀ L s.heap m₀) (N : News h₀ L s.heap news) (_hm : (l, listOf vs.toArray nn) ∈ news) (_hi : IntsAre vs ns) (hlo : m₀ (Str.ofString "lo") = some (.int 0 tl)) (hhi : m₀ (Str.ofString "hi") = some (.int n th)) (_hx : m₀ (Str.ofString "x") = some (.int x tx)) (hn : 0 ≤ n)
    (turn : ∀ lo t₁ hi t₂ (u : Str → Option Value) h tk, 0 ≤ lo → lo ≤ hi → hi ≤ n → WK (G ns) n x lo hi → Fr h₀ L h (kstB (fun z => if [Str.ofString "mid"].contains z then u z else m₀ z) [(Str.ofString "lo", .int lo t₁), (Str.ofString "hi", .int hi t₂)]) → News h₀ L h news →
      wpAny (model prog w) A (isTrue test env (eval test env)) (fun b s₂ =>
        if b = true then wpAny (model prog w) A (execs body env) (KswPost h₀ L s (fun _ : Int × Tok × Int × Tok => news) (fun c => [(Str.ofString "lo", .int c.1 c.2.1), (Str.ofString "hi", .int c.2.2.1 c.2.2.2)]) (fun _ => True) [Str.ofString "mid"] m₀
          (fun c => (0 ≤ c.1 ∧ c.1 ≤ c.2.2.1 ∧ c.2.2.1 ≤ n) ∧ WK (G ns) n x c.1 c.2.2.1) (fun c => (c.2.2.1 - c.1).toNat) Q (lo, t₁, hi, t₂)) E s₂ else Q .next s₂) E { s with heap := h, toks := tk })
    (hE : PassesOwn (model prog w) A env E := by passes_own) :
    wpAny (model prog w) A (exec (.While test body [] pos) env) Q E s := key_while (G ns) F N hlo hhi hn turn hE
end
end Mine
namespace Mine
inductive All2 {α : Type} (R : α → Value → Prop) : List α → List Value → Prop
  | nil : All2 R [] []
  | cons {d : α} {v : Value} {ds : List α} {vs : List Value} : R d v → All2 R ds vs → All2 R (d :: ds) (v :: vs)
theorem All2.snoc {α : Type} {R : α → Value → Prop} {d : α} {v : Value} (h : R d v) : ∀ {ds : List α} {vs : List Value}, All2 R ds vs → All2 R (ds ++ [d]) (vs ++ [v])
  | _, _, .nil => .cons h .nil
  | _, _, .cons a r => .cons a (r.snoc h)
theorem All2.ints {g : Int → Int} : ∀ {ks : List Int} {vs : List Value}, All2 (fun k y => ∃ t, y = Value.int (g k) t) ks vs → IntsAre vs (ks.map g)
  | _, _, .nil => .nil
  | _, _, .cons ⟨t, e⟩ r => by rw [e]; exact .cons _ t r.ints
theorem All2.length {α : Type} {R : α → Value → Prop} : ∀ {ds : List α} {vs : List Value}, All2 R ds vs → vs.length = ds.length
  | _, _, .nil => rfl
  | _, _, .cons _ r => by simp [r.length]
theorem All2.get {α : Type} {R : α → Value → Prop} : ∀ {ds : List α} {vs : List Value}, All2 R ds vs → ∀ {i : Nat} {v : Value}, vs[i]? = some v → ∃ d, ds[i]? = some d ∧ R d v
  | _, _, .nil, i, v, h => by simp at h
  | _, _, .cons a r, 0, v, h => by simp at h; subst h; exact ⟨_, rfl, a⟩
  | _, _, .cons a r, i + 1, v, h => by simp only [List.getElem?_cons_succ] at h ⊢; exact r.get h

/-- the end of an item's evaluation in a comprehension -/
def CtEnd (h₀ : Heap) (L : Addr) (m : Str → Option Value) (s₁ : Shared) (need : List (Addr × Obj)) (R : Prop) (s₂ : Shared) : Prop :=
  ∃ h' tk nw, s₂ = { s₁ with heap := h', toks := tk } ∧ Fr h₀ L h' m ∧ News h₀ L h' nw ∧ (∀ p ∈ need, p ∈ nw) ∧ R
theorem ct_end {h₀ : Heap} {L : Addr} {m : Str → Option Value} {s₁ : Shared} {need nw : List (Addr × Obj)} {R : Prop} {h' : Heap} {tk : Nat} (F : Fr h₀ L h' m) (N : News h₀ L h' nw) (hn : ∀ p ∈ need, p ∈ nw) (r : R) : CtEnd h₀ L m s₁ need R { s₁ with heap := h', toks := tk } :=
  ⟨h', tk, nw, rfl, F, N, hn, r⟩
section
variable {prog : Program} {w : World} {A : Around} {h₀ : Heap} {L : Addr} {m : Str → Option Value} {env : Env} {ct elt : Expr} {x : Str} {scope : Scope} {cl : List (Str × Addr)} {s : Shared} {S : List (Addr × Obj) → Prop} {P : Nat → Value → Prop} {Fin : List Value → List (Addr × Obj) → Prop} {news : List (Addr × Obj)}
theorem ct_rest {α : Type} {n : Nat} {ds : List α} {V : α → Value → Prop} (p : α → Bool) (O : α → Value → Prop) (hds : ds.length = n) (hP : ∀ i v, i < n → P i v → ∃ d, ds[i]? = some d ∧ V d v) (hS : S news)
    (turn : ∀ d v I oI C oC D m₂ ys h tk (E' : Value → Shared → Prop), d ∈ ds → V d v → LCg.NsObj oC m₂ → m₂ x = some v → Fr h₀ L h m → News h₀ L h ((I, oI) :: (C, oC) :: (D, LCg.lst ys) :: news) → LCg.Off3 I C D news → ((@Ne Nat I C) ∧ (@Ne Nat I D) ∧ (@Ne Nat C D)) →
      wpAny (model prog w) A (isTrue ct (compEnvC scope cl C env) (eval ct (compEnvC scope cl C env))) (fun ok s' => if ok = true then
        wpAny (model prog w) A (eval elt (compEnvC scope cl C env)) (fun y s'' => CtEnd h₀ L m { s with heap := h, toks := tk } ((I, oI) :: (C, oC) :: (D, LCg.lst ys) :: news) (p d = true ∧ O d y) s'') E' s'
        else CtEnd h₀ L m { s with heap := h, toks := tk } ((I, oI) :: (C, oC) :: (D, LCg.lst ys) :: news) (p d = false) s') E' { s with heap := h, toks := tk })
    (fin : ∀ ys, All2 O (ds.filter p) ys → Fin ys news) : LCt.CompRestT prog w A h₀ L m env ct elt x scope cl s S P Fin n 0 [] news := by
  have key : ∀ (j i : Nat) (ys : List Value), i + j = n → All2 O ((ds.take i).filter p) ys → LCt.CompRestT prog w A h₀ L m env ct elt x scope cl s S P Fin j i ys news := by
    intro j
    induction j with
    | zero =>
      intro i ys hi hy
      have e : i = ds.length := by omega
      subst e
      rw [List.take_length] at hy
      exact LCt.CompRestT.zero (fin ys hy)
    | succ j ih =>
      intro i ys hi hy
      refine LCt.CompRestT.succ ?_
      intro v I oI C oC D m₂ h tk E' hv hC hx F N off ne
      obtain ⟨d, hd, hV⟩ := hP i v (by omega) hv
      have ht : ds.take (i + 1) = ds.take i ++ [d] := by rw [List.take_add_one, hd]; rfl
      refine wpAny_mono (turn d v I oI C oC D m₂ ys h tk E' (List.mem_of_getElem? hd) hV hC hx F N off ne) (fun ok s₂ hq => ?_) fun _ _ e => e
      cases ok with
      | true =>
        simp only [if_true] at hq ⊢
        refine wpAny_mono hq (fun y s₃ hz => ?_) fun _ _ e => e
        obtain ⟨h', tk', nw, e, F', N', hn', hp', hO⟩ := hz
        refine ⟨h', tk', news, e, F', fun q hq => N' q (hn' q hq), off, hS, ih (i + 1) _ (by omega) ?_⟩
        rw [ht, List.filter_append]
        simp only [List.filter_cons, hp', if_true, List.filter_nil]
        exact hy.snoc hO
      | false =>
        simp only [Bool.false_eq_true, if_false] at hq ⊢
        obtain ⟨h', tk', nw, e, F', N', hn', hp'⟩ := hq
        refine ⟨h', tk', news, e, F', fun q hq => N' q (hn' q hq), off, hS, ih (i + 1) _ (by omega) ?_⟩
        rw [ht, List.filter_append]
        simp only [List.filter_cons, hp', Bool.false_eq_true, if_false, List.filter_nil, List.append_nil]
        exact hy
  exact key n 0 [] (by omega) (by simp only [List.take_zero, List.filter_nil]; exact .nil)
theorem ct_restU {α : Type} {n : Nat} {ds : List α} {V : α → Value → Prop} (O : α → Value → Prop) (hds : ds.length = n) (hP : ∀ i v, i < n → P i v → ∃ d, ds[i]? = some d ∧ V d v) (hS : S news)
    (turn : ∀ d v I oI C oC D m₂ ys h tk (E' : Value → Shared → Prop), d ∈ ds → V d v → LCg.NsObj oC m₂ → m₂ x = some v → Fr h₀ L h m → News h₀ L h ((I, oI) :: (C, oC) :: (D, LCg.lst ys) :: news) → LCg.Off3 I C D news → ((@Ne Nat I C) ∧ (@Ne Nat I D) ∧ (@Ne Nat C D)) →
      wpAny (model prog w) A (eval elt (compEnvC scope cl C env)) (fun y s'' => CtEnd h₀ L m { s with heap := h, toks := tk } ((I, oI) :: (C, oC) :: (D, LCg.lst ys) :: news) (O d y) s'') E' { s with heap := h, toks := tk })
    (fin : ∀ ys, All2 O ds ys → Fin ys news) : LCg.CompRest prog w A h₀ L m env elt x scope cl s S P Fin n 0 [] news := by
  have key : ∀ (j i : Nat) (ys : List Value), i + j = n → All2 O (ds.take i) ys → LCg.CompRest prog w A h₀ L m env elt x scope cl s S P Fin j i ys news := by
    intro j
    induction j with
    | zero =>
      intro i ys hi hy
      have e : i = ds.length := by omega
      subst e
      rw [List.take_length] at hy
      exact LCg.CompRest.zero (fin ys hy)
    | succ j ih =>
      intro i ys hi hy
      refine LCg.CompRest.succ ?_
      intro v I oI C oC D m₂ h tk E' hv hC hx F N off ne
      obtain ⟨d, hd, hV⟩ := hP i v (by omega) hv
      have ht : ds.take (i + 1) = ds.take i ++ [d] := by rw [List.take_add_one, hd]; rfl
      refine wpAny_mono (turn d v I oI C oC D m₂ ys h tk E' (List.mem_of_getElem? hd) hV hC hx F N off ne) (fun y s₂ hq => ?_) fun _ _ e => e
      obtain ⟨h', tk', nw, e, F', N', hn', hO⟩ := hq
      refine ⟨h', tk', news, e, F', fun q hq => N' q (hn' q hq), off, hS, ih (i + 1) _ (by omega) ?_⟩
      rw [ht]
      exact hy.snoc hO
  exact key n 0 [] (by omega) (by simp only [List.take_zero]; exact .nil)
end
section
variable {prog : Program} {w : World} {A : Around} {h₀ : Heap} {L : Addr} {m : Str → Option Value} {env : Env} {ct elt : Expr} {x : Str} {scope : Scope} {cl : List (Str × Addr)} {s : Shared} {Fin : Shared → List Value → List (Addr × Obj) → Prop} {news : List (Addr × Obj)}
/-- a list of ints of the ledger's, one test, an int element -/
theorem ct_intsL {ax : Addr} {vs : List Value} {ks : List Int} {k : Nat} (p : Int → Bool) (g : Int → Int) (hh : A.handled = none) (F : Fr h₀ L s.heap m) (N : News h₀ L s.heap news) (hm : (ax, listOf vs.toArray k) ∈ news) (hi : IntsAre vs ks) (hsz : ks.length ≤ sizeLine)
    (turn : ∀ d t I oI C oC D m₂ ys hp h tk (E' : Value → Shared → Prop), d ∈ ks → LCg.NsObj oC m₂ → m₂ x = some (.int d t) → Fr h₀ L h m → News h₀ L h ((I, oI) :: (C, oC) :: (D, LCg.lst ys) :: news) → LCg.Off3 I C D news → ((@Ne Nat I C) ∧ (@Ne Nat I D) ∧ (@Ne Nat C D)) →
      wpAny (model prog w) A (isTrue ct (compEnvC scope cl C env) (eval ct (compEnvC scope cl C env))) (fun ok s' => if ok = true then
        wpAny (model prog w) A (eval elt (compEnvC scope cl C env)) (fun y s'' => CtEnd h₀ L m { s with heap := h, toks := tk } ((I, oI) :: (C, oC) :: (D, LCg.lst ys) :: news) (p d = true ∧ ∃ t', y = .int (g d) t') s'') E' s'
        else CtEnd h₀ L m { s with heap := h, toks := tk } ((I, oI) :: (C, oC) :: (D, LCg.lst ys) :: news) (p d = false) s') E' { { s with heap := hp } with heap := h, toks := tk })
    (fin : ∀ h ys, IntsAre ys ((ks.filter p).map g) → Fin { s with heap := h } ys news) : LCt.CompSrcT prog w A h₀ L m env ct elt x scope cl Fin (.ref ax) s := by
  have hl : vs.toArray.size = ks.length := by rw [List.size_toArray, hi.length]
  refine LCt.CompSrcT.ledger hh F N hm (by rw [hl]; exact hsz) fun hg => ?_
  refine ct_rest (ds := ks) (V := fun d v => ∃ t, v = .int d t) p (fun d y => ∃ t', y = .int (g d) t') hl.symm (fun i v _ hv => ?_) (.inr ⟨_, hm, rfl, _, rfl⟩) ?_ fun ys hy => fin hg ys hy.ints
  · obtain ⟨d, t, e, hk⟩ := IntsAre.at hi i v (by simpa using hv)
    exact ⟨d, hk, t, e⟩
  · rintro d v I oI C oC D m₂ ys h tk E' hd ⟨t, rfl⟩ hC hx F' N' off ne
    exact turn d t I oI C oC D m₂ ys hg h tk E' hd hC hx F' N' off ne
/-- the same, the element is the item itself -/
theorem ct_filtL {ax : Addr} {vs : List Value} {ks : List Int} {k : Nat} (p : Int → Bool) (hh : A.handled = none) (F : Fr h₀ L s.heap m) (N : News h₀ L s.heap news) (hm : (ax, listOf vs.toArray k) ∈ news) (hi : IntsAre vs ks) (hsz : ks.length ≤ sizeLine)
    (turn : ∀ d t I oI C oC D m₂ ys hp h tk (E' : Value → Shared → Prop), d ∈ ks → LCg.NsObj oC m₂ → m₂ x = some (.int d t) → Fr h₀ L h m → News h₀ L h ((I, oI) :: (C, oC) :: (D, LCg.lst ys) :: news) → LCg.Off3 I C D news → ((@Ne Nat I C) ∧ (@Ne Nat I D) ∧ (@Ne Nat C D)) →
      wpAny (model prog w) A (isTrue ct (compEnvC scope cl C env) (eval ct (compEnvC scope cl C env))) (fun ok s' => if ok = true then
        wpAny (model prog w) A (eval elt (compEnvC scope cl C env)) (fun y s'' => CtEnd h₀ L m { s with heap := h, toks := tk } ((I, oI) :: (C, oC) :: (D, LCg.lst ys) :: news) (p d = true ∧ ∃ t', y = .int d t') s'') E' s'
        else CtEnd h₀ L m { s with heap := h, toks := tk } ((I, oI) :: (C, oC) :: (D, LCg.lst ys) :: news) (p d = false) s') E' { { s with heap := hp } with heap := h, toks := tk })
    (fin : ∀ h ys, IntsAre ys (ks.filter p) → Fin { s with heap := h } ys news) : LCt.CompSrcT prog w A h₀ L m env ct elt x scope cl Fin (.ref ax) s :=
  ct_intsL p (fun d => d) hh F N hm hi hsz turn fun h ys hy => fin h ys (by simpa using hy)
end
theorem ints_filter_le {ys : List Value} {ks : List Int} {p : Int → Bool} (_h : IntsAre ys (ks.filter p)) : (ks.filter p).length ≤ ks.length := List.length_filter_le _ _
end Mine
namespace Mine
def g5 (ns : List Int) (i : Int) : Int := ns.getD i.toNat 0 - ((ns.length : Int) - i)
theorem pw_getD {ns : List Int} (h : List.Pairwise (fun a b => a ≤ b) ns) {i j : Nat} (hij : i ≤ j) (hj : j < ns.length) : ns.getD i 0 ≤ ns.getD j 0 := by
  rw [List.getD_eq_getElem?_getD, List.getD_eq_getElem?_getD, List.getElem?_eq_getElem hj, List.getElem?_eq_getElem (show i < ns.length by omega)]
  simp only [Option.getD_some]
  rcases Nat.lt_or_eq_of_le hij with e | e
  · exact List.pairwise_iff_getElem.mp h i j (by omega) hj e
  · subst e; exact Int.le_refl _
theorem g5_mono {ns : List Int} (h : List.Pairwise (fun a b => a ≤ b) ns) (i j : Int) (h0 : 0 ≤ i) (hij : i ≤ j) (hj : j < ns.length) : g5 ns i ≤ g5 ns j := by
  have := pw_getD h (i := i.toNat) (j := j.toNat) (by omega) (by omega)
  unfold g5
  omega
theorem all_filter {l : List Int} {p : Int → Bool} (h : ∀ x ∈ l, p x = true) : (l.filter p).length = l.length := by rw [List.filter_eq_self.mpr h]
theorem none_filter {l : List Int} {p : Int → Bool} (h : ∀ x ∈ l, p x = false) : (l.filter p).length = 0 := by
  rw [List.filter_eq_nil_iff.mpr fun x hx => by simp [h x hx]]; rfl
theorem mem_getD {l : List Int} {x : Int} (h : x ∈ l) : ∃ i, i < l.length ∧ l.getD i 0 = x := by
  obtain ⟨i, hi, e⟩ := List.getElem_of_mem h
  exact ⟨i, hi, by rw [List.getD_eq_getElem?_getD, List.getElem?_eq_getElem hi]; exact e⟩
theorem mem_drop {l : List Int} {x : Int} {k : Nat} (h : x ∈ l.drop k) : ∃ i, k ≤ i ∧ i < l.length ∧ l.getD i 0 = x := by
  obtain ⟨i, hi, e⟩ := mem_getD h
  rw [List.length_drop] at hi
  exact ⟨k + i, by omega, by omega, by rw [← e, List.getD_eq_getElem?_getD, List.getD_eq_getElem?_getD, List.getElem?_drop]⟩
theorem mem_take {l : List Int} {x : Int} {k : Nat} (h : x ∈ l.take k) : ∃ i, i < k ∧ i < l.length ∧ l.getD i 0 = x := by
  obtain ⟨i, hi, e⟩ := mem_getD h
  rw [List.length_take] at hi
  exact ⟨i, by omega, by omega, by rw [← e, List.getD_eq_getElem?_getD, List.getD_eq_getElem?_getD, List.getElem?_take, if_pos (by omega)]⟩
theorem split_filter (l : List Int) (k : Nat) (p : Int → Bool) : (l.filter p).length = ((l.take k).filter p).length + ((l.drop k).filter p).length := by
  rw [← List.length_append, ← List.filter_append, List.take_append_drop]
theorem five_a {ns : List Int} {lo hi : Int} (hs : List.Pairwise (fun a b => a ≤ b) ns) (h0 : 0 ≤ lo) (h1 : lo ≤ hi) (h2 : hi ≤ ns.length) (w : WK (g5 ns) ns.length 0 lo hi) (h : ¬ lo < hi) :
    (((ns.filter fun x => decide (x ≥ (ns.length : Int) - lo + 0)).length : Nat) : Int) ≥ (ns.length : Int) - lo := by
  have b := bk_end h0 h1 h2 w h
  rw [split_filter ns lo.toNat, all_filter (l := ns.drop lo.toNat) fun x hx => ?_]
  · rw [List.length_drop]; omega
  · obtain ⟨i, hi1, hi2, rfl⟩ := mem_drop hx
    have := b.hi (g5_mono hs) (i := lo) (by omega) (by omega)
    have h5 := pw_getD hs (i := lo.toNat) (j := i) hi1 hi2
    unfold g5 at this
    simp only [decide_eq_true_eq]
    omega
theorem five_b {ns : List Int} {lo hi : Int} (hs : List.Pairwise (fun a b => a ≤ b) ns) (h0 : 0 ≤ lo) (h1 : lo ≤ hi) (h2 : hi ≤ ns.length) (w : WK (g5 ns) ns.length 0 lo hi) (h : ¬ lo < hi) :
    (((ns.filter fun x => decide (x ≥ (ns.length : Int) - lo + 1)).length : Nat) : Int) < (ns.length : Int) - lo + 1 := by
  have b := bk_end h0 h1 h2 w h
  rw [split_filter ns lo.toNat, none_filter (l := ns.take lo.toNat) fun x hx => ?_]
  · have := List.length_filter_le (fun x => decide (x ≥ (ns.length : Int) - lo + 1)) (ns.drop lo.toNat)
    rw [List.length_drop] at this
    omega
  · obtain ⟨i, hi1, hi2, rfl⟩ := mem_take hx
    have := b.lo (g5_mono hs) (i := lo - 1) (by omega) (by omega)
    have h5 := pw_getD hs (i := i) (j := (lo - 1).toNat) (by omega) (by omega)
    unfold g5 at this
    simp only [decide_eq_false_iff_not]
    omega
end Mine
namespace Mine
open_top hd for PySem.Challenge.rw_cy0002_05
end Mine
namespace Mine
section
variable {prog : Program} {w : World} {A : Around} {h₀ : Heap} {L : Addr} {m : Str → Option Value} {env : Env} {ct elt : Expr} {x : Str} {scope : Scope} {cl : List (Str × Addr)} {s : Shared} {Fin : Shared → List Value → List (Addr × Obj) → Prop} {news : List (Addr × Obj)}
theorem ct_ge (δ : Int) {ax c : Addr} {o : Obj} {H : Int} {tH : Tok} {vs : List Value} {ks : List Int} {k : Nat} (_hc : (c, o) ∈ news) (_ho : o.data = .cell (some (.int H tH))) (hh : A.handled = none) (F : Fr h₀ L s.heap m) (N : News h₀ L s.heap news) (hm : (ax, listOf vs.toArray k) ∈ news) (hi : IntsAre vs ks) (hsz : ks.length ≤ sizeLine)
    (turn : ∀ d t I oI C oC D m₂ ys hp h tk (E' : Value → Shared → Prop), d ∈ ks → LCg.NsObj oC m₂ → m₂ x = some (.int d t) → Fr h₀ L h m → News h₀ L h ((I, oI) :: (C, oC) :: (D, LCg.lst ys) :: news) → LCg.Off3 I C D news → ((@Ne Nat I C) ∧ (@Ne Nat I D) ∧ (@Ne Nat C D)) →
      wpAny (model prog w) A (isTrue ct (compEnvC scope cl C env) (eval ct (compEnvC scope cl C env))) (fun ok s' => if ok = true then
        wpAny (model prog w) A (eval elt (compEnvC scope cl C env)) (fun y s'' => CtEnd h₀ L m { s with heap := h, toks := tk } ((I, oI) :: (C, oC) :: (D, LCg.lst ys) :: news) (decide (d ≥ H + δ) = true ∧ ∃ t', y = .int d t') s'') E' s'
        else CtEnd h₀ L m { s with heap := h, toks := tk } ((I, oI) :: (C, oC) :: (D, LCg.lst ys) :: news) (decide (d ≥ H + δ) = false) s') E' { { s with heap := hp } with heap := h, toks := tk })
    (fin : ∀ h ys, IntsAre ys (ks.filter fun x => decide (x ≥ H + δ)) → Fin { s with heap := h } ys news) : LCt.CompSrcT prog w A h₀ L m env ct elt x scope cl Fin (.ref ax) s :=
  ct_filtL (fun x => decide (x ≥ H + δ)) hh F N hm hi hsz turn fin
end
local macro_rules | `(tactic| walk_at "call type:range") => `(tactic| (k_here; (with_reducible show wpAny _ _ (call _ [Value.int _ _]) _ _ _); k_dflt (refine' range1_led ?F ?N ?_; (case F => k_asm); (case N => k_asm); k_whole); intro r9 h9 tk9 t9 u9 v9 l1 F9 N9; (try k_lt l1); (try k_sweep)))
local macro_rules | `(tactic| walk_at "call builtin:len") => `(tactic| (k_here; (with_reducible show wpAny _ _ (call (Value.builtin "len") [Value.ref _]) _ _ _); k_dflt (refine' len_range_led ?N ?m ?f ?_; (case N => k_asm); (case m => k_mem); (case f => l_fact); k_whole)))
local macro_rules | `(tactic| walk_at "subscriptTail") => `(tactic| (k_here; (with_reducible show wpAny _ _ (subscriptTail _ _ (Value.ref _) (Value.int _ _)) _ _ _); (k_dflt (refine' item_range_led ?N ?m ?a ?b ?_ ?hs; (case N => k_asm); (case m => k_mem); (case a => first | omega | (have hm9 := mid_facts (by assumption); omega)); (case b => first | omega | (have hm9 := mid_facts (by assumption); omega)); (case hs => with_unfolding_all rfl); k_whole))))
local macro_rules | `(tactic| walk_at "eval ListComp") => `(tactic| (k_here; k_dflt (refine LCt.ListComp_T (F₀ := by k_asm) (by with_unfolding_all rfl) (by decide) (by rfl) (by decide) (by rfl) ?_)))
local macro_rules | `(tactic| walk_at "exec While Compare") => `(tactic| (k_here; (k_dflt (refine' key_whileL g5 ?F ?N ?m ?i ?l ?h ?x ?n ?turn ?hE; (case F => k_asm); (case N => k_asm); (case m => k_mem); (case i => l_ints); (case l => rfl); (case h => rfl); (case x => rfl); (case n => omega); (case hE => passes_own))); intro lo9 t9 hi9 u9 w9 h9 tk9 h19 h29 h39 hw9 F9 N9; (dsimp only [kstB] at F9); (try k_fold)))
local macro_rules | `(tactic| walk_at "CompSrcT") => `(tactic| (
  k_here
  (with_reducible show LCt.CompSrcT _ _ _ _ _ _ _ (Expr.Compare _ _ [Expr.Name _ _] _) _ _ _ _ _ _ _)
  k_dflt (
    refine' ct_ge 0 ?hc ?ho ?hh ?F ?N ?m ?i ?z ?_ ?_
    (case hh => exact rfl)
    (case F => k_asm)
    (case N => k_asm)
    (case m => k_mem)
    (case i => l_ints)
    (case z => first | size_fits | l_fact)
    (case ho => assumption)
    (case hc => k_mem)
    )
  all_goals first | (intro d9 t9 I9 oI9 C9 oC9 D9 m9 ys9 hp9 h9 tk9 E9 hd9 hC9 hx9 F9 N9 off9 ne9) | (intro h9 ys9 hy9; have hq9 := ints_filter_le hy9; have hr9 := hy9.length)
  ))
local macro_rules | `(tactic| walk_at "CompSrcT") => `(tactic| (
  k_here
  (with_reducible show LCt.CompSrcT _ _ _ _ _ _ _ (Expr.Compare _ _ [Expr.BinOp _ _ _ _] _) _ _ _ _ _ _ _)
  k_dflt (
    refine' ct_ge 1 ?hc ?ho ?hh ?F ?N ?m ?i ?z ?_ ?_
    (case hh => exact rfl)
    (case F => k_asm)
    (case N => k_asm)
    (case m => k_mem)
    (case i => l_ints)
    (case z => first | size_fits | l_fact)
    (case ho => assumption)
    (case hc => k_mem)
    )
  all_goals first | (intro d9 t9 I9 oI9 C9 oC9 D9 m9 ys9 hp9 h9 tk9 E9 hd9 hC9 hx9 F9 N9 off9 ne9) | (intro h9 ys9 hy9; have hq9 := ints_filter_le hy9; have hr9 := hy9.length)
  ))
local macro_rules | `(tactic| walk_at "CtEnd") => `(tactic| (refine ct_end (by assumption) (by assumption) (by (intro p9 hp9; repeat (first | exact hp9 | refine List.Mem.tail _ ?_))) ?_; first | exact ⟨decide_eq_true (by first | assumption | omega), _, rfl⟩ | exact decide_eq_false (by first | assumption | omega)))
local macro_rules | `(tactic| walk_at "KswEnd") => `(tactic| (
  k_here
  refine' ksw_end (_, _, _, _) ?F ?N ?hn ?hf ?hk ?hr ?hp ?hm
  (case F => assumption)
  (case N => assumption)
  (case hn => (intro p9 hp9; repeat (first | exact hp9 | refine List.Mem.tail _ ?_)))
  (case hf => trivial)
  (case hk => kst_all)
  (case hr => ksw_same)
  (case hp => ((try dsimp only); k_extra "state"))
  (case hm => ((try dsimp only); k_extra "measure"))))
theorem t : PySem.Challenge.rw_cy0002_05.Holds := hd (by
  k_with_none
  (k_with "state" => first | exact wk_lo (by assumption) (by assumption) (by assumption) (by assumption) (by unfold g5; assumption) | exact wk_hi (by assumption) (by assumption) (by assumption) (by assumption) (by unfold g5; assumption))
  (k_with "measure" => first | exact mid_lo (by assumption) | exact mid_hi (by assumption))
  (k_with "end" => first | exact bool_end (five_a (by assumption) (by assumption) (by assumption) (by assumption) (by assumption) (by assumption)) | exact bool_end (five_b (by assumption) (by assumption) (by assumption) (by assumption) (by assumption) (by assumption)))
  k_go)
end Mine
theorem PySem.Challenge.cw_cy0002_05_holds : PySem.Challenge.rw_cy0002_05.Holds := by
  exact Mine.t

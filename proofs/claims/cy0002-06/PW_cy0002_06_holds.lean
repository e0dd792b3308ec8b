import PyProof.Rows.All
import Wide.All
import OpenK.AllK
import Wide.FinOn
import PySem.Challenge.RW_cy0002_06
open PySem PySem.W PyProof.Rows
set_option Elab.async false
set_option maxRecDepth 100000
set_option maxHeartbeats 8000000
set_option linter.unusedVariables false
namespace Mine

/-- what bisect_right hands back, told by the two neighbours alone -/
def WR (a : List Int) (x lo hi : Int) : Prop := (lo = 0 ∨ a.getD (lo - 1).toNat 0 ≤ x) ∧ (hi = a.length ∨ x < a.getD hi.toNat 0)
def WL (a : List Int) (x lo hi : Int) : Prop := (lo = 0 ∨ a.getD (lo - 1).toNat 0 < x) ∧ (hi = a.length ∨ x ≤ a.getD hi.toNat 0)
def BR (a : List Int) (x r : Int) : Prop := 0 ≤ r ∧ r ≤ a.length ∧ WR a x r r
def BL (a : List Int) (x r : Int) : Prop := 0 ≤ r ∧ r ≤ a.length ∧ WL a x r r

theorem mid_facts {lo hi : Int} (h : lo < hi) : lo ≤ (lo + hi).fdiv 2 ∧ (lo + hi).fdiv 2 < hi := by
  rw [Int.fdiv_eq_ediv_of_nonneg _ (by decide)]
  omega

theorem wr_start (a : List Int) (x : Int) : (0 ≤ (0 : Int) ∧ (0 : Int) ≤ (a.length : Int) ∧ (a.length : Int) ≤ (a.length : Int)) ∧ WR a x 0 a.length :=
  ⟨by omega, .inl rfl, .inl rfl⟩
theorem wl_start (a : List Int) (x : Int) : (0 ≤ (0 : Int) ∧ (0 : Int) ≤ (a.length : Int) ∧ (a.length : Int) ≤ (a.length : Int)) ∧ WL a x 0 a.length :=
  ⟨by omega, .inl rfl, .inl rfl⟩
theorem wr_hi {a : List Int} {x lo hi : Int} (h0 : 0 ≤ lo) (h1 : hi ≤ a.length) (w : WR a x lo hi) (h : lo < hi) (hx : x < a.getD ((lo + hi).fdiv 2).toNat 0) :
    (0 ≤ lo ∧ lo ≤ (lo + hi).fdiv 2 ∧ (lo + hi).fdiv 2 ≤ (a.length : Int)) ∧ WR a x lo ((lo + hi).fdiv 2) := by
  have := mid_facts h
  exact ⟨by omega, w.1, .inr hx⟩
theorem wr_lo {a : List Int} {x lo hi : Int} (h0 : 0 ≤ lo) (h1 : hi ≤ a.length) (w : WR a x lo hi) (h : lo < hi) (hx : ¬ x < a.getD ((lo + hi).fdiv 2).toNat 0) :
    (0 ≤ (lo + hi).fdiv 2 + 1 ∧ (lo + hi).fdiv 2 + 1 ≤ hi ∧ hi ≤ (a.length : Int)) ∧ WR a x ((lo + hi).fdiv 2 + 1) hi := by
  have := mid_facts h
  refine ⟨by omega, .inr ?_, w.2⟩
  rw [show (lo + hi).fdiv 2 + 1 - 1 = (lo + hi).fdiv 2 by omega]
  omega
theorem wl_lo {a : List Int} {x lo hi : Int} (h0 : 0 ≤ lo) (h1 : hi ≤ a.length) (w : WL a x lo hi) (h : lo < hi) (hx : a.getD ((lo + hi).fdiv 2).toNat 0 < x) :
    (0 ≤ (lo + hi).fdiv 2 + 1 ∧ (lo + hi).fdiv 2 + 1 ≤ hi ∧ hi ≤ (a.length : Int)) ∧ WL a x ((lo + hi).fdiv 2 + 1) hi := by
  have := mid_facts h
  refine ⟨by omega, .inr ?_, w.2⟩
  rw [show (lo + hi).fdiv 2 + 1 - 1 = (lo + hi).fdiv 2 by omega]
  omega
theorem wl_hi {a : List Int} {x lo hi : Int} (h0 : 0 ≤ lo) (h1 : hi ≤ a.length) (w : WL a x lo hi) (h : lo < hi) (hx : ¬ a.getD ((lo + hi).fdiv 2).toNat 0 < x) :
    (0 ≤ lo ∧ lo ≤ (lo + hi).fdiv 2 ∧ (lo + hi).fdiv 2 ≤ (a.length : Int)) ∧ WL a x lo ((lo + hi).fdiv 2) := by
  have := mid_facts h
  exact ⟨by omega, w.1, .inr (by omega)⟩
theorem mid_lo {lo hi : Int} (h : lo < hi) : (hi - ((lo + hi).fdiv 2 + 1)).toNat < (hi - lo).toNat := by
  have := mid_facts h
  omega
theorem mid_hi {lo hi : Int} (h : lo < hi) : ((lo + hi).fdiv 2 - lo).toNat < (hi - lo).toNat := by
  have := mid_facts h
  omega
theorem br_end {a : List Int} {x lo hi : Int} (h0 : 0 ≤ lo) (h1 : lo ≤ hi) (h2 : hi ≤ a.length) (w : WR a x lo hi) (h : ¬ lo < hi) : BR a x lo := by
  have : hi = lo := by omega
  subst this
  exact ⟨h0, h2, w⟩
theorem bl_end {a : List Int} {x lo hi : Int} (h0 : 0 ≤ lo) (h1 : lo ≤ hi) (h2 : hi ≤ a.length) (w : WL a x lo hi) (h : ¬ lo < hi) : BL a x lo := by
  have : hi = lo := by omega
  subst this
  exact ⟨h0, h2, w⟩

/-- a search function's contract upon a list of the ledger's -/
def BisTells (rel : List Int → Int → Int → Prop) (prog : Program) (w : World) (K : Frag) (p : Program) (loose : List Str) (mean : ExcName → Option Value) (mg mb : Str → Option Value) (f : Addr) : Prop :=
  ∀ (dp un : Nat) (gd : Option (List Code)) (cn : Str) (cs : Scope) (a : Addr) (ccd : Value) (cl : List (Str × Addr)) (outer : List Env) (A₀ : Around) (base h₀ : Heap) (L : Addr) (m : Str → Option Value) (news : List (Addr × Obj)) (s : Shared) (l : Addr) (vs : List Value) (ns : List Int) (nn : Nat) (x : Int) (tk : Tok)
    (Q E : Value → Shared → Prop),
    Below A₀ base outer h₀ → Fr h₀ L s.heap m → K.In h₀ → News h₀ L s.heap news → Top p loose mean mg mb h₀ → cs.kind = .function → (l, listOf vs.toArray nn) ∈ news → IntsAre vs ns → ns.length ≤ 2 ^ 20 → dp + 1 < recursionLimit → un + 8 < cLine →
    (∀ (r : Int) (t : Tok) (h' : Heap) (tk' : Nat), rel ns x r → Fr h₀ L h' m → News h₀ L h' news → Q (.int r t) { s with heap := h', toks := tk' }) →
    wpAny (model prog w) (ktrTop dp un gd cn cs L a ccd cl outer) (call (.ref f) [.ref l, .int x tk]) Q E s

theorem bis_ret {rel : List Int → Int → Int → Prop} {h₀ h' : Heap} {L : Addr} {m : Str → Option Value} {news : List (Addr × Obj)} {ns : List Int} {x : Int} {s : Shared} {Q : Value → Shared → Prop} {y : Int} {t : Tok} {tk' : Nat} {p : Addr × Obj}
    (hret : ∀ (r : Int) (t : Tok) (h' : Heap) (tk' : Nat), rel ns x r → Fr h₀ L h' m → News h₀ L h' news → Q (.int r t) { s with heap := h', toks := tk' }) (e : rel ns x y) (F : Fr h₀ L h' m) (N : News h₀ L h' (p :: news)) : Q (.int y t) { s with heap := h', toks := tk' } :=
  hret y t h' tk' e F (fun q hq => N q (.tail _ hq))
theorem news_dup {h₀ h : Heap} {L : Addr} {p : Addr × Obj} {news : List (Addr × Obj)} (N : News h₀ L h news) (hp : p ∈ news) : News h₀ L h (p :: news) := fun q hq => by
  rcases List.mem_cons.mp hq with rfl | hq
  · exact N _ hp
  · exact N q hq
/-- the claim for the program that a head is about -/
def ClaimOf {q : Program} {loose : List Str} {XP : (Str → Option Value) → Heap → Prop} {K : Params → Frag} {as : List Addr} {e : ∀ P, as = (K P).map (·.1)} {r : RowW} {d : DefRec} {kwd : List (Str × Expr)} {run : Value → List Value → Sem Value} {H : Prop}
    (_hd : WalkO q loose XP (kHook K as e).says r d kwd run → H) (C : Program → World → Frag → Program → List Str → (ExcName → Option Value) → (Str → Option Value) → (Str → Option Value) → Prop) : Prop :=
  ∀ (w : World) (mean : ExcName → Option Value) (mg mb : Str → Option Value), C r.prog w (K w.params) q (looseW q loose) mean mg mb
end Mine
namespace Mine
theorem ClaimOf.at {q : Program} {loose : List Str} {XP : (Str → Option Value) → Heap → Prop} {K : Params → Frag} {as : List Addr} {e : ∀ P, as = (K P).map (·.1)} {r : RowW} {d : DefRec} {kwd : List (Str × Expr)} {run : Value → List Value → Sem Value} {H : Prop}
    {hd : WalkO q loose XP (kHook K as e).says r d kwd run → H} {C : Program → World → Frag → Program → List Str → (ExcName → Option Value) → (Str → Option Value) → (Str → Option Value) → Prop} (h : ClaimOf hd C)
    (w : World) (mean : ExcName → Option Value) (mg mb : Str → Option Value) : C r.prog w (K w.params) q (looseW q loose) mean mg mb := h w mean mg mb
end Mine
namespace Mine
theorem bis_use {rel : List Int → Int → Int → Prop} {prog : Program} {w : World} {K : Frag} {p : Program} {loose : List Str} {mean : ExcName → Option Value} {mg mb : Str → Option Value} {f : Addr}
    {dp un : Nat} {gd : Option (List Code)} {cn : Str} {cs : Scope} {a : Addr} {ccd : Value} {cl : List (Str × Addr)} {outer : List Env} {A₀ : Around} {base h₀ : Heap} {L : Addr} {m : Str → Option Value} {news : List (Addr × Obj)} {s : Shared} {l : Addr} {vs : List Value} {ns : List Int} {nn : Nat} {x : Int} {tk : Tok}
    {Q E : Value → Shared → Prop} (B : Below A₀ base outer h₀) (F : Fr h₀ L s.heap m) (X : K.In h₀) (N : News h₀ L s.heap news) (T : Top p loose mean mg mb h₀) (hk : cs.kind = .function) (hm : (l, listOf vs.toArray nn) ∈ news) (hi : IntsAre vs ns) (hfit : ns.length ≤ 2 ^ 20)
    (C : BisTells rel prog w K p loose mean mg mb f) (hd : dp + 1 < recursionLimit) (hu : un + 8 < cLine)
    (ret : ∀ (r : Int) (t : Tok) (h' : Heap) (tk' : Nat), rel ns x r → Fr h₀ L h' m → News h₀ L h' news → Q (.int r t) { s with heap := h', toks := tk' }) :
    wpAny (model prog w) (ktrTop dp un gd cn cs L a ccd cl outer) (call (.ref f) [.ref l, .int x tk]) Q E s := C _ _ _ _ _ _ _ _ _ _ _ _ _ _ _ _ _ _ _ _ _ _ _ _ B F X N T hk hm hi hfit hd hu ret
theorem bool_end {p : Prop} [Decidable p] (h : p) : (decide p == true) = true := by simp [h]
end Mine
namespace Mine
def Srt (a : List Int) : Prop := ∀ i j : Nat, i ≤ j → j < a.length → a.getD i 0 ≤ a.getD j 0
def SrtS (a : List Int) : Prop := ∀ i j : Nat, i < j → j < a.length → a.getD i 0 < a.getD j 0
theorem SrtS.srt {a : List Int} (h : SrtS a) : Srt a := fun i j hij hj => by
  rcases Nat.lt_or_eq_of_le hij with h1 | rfl
  · exact Int.le_of_lt (h i j h1 hj)
  · exact Int.le_refl _
theorem BR.lo {a : List Int} {x r : Int} (hs : Srt a) (h : BR a x r) {i : Nat} (hi : (i : Int) < r) : a.getD i 0 ≤ x := by
  obtain ⟨h0, h1, h2, _⟩ := h
  rcases h2 with h2 | h2
  · omega
  · exact Int.le_trans (hs i (r - 1).toNat (by omega) (by omega)) h2
theorem BR.hi {a : List Int} {x r : Int} (hs : Srt a) (h : BR a x r) {i : Nat} (hi : r ≤ (i : Int)) (hl : i < a.length) : x < a.getD i 0 := by
  obtain ⟨h0, h1, _, h2⟩ := h
  rcases h2 with h2 | h2
  · omega
  · exact Int.lt_of_lt_of_le h2 (hs r.toNat i (by omega) hl)
theorem BL.lo {a : List Int} {x r : Int} (hs : Srt a) (h : BL a x r) {i : Nat} (hi : (i : Int) < r) : a.getD i 0 < x := by
  obtain ⟨h0, h1, h2, _⟩ := h
  rcases h2 with h2 | h2
  · omega
  · exact Int.lt_of_le_of_lt (hs i (r - 1).toNat (by omega) (by omega)) h2
theorem BL.hi {a : List Int} {x r : Int} (hs : Srt a) (h : BL a x r) {i : Nat} (hi : r ≤ (i : Int)) (hl : i < a.length) : x ≤ a.getD i 0 := by
  obtain ⟨h0, h1, _, h2⟩ := h
  rcases h2 with h2 | h2
  · omega
  · exact Int.le_trans h2 (hs r.toNat i (by omega) hl)

end Mine
namespace Mine
abbrev rngO (a b c : Int) (t u v : Tok) : Obj := { cls := .type "range", dict := none, data := .fields #[.int a t, .int b u, .int c v], slots := #[] }
section
variable {prog : Program} {w : World} {A : Around} {E : Value → Shared → Prop} {s : Shared}
theorem getItem_range {r : Addr} {a b c k : Int} {t u v tk : Tok} {Q : Value → Shared → Prop} (hr : IsRange s.heap r a b c t u v) (h0 : 0 ≤ k) (h1 : k < Builtin.Range.rangeSize a b c)
    (h : Q (.int (a + k * c) s.toks) { s with toks := s.toks + 1 }) : wpAny (model prog w) A (getItem (.ref r) (.int k tk)) Q E s := by
  have hT : s.TypeIs (.ref r) "range" := ⟨_, hr, rfl⟩
  refine wpAny_getItem_slot hT (by decide) F.slot_range_getitem (wpAny_call_entry F.slot_range_getitem hT F.entry_range_getitem ?_ (F.args_range_getitem_2 _ _))
  obtain ⟨hp, g, d, tks, os⟩ := s
  wp_walk using wpAny_loadPart' hr
  rw [int_index]
  refine wpAny_pure ?_
  dsimp only
  rw [if_neg (by simp)]
  refine wpAny_bind (wpAny_of_eq (a := k) rfl ?_)
  rw [if_neg (show ¬ k < 0 by omega), if_neg (by simp; omega)]
  wp_walk
  exact ⟨_, rfl, h⟩
theorem item_range {r : Addr} {a b c k : Int} {t u v tk : Tok} {value slice : Expr} {Q : Value → Shared → Prop} (hr : IsRange s.heap r a b c t u v) (h0 : 0 ≤ k) (h1 : k < Builtin.Range.rangeSize a b c)
    (h : Q (.int (a + k * c) s.toks) { s with toks := s.toks + 1 })
    (hs : subscripted slice false (.ref r) (.int k tk) = operate [.ref r, .int k tk] (getItem (.ref r) (.int k tk)) := by with_unfolding_all rfl) :
    wpAny (model prog w) A (subscriptTail value slice (.ref r) (.int k tk)) Q E s :=
  tail_any ⟨_, hr, rfl⟩ F.slot_range_getitem.lookup (getItem_range hr h0 h1 h) hs
end
section
variable {prog : Program} {w : World} {A : Around} {E : Value → Shared → Prop} {s : Shared} {h₀ : Heap} {L : Addr} {m : Str → Option Value} {news : List (Addr × Obj)}
/-- range(n) onto the ledger -/
theorem range1_led {Q : Value → Shared → Prop} {n : Int} {t : Tok} (F : Fr h₀ L s.heap m) (N : News h₀ L s.heap news)
    (h : ∀ r h' tk t₁ u₁ v₁, (∀ p ∈ news, p.1 < r) → Fr h₀ L h' m → News h₀ L h' ((r, rngO 0 n 1 t₁ u₁ v₁) :: news) → Q (.ref r) { s with heap := h', toks := tk }) :
    wpAny (model prog w) A (call (.type "range") [.int n t]) Q E s := by
  refine range1_rows F N fun h' tk t₁ u₁ v₁ hr F' N' _ => h _ h' tk t₁ u₁ v₁ (fun p hp => Heap.lt_size (N p hp).1) F' fun p hp => ?_
  rcases List.mem_cons.mp hp with rfl | hp
  · exact ⟨hr, Nat.ne_of_gt F.ns.lt, next_is_new F⟩
  · exact N' p hp
theorem len_range_led {Q : Value → Shared → Prop} {r : Addr} {n : Nat} {t u v : Tok} (N : News h₀ L s.heap news) (hm : (r, rngO 0 (n : Int) 1 t u v) ∈ news) (hfit : (n : Int) < 2 ^ 62)
    (h : Q (.int n (s.toks + 1)) { s with toks := s.toks + 1 + 1 }) : wpAny (model prog w) A (call (.builtin "len") [.ref r]) Q E s :=
  call_len_range (N _ hm).1 (by rw [rangeSize_nat]; omega) (by omega) h
theorem item_range_led {Q : Value → Shared → Prop} {r : Addr} {n : Nat} {k : Int} {t u v tk : Tok} {value slice : Expr} (N : News h₀ L s.heap news) (hm : (r, rngO 0 (n : Int) 1 t u v) ∈ news) (h0 : 0 ≤ k) (h1 : k < n)
    (h : Q (.int k s.toks) { s with toks := s.toks + 1 })
    (hs : subscripted slice false (.ref r) (.int k tk) = operate [.ref r, .int k tk] (getItem (.ref r) (.int k tk)) := by with_unfolding_all rfl) :
    wpAny (model prog w) A (subscriptTail value slice (.ref r) (.int k tk)) Q E s :=
  item_range (N _ hm).1 h0 (by rw [rangeSize_nat]; omega) (by rw [Int.mul_one, Int.zero_add]; exact h) hs
end
end Mine
namespace Mine
/-- the word of bisect_left by a key: g is the key upon the places -/
def WK (g : Int → Int) (n x lo hi : Int) : Prop := (lo = 0 ∨ g (lo - 1) < x) ∧ (hi = n ∨ x ≤ g hi)
def BK (g : Int → Int) (n x r : Int) : Prop := 0 ≤ r ∧ r ≤ n ∧ WK g n x r r
theorem wk_start (g : Int → Int) (n x : Int) (hn : 0 ≤ n) : (0 ≤ (0 : Int) ∧ (0 : Int) ≤ n ∧ n ≤ n) ∧ WK g n x 0 n := ⟨by omega, .inl rfl, .inl rfl⟩
theorem wk_lo {g : Int → Int} {n x lo hi : Int} (h0 : 0 ≤ lo) (h1 : hi ≤ n) (w : WK g n x lo hi) (h : lo < hi) (hx : g ((lo + hi).fdiv 2) < x) :
    (0 ≤ (lo + hi).fdiv 2 + 1 ∧ (lo + hi).fdiv 2 + 1 ≤ hi ∧ hi ≤ n) ∧ WK g n x ((lo + hi).fdiv 2 + 1) hi := by
  have := mid_facts h
  refine ⟨by omega, .inr ?_, w.2⟩
  rw [show (lo + hi).fdiv 2 + 1 - 1 = (lo + hi).fdiv 2 by omega]
  exact hx
theorem wk_hi {g : Int → Int} {n x lo hi : Int} (h0 : 0 ≤ lo) (h1 : hi ≤ n) (w : WK g n x lo hi) (h : lo < hi) (hx : ¬ g ((lo + hi).fdiv 2) < x) :
    (0 ≤ lo ∧ lo ≤ (lo + hi).fdiv 2 ∧ (lo + hi).fdiv 2 ≤ n) ∧ WK g n x lo ((lo + hi).fdiv 2) := by
  have := mid_facts h
  exact ⟨by omega, w.1, .inr (by omega)⟩
theorem bk_end {g : Int → Int} {n x lo hi : Int} (h0 : 0 ≤ lo) (h1 : lo ≤ hi) (h2 : hi ≤ n) (w : WK g n x lo hi) (h : ¬ lo < hi) : BK g n x lo := by
  have : hi = lo := by omega
  subst this
  exact ⟨h0, h2, w⟩
theorem BK.lo {g : Int → Int} {n x r : Int} (hs : ∀ i j, 0 ≤ i → i ≤ j → j < n → g i ≤ g j) (h : BK g n x r) {i : Int} (h0 : 0 ≤ i) (hi : i < r) : g i < x := by
  obtain ⟨a, b, h2, _⟩ := h
  rcases h2 with h2 | h2
  · omega
  · exact Int.lt_of_le_of_lt (hs i (r - 1) h0 (by omega) (by omega)) h2
theorem BK.hi {g : Int → Int} {n x r : Int} (hs : ∀ i j, 0 ≤ i → i ≤ j → j < n → g i ≤ g j) (h : BK g n x r) {i : Int} (hi : r ≤ i) (hl : i < n) : x ≤ g i := by
  obtain ⟨a, b, _, h2⟩ := h
  rcases h2 with h2 | h2
  · omega
  · exact Int.le_trans h2 (hs r i a hi hl)
section
variable {prog : Program} {w : World} {A : Around} {E : Value → Shared → Prop} {Q : Flow → Shared → Prop} {s : Shared} {env : Env} {h₀ : Heap} {L : Addr}
/-- the while of bisect_left by a key, the ledger unchanged -/
theorem key_while {test : Expr} {body : List Stmt} {pos : Pos} {m₀ : Str → Option Value} {news : List (Addr × Obj)} (g : Int → Int) {n x : Int} {tl th : Tok}
    (F : Fr h₀ L s.heap m₀) (N : News h₀ L s.heap news) (hlo : m₀ (Str.ofString "lo") = some (.int 0 tl)) (hhi : m₀ (Str.ofString "hi") = some (.int n th)) (hn : 0 ≤ n)
    (turn : ∀ lo t₁ hi t₂ (u : Str → Option Value) h tk, 0 ≤ lo → lo ≤ hi → hi ≤ n → WK g n x lo hi → Fr h₀ L h (kstB (fun z => if [Str.ofString "mid"].contains z then u z else m₀ z) [(Str.ofString "lo", .int lo t₁), (Str.ofString "hi", .int hi t₂)]) → News h₀ L h news →
      wpAny (model prog w) A (isTrue test env (eval test env)) (fun b s₂ =>
        if b = true then wpAny (model prog w) A (execs body env) (KswPost h₀ L s (fun _ : Int × Tok × Int × Tok => news) (fun c => [(Str.ofString "lo", .int c.1 c.2.1), (Str.ofString "hi", .int c.2.2.1 c.2.2.2)]) (fun _ => True) [Str.ofString "mid"] m₀
          (fun c => (0 ≤ c.1 ∧ c.1 ≤ c.2.2.1 ∧ c.2.2.1 ≤ n) ∧ WK g n x c.1 c.2.2.1) (fun c => (c.2.2.1 - c.1).toNat) Q (lo, t₁, hi, t₂)) E s₂ else Q .next s₂) E { s with heap := h, toks := tk })
    (hE : PassesOwn (model prog w) A env E := by passes_own) :
    wpAny (model prog w) A (exec (.While test body [] pos) env) Q E s := by
  refine ksw_while (fun _ : Int × Tok × Int × Tok => news) (fun c => [(Str.ofString "lo", .int c.1 c.2.1), (Str.ofString "hi", .int c.2.2.1 c.2.2.2)]) (fun _ => True) [Str.ofString "mid"] (fun c => (0 ≤ c.1 ∧ c.1 ≤ c.2.2.1 ∧ c.2.2.1 ≤ n) ∧ WK g n x c.1 c.2.2.1) (fun c => (c.2.2.1 - c.1).toNat)
    (0, tl, n, th) F N trivial ?_ (wk_start g n x hn) ?_ hE
  · intro p hp
    rcases List.mem_cons.mp hp with rfl | hp
    · exact hlo
    · rw [List.mem_singleton.mp hp]; exact hhi
  · rintro ⟨lo, t₁, hi, t₂⟩ u h tk _ ⟨⟨h1, h2, h3⟩, hw⟩ F' N'
    exact turn lo t₁ hi t₂ u h tk h1 h2 h3 hw F' N'
theorem key_whileL {test : Expr} {body : List Stmt} {pos : Pos} {m₀ : Str → Option Value} {news : List (Addr × Obj)} (G : List Int → Int → Int) {n x : Int} {tl th tx : Tok} {l : Addr} {vs : List Value} {ns : List Int} {nn : Nat}
    (F : Fr h₀ L s.heap m₀) (N : News h₀ L s.heap news) (_hm : (l, listOf vs.toArray nn) ∈ news) (_hi : IntsAre vs ns) (hlo : m₀ (Str.ofString "lo") = some (.int 0 tl)) (hhi : m₀ (Str.ofString "hi") = some (.int n th)) (_hx : m₀ (Str.ofString "x") = some (.int x tx)) (hn : 0 ≤ n)
    (turn : ∀ lo t₁ hi t₂ (u : Str → Option Value) h tk, 0 ≤ lo → lo ≤ hi → hi ≤ n → WK (G ns) n x lo hi → Fr h₀ L h (kstB (fun z => if [Str.ofString "mid"].contains z then u z else m₀ z) [(Str.ofString "lo", .int lo t₁), (Str.ofString "hi", .int hi t₂)]) → News h₀ L h news →
      wpAny (model prog w) A (isTrue test env (eval test env)) (fun b s₂ =>
        if b = true then wpAny (model prog w) A (execs body env) (KswPost h₀ L s (fun _ : Int × Tok × Int × Tok => news) (fun c => [(Str.ofString "lo", .int c.1 c.2.1), (Str.ofString "hi", .int c.2.2.1 c.2.2.2)]) (fun _ => True) [Str.ofString "mid"] m₀
          (fun c => (0 ≤ c.1 ∧ c.1 ≤ c.2.2.1 ∧ c.2.2.1 ≤ n) ∧ WK (G ns) n x c.1 c.2.2.1) (fun c => (c.2.2.1 - c.1).toNat) Q (lo, t₁, hi, t₂)) E s₂ else Q .next s₂) E { s with heap := h, toks := tk })
    (hE : PassesOwn (model prog w) A env E := by passes_own) :
    wpAny (model prog w) A (exec (.While test body [] pos) env) Q E s := key_while (G ns) F N hlo hhi hn turn hE
theorem key_whileC {test : Expr} {body : List Stmt} {pos : Pos} {m₀ : Str → Option Value} {news : List (Addr × Obj)} (G : List Int → Int → Int) {n x : Int} {tl th tx : Tok} {l : Addr} {vs : List Value} {ns : List Int} {nn : Nat} {o : Obj}
    (F : Fr h₀ L s.heap m₀) (N : News h₀ L s.heap news) (_ho : o.data = .cell (some (.ref l))) (_hm : (l, listOf vs.toArray nn) ∈ news) (_hi : IntsAre vs ns) (hlo : m₀ (Str.ofString "lo") = some (.int 0 tl)) (hhi : m₀ (Str.ofString "hi") = some (.int n th)) (_hx : m₀ (Str.ofString "x") = some (.int x tx)) (hn : 0 ≤ n)
    (turn : ∀ lo t₁ hi t₂ (u : Str → Option Value) h tk, 0 ≤ lo → lo ≤ hi → hi ≤ n → WK (G ns) n x lo hi → Fr h₀ L h (kstB (fun z => if [Str.ofString "mid"].contains z then u z else m₀ z) [(Str.ofString "lo", .int lo t₁), (Str.ofString "hi", .int hi t₂)]) → News h₀ L h news →
      wpAny (model prog w) A (isTrue test env (eval test env)) (fun b s₂ =>
        if b = true then wpAny (model prog w) A (execs body env) (KswPost h₀ L s (fun _ : Int × Tok × Int × Tok => news) (fun c => [(Str.ofString "lo", .int c.1 c.2.1), (Str.ofString "hi", .int c.2.2.1 c.2.2.2)]) (fun _ => True) [Str.ofString "mid"] m₀
          (fun c => (0 ≤ c.1 ∧ c.1 ≤ c.2.2.1 ∧ c.2.2.1 ≤ n) ∧ WK (G ns) n x c.1 c.2.2.1) (fun c => (c.2.2.1 - c.1).toNat) Q (lo, t₁, hi, t₂)) E s₂ else Q .next s₂) E { s with heap := h, toks := tk })
    (hE : PassesOwn (model prog w) A env E := by passes_own) :
    wpAny (model prog w) A (exec (.While test body [] pos) env) Q E s := key_while (G ns) F N hlo hhi hn turn hE
end
end Mine
namespace Mine
inductive All2 {α : Type} (R : α → Value → Prop) : List α → List Value → Prop
  | nil : All2 R [] []
  | cons {d : α} {v : Value} {ds : List α} {vs : List Value} : R d v → All2 R ds vs → All2 R (d :: ds) (v :: vs)
theorem All2.snoc {α : Type} {R : α → Value → Prop} {d : α} {v : Value} (h : R d v) : ∀ {ds : List α} {vs : List Value}, All2 R ds vs → All2 R (ds ++ [d]) (vs ++ [v])
  | _, _, .nil => .cons h .nil
  | _, _, .cons a r => .cons a (r.snoc h)
theorem All2.ints {g : Int → Int} : ∀ {ks : List Int} {vs : List Value}, All2 (fun k y => ∃ t, y = Value.int (g k) t) ks vs → IntsAre vs (ks.map g)
  | _, _, .nil => .nil
  | _, _, .cons ⟨t, e⟩ r => by rw [e]; exact .cons _ t r.ints
theorem All2.length {α : Type} {R : α → Value → Prop} : ∀ {ds : List α} {vs : List Value}, All2 R ds vs → vs.length = ds.length
  | _, _, .nil => rfl
  | _, _, .cons _ r => by simp [r.length]
theorem All2.get {α : Type} {R : α → Value → Prop} : ∀ {ds : List α} {vs : List Value}, All2 R ds vs → ∀ {i : Nat} {v : Value}, vs[i]? = some v → ∃ d, ds[i]? = some d ∧ R d v
  | _, _, .nil, i, v, h => by simp at h
  | _, _, .cons a r, 0, v, h => by simp at h; subst h; exact ⟨_, rfl, a⟩
  | _, _, .cons a r, i + 1, v, h => by simp only [List.getElem?_cons_succ] at h ⊢; exact r.get h

/-- the end of an item's evaluation in a comprehension -/
def CtEnd (h₀ : Heap) (L : Addr) (m : Str → Option Value) (s₁ : Shared) (need : List (Addr × Obj)) (R : Prop) (s₂ : Shared) : Prop :=
  ∃ h' tk nw, s₂ = { s₁ with heap := h', toks := tk } ∧ Fr h₀ L h' m ∧ News h₀ L h' nw ∧ (∀ p ∈ need, p ∈ nw) ∧ R
theorem ct_end {h₀ : Heap} {L : Addr} {m : Str → Option Value} {s₁ : Shared} {need nw : List (Addr × Obj)} {R : Prop} {h' : Heap} {tk : Nat} (F : Fr h₀ L h' m) (N : News h₀ L h' nw) (hn : ∀ p ∈ need, p ∈ nw) (r : R) : CtEnd h₀ L m s₁ need R { s₁ with heap := h', toks := tk } :=
  ⟨h', tk, nw, rfl, F, N, hn, r⟩
section
variable {prog : Program} {w : World} {A : Around} {h₀ : Heap} {L : Addr} {m : Str → Option Value} {env : Env} {ct elt : Expr} {x : Str} {scope : Scope} {cl : List (Str × Addr)} {s : Shared} {S : List (Addr × Obj) → Prop} {P : Nat → Value → Prop} {Fin : List Value → List (Addr × Obj) → Prop} {news : List (Addr × Obj)}
theorem ct_rest {α : Type} {n : Nat} {ds : List α} {V : α → Value → Prop} (p : α → Bool) (O : α → Value → Prop) (hds : ds.length = n) (hP : ∀ i v, i < n → P i v → ∃ d, ds[i]? = some d ∧ V d v) (hS : S news)
    (turn : ∀ d v I oI C oC D m₂ ys h tk (E' : Value → Shared → Prop), d ∈ ds → V d v → LCg.NsObj oC m₂ → m₂ x = some v → Fr h₀ L h m → News h₀ L h ((I, oI) :: (C, oC) :: (D, LCg.lst ys) :: news) → LCg.Off3 I C D news → ((@Ne Nat I C) ∧ (@Ne Nat I D) ∧ (@Ne Nat C D)) →
      wpAny (model prog w) A (isTrue ct (compEnvC scope cl C env) (eval ct (compEnvC scope cl C env))) (fun ok s' => if ok = true then
        wpAny (model prog w) A (eval elt (compEnvC scope cl C env)) (fun y s'' => CtEnd h₀ L m { s with heap := h, toks := tk } ((I, oI) :: (C, oC) :: (D, LCg.lst ys) :: news) (p d = true ∧ O d y) s'') E' s'
        else CtEnd h₀ L m { s with heap := h, toks := tk } ((I, oI) :: (C, oC) :: (D, LCg.lst ys) :: news) (p d = false) s') E' { s with heap := h, toks := tk })
    (fin : ∀ ys, All2 O (ds.filter p) ys → Fin ys news) : LCt.CompRestT prog w A h₀ L m env ct elt x scope cl s S P Fin n 0 [] news := by
  have key : ∀ (j i : Nat) (ys : List Value), i + j = n → All2 O ((ds.take i).filter p) ys → LCt.CompRestT prog w A h₀ L m env ct elt x scope cl s S P Fin j i ys news := by
    intro j
    induction j with
    | zero =>
      intro i ys hi hy
      have e : i = ds.length := by omega
      subst e
      rw [List.take_length] at hy
      exact LCt.CompRestT.zero (fin ys hy)
    | succ j ih =>
      intro i ys hi hy
      refine LCt.CompRestT.succ ?_
      intro v I oI C oC D m₂ h tk E' hv hC hx F N off ne
      obtain ⟨d, hd, hV⟩ := hP i v (by omega) hv
      have ht : ds.take (i + 1) = ds.take i ++ [d] := by rw [List.take_add_one, hd]; rfl
      refine wpAny_mono (turn d v I oI C oC D m₂ ys h tk E' (List.mem_of_getElem? hd) hV hC hx F N off ne) (fun ok s₂ hq => ?_) fun _ _ e => e
      cases ok with
      | true =>
        simp only [if_true] at hq ⊢
        refine wpAny_mono hq (fun y s₃ hz => ?_) fun _ _ e => e
        obtain ⟨h', tk', nw, e, F', N', hn', hp', hO⟩ := hz
        refine ⟨h', tk', news, e, F', fun q hq => N' q (hn' q hq), off, hS, ih (i + 1) _ (by omega) ?_⟩
        rw [ht, List.filter_append]
        simp only [List.filter_cons, hp', if_true, List.filter_nil]
        exact hy.snoc hO
      | false =>
        simp only [Bool.false_eq_true, if_false] at hq ⊢
        obtain ⟨h', tk', nw, e, F', N', hn', hp'⟩ := hq
        refine ⟨h', tk', news, e, F', fun q hq => N' q (hn' q hq), off, hS, ih (i + 1) _ (by omega) ?_⟩
        rw [ht, List.filter_append]
        simp only [List.filter_cons, hp', Bool.false_eq_true, if_false, List.filter_nil, List.append_nil]
        exact hy
  exact key n 0 [] (by omega) (by simp only [List.take_zero, List.filter_nil]; exact .nil)
theorem ct_restU {α : Type} {n : Nat} {ds : List α} {V : α → Value → Prop} (O : α → Value → Prop) (hds : ds.length = n) (hP : ∀ i v, i < n → P i v → ∃ d, ds[i]? = some d ∧ V d v) (hS : S news)
    (turn : ∀ d v I oI C oC D m₂ ys h tk (E' : Value → Shared → Prop), d ∈ ds → V d v → LCg.NsObj oC m₂ → m₂ x = some v → Fr h₀ L h m → News h₀ L h ((I, oI) :: (C, oC) :: (D, LCg.lst ys) :: news) → LCg.Off3 I C D news → ((@Ne Nat I C) ∧ (@Ne Nat I D) ∧ (@Ne Nat C D)) →
      wpAny (model prog w) A (eval elt (compEnvC scope cl C env)) (fun y s'' => CtEnd h₀ L m { s with heap := h, toks := tk } ((I, oI) :: (C, oC) :: (D, LCg.lst ys) :: news) (O d y) s'') E' { s with heap := h, toks := tk })
    (fin : ∀ ys, All2 O ds ys → Fin ys news) : LCg.CompRest prog w A h₀ L m env elt x scope cl s S P Fin n 0 [] news := by
  have key : ∀ (j i : Nat) (ys : List Value), i + j = n → All2 O (ds.take i) ys → LCg.CompRest prog w A h₀ L m env elt x scope cl s S P Fin j i ys news := by
    intro j
    induction j with
    | zero =>
      intro i ys hi hy
      have e : i = ds.length := by omega
      subst e
      rw [List.take_length] at hy
      exact LCg.CompRest.zero (fin ys hy)
    | succ j ih =>
      intro i ys hi hy
      refine LCg.CompRest.succ ?_
      intro v I oI C oC D m₂ h tk E' hv hC hx F N off ne
      obtain ⟨d, hd, hV⟩ := hP i v (by omega) hv
      have ht : ds.take (i + 1) = ds.take i ++ [d] := by rw [List.take_add_one, hd]; rfl
      refine wpAny_mono (turn d v I oI C oC D m₂ ys h tk E' (List.mem_of_getElem? hd) hV hC hx F N off ne) (fun y s₂ hq => ?_) fun _ _ e => e
      obtain ⟨h', tk', nw, e, F', N', hn', hO⟩ := hq
      refine ⟨h', tk', news, e, F', fun q hq => N' q (hn' q hq), off, hS, ih (i + 1) _ (by omega) ?_⟩
      rw [ht]
      exact hy.snoc hO
  exact key n 0 [] (by omega) (by simp only [List.take_zero]; exact .nil)
end
section
variable {prog : Program} {w : World} {A : Around} {h₀ : Heap} {L : Addr} {m : Str → Option Value} {env : Env} {ct elt : Expr} {x : Str} {scope : Scope} {cl : List (Str × Addr)} {s : Shared} {Fin : Shared → List Value → List (Addr × Obj) → Prop} {news : List (Addr × Obj)}
/-- a list of ints of the ledger's, one test, an int element -/
theorem ct_intsL {ax : Addr} {vs : List Value} {ks : List Int} {k : Nat} (p : Int → Bool) (g : Int → Int) (hh : A.handled = none) (F : Fr h₀ L s.heap m) (N : News h₀ L s.heap news) (hm : (ax, listOf vs.toArray k) ∈ news) (hi : IntsAre vs ks) (hsz : ks.length ≤ sizeLine)
    (turn : ∀ d t I oI C oC D m₂ ys hp h tk (E' : Value → Shared → Prop), d ∈ ks → LCg.NsObj oC m₂ → m₂ x = some (.int d t) → Fr h₀ L h m → News h₀ L h ((I, oI) :: (C, oC) :: (D, LCg.lst ys) :: news) → LCg.Off3 I C D news → ((@Ne Nat I C) ∧ (@Ne Nat I D) ∧ (@Ne Nat C D)) →
      wpAny (model prog w) A (isTrue ct (compEnvC scope cl C env) (eval ct (compEnvC scope cl C env))) (fun ok s' => if ok = true then
        wpAny (model prog w) A (eval elt (compEnvC scope cl C env)) (fun y s'' => CtEnd h₀ L m { s with heap := h, toks := tk } ((I, oI) :: (C, oC) :: (D, LCg.lst ys) :: news) (p d = true ∧ ∃ t', y = .int (g d) t') s'') E' s'
        else CtEnd h₀ L m { s with heap := h, toks := tk } ((I, oI) :: (C, oC) :: (D, LCg.lst ys) :: news) (p d = false) s') E' { { s with heap := hp } with heap := h, toks := tk })
    (fin : ∀ h ys, IntsAre ys ((ks.filter p).map g) → Fin { s with heap := h } ys news) : LCt.CompSrcT prog w A h₀ L m env ct elt x scope cl Fin (.ref ax) s := by
  have hl : vs.toArray.size = ks.length := by rw [List.size_toArray, hi.length]
  refine LCt.CompSrcT.ledger hh F N hm (by rw [hl]; exact hsz) fun hg => ?_
  refine ct_rest (ds := ks) (V := fun d v => ∃ t, v = .int d t) p (fun d y => ∃ t', y = .int (g d) t') hl.symm (fun i v _ hv => ?_) (.inr ⟨_, hm, rfl, _, rfl⟩) ?_ fun ys hy => fin hg ys hy.ints
  · obtain ⟨d, t, e, hk⟩ := IntsAre.at hi i v (by simpa using hv)
    exact ⟨d, hk, t, e⟩
  · rintro d v I oI C oC D m₂ ys h tk E' hd ⟨t, rfl⟩ hC hx F' N' off ne
    exact turn d t I oI C oC D m₂ ys hg h tk E' hd hC hx F' N' off ne
/-- the same, the element is the item itself -/
theorem ct_filtL {ax : Addr} {vs : List Value} {ks : List Int} {k : Nat} (p : Int → Bool) (hh : A.handled = none) (F : Fr h₀ L s.heap m) (N : News h₀ L s.heap news) (hm : (ax, listOf vs.toArray k) ∈ news) (hi : IntsAre vs ks) (hsz : ks.length ≤ sizeLine)
    (turn : ∀ d t I oI C oC D m₂ ys hp h tk (E' : Value → Shared → Prop), d ∈ ks → LCg.NsObj oC m₂ → m₂ x = some (.int d t) → Fr h₀ L h m → News h₀ L h ((I, oI) :: (C, oC) :: (D, LCg.lst ys) :: news) → LCg.Off3 I C D news → ((@Ne Nat I C) ∧ (@Ne Nat I D) ∧ (@Ne Nat C D)) →
      wpAny (model prog w) A (isTrue ct (compEnvC scope cl C env) (eval ct (compEnvC scope cl C env))) (fun ok s' => if ok = true then
        wpAny (model prog w) A (eval elt (compEnvC scope cl C env)) (fun y s'' => CtEnd h₀ L m { s with heap := h, toks := tk } ((I, oI) :: (C, oC) :: (D, LCg.lst ys) :: news) (p d = true ∧ ∃ t', y = .int d t') s'') E' s'
        else CtEnd h₀ L m { s with heap := h, toks := tk } ((I, oI) :: (C, oC) :: (D, LCg.lst ys) :: news) (p d = false) s') E' { { s with heap := hp } with heap := h, toks := tk })
    (fin : ∀ h ys, IntsAre ys (ks.filter p) → Fin { s with heap := h } ys news) : LCt.CompSrcT prog w A h₀ L m env ct elt x scope cl Fin (.ref ax) s :=
  ct_intsL p (fun d => d) hh F N hm hi hsz turn fun h ys hy => fin h ys (by simpa using hy)
end
theorem ints_filter_le {ys : List Value} {ks : List Int} {p : Int → Bool} (_h : IntsAre ys (ks.filter p)) : (ks.filter p).length ≤ ks.length := List.length_filter_le _ _
section
variable {prog : Program} {w : World} {A : Around} {h₀ : Heap} {L : Addr} {m : Str → Option Value} {env : Env} {ct elt : Expr} {x : Str} {scope : Scope} {cl : List (Str × Addr)} {s : Shared} {Fin : Shared → List Value → List (Addr × Obj) → Prop} {news : List (Addr × Obj)}
def upTo (n : Nat) : List Int := (List.range n).map Int.ofNat
theorem upTo_length (n : Nat) : (upTo n).length = n := by simp [upTo]
theorem mem_upTo {n : Nat} {d : Int} (h : d ∈ upTo n) : 0 ≤ d ∧ d < n := by
  obtain ⟨i, hi, rfl⟩ := List.mem_map.mp h
  have := List.mem_range.mp hi
  show 0 ≤ (i : Int) ∧ (i : Int) < n
  omega
/-- over a range from nought, one test, the element is the item itself -/
theorem ct_filtR {r : Addr} {n : Nat} {t₀ u₀ v₀ : Tok} (p : Int → Bool) (hh : A.handled = none) (F : Fr h₀ L s.heap m) (N : News h₀ L s.heap news) (hr : IsRange s.heap r 0 (n : Int) 1 t₀ u₀ v₀) (hsz : n ≤ 2 ^ 20)
    (turn : ∀ d t I oI C oC D m₂ ys hp h tk (E' : Value → Shared → Prop), 0 ≤ d → d < (n : Int) → LCg.NsObj oC m₂ → m₂ x = some (.int d t) → Fr h₀ L h m → News h₀ L h ((I, oI) :: (C, oC) :: (D, LCg.lst ys) :: news) → LCg.Off3 I C D news → ((@Ne Nat I C) ∧ (@Ne Nat I D) ∧ (@Ne Nat C D)) →
      wpAny (model prog w) A (isTrue ct (compEnvC scope cl C env) (eval ct (compEnvC scope cl C env))) (fun ok s' => if ok = true then
        wpAny (model prog w) A (eval elt (compEnvC scope cl C env)) (fun y s'' => CtEnd h₀ L m { s with heap := h, toks := tk } ((I, oI) :: (C, oC) :: (D, LCg.lst ys) :: news) (p d = true ∧ ∃ t', y = .int d t') s'') E' s'
        else CtEnd h₀ L m { s with heap := h, toks := tk } ((I, oI) :: (C, oC) :: (D, LCg.lst ys) :: news) (p d = false) s') E' { { s with heap := hp } with heap := h, toks := tk })
    (fin : ∀ h ys, IntsAre ys ((upTo n).filter p) → Fin { s with heap := h } ys news) : LCt.CompSrcT prog w A h₀ L m env ct elt x scope cl Fin (.ref r) s := by
  refine LCt.CompSrcT.range (n := n) hh F N hr (small_one (by omega) (by omega) (by omega) (by omega)) (by rw [rangeSize_nat]; omega) (by rw [sizeLine_eq]; omega) fun hg => ?_
  refine ct_rest (ds := upTo n) (V := fun d v => ∃ t, v = .int d t) p (fun d y => ∃ t', y = .int d t') (upTo_length n) (fun i v hi hv => ?_) trivial ?_ fun ys hy => fin hg ys (by simpa using (All2.ints (g := fun d => d) hy))
  · obtain ⟨t, rfl⟩ := hv
    exact ⟨(i : Int), by simp [upTo, hi], t, by rw [Int.zero_add]⟩
  · rintro d v I oI C oC D m₂ ys h tk E' hd ⟨t, rfl⟩ hC hx F' N' off ne
    exact turn d t I oI C oC D m₂ ys hg h tk E' (mem_upTo hd).1 (mem_upTo hd).2 hC hx F' N' off ne
end
end Mine
namespace Mine
section
variable {prog : Program} {w : World} {A : Around} {E : Value → Shared → Prop} {s : Shared} {env : Env} {h₀ : Heap} {target : Expr} {body : List Stmt} {Q : Flow → Shared → Prop}

/-- a turn's end: the next state c' of the word, borne by the frame and the ledger -/
def GEnd {σ : Type} (h₀ : Heap) (L : Addr) (I : Addr) (it : Obj) (Led : σ → List (Addr × Obj)) (ps : σ → List (Str × Value)) (stored : List Str) (m₀ : Str → Option Value) (P : σ → Prop) (s₁ s₂ : Shared) : Prop :=
  ∃ (c' : σ) (h' : Heap) (tk : Nat) (m' : Str → Option Value) (news' : List (Addr × Obj)), s₂ = { s₁ with heap := h', toks := tk } ∧ Fr h₀ L h' m' ∧ News h₀ L h' news' ∧ (I, it) ∈ news' ∧ (∀ p ∈ Led c', p ∈ news') ∧ (∀ p ∈ Led c', p.1 ≠ I) ∧
    (∀ p ∈ ps c', m' p.1 = some p.2) ∧ (∀ z, (∀ p ∈ ps c', z ≠ p.1) → stored.contains z = false → m' z = m₀ z) ∧ P c'
def GPost {σ : Type} (h₀ : Heap) (L : Addr) (I : Addr) (it : Obj) (Led : σ → List (Addr × Obj)) (ps : σ → List (Str × Value)) (stored : List Str) (m₀ : Str → Option Value) (P : σ → Prop) (s₁ : Shared) (Q : Flow → Shared → Prop) (f : Flow) (s₂ : Shared) : Prop :=
  match f with
  | .ret v => Q (.ret v) s₂
  | .brk => Q .next s₂
  | _ => GEnd h₀ L I it Led ps stored m₀ P s₁ s₂
theorem g_end {σ : Type} {L I : Addr} {it : Obj} {Led : σ → List (Addr × Obj)} {ps : σ → List (Str × Value)} {stored : List Str} {m₀ m' : Str → Option Value} {P : σ → Prop} {s₁ : Shared} {h' : Heap} {tk : Nat} {news' : List (Addr × Obj)} (c' : σ)
    (F : Fr h₀ L h' m') (N : News h₀ L h' news') (hI : (I, it) ∈ news') (hn : ∀ p ∈ Led c', p ∈ news') (ho : ∀ p ∈ Led c', p.1 ≠ I) (hk : ∀ p ∈ ps c', m' p.1 = some p.2) (hr : ∀ z, (∀ p ∈ ps c', z ≠ p.1) → stored.contains z = false → m' z = m₀ z) (hp : P c') :
    GEnd h₀ L I it Led ps stored m₀ P s₁ { s₁ with heap := h', toks := tk } := ⟨c', h', tk, m', news', rfl, F, N, hI, hn, ho, hk, hr, hp⟩

theorem g_core {σ : Type} {I : Addr} {fp : List Addr} {n : Nat} {Pi Md : Nat → Value → Heap → Prop} {St : Nat → Heap → Prop} {m₀ : Str → Option Value} (Led : σ → List (Addr × Obj)) (ps : σ → List (Str × Value)) (stored : List Str) (P : Nat → σ → Prop) (c₀ : σ) (keep : List (Addr × Obj))
    (W : KTurns prog w A target I fp [I] n Pi Md St) (hLf : env.locals ∉ fp) (hI : h₀.get? I = none) (hfp : ∀ b ∈ fp, b = I ∨ (∃ o, h₀.get? b = some o) ∨ b ∈ keep.map (·.1)) (hkeep : ∀ c i, P i c → ∀ p ∈ keep, p ∈ Led c) (hit : ∀ i h, St i h → ∃ it, h.get? I = some it)
    (hoff : ∀ p ∈ Led c₀, p.1 ≠ I) (hst : St 0 s.heap) (F : Fr h₀ env.locals s.heap m₀) (N : News h₀ env.locals s.heap (Led c₀)) (hk : ∀ p ∈ ps c₀, m₀ p.1 = some p.2) (hp : P 0 c₀)
    (turn : ∀ (c : σ) i v (u : Str → Option Value) h tk it, i < n → Pi i v h → P i c → (∀ p ∈ Led c, p.1 ≠ I) → Fr h₀ env.locals h (kstB (fun z => if stored.contains z then u z else m₀ z) (ps c)) → News h₀ env.locals h ((I, it) :: Led c) →
      wpAny (model prog w) A (assign target env v) (fun _ s₃ => wpAny (model prog w) A (execs body env) (GPost h₀ env.locals I it Led ps stored m₀ (P (i + 1)) { s with heap := h, toks := tk } Q) E s₃) E { s with heap := h, toks := tk })
    (done : ∀ (c : σ) (u : Str → Option Value) h tk, P n c → Fr h₀ env.locals h (kstB (fun z => if stored.contains z then u z else m₀ z) (ps c)) → News h₀ env.locals h (Led c) → Q .next { s with heap := h, toks := tk }) :
    TurnsAt prog w A h₀ env target body Q E (.ref I) s := by
  let J : Nat → (Str → Option Value) → List (Addr × Obj) → Prop := fun i m nx => ∃ c : σ, nx = Led c ∧ (∀ p ∈ ps c, m p.1 = some p.2) ∧ (∀ z, (∀ p ∈ ps c, z ≠ p.1) → stored.contains z = false → m z = m₀ z) ∧ P i c
  refine ⟨I, fp, [I], n, Pi, Md, St, m₀, Led c₀, J, rfl, W, hLf, ?_, ?_, hst, F, N, ⟨c₀, rfl, hk, fun _ _ _ => rfl, hp⟩, ?_, ?_⟩
  · intro b hb; rw [List.mem_singleton.mp hb]; exact hI
  · intro p hp' hb; exact hoff p hp' (List.mem_singleton.mp hb)
  · rintro i v m₁ news₁ h₁ tk₁ own hin hPi ⟨c, rfl, hk₁, hr₁, hp₁⟩ hoff₁ hown hget hall hst₁ F₁ N₁
    have off : ∀ p ∈ Led c, p.1 ≠ I := fun p hp' e => hoff₁ p hp' (List.mem_singleton.mpr e)
    obtain ⟨it, hit₁⟩ := hit _ _ hst₁
    have hIm : (I, it) ∈ own := hall I (W.sub I (List.mem_singleton.mpr rfl)) hI it hit₁
    have N₂ : News h₀ env.locals h₁ ((I, it) :: Led c) := fun p hp' => by
      rcases List.mem_cons.mp hp' with rfl | hp'
      · exact N₁ _ (List.mem_append_left _ hIm)
      · exact N₁ _ (List.mem_append_right _ hp')
    refine wpAny_mono (turn c i v m₁ h₁ tk₁ it hin hPi hp₁ off (ksw_fr hk₁ hr₁ F₁) N₂) (fun _ s₃ h₃ => wpAny_mono h₃ (fun f s₂ p => ?_) fun _ _ e => e) fun _ _ e => e
    have fin : GEnd h₀ env.locals I it Led ps stored m₀ (P (i + 1)) { s with heap := h₁, toks := tk₁ } s₂ → LoopStepU h₀ env.locals [I] own (J (i + 1)) { s with heap := h₁, toks := tk₁ } .next s₂ := by
      rintro ⟨c', h', tk, m', news', e, F', N', hI', hn', ho', hk', hr', hp'⟩
      refine ⟨rfl, h', tk, m', Led c', e, F', fun p hp₂ => ?_, fun p hp₂ hb => ho' p hp₂ (List.mem_singleton.mp hb), c', rfl, hk', hr', hp'⟩
      rcases List.mem_append.mp hp₂ with hp₂ | hp₂
      · have h2 : h₁.get? p.1 = some p.2 := hget p hp₂
        rcases hfp p.1 (hown p hp₂) with h3 | ⟨o, h3⟩ | h3
        · have : p = (I, it) := by
            rw [h3, hit₁] at h2
            exact Prod.ext h3 (Option.some.inj h2).symm
          rw [this]; exact N' _ hI'
        · have h4 := (N₁ p (List.mem_append_left _ hp₂)).2.2
          rw [h3] at h4; cases h4
        · obtain ⟨q, hq, hqe⟩ := List.mem_map.mp h3
          have h5 := (N₁ q (List.mem_append_right _ (hkeep c i hp₁ q hq))).1
          have : p = q := by
            rw [hqe, h2] at h5
            exact Prod.ext hqe.symm (Option.some.inj h5)
          rw [this]; exact N' _ (hn' _ (hkeep c' (i + 1) hp' q hq))
      · exact N' _ (hn' p hp₂)
    cases f with
    | ret v => exact .ret p
    | brk => exact .brk p
    | next => exact .next (fin p)
    | cont => exact .cont (fin p)
  · rintro h' tk m' news' F' N' _ ⟨c, rfl, hk', hr', hp'⟩
    exact done c m' h' tk hp' (ksw_fr hk' hr' F') N'

/-- over a tuple or a list of the ledger's -/
theorem g_seqL {σ : Type} {ax : Addr} {lo : Obj} {vs : List Value} {nn : Nat} {m₀ : Str → Option Value} (Led : σ → List (Addr × Obj)) (ps : σ → List (Str × Value)) (stored : List Str) (P : Nat → σ → Prop) (c₀ : σ)
    (hh : A.handled = none) (F : Fr h₀ env.locals s.heap m₀) (N : News h₀ env.locals s.heap (Led c₀)) (hm : ∀ c i, P i c → (ax, lo) ∈ Led c) (hc : lo.cls = .type "tuple" ∨ lo.cls = .type "list") (hd : lo.data = .seq vs.toArray nn) (hk : ∀ p ∈ ps c₀, m₀ p.1 = some p.2) (hp : P 0 c₀)
    (turn : ∀ (I : Addr), (∀ p ∈ Led c₀, p.1 < I) → ∀ (c : σ) i v (u : Str → Option Value) h tk it, vs[i]? = some v → P i c → (∀ p ∈ Led c, p.1 ≠ I) → Fr h₀ env.locals h (kstB (fun z => if stored.contains z then u z else m₀ z) (ps c)) → News h₀ env.locals h ((I, it) :: Led c) →
      wpAny (model prog w) A (assign target env v) (fun _ s₃ => wpAny (model prog w) A (execs body env) (GPost h₀ env.locals I it Led ps stored m₀ (P (i + 1)) { s with heap := h, toks := tk } Q) E s₃) E { s with heap := h, toks := tk })
    (done : ∀ (c : σ) (u : Str → Option Value) h tk, P vs.length c → Fr h₀ env.locals h (kstB (fun z => if stored.contains z then u z else m₀ z) (ps c)) → News h₀ env.locals h (Led c) → Q .next { s with heap := h, toks := tk }) :
    wpAny (model prog w) A (pyIter (.ref ax)) (fun it s₂ => TurnsAt prog w A h₀ env target body Q E it s₂) E s := by
  have hax := N _ (hm c₀ 0 hp)
  have hlt : ax < s.heap.objs.size := Heap.lt_size hax.1
  have hne : ax ≠ s.heap.objs.size := Nat.ne_of_lt hlt
  have hold : ∀ p ∈ Led c₀, p.1 < s.heap.objs.size := fun p hp => Heap.lt_size (N p hp).1
  have hLf : env.locals ∉ [s.heap.objs.size, ax] := fun hb => by
    rcases List.mem_cons.mp hb with e | hb
    · exact absurd F.ns.lt (e ▸ Nat.lt_irrefl _)
    · exact hax.2.1 (List.mem_singleton.mp hb).symm
  have hfp : ∀ b ∈ [s.heap.objs.size, ax], b = s.heap.objs.size ∨ (∃ o, h₀.get? b = some o) ∨ b ∈ [(ax, lo)].map (·.1) := fun b hb => by
    rcases List.mem_cons.mp hb with e | hb
    · exact .inl e
    · exact .inr (.inr (by simpa using hb))
  have hsz : vs.toArray.size = vs.length := by simp
  rcases hc with hc | hc
  · have hl : s.heap.IsTuple ax vs.toArray := ⟨lo, hax.1, hc, nn, hd⟩
    refine wpAny_pyIter_tuple hl ?_
    refine g_core (s := { s with heap := _, toks := s.toks }) Led ps stored P c₀ [(ax, lo)] (hsz ▸ KTurns.ofWalks (Walks.tuple hh s.heap.objs.size ax hne vs.toArray) fun i v s Q E st q => letGo_tupleiter st.1 q) hLf (next_is_new F) hfp (fun c i hp' p hp => by rw [List.mem_singleton.mp hp]; exact hm c i hp')
      (fun i h st => by obtain ⟨it, a, _⟩ := st.1; exact ⟨it, a⟩) (fun p hp => Nat.ne_of_lt (hold p hp)) ⟨⟨_, Heap.get?_push_size _ rfl, rfl, rfl⟩, hl.at fun o e => Heap.get?_push_of_some _ e⟩ (F.push _) (fun p hp => ⟨Heap.get?_push_of_some _ (N p hp).1, (N p hp).2⟩) hk hp ?_ ?_
    · intro c i v u h tk it hi hP hp' off F' N'
      exact turn _ hold c i v u h tk it (by simpa using hP) hp' off F' N'
    · intro c u h tk hp' F' N'
      exact done c u h tk hp' F' N'
  · have hl : s.heap.IsList ax vs.toArray := ⟨lo, hax.1, hc, nn, hd⟩
    refine wpAny_pyIter_list hl ?_
    refine g_core (s := { s with heap := _, toks := s.toks }) Led ps stored P c₀ [(ax, lo)] (hsz ▸ KTurns.ofWalks (Walks.list hh s.heap.objs.size ax hne vs.toArray) fun i v s Q E st q => letGo_listiter st.1 q) hLf (next_is_new F) hfp (fun c i hp' p hp => by rw [List.mem_singleton.mp hp]; exact hm c i hp')
      (fun i h st => by obtain ⟨it, a, _⟩ := st.1; exact ⟨it, a⟩) (fun p hp => Nat.ne_of_lt (hold p hp)) ⟨⟨_, Heap.get?_push_size _ rfl, rfl, rfl⟩, hl.at fun o e => Heap.get?_push_of_some _ e⟩ (F.push _) (fun p hp => ⟨Heap.get?_push_of_some _ (N p hp).1, (N p hp).2⟩) hk hp ?_ ?_
    · intro c i v u h tk it hi hP hp' off F' N'
      exact turn _ hold c i v u h tk it (by simpa using hP) hp' off F' N'
    · intro c u h tk hp' F' N'
      exact done c u h tk hp' F' N'
/-- over a list that stood before (the script) -/
theorem g_listB {σ : Type} {ax : Addr} {vs : List Value} {m₀ : Str → Option Value} (Led : σ → List (Addr × Obj)) (ps : σ → List (Str × Value)) (stored : List Str) (P : Nat → σ → Prop) (c₀ : σ)
    (hh : A.handled = none) (hl : h₀.IsList ax vs.toArray) (F : Fr h₀ env.locals s.heap m₀) (N : News h₀ env.locals s.heap (Led c₀)) (hk : ∀ p ∈ ps c₀, m₀ p.1 = some p.2) (hp : P 0 c₀)
    (turn : ∀ (I : Addr), (∀ p ∈ Led c₀, p.1 < I) → ∀ (c : σ) i v (u : Str → Option Value) h tk it, vs[i]? = some v → P i c → (∀ p ∈ Led c, p.1 ≠ I) → Fr h₀ env.locals h (kstB (fun z => if stored.contains z then u z else m₀ z) (ps c)) → News h₀ env.locals h ((I, it) :: Led c) →
      wpAny (model prog w) A (assign target env v) (fun _ s₃ => wpAny (model prog w) A (execs body env) (GPost h₀ env.locals I it Led ps stored m₀ (P (i + 1)) { s with heap := h, toks := tk } Q) E s₃) E { s with heap := h, toks := tk })
    (done : ∀ (c : σ) (u : Str → Option Value) h tk, P vs.length c → Fr h₀ env.locals h (kstB (fun z => if stored.contains z then u z else m₀ z) (ps c)) → News h₀ env.locals h (Led c) → Q .next { s with heap := h, toks := tk }) :
    wpAny (model prog w) A (pyIter (.ref ax)) (fun it s₂ => TurnsAt prog w A h₀ env target body Q E it s₂) E s := by
  obtain ⟨lo, hlo, _⟩ := id hl
  have hls : s.heap.IsList ax vs.toArray := hl.at fun o e => F.keep ax o e
  have hlt : ax < h₀.objs.size := Heap.lt_size hlo
  have hne : ax ≠ s.heap.objs.size := Nat.ne_of_lt (Nat.lt_trans (Nat.lt_of_lt_of_le hlt F.above) F.ns.lt)
  have hold : ∀ p ∈ Led c₀, p.1 < s.heap.objs.size := fun p hp => Heap.lt_size (N p hp).1
  have hLf : env.locals ∉ [s.heap.objs.size, ax] := fun hb => by
    rcases List.mem_cons.mp hb with e | hb
    · exact absurd F.ns.lt (e ▸ Nat.lt_irrefl _)
    · exact absurd (Nat.lt_of_lt_of_le hlt F.above) ((List.mem_singleton.mp hb) ▸ Nat.lt_irrefl _)
  have hfp : ∀ b ∈ [s.heap.objs.size, ax], b = s.heap.objs.size ∨ (∃ o, h₀.get? b = some o) ∨ b ∈ ([] : List (Addr × Obj)).map (·.1) := fun b hb => by
    rcases List.mem_cons.mp hb with e | hb
    · exact .inl e
    · exact .inr (.inl ⟨lo, by rw [List.mem_singleton.mp hb]; exact hlo⟩)
  have hsz : vs.toArray.size = vs.length := by simp
  refine wpAny_pyIter_list hls ?_
  refine g_core (s := { s with heap := _, toks := s.toks }) Led ps stored P c₀ [] (hsz ▸ KTurns.ofWalks (Walks.list hh s.heap.objs.size ax hne vs.toArray) fun i v s Q E st q => letGo_listiter st.1 q) hLf (next_is_new F) hfp (fun c i hp' p hp => nomatch hp)
    (fun i h st => by obtain ⟨it, a, _⟩ := st.1; exact ⟨it, a⟩) (fun p hp => Nat.ne_of_lt (hold p hp)) ⟨⟨_, Heap.get?_push_size _ rfl, rfl, rfl⟩, hls.at fun o e => Heap.get?_push_of_some _ e⟩ (F.push _) (fun p hp => ⟨Heap.get?_push_of_some _ (N p hp).1, (N p hp).2⟩) hk hp ?_ ?_
  · intro c i v u h tk it hi hP hp' off F' N'
    exact turn _ hold c i v u h tk it (by simpa using hP) hp' off F' N'
  · intro c u h tk hp' F' N'
    exact done c u h tk hp' F' N'
/-- over a range, any step -/
theorem g_range {σ : Type} {x : Str} {px : Pos} {r : Addr} {a₀ b₀ c : Int} {t₀ u₀ v₀ : Tok} {n : Nat} {m₀ : Str → Option Value} (Led : σ → List (Addr × Obj)) (ps : σ → List (Str × Value)) (stored : List Str) (P : Nat → σ → Prop) (c₀ : σ)
    (hh : A.handled = none) (hr : IsRange s.heap r a₀ b₀ c t₀ u₀ v₀) (hsmall : Builtin.Range.small a₀ b₀ c = true) (hn : Builtin.Range.rangeSize a₀ b₀ c = (n : Int)) (F : Fr h₀ env.locals s.heap m₀) (N : News h₀ env.locals s.heap (Led c₀)) (hk : ∀ p ∈ ps c₀, m₀ p.1 = some p.2) (hp : P 0 c₀)
    (turn : ∀ (I : Addr), (∀ p ∈ Led c₀, p.1 < I) → ∀ (st : σ) i t (u : Str → Option Value) h tk it, i < n → P i st → (∀ p ∈ Led st, p.1 ≠ I) → Fr h₀ env.locals h (kstB (fun z => if stored.contains z then u z else m₀ z) (ps st)) → News h₀ env.locals h ((I, it) :: Led st) →
      wpAny (model prog w) A (assign (.Name x px) env (.int (a₀ + (i : Int) * c) t)) (fun _ s₃ => wpAny (model prog w) A (execs body env) (GPost h₀ env.locals I it Led ps stored m₀ (P (i + 1)) { s with heap := h, toks := tk } Q) E s₃) E { s with heap := h, toks := tk })
    (done : ∀ (st : σ) (u : Str → Option Value) h tk, P n st → Fr h₀ env.locals h (kstB (fun z => if stored.contains z then u z else m₀ z) (ps st)) → News h₀ env.locals h (Led st) → Q .next { s with heap := h, toks := tk }) :
    wpAny (model prog w) A (pyIter (.ref r)) (fun it s₂ => TurnsAt prog w A h₀ env (.Name x px) body Q E it s₂) E s := by
  have hold : ∀ p ∈ Led c₀, p.1 < s.heap.objs.size := fun p hp => Heap.lt_size (N p hp).1
  have hLf : env.locals ∉ [s.heap.objs.size] := fun hb => absurd F.ns.lt ((List.mem_singleton.mp hb) ▸ Nat.lt_irrefl _)
  refine wpAny_pyIter_range hr hsmall ?_
  refine g_core (s := { s with heap := _, toks := s.toks }) Led ps stored P c₀ [] (KTurns.ofWalks (Walks.range hh s.heap.objs.size a₀ c n) fun i v s Q E st q => wpAny_pure q) hLf (next_is_new F) (fun b hb => .inl (List.mem_singleton.mp hb)) (fun c i hp' p hp => nomatch hp)
    (fun i h st => ⟨_, st⟩) (fun p hp => Nat.ne_of_lt (hold p hp)) (by show IsRangeIter _ _ _ _ _; rw [hn]; simpa using Heap.get?_push_size _ rfl) (F.push _) (fun p hp => ⟨Heap.get?_push_of_some _ (N p hp).1, (N p hp).2⟩) hk hp ?_ ?_
  · rintro st i v u h tk it hi ⟨t, rfl⟩ hp' off F' N'
    exact turn _ hold st i t u h tk it hi hp' off F' N'
  · intro st u h tk hp' F' N'
    exact done st u h tk hp' F' N'
end
end Mine
namespace Mine
section
variable {prog : Program} {w : World} {A : Around} {E : Value → Shared → Prop} {s : Shared} {env : Env} {h₀ : Heap} {target : Expr} {body : List Stmt} {Q : Flow → Shared → Prop}
/-- over a sequence of ints of the ledger's, the turns leave everything but the stored names -/
theorem g_still {ax : Addr} {lo : Obj} {vs : List Value} {ns : List Int} {nn : Nat} {m₀ : Str → Option Value} {news : List (Addr × Obj)} (stored : List Str)
    (hh : A.handled = none) (F : Fr h₀ env.locals s.heap m₀) (N : News h₀ env.locals s.heap news) (hm : (ax, lo) ∈ news) (hc : lo.cls = .type "tuple" ∨ lo.cls = .type "list") (hd : lo.data = .seq vs.toArray nn) (hi : IntsAre vs ns)
    (turn : ∀ (I : Addr), (∀ p ∈ news, p.1 < I) → ∀ (i : Nat) (x : Int) (t : Tok) (u : Str → Option Value) h tk it, ns[i]? = some x → (∀ p ∈ news, p.1 ≠ I) → Fr h₀ env.locals h (fun z => if stored.contains z then u z else m₀ z) → News h₀ env.locals h ((I, it) :: news) →
      wpAny (model prog w) A (assign target env (.int x t)) (fun _ s₃ => wpAny (model prog w) A (execs body env) (GPost h₀ env.locals I it (fun _ : Unit => news) (fun _ => []) stored m₀ (fun _ => True) { s with heap := h, toks := tk } Q) E s₃) E { s with heap := h, toks := tk })
    (done : ∀ (u : Str → Option Value) h tk, Fr h₀ env.locals h (fun z => if stored.contains z then u z else m₀ z) → News h₀ env.locals h news → Q .next { s with heap := h, toks := tk }) :
    wpAny (model prog w) A (pyIter (.ref ax)) (fun it s₂ => TurnsAt prog w A h₀ env target body Q E it s₂) E s := by
  refine g_seqL (fun _ : Unit => news) (fun _ => []) stored (fun _ _ => True) () hh F N (fun _ _ _ => hm) hc hd (fun _ h => nomatch h) trivial ?_ ?_
  · intro I hI c i v u h tk it hv _ off F' N'
    have hlt : i < vs.length := (List.getElem?_eq_some_iff.mp hv).1
    obtain ⟨t, ht⟩ := hi.get i (ns[i]'(by rw [← hi.length]; exact hlt)) (by simp)
    have : v = .int (ns[i]'(by rw [← hi.length]; exact hlt)) t := by rw [hv] at ht; exact Option.some.inj ht
    subst this
    exact turn I hI i _ t u h tk it (by simp) off F' N'
  · intro c u h tk _ F' N'
    exact done u h tk F' N'
end
end Mine
namespace Mine
section
variable {prog : Program} {w : World} {A : Around} {E : Value → Shared → Prop} {s : Shared} {env : Env} {h₀ : Heap} {target : Expr} {body : List Stmt} {Q : Flow → Shared → Prop}
/-- a turn's end where the ledger's addresses stay -/
def FEnd {σ : Type} (h₀ : Heap) (L : Addr) (I : Addr) (it : Obj) (Led : σ → List (Addr × Obj)) (ps : σ → List (Str × Value)) (Facts : σ → Prop) (stored : List Str) (m₀ : Str → Option Value) (P : σ → Prop) (s₁ s₂ : Shared) : Prop :=
  ∃ (c' : σ) (h' : Heap) (tk : Nat) (m' : Str → Option Value) (news' : List (Addr × Obj)), s₂ = { s₁ with heap := h', toks := tk } ∧ Fr h₀ L h' m' ∧ News h₀ L h' news' ∧ (I, it) ∈ news' ∧ (∀ p ∈ Led c', p ∈ news') ∧ Facts c' ∧
    (∀ p ∈ ps c', m' p.1 = some p.2) ∧ (∀ z, (∀ p ∈ ps c', z ≠ p.1) → stored.contains z = false → m' z = m₀ z) ∧ P c'
def FPost {σ : Type} (h₀ : Heap) (L : Addr) (I : Addr) (it : Obj) (Led : σ → List (Addr × Obj)) (ps : σ → List (Str × Value)) (Facts : σ → Prop) (stored : List Str) (m₀ : Str → Option Value) (P : σ → Prop) (s₁ : Shared) (Q : Flow → Shared → Prop) (f : Flow) (s₂ : Shared) : Prop :=
  match f with
  | .ret v => Q (.ret v) s₂
  | .brk => Q .next s₂
  | _ => FEnd h₀ L I it Led ps Facts stored m₀ P s₁ s₂
theorem f_end {σ : Type} {L I : Addr} {it : Obj} {Led : σ → List (Addr × Obj)} {ps : σ → List (Str × Value)} {Facts : σ → Prop} {stored : List Str} {m₀ m' : Str → Option Value} {P : σ → Prop} {s₁ : Shared} {h' : Heap} {tk : Nat} {news' : List (Addr × Obj)} (c' : σ)
    (F : Fr h₀ L h' m') (N : News h₀ L h' news') (hI : (I, it) ∈ news') (hn : ∀ p ∈ Led c', p ∈ news') (hf : Facts c') (hk : ∀ p ∈ ps c', m' p.1 = some p.2) (hr : ∀ z, (∀ p ∈ ps c', z ≠ p.1) → stored.contains z = false → m' z = m₀ z) (hp : P c') :
    FEnd h₀ L I it Led ps Facts stored m₀ P s₁ { s₁ with heap := h', toks := tk } := ⟨c', h', tk, m', news', rfl, F, N, hI, hn, hf, hk, hr, hp⟩
theorem f_post {σ : Type} {L I : Addr} {it : Obj} {Led : σ → List (Addr × Obj)} {ps : σ → List (Str × Value)} {Facts : σ → Prop} {stored : List Str} {m₀ : Str → Option Value} {P : σ → Prop} {s₁ : Shared} {c : σ} (hadr : ∀ c c' : σ, (Led c).map (·.1) = (Led c').map (·.1)) (off : ∀ p ∈ Led c, p.1 ≠ I) :
    ∀ f s₂, FPost h₀ L I it Led ps Facts stored m₀ P s₁ Q f s₂ → GPost h₀ L I it Led ps stored m₀ (fun c => Facts c ∧ P c) s₁ Q f s₂ := by
  intro f s₂ p
  have fin : FEnd h₀ L I it Led ps Facts stored m₀ P s₁ s₂ → GEnd h₀ L I it Led ps stored m₀ (fun c => Facts c ∧ P c) s₁ s₂ := by
    rintro ⟨c', h', tk, m', news', e, F, N, hI, hn, hf, hk, hr, hp⟩
    refine ⟨c', h', tk, m', news', e, F, N, hI, hn, fun q hq => ?_, hk, hr, hf, hp⟩
    have h1 : q.1 ∈ (Led c').map (·.1) := List.mem_map.mpr ⟨q, hq, rfl⟩
    rw [hadr c' c] at h1
    obtain ⟨r, hr1, hr2⟩ := List.mem_map.mp h1
    rw [← hr2]; exact off r hr1
  cases f with
  | ret v => exact p
  | brk => exact p
  | next => exact fin p
  | cont => exact fin p

theorem g_fixL {σ : Type} {ax : Addr} {lo : Obj} {vs : List Value} {nn : Nat} {m₀ : Str → Option Value} (Led : σ → List (Addr × Obj)) (ps : σ → List (Str × Value)) (Facts : σ → Prop) (stored : List Str) (P : Nat → σ → Prop) (c₀ : σ) (hadr : ∀ c c' : σ, (Led c).map (·.1) = (Led c').map (·.1))
    (hh : A.handled = none) (F : Fr h₀ env.locals s.heap m₀) (N : News h₀ env.locals s.heap (Led c₀)) (hm : ∀ c, (ax, lo) ∈ Led c) (hc : lo.cls = .type "tuple" ∨ lo.cls = .type "list") (hd : lo.data = .seq vs.toArray nn) (hf : Facts c₀) (hk : ∀ p ∈ ps c₀, m₀ p.1 = some p.2) (hp : P 0 c₀)
    (turn : ∀ (I : Addr), (∀ p ∈ Led c₀, p.1 < I) → ∀ (c : σ) (i : Nat) (v : Value) (u : Str → Option Value) h tk it, vs[i]? = some v → Facts c → P i c → (∀ p ∈ Led c, p.1 ≠ I) → Fr h₀ env.locals h (kstB (fun z => if stored.contains z then u z else m₀ z) (ps c)) → News h₀ env.locals h ((I, it) :: Led c) →
      wpAny (model prog w) A (assign target env v) (fun _ s₃ => wpAny (model prog w) A (execs body env) (FPost h₀ env.locals I it Led ps Facts stored m₀ (P (i + 1)) { s with heap := h, toks := tk } Q) E s₃) E { s with heap := h, toks := tk })
    (done : ∀ (c : σ) (u : Str → Option Value) h tk, Facts c → P vs.length c → Fr h₀ env.locals h (kstB (fun z => if stored.contains z then u z else m₀ z) (ps c)) → News h₀ env.locals h (Led c) → Q .next { s with heap := h, toks := tk }) :
    wpAny (model prog w) A (pyIter (.ref ax)) (fun it s₂ => TurnsAt prog w A h₀ env target body Q E it s₂) E s := by
  refine g_seqL Led ps stored (fun i c => Facts c ∧ P i c) c₀ hh F N (fun c _ _ => hm c) hc hd hk ⟨hf, hp⟩ ?_ ?_
  · intro I hI c i v u h tk it hv hp' off F' N'
    exact wpAny_mono (turn I hI c i v u h tk it hv hp'.1 hp'.2 off F' N') (fun _ s₃ h₃ => wpAny_mono h₃ (f_post hadr off) fun _ _ e => e) fun _ _ e => e
  · intro c u h tk hp' F' N'
    exact done c u h tk hp'.1 hp'.2 F' N'
theorem g_fixB {σ : Type} {ax : Addr} {vs : List Value} {m₀ : Str → Option Value} (Led : σ → List (Addr × Obj)) (ps : σ → List (Str × Value)) (Facts : σ → Prop) (stored : List Str) (P : Nat → σ → Prop) (c₀ : σ) (hadr : ∀ c c' : σ, (Led c).map (·.1) = (Led c').map (·.1))
    (hh : A.handled = none) (hl : h₀.IsList ax vs.toArray) (F : Fr h₀ env.locals s.heap m₀) (N : News h₀ env.locals s.heap (Led c₀)) (hf : Facts c₀) (hk : ∀ p ∈ ps c₀, m₀ p.1 = some p.2) (hp : P 0 c₀)
    (turn : ∀ (I : Addr), (∀ p ∈ Led c₀, p.1 < I) → ∀ (c : σ) (i : Nat) (v : Value) (u : Str → Option Value) h tk it, vs[i]? = some v → Facts c → P i c → (∀ p ∈ Led c, p.1 ≠ I) → Fr h₀ env.locals h (kstB (fun z => if stored.contains z then u z else m₀ z) (ps c)) → News h₀ env.locals h ((I, it) :: Led c) →
      wpAny (model prog w) A (assign target env v) (fun _ s₃ => wpAny (model prog w) A (execs body env) (FPost h₀ env.locals I it Led ps Facts stored m₀ (P (i + 1)) { s with heap := h, toks := tk } Q) E s₃) E { s with heap := h, toks := tk })
    (done : ∀ (c : σ) (u : Str → Option Value) h tk, Facts c → P vs.length c → Fr h₀ env.locals h (kstB (fun z => if stored.contains z then u z else m₀ z) (ps c)) → News h₀ env.locals h (Led c) → Q .next { s with heap := h, toks := tk }) :
    wpAny (model prog w) A (pyIter (.ref ax)) (fun it s₂ => TurnsAt prog w A h₀ env target body Q E it s₂) E s := by
  refine g_listB Led ps stored (fun i c => Facts c ∧ P i c) c₀ hh hl F N hk ⟨hf, hp⟩ ?_ ?_
  · intro I hI c i v u h tk it hv hp' off F' N'
    exact wpAny_mono (turn I hI c i v u h tk it hv hp'.1 hp'.2 off F' N') (fun _ s₃ h₃ => wpAny_mono h₃ (f_post hadr off) fun _ _ e => e) fun _ _ e => e
  · intro c u h tk hp' F' N'
    exact done c u h tk hp'.1 hp'.2 F' N'
theorem g_fixR {σ : Type} {x : Str} {px : Pos} {r : Addr} {a₀ b₀ c : Int} {t₀ u₀ v₀ : Tok} {n : Nat} {m₀ : Str → Option Value} (Led : σ → List (Addr × Obj)) (ps : σ → List (Str × Value)) (Facts : σ → Prop) (stored : List Str) (P : Nat → σ → Prop) (c₀ : σ) (hadr : ∀ c c' : σ, (Led c).map (·.1) = (Led c').map (·.1))
    (hh : A.handled = none) (hr : IsRange s.heap r a₀ b₀ c t₀ u₀ v₀) (hsmall : Builtin.Range.small a₀ b₀ c = true) (hn : Builtin.Range.rangeSize a₀ b₀ c = (n : Int)) (F : Fr h₀ env.locals s.heap m₀) (N : News h₀ env.locals s.heap (Led c₀)) (hf : Facts c₀) (hk : ∀ p ∈ ps c₀, m₀ p.1 = some p.2) (hp : P 0 c₀)
    (turn : ∀ (I : Addr), (∀ p ∈ Led c₀, p.1 < I) → ∀ (st : σ) (i : Nat) (t : Tok) (u : Str → Option Value) h tk it, i < n → Facts st → P i st → (∀ p ∈ Led st, p.1 ≠ I) → Fr h₀ env.locals h (kstB (fun z => if stored.contains z then u z else m₀ z) (ps st)) → News h₀ env.locals h ((I, it) :: Led st) →
      wpAny (model prog w) A (assign (.Name x px) env (.int (a₀ + (i : Int) * c) t)) (fun _ s₃ => wpAny (model prog w) A (execs body env) (FPost h₀ env.locals I it Led ps Facts stored m₀ (P (i + 1)) { s with heap := h, toks := tk } Q) E s₃) E { s with heap := h, toks := tk })
    (done : ∀ (st : σ) (u : Str → Option Value) h tk, Facts st → P n st → Fr h₀ env.locals h (kstB (fun z => if stored.contains z then u z else m₀ z) (ps st)) → News h₀ env.locals h (Led st) → Q .next { s with heap := h, toks := tk }) :
    wpAny (model prog w) A (pyIter (.ref r)) (fun it s₂ => TurnsAt prog w A h₀ env (.Name x px) body Q E it s₂) E s := by
  refine g_range Led ps stored (fun i c => Facts c ∧ P i c) c₀ hh hr hsmall hn F N hk ⟨hf, hp⟩ ?_ ?_
  · intro I hI st i t u h tk it hi hp' off F' N'
    exact wpAny_mono (turn I hI st i t u h tk it hi hp'.1 hp'.2 off F' N') (fun _ s₃ h₃ => wpAny_mono h₃ (f_post hadr off) fun _ _ e => e) fun _ _ e => e
  · intro st u h tk hp' F' N'
    exact done st u h tk hp'.1 hp'.2 F' N'
theorem ints_at {vs : List Value} {ns : List Int} {i : Nat} {v : Value} (h : IntsAre vs ns) (hv : vs[i]? = some v) : ∃ k t, v = .int k t ∧ ns[i]? = some k := by
  obtain ⟨k, t, e, hk⟩ := IntsAre.at h i v hv
  exact ⟨k, t, e, hk⟩
end
theorem perm_drop_le {a w : List Int} {k : Nat} (h : a.Perm (w.drop k)) : a.length ≤ w.length := by
  rw [h.length_eq, List.length_drop]; omega
theorem ints_len_le {vs : List Value} {ns : List Int} {z : Nat} (h : IntsAre vs ns) (hz : z ≤ vs.length) : z ≤ ns.length := by rw [← h.length]; exact hz
theorem pos_of_ne {zs : List Int} (h : decide (zs = []) = false) : 0 < zs.length := by
  rcases Nat.eq_zero_or_pos zs.length with e | e
  · simp [List.eq_nil_of_length_eq_zero e] at h
  · exact e
theorem zero_of_eq {zs : List Int} (h : decide (zs = []) = true) : zs.length = 0 := by
  have := of_decide_eq_true h
  simp [this]
section
variable {prog : Program} {w : World} {A : Around} {E : Value → Shared → Prop} {s : Shared} {h₀ : Heap} {L : Addr} {news : List (Addr × Obj)}
/-- the last item of a list of ints of the ledger's -/
theorem item_last {l : Addr} {us : List Value} {zs : List Int} {nn : Nat} {tk : Tok} {value slice : Expr} {Q : Value → Shared → Prop} (N : News h₀ L s.heap news) (hm : (l, listOf us.toArray nn) ∈ news) (hi : IntsAre us zs) (hpos : 0 < zs.length) (hfit : zs.length < 2 ^ 62)
    (h : ∀ t, Q (.int (zs.getD (zs.length - 1) 0) t) s)
    (hs : subscripted slice false (.ref l) (.int (-1) tk) = operate [.ref l, .int (-1) tk] (getItem (.ref l) (.int (-1) tk)) := by with_unfolding_all rfl) :
    wpAny (model prog w) A (subscriptTail value slice (.ref l) (.int (-1) tk)) Q E s := by
  have hl : s.heap.IsList l us.toArray := ⟨_, (N _ hm).1, rfl, nn, rfl⟩
  have e : zs[zs.length - 1]? = some (zs.getD (zs.length - 1) 0) := by
    rw [List.getD_eq_getElem?_getD, List.getElem?_eq_getElem (by omega)]; rfl
  obtain ⟨t, ht⟩ := hi.get _ _ e
  refine tail_any hl.typeIs slot_list_getitem.lookup ?_ hs
  refine wpAny_getItem_list_neg hl (by omega) (by rw [List.size_toArray, hi.length]; omega) (by decide) ?_ (h t)
  rw [List.size_toArray, hi.length, show ((-1 : Int) + (zs.length : Int)).toNat = zs.length - 1 by omega]
  simpa using ht
end
end Mine
namespace Mine
section
variable {prog : Program} {w : World} {A : Around} {E : Value → Shared → Prop} {s : Shared} {h₀ : Heap} {L : Addr} {news : List (Addr × Obj)}
/-- an item of a list of ints of the ledger's -/
theorem item_led {l : Addr} {us : List Value} {zs : List Int} {nn : Nat} {k : Int} {tk : Tok} {value slice : Expr} {Q : Value → Shared → Prop} (N : News h₀ L s.heap news) (hm : (l, listOf us.toArray nn) ∈ news) (hi : IntsAre us zs) (h0 : 0 ≤ k) (h1 : k < zs.length) (hfit : zs.length < 2 ^ 62)
    (h : ∀ t, Q (.int (zs.getD k.toNat 0) t) s)
    (hs : subscripted slice false (.ref l) (.int k tk) = operate [.ref l, .int k tk] (getItem (.ref l) (.int k tk)) := by with_unfolding_all rfl) :
    wpAny (model prog w) A (subscriptTail value slice (.ref l) (.int k tk)) Q E s := by
  have hl : s.heap.IsList l us.toArray := ⟨_, (N _ hm).1, rfl, nn, rfl⟩
  have e : zs[k.toNat]? = some (zs.getD k.toNat 0) := by
    rw [List.getD_eq_getElem?_getD, List.getElem?_eq_getElem (by omega)]; rfl
  obtain ⟨t, ht⟩ := hi.get _ _ e
  exact tail_any hl.typeIs slot_list_getitem.lookup (wpAny_getItem_list hl h0 (by omega) (by simpa using ht) (h t)) hs
end
end Mine
namespace Mine
def g1 (ns : List Int) (i : Int) : Int := ns.getD i.toNat 0 - ns.getD (Int.toNat 0) 0 - i
def p1 (ks : List Int) (H d : Int) : Bool := decide (ks.getD (Int.toNat 0) 0 < d) && decide (d ≤ H)
theorem p1_t {ks : List Int} {H d : Int} (a : ks.getD (Int.toNat 0) 0 < d) (b : d ≤ H) : p1 ks H d = true := by unfold p1; rw [decide_eq_true a, decide_eq_true b]; rfl
theorem p1_f1 {ks : List Int} {H d : Int} (a : ¬ ks.getD (Int.toNat 0) 0 < d) : p1 ks H d = false := by unfold p1; rw [decide_eq_false a]; rfl
theorem p1_f2 {ks : List Int} {H d : Int} (b : ¬ d ≤ H) : p1 ks H d = false := by unfold p1; rw [decide_eq_false b, Bool.and_false]
section
variable {prog : Program} {w : World} {A : Around} {h₀ : Heap} {L : Addr} {m : Str → Option Value} {env : Env} {ct elt : Expr} {x : Str} {scope : Scope} {cl : List (Str × Addr)} {s : Shared} {Fin : Shared → List Value → List (Addr × Obj) → Prop} {news : List (Addr × Obj)}
theorem ct_01 {ax c : Addr} {o : Obj} {H : Int} {tH : Tok} {vs : List Value} {ks : List Int} {k : Nat} (_hc : (c, o) ∈ news) (_ho : o.data = .cell (some (.int H tH))) (hh : A.handled = none) (F : Fr h₀ L s.heap m) (N : News h₀ L s.heap news) (hm : (ax, listOf vs.toArray k) ∈ news) (hi : IntsAre vs ks) (hsz : ks.length ≤ sizeLine)
    (turn : ∀ d t I oI C oC D m₂ ys hp h tk (E' : Value → Shared → Prop), d ∈ ks → LCg.NsObj oC m₂ → m₂ x = some (.int d t) → Fr h₀ L h m → News h₀ L h ((I, oI) :: (C, oC) :: (D, LCg.lst ys) :: news) → LCg.Off3 I C D news → ((@Ne Nat I C) ∧ (@Ne Nat I D) ∧ (@Ne Nat C D)) →
      wpAny (model prog w) A (isTrue ct (compEnvC scope cl C env) (eval ct (compEnvC scope cl C env))) (fun ok s' => if ok = true then
        wpAny (model prog w) A (eval elt (compEnvC scope cl C env)) (fun y s'' => CtEnd h₀ L m { s with heap := h, toks := tk } ((I, oI) :: (C, oC) :: (D, LCg.lst ys) :: news) (p1 ks H d = true ∧ ∃ t', y = .int d t') s'') E' s'
        else CtEnd h₀ L m { s with heap := h, toks := tk } ((I, oI) :: (C, oC) :: (D, LCg.lst ys) :: news) (p1 ks H d = false) s') E' { { s with heap := hp } with heap := h, toks := tk })
    (fin : ∀ h ys, IntsAre ys (ks.filter (p1 ks H)) → Fin { s with heap := h } ys news) : LCt.CompSrcT prog w A h₀ L m env ct elt x scope cl Fin (.ref ax) s :=
  ct_filtL (p1 ks H) hh F N hm hi hsz turn fin
end
/-- the loop's word: the row rises strictly -/
def P01 (_ : Nat) (c : List Value × List Int × Nat) : Prop := SrtS c.2.1
theorem p01_start : (([] : List Value), ([] : List Int), 0).snd.fst.length ≤ 0 ∧ P01 0 ([], [], 0) := ⟨Nat.le_refl _, fun _ _ _ h => absurd h (Nat.not_lt_zero _)⟩
theorem srtS_app {zs : List Int} {k : Int} (h : SrtS zs) (hk : zs = [] ∨ zs.getD (zs.length - 1) 0 < k) : SrtS (zs ++ [k]) := by
  intro i j hij hj
  rw [List.length_append, List.length_singleton] at hj
  simp only [List.getD_eq_getElem?_getD]
  by_cases e : j < zs.length
  · rw [List.getElem?_append_left e, List.getElem?_append_left (show i < zs.length by omega)]
    have := h i j hij e
    simpa only [List.getD_eq_getElem?_getD] using this
  · have ej : j = zs.length := by omega
    subst ej
    rw [List.getElem?_append_left (show i < zs.length by omega)]
    simp only [List.getElem?_concat_length, Option.getD_some]
    rcases hk with rfl | hk
    · exact absurd hij (Nat.not_lt_zero _)
    · have := h.srt i (zs.length - 1) (by omega) (by omega)
      rw [List.getD_eq_getElem?_getD, List.getD_eq_getElem?_getD] at this
      rw [List.getD_eq_getElem?_getD] at hk
      exact Int.lt_of_le_of_lt this hk
theorem p01_app1 {us us' : List Value} {zs : List Int} {nn n2 i : Nat} {k : Int} (hl : zs.length ≤ i) (hp : P01 i (us, zs, nn)) (h : decide (zs = []) = true) : (zs ++ [k]).length ≤ i + 1 ∧ P01 (i + 1) (us', zs ++ [k], n2) :=
  ⟨by rw [List.length_append, List.length_singleton]; omega, srtS_app hp (.inl (of_decide_eq_true h))⟩
theorem p01_app2 {us us' : List Value} {zs : List Int} {nn n2 i : Nat} {k : Int} (hl : zs.length ≤ i) (hp : P01 i (us, zs, nn)) (h : zs.getD (zs.length - 1) 0 < k) : (zs ++ [k]).length ≤ i + 1 ∧ P01 (i + 1) (us', zs ++ [k], n2) :=
  ⟨by rw [List.length_append, List.length_singleton]; omega, srtS_app hp (.inr h)⟩
theorem p01_same {us : List Value} {zs : List Int} {nn i : Nat} (hl : zs.length ≤ i) (hp : P01 i (us, zs, nn)) : zs.length ≤ i + 1 ∧ P01 (i + 1) (us, zs, nn) := ⟨by omega, hp⟩
theorem k_pos (x : Int) : 1 ≤ 1 + if x < 0 then -x else x := by split <;> omega
theorem getD_zero (zs : List Int) : zs.getD (Int.toNat 0) 0 = zs.getD 0 0 := rfl
theorem g1_mono {zs : List Int} (h : SrtS zs) (i j : Int) (h0 : 0 ≤ i) (hij : i ≤ j) (hj : j < zs.length) : g1 zs i ≤ g1 zs j := by
  have key : ∀ d : Nat, ∀ a : Nat, a + d < zs.length → zs.getD a 0 + (d : Int) ≤ zs.getD (a + d) 0 := by
    intro d
    induction d with
    | zero => intro a _; simp
    | succ d ih =>
      intro a ha
      have h1 := ih a (by omega)
      have h2 := h (a + d) (a + (d + 1)) (by omega) ha
      omega
  have := key (j.toNat - i.toNat) i.toNat (by omega)
  rw [show i.toNat + (j.toNat - i.toNat) = j.toNat by omega] at this
  unfold g1
  omega
theorem one_split {zs : List Int} {K lo hi : Int} (hs : SrtS zs) (hpos : 0 < zs.length) (h0 : 0 ≤ lo) (h1 : lo ≤ hi) (h2 : hi ≤ zs.length) (w : WK (g1 zs) zs.length K lo hi) (h : ¬ lo < hi) (hK : 1 ≤ K) :
    1 ≤ lo ∧ (∀ i : Nat, (i : Int) < lo → zs.getD i 0 < zs.getD 0 0 + K + lo - 1) ∧ ∀ i : Nat, lo ≤ (i : Int) → i < zs.length → zs.getD 0 0 + K + lo - 1 < zs.getD i 0 := by
  have b := bk_end h0 h1 h2 w h
  have hlo : 1 ≤ lo := by
    rcases Int.lt_or_le lo 1 with e | e
    · exfalso
      have := b.hi (g1_mono hs) (i := 0) (by omega) (by omega)
      unfold g1 at this
      simp only [Int.toNat_zero] at this
      omega
    · exact e
  refine ⟨hlo, fun i hi' => ?_, fun i hi' hl => ?_⟩
  · have := b.lo (g1_mono hs) (i := (i : Int)) (by omega) hi'
    unfold g1 at this
    simp only [Int.toNat_zero, Int.toNat_natCast] at this
    omega
  · have := b.hi (g1_mono hs) (i := (i : Int)) hi' (by omega)
    unfold g1 at this
    simp only [Int.toNat_zero, Int.toNat_natCast] at this
    omega
theorem one_a {us : List Value} {nn k : Nat} {zs : List Int} {K lo hi : Int} (hs : P01 k (us, zs, nn)) (hpos : decide (zs = []) = false) (h0 : 0 ≤ lo) (h1 : lo ≤ hi) (h2 : hi ≤ zs.length) (w : WK (g1 zs) zs.length K lo hi) (h : ¬ lo < hi) (hK : 1 ≤ K) :
    ((!zs.any fun x => x == zs.getD (Int.toNat 0) 0 + K + lo - 1) == true) = true := by
  have hz : 0 < zs.length := by
    rcases Nat.eq_zero_or_pos zs.length with e | e
    · simp [List.eq_nil_of_length_eq_zero e] at hpos
    · exact e
  have hs' : SrtS zs := hs
  obtain ⟨_, a, b⟩ := one_split hs' hz h0 h1 h2 w h hK
  have : (zs.any fun x => x == zs.getD (Int.toNat 0) 0 + K + lo - 1) = false := by
    rw [List.any_eq_false]
    intro x hx e
    obtain ⟨i, hi', rfl⟩ := List.getElem_of_mem hx
    have e' : zs[i] = zs.getD 0 0 + K + lo - 1 := by simpa using e
    have ei : zs.getD i 0 = zs[i] := by rw [List.getD_eq_getElem?_getD, List.getElem?_eq_getElem hi']; rfl
    rcases Int.lt_or_le (i : Int) lo with q | q
    · have := a i q; omega
    · have := b i q hi'; omega
  rw [this]; rfl
theorem one_b {us : List Value} {nn k : Nat} {zs : List Int} {K lo hi : Int} (hs : P01 k (us, zs, nn)) (hpos : decide (zs = []) = false) (h0 : 0 ≤ lo) (h1 : lo ≤ hi) (h2 : hi ≤ zs.length) (w : WK (g1 zs) zs.length K lo hi) (h : ¬ lo < hi) (hK : 1 ≤ K) :
    ((zs.getD (Int.toNat 0) 0 + K + lo - 1 - zs.getD (Int.toNat 0) 0 - ((zs.filter (p1 zs (zs.getD (Int.toNat 0) 0 + K + lo - 1))).length : Int) == K) == true) = true := by
  have hz : 0 < zs.length := by
    rcases Nat.eq_zero_or_pos zs.length with e | e
    · simp [List.eq_nil_of_length_eq_zero e] at hpos
    · exact e
  have hs' : SrtS zs := hs
  obtain ⟨hlo, a, b⟩ := one_split hs' hz h0 h1 h2 w h hK
  have hcount : ((zs.filter (p1 zs (zs.getD (Int.toNat 0) 0 + K + lo - 1))).length : Int) = lo - 1 := by
    have e1 : zs = zs.take 1 ++ ((zs.take lo.toNat).drop 1 ++ zs.drop lo.toNat) := by
      rw [← List.append_assoc]
      have : zs.take 1 ++ (zs.take lo.toNat).drop 1 = zs.take lo.toNat := by
        have q := List.take_append_drop 1 (zs.take lo.toNat)
        rw [List.take_take, show min 1 lo.toNat = 1 by omega] at q
        exact q
      rw [this, List.take_append_drop]
    have f1 : ((zs.take 1).filter (p1 zs (zs.getD (Int.toNat 0) 0 + K + lo - 1))).length = 0 := by
      rw [List.filter_eq_nil_iff.mpr fun x hx => ?_]; rfl
      obtain ⟨i, hi', rfl⟩ := List.getElem_of_mem hx
      rw [List.length_take] at hi'
      have : i = 0 := by omega
      subst this
      have : (zs.take 1)[0] = zs.getD (Int.toNat 0) 0 := by
        rw [List.getElem_take, getD_zero, List.getD_eq_getElem?_getD, List.getElem?_eq_getElem hz]; rfl
      rw [p1_f1 (by rw [this]; omega)]
      simp
    have f2 : ((zs.drop lo.toNat).filter (p1 zs (zs.getD (Int.toNat 0) 0 + K + lo - 1))).length = 0 := by
      rw [List.filter_eq_nil_iff.mpr fun x hx => ?_]; rfl
      obtain ⟨i, hi', rfl⟩ := List.getElem_of_mem hx
      rw [List.length_drop] at hi'
      have e : (zs.drop lo.toNat)[i] = zs.getD (lo.toNat + i) 0 := by
        rw [List.getElem_drop, List.getD_eq_getElem?_getD, List.getElem?_eq_getElem (by omega)]; rfl
      have := b (lo.toNat + i) (by omega) (by omega)
      rw [p1_f2 (by rw [e, getD_zero]; omega)]
      simp
    have f3 : (((zs.take lo.toNat).drop 1).filter (p1 zs (zs.getD (Int.toNat 0) 0 + K + lo - 1))).length = lo.toNat - 1 := by
      rw [List.filter_eq_self.mpr fun x hx => ?_]
      · rw [List.length_drop, List.length_take]; omega
      · obtain ⟨i, hi', rfl⟩ := List.getElem_of_mem hx
        rw [List.length_drop, List.length_take] at hi'
        have e : ((zs.take lo.toNat).drop 1)[i] = zs.getD (1 + i) 0 := by
          rw [List.getElem_drop, List.getElem_take, List.getD_eq_getElem?_getD, List.getElem?_eq_getElem (by omega)]; rfl
        have q1 := a (1 + i) (by omega)
        have q3 := hs' 0 (1 + i) (by omega) (by omega)
        exact p1_t (by rw [e, getD_zero]; exact q3) (by rw [e, getD_zero]; omega)
    generalize p1 zs (zs.getD (Int.toNat 0) 0 + K + lo - 1) = p at f1 f2 f3 ⊢
    rw [e1, List.filter_append, List.filter_append, List.length_append, List.length_append, f1, f2, f3]
    omega
  rw [hcount, getD_zero]
  have : (zs.getD 0 0 + K + lo - 1 - zs.getD 0 0 - (lo - 1) == K) = true := by rw [beq_iff_eq]; omega
  rw [this]; rfl
theorem one_c {zs : List Int} {lo hi : Int} (hz : decide (zs = []) = true) (h0 : 0 ≤ lo) (h1 : lo ≤ hi) (h2 : hi ≤ zs.length) : ((lo == 0) == true) = true := by
  have : zs.length = 0 := by rw [of_decide_eq_true hz]; rfl
  have : lo = 0 := by omega
  subst this; rfl
end Mine
namespace Mine
/-- every second item -/
def evs (ns : List Int) : List Int := (List.range ((ns.length + 1) / 2)).map fun k => ns.getD (2 * k) 0
theorem evs_length (ns : List Int) : (evs ns).length = (ns.length + 1) / 2 := by simp [evs]
theorem evs_getD {ns : List Int} {k : Nat} (h : k < (ns.length + 1) / 2) : (evs ns).getD k 0 = ns.getD (2 * k) 0 := by
  unfold evs
  rw [List.getD_eq_getElem?_getD, List.getElem?_map, List.getElem?_range h]
  rfl
theorem pick_ints {vs : List Value} {ns : List Int} (hi : IntsAre vs ns) : ∀ ks : List Nat, (∀ k ∈ ks, k < ns.length) → IntsAre (ks.filterMap (vs.toArray[·]?)) (ks.map fun k => ns.getD k 0)
  | [], _ => .nil
  | k :: r, h => by
    have hk := h k (.head _)
    have e : ns[k]? = some (ns.getD k 0) := by rw [List.getD_eq_getElem?_getD, List.getElem?_eq_getElem hk]; rfl
    obtain ⟨t, ht⟩ := hi.get k _ e
    have ht' : vs.toArray[k]? = some (.int (ns.getD k 0) t) := by simpa using ht
    rw [List.filterMap_cons, ht', List.map_cons]
    exact .cons _ t (pick_ints hi r fun q hq => h q (.tail _ hq))
theorem evs_pick {vs : List Value} {ns : List Int} (hi : IntsAre vs ns) : ∃ ws, slicePick vs.toArray none none (some 2) = List.toArray ws ∧ IntsAre ws (evs ns) := by
  refine ⟨_, rfl, ?_⟩
  have hb : sliceBounds none none (some 2) vs.toArray.size = (0, (ns.length : Int), 2) := by
    rw [show vs.toArray.size = ns.length by rw [List.size_toArray, hi.length]]
    simp [sliceBounds]
  rw [hb]
  have hr : sliceRange 0 (ns.length : Int) 2 = (List.range ((ns.length + 1) / 2)).map fun k => 2 * k := by
    unfold sliceRange
    simp only [show ((2 : Int) > 0) from by decide, if_true]
    by_cases h : (0 : Int) < (ns.length : Int)
    · simp only [h, if_true]
      have e : (((ns.length : Int) - 0 + 2 - 1) / 2).toNat = (ns.length + 1) / 2 := by omega
      rw [e]
      apply List.map_congr_left
      intro k _
      omega
    · have e : ns.length = 0 := by omega
      rw [e]
      simp
  show IntsAre ((sliceRange 0 (ns.length : Int) 2).filterMap (vs.toArray[·]?)) (evs ns)
  rw [hr]
  have := pick_ints hi ((List.range ((ns.length + 1) / 2)).map fun k => 2 * k) (fun k hk => by
    obtain ⟨j, hj, rfl⟩ := List.mem_map.mp hk
    have := List.mem_range.mp hj
    omega)
  rw [List.map_map] at this
  exact this
section
variable {prog : Program} {w : World} {A : Around} {E : Value → Shared → Prop} {s : Shared} {h₀ : Heap} {L l : Addr} {m : Str → Option Value} {news : List (Addr × Obj)} {value slice : PySem.Expr} {vs : List Value} {ns : List Int} {vk : Value} {ops : List Value} {Q : Value → Shared → Prop}
theorem evs_ints {nn : Nat} (F : Fr h₀ L s.heap m) (N : News h₀ L s.heap news) (hm : (l, listOf vs.toArray nn) ∈ news) (pk : IsPart vk (some 2)) (hi : IntsAre vs ns) (hz : ns.length ≤ sizeLine)
    (h : ∀ D ws h', Fr h₀ L h' m → News h₀ L h' ((D, listOf (List.toArray ws) 0) :: news) → (∀ p ∈ news, p.1 < D) → IntsAre ws (evs ns) → (evs ns).length = (ns.length + 1) / 2 → Q (.ref D) { s with heap := h' })
    (hs : subscripted slice false (.ref l) (.ref s.heap.objs.size) = operate ops (getItem (.ref l) (.ref s.heap.objs.size))) (ht : ∀ r, letTemporaryGo value (.ref l) r = pure ()) :
    wpAny (model prog w) A (subscriptTail value slice (.ref l) (.ref s.heap.objs.size)) Q E { s with heap := s.heap.push { cls := .type "slice", data := .fields #[.none, .none, vk] } } := by
  obtain ⟨ws, he, hw⟩ := evs_pick hi
  have hl : s.heap.IsList l vs.toArray := ⟨_, (N _ hm).1, rfl, nn, rfl⟩
  refine slice_list3 F N hl .none .none pk (by decide) (fun h' F' N' => h _ ws h' F' ?_ (fun p hp => Nat.lt_succ_of_lt (Heap.lt_size (N p hp).1)) hw (evs_length ns)) hs ht (by rw [List.size_toArray, hi.length]; exact hz)
  rw [he] at N'
  exact N'
end
end Mine
namespace Mine
def p6 (ms : List Int) (H d : Int) : Bool := decide (ms.getD (2 * d).toNat 0 ≤ H) && decide (H < ms.getD (2 * d + 1).toNat 0)
theorem p6_t {ms : List Int} {H d : Int} (a : ms.getD (2 * d).toNat 0 ≤ H) (b : H < ms.getD (2 * d + 1).toNat 0) : p6 ms H d = true := by unfold p6; rw [decide_eq_true a, decide_eq_true b]; rfl
theorem p6_f1 {ms : List Int} {H d : Int} (a : ¬ ms.getD (2 * d).toNat 0 ≤ H) : p6 ms H d = false := by unfold p6; rw [decide_eq_false a]; rfl
theorem p6_f2 {ms : List Int} {H d : Int} (b : ¬ H < ms.getD (2 * d + 1).toNat 0) : p6 ms H d = false := by unfold p6; rw [decide_eq_false b, Bool.and_false]
theorem cut_even (zs : List Int) : (List.take (((zs.length : Int).fdiv 2) * 2).toNat zs).length % 2 = 0 := by
  rw [List.length_take, Int.fdiv_eq_ediv_of_nonneg _ (by decide)]
  omega
section
variable {prog : Program} {w : World} {A : Around} {h₀ : Heap} {L : Addr} {m : Str → Option Value} {env : Env} {ct elt : Expr} {x : Str} {scope : Scope} {cl : List (Str × Addr)} {s : Shared} {Fin : Shared → List Value → List (Addr × Obj) → Prop} {news : List (Addr × Obj)}
theorem ct_06 {r l : Addr} {o o₂ : Obj} {H : Int} {tH t₀ u₀ v₀ : Tok} {vs : List Value} {ms : List Int} {k : Nat} (hh : A.handled = none) (F : Fr h₀ L s.heap m) (N : News h₀ L s.heap news) (hr : IsRange s.heap r 0 ((evs ms).length : Int) 1 t₀ u₀ v₀)
    (_ho : o.data = .cell (some (.ref l))) (_hm : (l, listOf vs.toArray k) ∈ news) (_hi : IntsAre vs ms) (_ho₂ : o₂.data = .cell (some (.int H tH))) (hev : ms.length % 2 = 0) (hsz : ms.length ≤ 2 ^ 20)
    (turn : ∀ d t I oI C oC D m₂ ys hp h tk (E' : Value → Shared → Prop), 0 ≤ d → 2 * d + 1 < (ms.length : Int) → LCg.NsObj oC m₂ → m₂ x = some (.int d t) → Fr h₀ L h m → News h₀ L h ((I, oI) :: (C, oC) :: (D, LCg.lst ys) :: news) → LCg.Off3 I C D news → ((@Ne Nat I C) ∧ (@Ne Nat I D) ∧ (@Ne Nat C D)) →
      wpAny (model prog w) A (isTrue ct (compEnvC scope cl C env) (eval ct (compEnvC scope cl C env))) (fun ok s' => if ok = true then
        wpAny (model prog w) A (eval elt (compEnvC scope cl C env)) (fun y s'' => CtEnd h₀ L m { s with heap := h, toks := tk } ((I, oI) :: (C, oC) :: (D, LCg.lst ys) :: news) (p6 ms H d = true ∧ ∃ t', y = .int d t') s'') E' s'
        else CtEnd h₀ L m { s with heap := h, toks := tk } ((I, oI) :: (C, oC) :: (D, LCg.lst ys) :: news) (p6 ms H d = false) s') E' { { s with heap := hp } with heap := h, toks := tk })
    (fin : ∀ h ys, IntsAre ys ((upTo (evs ms).length).filter (p6 ms H)) → ms.length = 2 * (evs ms).length → ((upTo (evs ms).length).filter (p6 ms H)).length ≤ (evs ms).length → Fin { s with heap := h } ys news) : LCt.CompSrcT prog w A h₀ L m env ct elt x scope cl Fin (.ref r) s := by
  have hl : ms.length = 2 * (evs ms).length := by rw [evs_length]; omega
  refine ct_filtR (p6 ms H) hh F N hr (by omega) (fun d t I oI C oC D m₂ ys hp h tk E' h0 h1 => turn d t I oI C oC D m₂ ys hp h tk E' h0 (by omega)) fun h ys hy => fin h ys hy hl ?_
  have := List.length_filter_le (p6 ms H) (upTo (evs ms).length)
  rw [upTo_length] at this
  exact this
end
abbrev cutE (zs : List Int) : List Int := List.take (((zs.length : Int).fdiv 2) * 2).toNat zs
theorem srtS_take {zs : List Int} (h : SrtS zs) (k : Nat) : SrtS (zs.take k) := by
  intro i j hij hj
  rw [List.length_take] at hj
  have e : ∀ a, a < k → (zs.take k).getD a 0 = zs.getD a 0 := fun a ha => by
    rw [List.getD_eq_getElem?_getD, List.getD_eq_getElem?_getD, List.getElem?_take, if_pos ha]
  rw [e i (by omega), e j (by omega)]
  exact h i j hij (by omega)
theorem upTo_succ (n : Nat) : upTo (n + 1) = upTo n ++ [(n : Int)] := by
  simp only [upTo, List.range_succ, List.map_append, List.map_cons, List.map_nil]; rfl
theorem filter_none {n : Nat} {p : Int → Bool} (h : ∀ k, 0 ≤ k → k < (n : Int) → p k = false) : (upTo n).filter p = [] := by
  rw [List.filter_eq_nil_iff]
  intro x hx
  obtain ⟨a, b⟩ := mem_upTo hx
  simp [h x a b]
theorem filter_one : ∀ {n : Nat} {p : Int → Bool} {j : Int}, 0 ≤ j → j < (n : Int) → (∀ k, 0 ≤ k → k < (n : Int) → (p k = true ↔ k = j)) → (upTo n).filter p = [j]
  | 0, _, _, h0, h1, _ => by omega
  | n + 1, p, j, h0, h1, h => by
    rw [upTo_succ, List.filter_append]
    by_cases e : j = n
    · rw [filter_none (fun k a b => ?_)]
      · have : p (n : Int) = true := (h n (by omega) (by omega)).mpr e.symm
        simp [this, e]
      · cases hp : p k with
        | false => rfl
        | true => have := (h k a (by omega)).mp hp; omega
    · rw [filter_one (j := j) h0 (by omega) fun k a b => h k a (by omega)]
      have : p (n : Int) = false := by
        cases hp : p (n : Int) with
        | false => rfl
        | true => have := (h n (by omega) (by omega)).mp hp; omega
      simp [this]
theorem evs_srt {ms : List Int} (hs : SrtS ms) (hl : ms.length = 2 * (evs ms).length) : Srt (evs ms) := by
  have hn := evs_length ms
  intro i j hij hj
  rw [evs_getD (by omega), evs_getD (by omega)]
  exact hs.srt (2 * i) (2 * j) (by omega) (by omega)
theorem six_iff {ms : List Int} {H r : Int} (hs : SrtS ms) (hl : ms.length = 2 * (evs ms).length) (hb : BR (evs ms) H r) (k : Int) (h0 : 0 ≤ k) (h1 : k < (evs ms).length) :
    p6 ms H k = true ↔ k = r - 1 ∧ H < ms.getD (2 * (r - 1) + 1).toNat 0 := by
  have he := evs_srt hs hl
  have hn := evs_length ms
  have hr0 := hb.1
  have hr1 := hb.2.1
  constructor
  · intro hp
    unfold p6 at hp
    obtain ⟨a, b⟩ := Bool.and_eq_true_iff.mp hp
    have a := of_decide_eq_true a
    have b := of_decide_eq_true b
    have q1 : k < r := by
      rcases Int.lt_or_le k r with e | e
      · exact e
      · have := hb.hi he (i := k.toNat) (by omega) (by omega)
        rw [evs_getD (by omega), show 2 * k.toNat = (2 * k).toNat by omega] at this
        omega
    have q2 : k = r - 1 := by
      rcases Int.lt_or_le k (r - 1) with e | e
      · have := hb.lo he (i := k.toNat + 1) (by omega)
        rw [evs_getD (by omega)] at this
        have q3 := hs (2 * k + 1).toNat (2 * (k.toNat + 1)) (by omega) (by omega)
        omega
      · omega
    subst q2
    exact ⟨rfl, b⟩
  · rintro ⟨rfl, b⟩
    have := hb.lo he (i := (r - 1).toNat) (by omega)
    rw [evs_getD (by omega), show 2 * (r - 1).toNat = (2 * (r - 1)).toNat by omega] at this
    exact p6_t this b
theorem cut_len (zs : List Int) : (cutE zs).length = 2 * (evs (cutE zs)).length := by
  have := cut_even zs
  rw [evs_length]
  have : (cutE zs).length % 2 = 0 := this
  omega
theorem six_one {ms : List Int} {H r : Int} (hs : SrtS ms) (hl : ms.length = 2 * (evs ms).length) (hb : BR (evs ms) H r) (h1 : r - 1 ≥ 0) (h2 : H < ms.getD (2 * (r - 1) + 1).toNat 0) : (upTo (evs ms).length).filter (p6 ms H) = [r - 1] := by
  have hr1 := hb.2.1
  refine filter_one h1 (by omega) fun k a b => ?_
  rw [six_iff hs hl hb k a b]
  exact ⟨fun x => x.1, fun x => ⟨x, h2⟩⟩
theorem six_none {ms : List Int} {H r : Int} (hs : SrtS ms) (hl : ms.length = 2 * (evs ms).length) (hb : BR (evs ms) H r) (h : ¬ r - 1 ≥ 0 ∨ ¬ H < ms.getD (2 * (r - 1) + 1).toNat 0) : (upTo (evs ms).length).filter (p6 ms H) = [] := by
  refine filter_none fun k a b => ?_
  cases hp : p6 ms H k with
  | false => rfl
  | true =>
    obtain ⟨q1, q2⟩ := (six_iff hs hl hb k a b).mp hp
    rcases h with h | h
    · omega
    · exact absurd q2 h
theorem six_dm {ms : List Int} {H r q : Int} (hm : SrtS ms) (hl : ms.length = 2 * (evs ms).length) (hb : BR (evs ms) H r) (hq : BR ms H q) :
    (((q.fmod 2 == 1) == !decide ((upTo (evs ms).length).filter (p6 ms H) = [])) == true) = true := by
  have he := evs_srt hm hl
  have hn := evs_length ms
  have hr0 := hb.1
  have hr1 := hb.2.1
  have hq0 := hq.1
  have hq1 := hq.2.1
  rw [Int.fmod_eq_emod_of_nonneg _ (by decide)]
  by_cases h1 : r - 1 ≥ 0
  · have l1 := hb.lo he (i := (r - 1).toNat) (by omega)
    rw [evs_getD (by omega)] at l1
    have g1 : 2 * r - 1 ≤ q := by
      rcases Int.lt_or_le q (2 * r - 1) with e | e
      · have := hq.hi hm.srt (i := 2 * (r - 1).toNat) (by omega) (by omega)
        omega
      · exact e
    have g2 : q ≤ 2 * r := by
      rcases Int.lt_or_le (2 * r) q with e | e
      · have a1 := hq.lo hm.srt (i := 2 * r.toNat) (by omega)
        have a2 := hb.hi he (i := r.toNat) (by omega) (by omega)
        rw [evs_getD (by omega)] at a2
        omega
      · exact e
    by_cases h2 : H < ms.getD (2 * (r - 1) + 1).toNat 0
    · have : q = 2 * r - 1 := by
        rcases Int.lt_or_le (2 * r - 1) q with e | e
        · have := hq.lo hm.srt (i := (2 * (r - 1) + 1).toNat) (by omega)
          omega
        · omega
      rw [six_one hm hl hb h1 h2]
      have e2 : (q % 2 == 1) = true := by rw [beq_iff_eq]; omega
      rw [e2]; rfl
    · have : q = 2 * r := by
        rcases Int.lt_or_le q (2 * r) with e | e
        · have := hq.hi hm.srt (i := (2 * (r - 1) + 1).toNat) (by omega) (by omega)
          omega
        · omega
      rw [six_none hm hl hb (.inr h2)]
      have e2 : (q % 2 == 1) = false := by rw [beq_eq_false_iff_ne]; omega
      rw [e2]; rfl
  · have : q = 0 := by
      rcases Int.lt_or_le 0 q with e | e
      · have a1 := hq.lo hm.srt (i := 0) (by omega)
        have a2 := hb.hi he (i := 0) (by omega) (by omega)
        rw [evs_getD (by omega), Nat.mul_zero] at a2
        omega
      · omega
    rw [six_none hm hl hb (.inl h1)]
    subst this
    rfl
theorem six_a {us : List Value} {nn k : Nat} {zs : List Int} {H r : Int} (hs : P01 k (us, zs, nn)) (hb : BR (evs (cutE zs)) H r) (h1 : r - 1 ≥ 0) (h2 : H < (cutE zs).getD (2 * (r - 1) + 1).toNat 0) :
    (decide ([r - 1] = (upTo (evs (cutE zs)).length).filter (p6 (cutE zs) H)) == true) = true := bool_end (six_one (srtS_take hs _) (cut_len zs) hb h1 h2).symm
theorem six_b {us : List Value} {nn k : Nat} {zs : List Int} {H r : Int} (hs : P01 k (us, zs, nn)) (hb : BR (evs (cutE zs)) H r) (h : ¬ r - 1 ≥ 0) :
    (decide ([] = (upTo (evs (cutE zs)).length).filter (p6 (cutE zs) H)) == true) = true := bool_end (six_none (srtS_take hs _) (cut_len zs) hb (.inl h)).symm
theorem six_c {us : List Value} {nn k : Nat} {zs : List Int} {H r : Int} (hs : P01 k (us, zs, nn)) (hb : BR (evs (cutE zs)) H r) (h : ¬ H < (cutE zs).getD (2 * (r - 1) + 1).toNat 0) :
    (decide ([] = (upTo (evs (cutE zs)).length).filter (p6 (cutE zs) H)) == true) = true := bool_end (six_none (srtS_take hs _) (cut_len zs) hb (.inr h)).symm
theorem six_d {us : List Value} {nn k : Nat} {zs : List Int} {H r q : Int} (hs : P01 k (us, zs, nn)) (hb : BR (evs (cutE zs)) H r) (hq : BR (cutE zs) H q) :
    (((q.fmod 2 == 1) == !decide ((upTo (evs (cutE zs)).length).filter (p6 (cutE zs) H) = [])) == true) = true := six_dm (srtS_take hs _) (cut_len zs) hb hq
end Mine
namespace Mine
open_top hd for PySem.Challenge.rw_cy0002_06
end Mine
namespace Mine
theorem bisR : ClaimOf hd (fun prog w K p loose mean mg mb => BisTells BR prog w K p loose mean mg mb 23) := by
  unfold ClaimOf
  k_fill
  intro w mean mg mb
  unfold BisTells
  intro dp un gd cn cs a ccd cl outer A₀ base h₀ L m news s l vs ns nn x tk Q E B F X N T hk hl hi hfit hd hu hret
  replace N := news_dup N hl
  clear hl
  refine wpAny_call ?_
  k_with_none
  k_with "exec While Compare cons nil" => k_while_given ["a", "x"] (fun a x _ lo hi => (0 ≤ lo ∧ lo ≤ hi ∧ hi ≤ (a.length : Int)) ∧ WR a x lo hi) (fun _ _ _ lo hi => (hi - lo).toNat) "lo" "hi"
  k_with "state" => first | exact wr_start _ _ | exact wr_hi (by assumption) (by assumption) (by assumption) (by assumption) (by assumption) | exact wr_lo (by assumption) (by assumption) (by assumption) (by assumption) (by assumption)
  k_with "measure" => first | exact mid_lo (by assumption) | exact mid_hi (by assumption)
  k_dflt (refine' code_def ?k1 ?k2 ?k3 ?k4 ?k5 ?kA ?kF ?kK ?k6 ?k7 ?k8 ?k9 ?kB ?_ ?c2 ?c3 ?c4 ?c5; (case kA => exact rfl); (case kF => exact rfl); (case kK => assumption); (case k1 => k_asm); (case k2 => k_asm); (case k3 => k_asm); (case k4 => k_asm); (case k5 => k_asm); (case k6 => k_is); (case k7 => k_is); (case k8 => ktr_room); (case k9 => (refine' kp_binds ?kx ?ke; (case kx => k_in); (case ke => exact fun _ => rfl))); (case c5 => decide); (case kB => exact locs rfl); (case c2 => exact rfl); (case c3 => exact rfl); (case c4 => exact rfl); k_whole; intro g' L' h' FG' F' N' B' X' T'; (try dsimp only); (try k_lift B'); (try k_fold))
  k_steps
  all_goals exact bis_ret (Q := Q) (s := s) (rel := BR) hret (br_end (by assumption) (by assumption) (by assumption) (by assumption) (by assumption)) (by assumption) (by assumption)
end Mine
namespace Mine
abbrev Led01 (D : Addr) (oD : Obj) (D1 : Addr) (oD1 : Obj) (l : Addr) (rest : List (Addr × Obj)) (c : List Value × List Int × Nat) : List (Addr × Obj) := (D, oD) :: (D1, oD1) :: (l, listOf c.1.toArray c.2.2) :: rest
local macro_rules | `(tactic| walk_at "exec For Name Call cons nil") => `(tactic| (k_here; (rename Fr _ _ _ _ => lF'); (with_unfolding_all refine' For_turns lF' ?_; k_whole)))
local macro_rules | `(tactic| walk_at "FPost") => `(tactic| (dsimp only [FPost]))
local macro_rules | `(tactic| walk_at "pyIter ref") => `(tactic| (
  k_here
  (with_reducible show wpAny _ _ (pyIter (Value.ref _)) (fun it s₂ => TurnsAt _ _ _ _ _ _ _ _ _ it s₂) _ _)
  k_dflt (
    refine' g_fixL (Led01 _ _ _ _ _ _) (fun _ => []) (fun c => IntsAre c.1 c.2.1) [Str.ofString "x"] (fun i c => c.2.1.length ≤ i ∧ P01 i c) (_, _, _) ?hadr ?hh ?F ?N ?m ?c ?d ?f ?k ?p ?_ ?_
    (case hadr => exact fun _ _ => rfl)
    (case hh => exact rfl)
    (case F => k_asm)
    (case N => first | k_asm | (with_unfolding_all k_asm))
    (case m => intro c9; (try dsimp only); k_memK)
    (case c => first | exact .inl rfl | exact .inr rfl)
    (case d => exact rfl)
    (case f => first | exact IntsAre.nil | kst_facts)
    (case k => kst_all)
    (case p => k_extra "state")
    )
  all_goals first | (intro I9 hI9 c9 i9 v9 u9 h9 tk9 it9 hv9 hf9 hp9 off9 F9 N9; obtain ⟨us9, zs9, nn9⟩ := c9; dsimp only [Led01, kstB] at hf9 hp9 F9 N9 hI9; (try k_lt hI9); clear off9; obtain ⟨k9, t9, hk9, hks9⟩ := ints_at (by assumption) hv9; subst hk9; obtain ⟨hp9a, hp9b⟩ := hp9; have hl9 := hf9.length; have hi9 := (List.getElem?_eq_some_iff.mp hks9).1; have hq9 := perm_drop_le (by assumption); try k_fold) | (intro c9 u9 h9 tk9 hf9 hp9 F9 N9; obtain ⟨us9, zs9, nn9⟩ := c9; dsimp only [Led01, kstB] at hf9 hp9 F9 N9; obtain ⟨hp9a, hp9b⟩ := hp9; have hl9 := hf9.length; have hl8 := ints_len_le (by assumption) hp9a; have hq9 := perm_drop_le (by assumption); try k_fold)
  ))
local macro_rules | `(tactic| walk_at "FEnd") => `(tactic| (
  k_here
  (rename News _ _ _ _ => nE9)
  (try simp only [List.push_toArray] at nE9)
  refine' f_end (_, _, _) ?F ?N ?hI ?hn ?hf ?hk ?hr ?hp
  (case F => assumption)
  (case N => exact nE9)
  (case hI => k_mem)
  (case hn => kst_in)
  (case hf => kst_facts)
  (case hk => kst_all)
  (case hr => ksw_same)
  (case hp => ((try dsimp only); k_extra "state"))))
local macro_rules | `(tactic| walk_at "subscriptTail Name Slice ref ref") => `(tactic| (k_here; (with_reducible show wpAny _ _ (subscriptTail _ (PySem.Expr.Slice none none (some _) _) (Value.ref _) (Value.ref _)) _ _ _); k_dflt (refine' evs_ints ?F ?N ?l ?k ?i ?z ?_ ?s ?t; (case F => k_asm); (case N => k_asm); (case l => k_mem); (case k => exact IsPart.int _ _); (case i => l_ints); (case z => first | size_fits | l_fact); (case s => with_unfolding_all rfl); (case t => kmk_pure)); intro D' ws' h' F' N' l1 hI' hC'; (try k_lt l1); (try k_sweep)))
local macro_rules | `(tactic| walk_at "subscriptTail") => `(tactic| (k_here; (with_reducible show wpAny _ _ (subscriptTail _ _ (Value.ref _) (Value.int _ _)) _ _ _); (k_dflt (refine' item_led ?N ?m ?i ?a ?b ?c ?_ ?hs; (case N => k_asm); (case m => k_mem); (case i => l_ints); (case a => first | omega | (have hm9 := mid_facts (by assumption); omega)); (case b => first | omega | (have hm9 := mid_facts (by assumption); omega) | (have hm9 := pos_of_ne (by assumption); omega)); (case c => omega); (case hs => with_unfolding_all rfl); k_whole)); intro t9))
local macro_rules | `(tactic| walk_at "subscriptTail") => `(tactic| (k_here; (with_reducible show wpAny _ _ (subscriptTail _ _ (Value.ref _) (Value.int (-1) _)) _ _ _); (k_dflt (refine' item_last ?N ?m ?i ?a ?b ?_ ?hs; (case N => k_asm); (case m => k_mem); (case i => l_ints); (case a => first | omega | exact pos_of_ne (by assumption)); (case b => omega); (case hs => with_unfolding_all rfl); k_whole)); intro t9))
local macro_rules | `(tactic| walk_at "call ref") => `(tactic| (
  k_here
  k_dflt (
    (with_reducible show wpAny _ _ (call (Value.ref 23) _) _ _ _)
    refine' bis_use ?B ?F ?X ?N ?T ?hk ?hm ?hi ?hf (bisR.at _ _ _ _) ?hd ?hu ?_
    (case B => k_asm)
    (case F => k_asm)
    (case X => k_asm)
    (case N => k_asm)
    (case T => k_asm)
    (case hk => exact rfl)
    (case hm => k_mem)
    (case hi => l_ints)
    (case hf => l_fact)
    (case hd => ktr_room)
    (case hu => ktr_units)
    (intro r9 t9 h9 tk9 hB9 F9 N9)
    (have hB0 := hB9.1)
    (have hB1 := hB9.2.1)
    (try dsimp only)
    (try k_fold)
    )))
local macro_rules | `(tactic| walk_at "CompSrcT") => `(tactic| (
  k_here
  k_dflt (
    refine' ct_06 ?hh ?F ?N ?r ?o ?m ?i ?p ?e ?z ?_ ?_
    (case hh => exact rfl)
    (case F => k_asm)
    (case N => k_asm)
    (case r => assumption)
    (case o => assumption)
    (case m => k_mem)
    (case i => l_ints)
    (case p => assumption)
    (case e => exact cut_even _)
    (case z => omega)
    )
  all_goals first | (intro d9 t9 I9 oI9 C9 oC9 D9 m9 ys9 hp9 h9 tk9 E9 hd9 he9 hC9 hx9 F9 N9 off9 ne9) | (intro h9 ys9 hy9 hq9 hz9; have hr9 := hy9.length)
  ))
local macro_rules | `(tactic| walk_at "CtEnd") => `(tactic| (refine ct_end (by assumption) (by assumption) (by (intro p9 hp9; repeat (first | exact hp9 | refine List.Mem.tail _ ?_))) ?_; first | exact ⟨p6_t (by assumption) (by assumption), _, rfl⟩ | exact p6_f1 (by assumption) | exact p6_f2 (by assumption) | (exfalso; omega)))
theorem t : PySem.Challenge.rw_cy0002_06.Holds := hd (by
  k_with_none
  (k_with "state" => first | exact p01_start | exact p01_app1 (by assumption) (by assumption) (by assumption) | exact p01_app2 (by assumption) (by assumption) (by assumption) | exact p01_same (by assumption) (by assumption) | (exfalso; omega))
  (k_with "end" => first | exact six_d (by assumption) (by assumption) (by assumption) | exact six_a (by assumption) (by assumption) (by assumption) (by assumption) | exact six_b (by assumption) (by assumption) (by first | assumption | omega) | exact six_c (by assumption) (by assumption) (by assumption))
  k_go)
end Mine
theorem PySem.Challenge.cw_cy0002_06_holds : PySem.Challenge.rw_cy0002_06.Holds := by
  exact Mine.t

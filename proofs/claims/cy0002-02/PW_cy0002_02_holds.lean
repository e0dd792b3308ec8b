import PyProof.Rows.All
import Wide.All
import OpenK.AllK
import Wide.FinOn
import PySem.Challenge.RW_cy0002_02
open PySem PySem.W PyProof.Rows
set_option Elab.async false
set_option maxRecDepth 100000
set_option maxHeartbeats 8000000
set_option linter.unusedVariables false
namespace Mine

/-- what bisect_right hands back, told by the two neighbours alone -/
def WR (a : List Int) (x lo hi : Int) : Prop := (lo = 0 ∨ a.getD (lo - 1).toNat 0 ≤ x) ∧ (hi = a.length ∨ x < a.getD hi.toNat 0)
def WL (a : List Int) (x lo hi : Int) : Prop := (lo = 0 ∨ a.getD (lo - 1).toNat 0 < x) ∧ (hi = a.length ∨ x ≤ a.getD hi.toNat 0)
def BR (a : List Int) (x r : Int) : Prop := 0 ≤ r ∧ r ≤ a.length ∧ WR a x r r
def BL (a : List Int) (x r : Int) : Prop := 0 ≤ r ∧ r ≤ a.length ∧ WL a x r r

theorem mid_facts {lo hi : Int} (h : lo < hi) : lo ≤ (lo + hi).fdiv 2 ∧ (lo + hi).fdiv 2 < hi := by
  rw [Int.fdiv_eq_ediv_of_nonneg _ (by decide)]
  omega

theorem wr_start (a : List Int) (x : Int) : (0 ≤ (0 : Int) ∧ (0 : Int) ≤ (a.length : Int) ∧ (a.length : Int) ≤ (a.length : Int)) ∧ WR a x 0 a.length :=
  ⟨by omega, .inl rfl, .inl rfl⟩
theorem wl_start (a : List Int) (x : Int) : (0 ≤ (0 : Int) ∧ (0 : Int) ≤ (a.length : Int) ∧ (a.length : Int) ≤ (a.length : Int)) ∧ WL a x 0 a.length :=
  ⟨by omega, .inl rfl, .inl rfl⟩
theorem wr_hi {a : List Int} {x lo hi : Int} (h0 : 0 ≤ lo) (h1 : hi ≤ a.length) (w : WR a x lo hi) (h : lo < hi) (hx : x < a.getD ((lo + hi).fdiv 2).toNat 0) :
    (0 ≤ lo ∧ lo ≤ (lo + hi).fdiv 2 ∧ (lo + hi).fdiv 2 ≤ (a.length : Int)) ∧ WR a x lo ((lo + hi).fdiv 2) := by
  have := mid_facts h
  exact ⟨by omega, w.1, .inr hx⟩
theorem wr_lo {a : List Int} {x lo hi : Int} (h0 : 0 ≤ lo) (h1 : hi ≤ a.length) (w : WR a x lo hi) (h : lo < hi) (hx : ¬ x < a.getD ((lo + hi).fdiv 2).toNat 0) :
    (0 ≤ (lo + hi).fdiv 2 + 1 ∧ (lo + hi).fdiv 2 + 1 ≤ hi ∧ hi ≤ (a.length : Int)) ∧ WR a x ((lo + hi).fdiv 2 + 1) hi := by
  have := mid_facts h
  refine ⟨by omega, .inr ?_, w.2⟩
  rw [show (lo + hi).fdiv 2 + 1 - 1 = (lo + hi).fdiv 2 by omega]
  omega
theorem wl_lo {a : List Int} {x lo hi : Int} (h0 : 0 ≤ lo) (h1 : hi ≤ a.length) (w : WL a x lo hi) (h : lo < hi) (hx : a.getD ((lo + hi).fdiv 2).toNat 0 < x) :
    (0 ≤ (lo + hi).fdiv 2 + 1 ∧ (lo + hi).fdiv 2 + 1 ≤ hi ∧ hi ≤ (a.length : Int)) ∧ WL a x ((lo + hi).fdiv 2 + 1) hi := by
  have := mid_facts h
  refine ⟨by omega, .inr ?_, w.2⟩
  rw [show (lo + hi).fdiv 2 + 1 - 1 = (lo + hi).fdiv 2 by omega]
  omega
theorem wl_hi {a : List Int} {x lo hi : Int} (h0 : 0 ≤ lo) (h1 : hi ≤ a.length) (w : WL a x lo hi) (h : lo < hi) (hx : ¬ a.getD ((lo + hi).fdiv 2).toNat 0 < x) :
    (0 ≤ lo ∧ lo ≤ (lo + hi).fdiv 2 ∧ (lo + hi).fdiv 2 ≤ (a.length : Int)) ∧ WL a x lo ((lo + hi).fdiv 2) := by
  have := mid_facts h
  exact ⟨by omega, w.1, .inr (by omega)⟩
theorem mid_lo {lo hi : Int} (h : lo < hi) : (hi - ((lo + hi).fdiv 2 + 1)).toNat < (hi - lo).toNat := by
  have := mid_facts h
  omega
theorem mid_hi {lo hi : Int} (h : lo < hi) : ((lo + hi).fdiv 2 - lo).toNat < (hi - lo).toNat := by
  have := mid_facts h
  omega
theorem br_end {a : List Int} {x lo hi : Int} (h0 : 0 ≤ lo) (h1 : lo ≤ hi) (h2 : hi ≤ a.length) (w : WR a x lo hi) (h : ¬ lo < hi) : BR a x lo := by
  have : hi = lo := by omega
  subst this
  exact ⟨h0, h2, w⟩
theorem bl_end {a : List Int} {x lo hi : Int} (h0 : 0 ≤ lo) (h1 : lo ≤ hi) (h2 : hi ≤ a.length) (w : WL a x lo hi) (h : ¬ lo < hi) : BL a x lo := by
  have : hi = lo := by omega
  subst this
  exact ⟨h0, h2, w⟩

/-- a search function's contract upon a list of the ledger's -/
def BisTells (rel : List Int → Int → Int → Prop) (prog : Program) (w : World) (K : Frag) (p : Program) (loose : List Str) (mean : ExcName → Option Value) (mg mb : Str → Option Value) (f : Addr) : Prop :=
  ∀ (dp un : Nat) (gd : Option (List Code)) (cn : Str) (cs : Scope) (a : Addr) (ccd : Value) (cl : List (Str × Addr)) (outer : List Env) (A₀ : Around) (base h₀ : Heap) (L : Addr) (m : Str → Option Value) (news : List (Addr × Obj)) (s : Shared) (l : Addr) (vs : List Value) (ns : List Int) (nn : Nat) (x : Int) (tk : Tok)
    (Q E : Value → Shared → Prop),
    Below A₀ base outer h₀ → Fr h₀ L s.heap m → K.In h₀ → News h₀ L s.heap news → Top p loose mean mg mb h₀ → cs.kind = .function → (l, listOf vs.toArray nn) ∈ news → IntsAre vs ns → ns.length ≤ 2 ^ 20 → dp + 1 < recursionLimit → un + 8 < cLine →
    (∀ (r : Int) (t : Tok) (h' : Heap) (tk' : Nat), rel ns x r → Fr h₀ L h' m → News h₀ L h' news → Q (.int r t) { s with heap := h', toks := tk' }) →
    wpAny (model prog w) (ktrTop dp un gd cn cs L a ccd cl outer) (call (.ref f) [.ref l, .int x tk]) Q E s

theorem bis_ret {rel : List Int → Int → Int → Prop} {h₀ h' : Heap} {L : Addr} {m : Str → Option Value} {news : List (Addr × Obj)} {ns : List Int} {x : Int} {s : Shared} {Q : Value → Shared → Prop} {y : Int} {t : Tok} {tk' : Nat} {p : Addr × Obj}
    (hret : ∀ (r : Int) (t : Tok) (h' : Heap) (tk' : Nat), rel ns x r → Fr h₀ L h' m → News h₀ L h' news → Q (.int r t) { s with heap := h', toks := tk' }) (e : rel ns x y) (F : Fr h₀ L h' m) (N : News h₀ L h' (p :: news)) : Q (.int y t) { s with heap := h', toks := tk' } :=
  hret y t h' tk' e F (fun q hq => N q (.tail _ hq))
theorem news_dup {h₀ h : Heap} {L : Addr} {p : Addr × Obj} {news : List (Addr × Obj)} (N : News h₀ L h news) (hp : p ∈ news) : News h₀ L h (p :: news) := fun q hq => by
  rcases List.mem_cons.mp hq with rfl | hq
  · exact N _ hp
  · exact N q hq
/-- the claim for the program that a head is about -/
def ClaimOf {q : Program} {loose : List Str} {XP : (Str → Option Value) → Heap → Prop} {K : Params → Frag} {as : List Addr} {e : ∀ P, as = (K P).map (·.1)} {r : RowW} {d : DefRec} {kwd : List (Str × Expr)} {run : Value → List Value → Sem Value} {H : Prop}
    (_hd : WalkO q loose XP (kHook K as e).says r d kwd run → H) (C : Program → World → Frag → Program → List Str → (ExcName → Option Value) → (Str → Option Value) → (Str → Option Value) → Prop) : Prop :=
  ∀ (w : World) (mean : ExcName → Option Value) (mg mb : Str → Option Value), C r.prog w (K w.params) q (looseW q loose) mean mg mb
end Mine
namespace Mine
theorem ClaimOf.at {q : Program} {loose : List Str} {XP : (Str → Option Value) → Heap → Prop} {K : Params → Frag} {as : List Addr} {e : ∀ P, as = (K P).map (·.1)} {r : RowW} {d : DefRec} {kwd : List (Str × Expr)} {run : Value → List Value → Sem Value} {H : Prop}
    {hd : WalkO q loose XP (kHook K as e).says r d kwd run → H} {C : Program → World → Frag → Program → List Str → (ExcName → Option Value) → (Str → Option Value) → (Str → Option Value) → Prop} (h : ClaimOf hd C)
    (w : World) (mean : ExcName → Option Value) (mg mb : Str → Option Value) : C r.prog w (K w.params) q (looseW q loose) mean mg mb := h w mean mg mb
end Mine
namespace Mine
theorem bis_use {rel : List Int → Int → Int → Prop} {prog : Program} {w : World} {K : Frag} {p : Program} {loose : List Str} {mean : ExcName → Option Value} {mg mb : Str → Option Value} {f : Addr}
    {dp un : Nat} {gd : Option (List Code)} {cn : Str} {cs : Scope} {a : Addr} {ccd : Value} {cl : List (Str × Addr)} {outer : List Env} {A₀ : Around} {base h₀ : Heap} {L : Addr} {m : Str → Option Value} {news : List (Addr × Obj)} {s : Shared} {l : Addr} {vs : List Value} {ns : List Int} {nn : Nat} {x : Int} {tk : Tok}
    {Q E : Value → Shared → Prop} (B : Below A₀ base outer h₀) (F : Fr h₀ L s.heap m) (X : K.In h₀) (N : News h₀ L s.heap news) (T : Top p loose mean mg mb h₀) (hk : cs.kind = .function) (hm : (l, listOf vs.toArray nn) ∈ news) (hi : IntsAre vs ns) (hfit : ns.length ≤ 2 ^ 20)
    (C : BisTells rel prog w K p loose mean mg mb f) (hd : dp + 1 < recursionLimit) (hu : un + 8 < cLine)
    (ret : ∀ (r : Int) (t : Tok) (h' : Heap) (tk' : Nat), rel ns x r → Fr h₀ L h' m → News h₀ L h' news → Q (.int r t) { s with heap := h', toks := tk' }) :
    wpAny (model prog w) (ktrTop dp un gd cn cs L a ccd cl outer) (call (.ref f) [.ref l, .int x tk]) Q E s := C _ _ _ _ _ _ _ _ _ _ _ _ _ _ _ _ _ _ _ _ _ _ _ _ B F X N T hk hm hi hfit hd hu ret
end Mine
namespace Mine
def Srt (a : List Int) : Prop := ∀ i j : Nat, i ≤ j → j < a.length → a.getD i 0 ≤ a.getD j 0
def SrtS (a : List Int) : Prop := ∀ i j : Nat, i < j → j < a.length → a.getD i 0 < a.getD j 0
theorem SrtS.srt {a : List Int} (h : SrtS a) : Srt a := fun i j hij hj => by
  rcases Nat.lt_or_eq_of_le hij with h1 | rfl
  · exact Int.le_of_lt (h i j h1 hj)
  · exact Int.le_refl _
theorem BR.lo {a : List Int} {x r : Int} (hs : Srt a) (h : BR a x r) {i : Nat} (hi : (i : Int) < r) : a.getD i 0 ≤ x := by
  obtain ⟨h0, h1, h2, _⟩ := h
  rcases h2 with h2 | h2
  · omega
  · exact Int.le_trans (hs i (r - 1).toNat (by omega) (by omega)) h2
theorem BR.hi {a : List Int} {x r : Int} (hs : Srt a) (h : BR a x r) {i : Nat} (hi : r ≤ (i : Int)) (hl : i < a.length) : x < a.getD i 0 := by
  obtain ⟨h0, h1, _, h2⟩ := h
  rcases h2 with h2 | h2
  · omega
  · exact Int.lt_of_lt_of_le h2 (hs r.toNat i (by omega) hl)
theorem BL.lo {a : List Int} {x r : Int} (hs : Srt a) (h : BL a x r) {i : Nat} (hi : (i : Int) < r) : a.getD i 0 < x := by
  obtain ⟨h0, h1, h2, _⟩ := h
  rcases h2 with h2 | h2
  · omega
  · exact Int.lt_of_le_of_lt (hs i (r - 1).toNat (by omega) (by omega)) h2
theorem BL.hi {a : List Int} {x r : Int} (hs : Srt a) (h : BL a x r) {i : Nat} (hi : r ≤ (i : Int)) (hl : i < a.length) : x ≤ a.getD i 0 := by
  obtain ⟨h0, h1, _, h2⟩ := h
  rcases h2 with h2 | h2
  · omega
  · exact Int.le_trans h2 (hs r.toNat i (by omega) hl)

end Mine
namespace Mine
def ab (x : Int) : Int := if x < 0 then -x else x
def prev (e : List Int) (k : Nat) : Int := if k = 0 then 0 else e.getD (k - 1) 0
def E2 (pre : List Int) (whole : Int) (ends : List Int) : Prop :=
  (∀ i, i < pre.length → ends.getD i 0 = prev ends i + ab (pre.getD i 0)) ∧ whole = prev ends pre.length
theorem e2_start : ([] : List Int).length = ([] : List Int).length ∧ E2 [] 0 [] := ⟨rfl, fun _ h => absurd h (Nat.not_lt_zero _), rfl⟩
theorem getD_app_lt {a : List Int} {x : Int} {i : Nat} (h : i < a.length) : (a ++ [x]).getD i 0 = a.getD i 0 := by
  simp only [List.getD_eq_getElem?_getD]; rw [List.getElem?_append_left h]
theorem getD_app_eq {a : List Int} {x : Int} {i : Nat} (h : i = a.length) : (a ++ [x]).getD i 0 = x := by
  subst h; simp [List.getD_eq_getElem?_getD]
theorem prev_app {e : List Int} {y : Int} {k : Nat} (h : k ≤ e.length) : prev (e ++ [y]) k = prev e k := by
  unfold prev
  by_cases h0 : k = 0
  · simp [h0]
  · rw [if_neg h0, if_neg h0]; exact getD_app_lt (by omega)
theorem e2_step {pre ends : List Int} {whole x : Int} (hl : ends.length = pre.length) (h : E2 pre whole ends) :
    (ends ++ [whole + if x < 0 then -x else x]).length = (pre ++ [x]).length ∧ E2 (pre ++ [x]) (whole + if x < 0 then -x else x) (ends ++ [whole + if x < 0 then -x else x]) := by
  refine ⟨by simp [hl], fun i hi => ?_, ?_⟩
  · rw [List.length_append, List.length_singleton] at hi
    rw [prev_app (by omega)]
    by_cases e : i < pre.length
    · rw [getD_app_lt (by omega), getD_app_lt e]; exact h.1 i e
    · have e' : i = pre.length := by omega
      rw [getD_app_eq (by omega), getD_app_eq e', e', ← h.2]; rfl
  · rw [List.length_append, List.length_singleton, prev, if_neg (show ¬ pre.length + 1 = 0 by omega), getD_app_eq (by omega)]
theorem ab_nonneg (x : Int) : 0 ≤ ab x := by unfold ab; split <;> omega
theorem E2.mono {pre ends : List Int} {whole : Int} (hl : ends.length = pre.length) (h : E2 pre whole ends) : ∀ j, ∀ i, i ≤ j → j < ends.length → ends.getD i 0 ≤ ends.getD j 0
  | 0, i, hi, _ => by have : i = 0 := by omega
                      rw [this]; exact Int.le_refl _
  | j + 1, i, hi, hj => by
    by_cases e : i = j + 1
    · rw [e]; exact Int.le_refl _
    · have h1 := E2.mono hl h j i (by omega) (by omega)
      have h2 := h.1 (j + 1) (by omega)
      have h3 := ab_nonneg (pre.getD (j + 1) 0)
      simp only [prev, Nat.add_sub_cancel] at h2
      rw [if_neg (by omega)] at h2
      omega
theorem E2.srt {pre ends : List Int} {whole : Int} (hl : ends.length = pre.length) (h : E2 pre whole ends) : Srt ends := fun i j a b => E2.mono hl h j i a b
theorem E2.prev_nonneg {pre ends : List Int} {whole : Int} (h : E2 pre whole ends) : ∀ i, i < pre.length → 0 ≤ prev ends i
  | 0, _ => by simp [prev]
  | i + 1, hi => by
    have h1 := h.1 i (by omega)
    have h2 := E2.prev_nonneg h i (by omega)
    have h3 := ab_nonneg (pre.getD i 0)
    rw [prev, if_neg (by omega), Nat.add_sub_cancel]
    omega
theorem start_is {pre ends : List Int} {whole k : Int} (h : E2 pre whole ends) (h0 : 0 ≤ k) (h1 : k < pre.length) :
    (ends.getD k.toNat 0 - if pre.getD k.toNat 0 < 0 then -pre.getD k.toNat 0 else pre.getD k.toNat 0) = prev ends k.toNat := by
  have := h.1 k.toNat (by omega)
  show ends.getD k.toNat 0 - ab (pre.getD k.toNat 0) = _
  omega
theorem point_in {pre ends : List Int} {whole k p r : Int} (h : E2 pre whole ends) (hr : BR ends p r) (ha : (ends.getD k.toNat 0 - if pre.getD k.toNat 0 < 0 then -pre.getD k.toNat 0 else pre.getD k.toNat 0) ≤ p) (hb : p < ends.getD k.toNat 0)
    (hl : ends.length = pre.length) (h0 : 0 ≤ k) (h1 : k < pre.length) : r = k := by
  rw [start_is h h0 h1] at ha
  have hs := h.srt hl
  have hr0 := hr.1
  rcases Int.lt_trichotomy r k with e | e | e
  · have := hr.hi hs (i := k.toNat - 1) (by omega) (by omega)
    rw [prev, if_neg (by omega)] at ha
    omega
  · exact e
  · have := hr.lo hs (i := k.toNat) (by omega)
    omega
theorem told_in {pre ends : List Int} {whole k r : Int} (h : E2 pre whole ends) (hr : BR ends (ends.getD k.toNat 0 - if pre.getD k.toNat 0 < 0 then -pre.getD k.toNat 0 else pre.getD k.toNat 0) r)
    (ha : (ends.getD k.toNat 0 - if pre.getD k.toNat 0 < 0 then -pre.getD k.toNat 0 else pre.getD k.toNat 0) < whole)
    (hl : ends.length = pre.length) (h0 : 0 ≤ k) (h1 : k < pre.length) :
    r < pre.length ∧ pre.getD r.toNat 0 ≠ 0 ∧ (ends.getD r.toNat 0 - if pre.getD r.toNat 0 < 0 then -pre.getD r.toNat 0 else pre.getD r.toNat 0) ≤ (ends.getD k.toNat 0 - if pre.getD k.toNat 0 < 0 then -pre.getD k.toNat 0 else pre.getD k.toNat 0) ∧
      (ends.getD k.toNat 0 - if pre.getD k.toNat 0 < 0 then -pre.getD k.toNat 0 else pre.getD k.toNat 0) < ends.getD r.toNat 0 := by
  rw [start_is h h0 h1] at ha hr ⊢
  have hs := h.srt hl
  have hr0 := hr.1
  have hr1 := hr.2.1
  have hlt : r < pre.length := by
    rcases Int.lt_or_le r pre.length with e | e
    · exact e
    · exfalso
      have h2 := h.2
      rw [prev, if_neg (by omega)] at h2
      have := hr.lo hs (i := pre.length - 1) (by omega)
      omega
  have hhi := hr.hi hs (i := r.toNat) (by omega) (by omega)
  have hlo : prev ends r.toNat ≤ prev ends k.toNat := by
    by_cases e : r.toNat = 0
    · rw [prev, if_pos e]
      exact h.prev_nonneg _ (by omega)
    · rw [prev, if_neg e]
      exact hr.lo hs (by omega)
  have he := h.1 r.toNat (by omega)
  refine ⟨hlt, fun e0 => ?_, ?_, hhi⟩
  · rw [e0] at he
    have : ab 0 = 0 := rfl
    omega
  · rw [start_is h hr0 hlt]; exact hlo
end Mine
namespace Mine
section
variable {prog : Program} {w : World} {A : Around} {E : Value → Shared → Prop} {s : Shared} {env : Env} {h₀ : Heap} {target : Expr} {body : List Stmt} {Q : Flow → Shared → Prop}

/-- a turn's end: the next state c' of the word, borne by the frame and the ledger -/
def GEnd {σ : Type} (h₀ : Heap) (L : Addr) (I : Addr) (it : Obj) (Led : σ → List (Addr × Obj)) (ps : σ → List (Str × Value)) (stored : List Str) (m₀ : Str → Option Value) (P : σ → Prop) (s₁ s₂ : Shared) : Prop :=
  ∃ (c' : σ) (h' : Heap) (tk : Nat) (m' : Str → Option Value) (news' : List (Addr × Obj)), s₂ = { s₁ with heap := h', toks := tk } ∧ Fr h₀ L h' m' ∧ News h₀ L h' news' ∧ (I, it) ∈ news' ∧ (∀ p ∈ Led c', p ∈ news') ∧ (∀ p ∈ Led c', p.1 ≠ I) ∧
    (∀ p ∈ ps c', m' p.1 = some p.2) ∧ (∀ z, (∀ p ∈ ps c', z ≠ p.1) → stored.contains z = false → m' z = m₀ z) ∧ P c'
def GPost {σ : Type} (h₀ : Heap) (L : Addr) (I : Addr) (it : Obj) (Led : σ → List (Addr × Obj)) (ps : σ → List (Str × Value)) (stored : List Str) (m₀ : Str → Option Value) (P : σ → Prop) (s₁ : Shared) (Q : Flow → Shared → Prop) (f : Flow) (s₂ : Shared) : Prop :=
  match f with
  | .ret v => Q (.ret v) s₂
  | .brk => Q .next s₂
  | _ => GEnd h₀ L I it Led ps stored m₀ P s₁ s₂
theorem g_end {σ : Type} {L I : Addr} {it : Obj} {Led : σ → List (Addr × Obj)} {ps : σ → List (Str × Value)} {stored : List Str} {m₀ m' : Str → Option Value} {P : σ → Prop} {s₁ : Shared} {h' : Heap} {tk : Nat} {news' : List (Addr × Obj)} (c' : σ)
    (F : Fr h₀ L h' m') (N : News h₀ L h' news') (hI : (I, it) ∈ news') (hn : ∀ p ∈ Led c', p ∈ news') (ho : ∀ p ∈ Led c', p.1 ≠ I) (hk : ∀ p ∈ ps c', m' p.1 = some p.2) (hr : ∀ z, (∀ p ∈ ps c', z ≠ p.1) → stored.contains z = false → m' z = m₀ z) (hp : P c') :
    GEnd h₀ L I it Led ps stored m₀ P s₁ { s₁ with heap := h', toks := tk } := ⟨c', h', tk, m', news', rfl, F, N, hI, hn, ho, hk, hr, hp⟩

theorem g_core {σ : Type} {I : Addr} {fp : List Addr} {n : Nat} {Pi Md : Nat → Value → Heap → Prop} {St : Nat → Heap → Prop} {m₀ : Str → Option Value} (Led : σ → List (Addr × Obj)) (ps : σ → List (Str × Value)) (stored : List Str) (P : Nat → σ → Prop) (c₀ : σ) (keep : List (Addr × Obj))
    (W : KTurns prog w A target I fp [I] n Pi Md St) (hLf : env.locals ∉ fp) (hI : h₀.get? I = none) (hfp : ∀ b ∈ fp, b = I ∨ (∃ o, h₀.get? b = some o) ∨ b ∈ keep.map (·.1)) (hkeep : ∀ c i, P i c → ∀ p ∈ keep, p ∈ Led c) (hit : ∀ i h, St i h → ∃ it, h.get? I = some it)
    (hoff : ∀ p ∈ Led c₀, p.1 ≠ I) (hst : St 0 s.heap) (F : Fr h₀ env.locals s.heap m₀) (N : News h₀ env.locals s.heap (Led c₀)) (hk : ∀ p ∈ ps c₀, m₀ p.1 = some p.2) (hp : P 0 c₀)
    (turn : ∀ (c : σ) i v (u : Str → Option Value) h tk it, i < n → Pi i v h → P i c → (∀ p ∈ Led c, p.1 ≠ I) → Fr h₀ env.locals h (kstB (fun z => if stored.contains z then u z else m₀ z) (ps c)) → News h₀ env.locals h ((I, it) :: Led c) →
      wpAny (model prog w) A (assign target env v) (fun _ s₃ => wpAny (model prog w) A (execs body env) (GPost h₀ env.locals I it Led ps stored m₀ (P (i + 1)) { s with heap := h, toks := tk } Q) E s₃) E { s with heap := h, toks := tk })
    (done : ∀ (c : σ) (u : Str → Option Value) h tk, P n c → Fr h₀ env.locals h (kstB (fun z => if stored.contains z then u z else m₀ z) (ps c)) → News h₀ env.locals h (Led c) → Q .next { s with heap := h, toks := tk }) :
    TurnsAt prog w A h₀ env target body Q E (.ref I) s := by
  let J : Nat → (Str → Option Value) → List (Addr × Obj) → Prop := fun i m nx => ∃ c : σ, nx = Led c ∧ (∀ p ∈ ps c, m p.1 = some p.2) ∧ (∀ z, (∀ p ∈ ps c, z ≠ p.1) → stored.contains z = false → m z = m₀ z) ∧ P i c
  refine ⟨I, fp, [I], n, Pi, Md, St, m₀, Led c₀, J, rfl, W, hLf, ?_, ?_, hst, F, N, ⟨c₀, rfl, hk, fun _ _ _ => rfl, hp⟩, ?_, ?_⟩
  · intro b hb; rw [List.mem_singleton.mp hb]; exact hI
  · intro p hp' hb; exact hoff p hp' (List.mem_singleton.mp hb)
  · rintro i v m₁ news₁ h₁ tk₁ own hin hPi ⟨c, rfl, hk₁, hr₁, hp₁⟩ hoff₁ hown hget hall hst₁ F₁ N₁
    have off : ∀ p ∈ Led c, p.1 ≠ I := fun p hp' e => hoff₁ p hp' (List.mem_singleton.mpr e)
    obtain ⟨it, hit₁⟩ := hit _ _ hst₁
    have hIm : (I, it) ∈ own := hall I (W.sub I (List.mem_singleton.mpr rfl)) hI it hit₁
    have N₂ : News h₀ env.locals h₁ ((I, it) :: Led c) := fun p hp' => by
      rcases List.mem_cons.mp hp' with rfl | hp'
      · exact N₁ _ (List.mem_append_left _ hIm)
      · exact N₁ _ (List.mem_append_right _ hp')
    refine wpAny_mono (turn c i v m₁ h₁ tk₁ it hin hPi hp₁ off (ksw_fr hk₁ hr₁ F₁) N₂) (fun _ s₃ h₃ => wpAny_mono h₃ (fun f s₂ p => ?_) fun _ _ e => e) fun _ _ e => e
    have fin : GEnd h₀ env.locals I it Led ps stored m₀ (P (i + 1)) { s with heap := h₁, toks := tk₁ } s₂ → LoopStepU h₀ env.locals [I] own (J (i + 1)) { s with heap := h₁, toks := tk₁ } .next s₂ := by
      rintro ⟨c', h', tk, m', news', e, F', N', hI', hn', ho', hk', hr', hp'⟩
      refine ⟨rfl, h', tk, m', Led c', e, F', fun p hp₂ => ?_, fun p hp₂ hb => ho' p hp₂ (List.mem_singleton.mp hb), c', rfl, hk', hr', hp'⟩
      rcases List.mem_append.mp hp₂ with hp₂ | hp₂
      · have h2 : h₁.get? p.1 = some p.2 := hget p hp₂
        rcases hfp p.1 (hown p hp₂) with h3 | ⟨o, h3⟩ | h3
        · have : p = (I, it) := by
            rw [h3, hit₁] at h2
            exact Prod.ext h3 (Option.some.inj h2).symm
          rw [this]; exact N' _ hI'
        · have h4 := (N₁ p (List.mem_append_left _ hp₂)).2.2
          rw [h3] at h4; cases h4
        · obtain ⟨q, hq, hqe⟩ := List.mem_map.mp h3
          have h5 := (N₁ q (List.mem_append_right _ (hkeep c i hp₁ q hq))).1
          have : p = q := by
            rw [hqe, h2] at h5
            exact Prod.ext hqe.symm (Option.some.inj h5)
          rw [this]; exact N' _ (hn' _ (hkeep c' (i + 1) hp' q hq))
      · exact N' _ (hn' p hp₂)
    cases f with
    | ret v => exact .ret p
    | brk => exact .brk p
    | next => exact .next (fin p)
    | cont => exact .cont (fin p)
  · rintro h' tk m' news' F' N' _ ⟨c, rfl, hk', hr', hp'⟩
    exact done c m' h' tk hp' (ksw_fr hk' hr' F') N'

/-- over a tuple or a list of the ledger's -/
theorem g_seqL {σ : Type} {ax : Addr} {lo : Obj} {vs : List Value} {nn : Nat} {m₀ : Str → Option Value} (Led : σ → List (Addr × Obj)) (ps : σ → List (Str × Value)) (stored : List Str) (P : Nat → σ → Prop) (c₀ : σ)
    (hh : A.handled = none) (F : Fr h₀ env.locals s.heap m₀) (N : News h₀ env.locals s.heap (Led c₀)) (hm : ∀ c i, P i c → (ax, lo) ∈ Led c) (hc : lo.cls = .type "tuple" ∨ lo.cls = .type "list") (hd : lo.data = .seq vs.toArray nn) (hk : ∀ p ∈ ps c₀, m₀ p.1 = some p.2) (hp : P 0 c₀)
    (turn : ∀ (I : Addr), (∀ p ∈ Led c₀, p.1 < I) → ∀ (c : σ) i v (u : Str → Option Value) h tk it, vs[i]? = some v → P i c → (∀ p ∈ Led c, p.1 ≠ I) → Fr h₀ env.locals h (kstB (fun z => if stored.contains z then u z else m₀ z) (ps c)) → News h₀ env.locals h ((I, it) :: Led c) →
      wpAny (model prog w) A (assign target env v) (fun _ s₃ => wpAny (model prog w) A (execs body env) (GPost h₀ env.locals I it Led ps stored m₀ (P (i + 1)) { s with heap := h, toks := tk } Q) E s₃) E { s with heap := h, toks := tk })
    (done : ∀ (c : σ) (u : Str → Option Value) h tk, P vs.length c → Fr h₀ env.locals h (kstB (fun z => if stored.contains z then u z else m₀ z) (ps c)) → News h₀ env.locals h (Led c) → Q .next { s with heap := h, toks := tk }) :
    wpAny (model prog w) A (pyIter (.ref ax)) (fun it s₂ => TurnsAt prog w A h₀ env target body Q E it s₂) E s := by
  have hax := N _ (hm c₀ 0 hp)
  have hlt : ax < s.heap.objs.size := Heap.lt_size hax.1
  have hne : ax ≠ s.heap.objs.size := Nat.ne_of_lt hlt
  have hold : ∀ p ∈ Led c₀, p.1 < s.heap.objs.size := fun p hp => Heap.lt_size (N p hp).1
  have hLf : env.locals ∉ [s.heap.objs.size, ax] := fun hb => by
    rcases List.mem_cons.mp hb with e | hb
    · exact absurd F.ns.lt (e ▸ Nat.lt_irrefl _)
    · exact hax.2.1 (List.mem_singleton.mp hb).symm
  have hfp : ∀ b ∈ [s.heap.objs.size, ax], b = s.heap.objs.size ∨ (∃ o, h₀.get? b = some o) ∨ b ∈ [(ax, lo)].map (·.1) := fun b hb => by
    rcases List.mem_cons.mp hb with e | hb
    · exact .inl e
    · exact .inr (.inr (by simpa using hb))
  have hsz : vs.toArray.size = vs.length := by simp
  rcases hc with hc | hc
  · have hl : s.heap.IsTuple ax vs.toArray := ⟨lo, hax.1, hc, nn, hd⟩
    refine wpAny_pyIter_tuple hl ?_
    refine g_core (s := { s with heap := _, toks := s.toks }) Led ps stored P c₀ [(ax, lo)] (hsz ▸ KTurns.ofWalks (Walks.tuple hh s.heap.objs.size ax hne vs.toArray) fun i v s Q E st q => letGo_tupleiter st.1 q) hLf (next_is_new F) hfp (fun c i hp' p hp => by rw [List.mem_singleton.mp hp]; exact hm c i hp')
      (fun i h st => by obtain ⟨it, a, _⟩ := st.1; exact ⟨it, a⟩) (fun p hp => Nat.ne_of_lt (hold p hp)) ⟨⟨_, Heap.get?_push_size _ rfl, rfl, rfl⟩, hl.at fun o e => Heap.get?_push_of_some _ e⟩ (F.push _) (fun p hp => ⟨Heap.get?_push_of_some _ (N p hp).1, (N p hp).2⟩) hk hp ?_ ?_
    · intro c i v u h tk it hi hP hp' off F' N'
      exact turn _ hold c i v u h tk it (by simpa using hP) hp' off F' N'
    · intro c u h tk hp' F' N'
      exact done c u h tk hp' F' N'
  · have hl : s.heap.IsList ax vs.toArray := ⟨lo, hax.1, hc, nn, hd⟩
    refine wpAny_pyIter_list hl ?_
    refine g_core (s := { s with heap := _, toks := s.toks }) Led ps stored P c₀ [(ax, lo)] (hsz ▸ KTurns.ofWalks (Walks.list hh s.heap.objs.size ax hne vs.toArray) fun i v s Q E st q => letGo_listiter st.1 q) hLf (next_is_new F) hfp (fun c i hp' p hp => by rw [List.mem_singleton.mp hp]; exact hm c i hp')
      (fun i h st => by obtain ⟨it, a, _⟩ := st.1; exact ⟨it, a⟩) (fun p hp => Nat.ne_of_lt (hold p hp)) ⟨⟨_, Heap.get?_push_size _ rfl, rfl, rfl⟩, hl.at fun o e => Heap.get?_push_of_some _ e⟩ (F.push _) (fun p hp => ⟨Heap.get?_push_of_some _ (N p hp).1, (N p hp).2⟩) hk hp ?_ ?_
    · intro c i v u h tk it hi hP hp' off F' N'
      exact turn _ hold c i v u h tk it (by simpa using hP) hp' off F' N'
    · intro c u h tk hp' F' N'
      exact done c u h tk hp' F' N'
/-- over a list that stood before (the script) -/
theorem g_listB {σ : Type} {ax : Addr} {vs : List Value} {m₀ : Str → Option Value} (Led : σ → List (Addr × Obj)) (ps : σ → List (Str × Value)) (stored : List Str) (P : Nat → σ → Prop) (c₀ : σ)
    (hh : A.handled = none) (hl : h₀.IsList ax vs.toArray) (F : Fr h₀ env.locals s.heap m₀) (N : News h₀ env.locals s.heap (Led c₀)) (hk : ∀ p ∈ ps c₀, m₀ p.1 = some p.2) (hp : P 0 c₀)
    (turn : ∀ (I : Addr), (∀ p ∈ Led c₀, p.1 < I) → ∀ (c : σ) i v (u : Str → Option Value) h tk it, vs[i]? = some v → P i c → (∀ p ∈ Led c, p.1 ≠ I) → Fr h₀ env.locals h (kstB (fun z => if stored.contains z then u z else m₀ z) (ps c)) → News h₀ env.locals h ((I, it) :: Led c) →
      wpAny (model prog w) A (assign target env v) (fun _ s₃ => wpAny (model prog w) A (execs body env) (GPost h₀ env.locals I it Led ps stored m₀ (P (i + 1)) { s with heap := h, toks := tk } Q) E s₃) E { s with heap := h, toks := tk })
    (done : ∀ (c : σ) (u : Str → Option Value) h tk, P vs.length c → Fr h₀ env.locals h (kstB (fun z => if stored.contains z then u z else m₀ z) (ps c)) → News h₀ env.locals h (Led c) → Q .next { s with heap := h, toks := tk }) :
    wpAny (model prog w) A (pyIter (.ref ax)) (fun it s₂ => TurnsAt prog w A h₀ env target body Q E it s₂) E s := by
  obtain ⟨lo, hlo, _⟩ := id hl
  have hls : s.heap.IsList ax vs.toArray := hl.at fun o e => F.keep ax o e
  have hlt : ax < h₀.objs.size := Heap.lt_size hlo
  have hne : ax ≠ s.heap.objs.size := Nat.ne_of_lt (Nat.lt_trans (Nat.lt_of_lt_of_le hlt F.above) F.ns.lt)
  have hold : ∀ p ∈ Led c₀, p.1 < s.heap.objs.size := fun p hp => Heap.lt_size (N p hp).1
  have hLf : env.locals ∉ [s.heap.objs.size, ax] := fun hb => by
    rcases List.mem_cons.mp hb with e | hb
    · exact absurd F.ns.lt (e ▸ Nat.lt_irrefl _)
    · exact absurd (Nat.lt_of_lt_of_le hlt F.above) ((List.mem_singleton.mp hb) ▸ Nat.lt_irrefl _)
  have hfp : ∀ b ∈ [s.heap.objs.size, ax], b = s.heap.objs.size ∨ (∃ o, h₀.get? b = some o) ∨ b ∈ ([] : List (Addr × Obj)).map (·.1) := fun b hb => by
    rcases List.mem_cons.mp hb with e | hb
    · exact .inl e
    · exact .inr (.inl ⟨lo, by rw [List.mem_singleton.mp hb]; exact hlo⟩)
  have hsz : vs.toArray.size = vs.length := by simp
  refine wpAny_pyIter_list hls ?_
  refine g_core (s := { s with heap := _, toks := s.toks }) Led ps stored P c₀ [] (hsz ▸ KTurns.ofWalks (Walks.list hh s.heap.objs.size ax hne vs.toArray) fun i v s Q E st q => letGo_listiter st.1 q) hLf (next_is_new F) hfp (fun c i hp' p hp => nomatch hp)
    (fun i h st => by obtain ⟨it, a, _⟩ := st.1; exact ⟨it, a⟩) (fun p hp => Nat.ne_of_lt (hold p hp)) ⟨⟨_, Heap.get?_push_size _ rfl, rfl, rfl⟩, hls.at fun o e => Heap.get?_push_of_some _ e⟩ (F.push _) (fun p hp => ⟨Heap.get?_push_of_some _ (N p hp).1, (N p hp).2⟩) hk hp ?_ ?_
  · intro c i v u h tk it hi hP hp' off F' N'
    exact turn _ hold c i v u h tk it (by simpa using hP) hp' off F' N'
  · intro c u h tk hp' F' N'
    exact done c u h tk hp' F' N'
/-- over a range, any step -/
theorem g_range {σ : Type} {x : Str} {px : Pos} {r : Addr} {a₀ b₀ c : Int} {t₀ u₀ v₀ : Tok} {n : Nat} {m₀ : Str → Option Value} (Led : σ → List (Addr × Obj)) (ps : σ → List (Str × Value)) (stored : List Str) (P : Nat → σ → Prop) (c₀ : σ)
    (hh : A.handled = none) (hr : IsRange s.heap r a₀ b₀ c t₀ u₀ v₀) (hsmall : Builtin.Range.small a₀ b₀ c = true) (hn : Builtin.Range.rangeSize a₀ b₀ c = (n : Int)) (F : Fr h₀ env.locals s.heap m₀) (N : News h₀ env.locals s.heap (Led c₀)) (hk : ∀ p ∈ ps c₀, m₀ p.1 = some p.2) (hp : P 0 c₀)
    (turn : ∀ (I : Addr), (∀ p ∈ Led c₀, p.1 < I) → ∀ (st : σ) i t (u : Str → Option Value) h tk it, i < n → P i st → (∀ p ∈ Led st, p.1 ≠ I) → Fr h₀ env.locals h (kstB (fun z => if stored.contains z then u z else m₀ z) (ps st)) → News h₀ env.locals h ((I, it) :: Led st) →
      wpAny (model prog w) A (assign (.Name x px) env (.int (a₀ + (i : Int) * c) t)) (fun _ s₃ => wpAny (model prog w) A (execs body env) (GPost h₀ env.locals I it Led ps stored m₀ (P (i + 1)) { s with heap := h, toks := tk } Q) E s₃) E { s with heap := h, toks := tk })
    (done : ∀ (st : σ) (u : Str → Option Value) h tk, P n st → Fr h₀ env.locals h (kstB (fun z => if stored.contains z then u z else m₀ z) (ps st)) → News h₀ env.locals h (Led st) → Q .next { s with heap := h, toks := tk }) :
    wpAny (model prog w) A (pyIter (.ref r)) (fun it s₂ => TurnsAt prog w A h₀ env (.Name x px) body Q E it s₂) E s := by
  have hold : ∀ p ∈ Led c₀, p.1 < s.heap.objs.size := fun p hp => Heap.lt_size (N p hp).1
  have hLf : env.locals ∉ [s.heap.objs.size] := fun hb => absurd F.ns.lt ((List.mem_singleton.mp hb) ▸ Nat.lt_irrefl _)
  refine wpAny_pyIter_range hr hsmall ?_
  refine g_core (s := { s with heap := _, toks := s.toks }) Led ps stored P c₀ [] (KTurns.ofWalks (Walks.range hh s.heap.objs.size a₀ c n) fun i v s Q E st q => wpAny_pure q) hLf (next_is_new F) (fun b hb => .inl (List.mem_singleton.mp hb)) (fun c i hp' p hp => nomatch hp)
    (fun i h st => ⟨_, st⟩) (fun p hp => Nat.ne_of_lt (hold p hp)) (by show IsRangeIter _ _ _ _ _; rw [hn]; simpa using Heap.get?_push_size _ rfl) (F.push _) (fun p hp => ⟨Heap.get?_push_of_some _ (N p hp).1, (N p hp).2⟩) hk hp ?_ ?_
  · rintro st i v u h tk it hi ⟨t, rfl⟩ hp' off F' N'
    exact turn _ hold st i t u h tk it hi hp' off F' N'
  · intro st u h tk hp' F' N'
    exact done st u h tk hp' F' N'
end
end Mine
namespace Mine
section
variable {prog : Program} {w : World} {A : Around} {E : Value → Shared → Prop} {s : Shared} {env : Env} {h₀ : Heap} {target : Expr} {body : List Stmt} {Q : Flow → Shared → Prop}
/-- over a sequence of ints of the ledger's, the turns leave everything but the stored names -/
theorem g_still {ax : Addr} {lo : Obj} {vs : List Value} {ns : List Int} {nn : Nat} {m₀ : Str → Option Value} {news : List (Addr × Obj)} (stored : List Str)
    (hh : A.handled = none) (F : Fr h₀ env.locals s.heap m₀) (N : News h₀ env.locals s.heap news) (hm : (ax, lo) ∈ news) (hc : lo.cls = .type "tuple" ∨ lo.cls = .type "list") (hd : lo.data = .seq vs.toArray nn) (hi : IntsAre vs ns)
    (turn : ∀ (I : Addr), (∀ p ∈ news, p.1 < I) → ∀ (i : Nat) (x : Int) (t : Tok) (u : Str → Option Value) h tk it, ns[i]? = some x → (∀ p ∈ news, p.1 ≠ I) → Fr h₀ env.locals h (fun z => if stored.contains z then u z else m₀ z) → News h₀ env.locals h ((I, it) :: news) →
      wpAny (model prog w) A (assign target env (.int x t)) (fun _ s₃ => wpAny (model prog w) A (execs body env) (GPost h₀ env.locals I it (fun _ : Unit => news) (fun _ => []) stored m₀ (fun _ => True) { s with heap := h, toks := tk } Q) E s₃) E { s with heap := h, toks := tk })
    (done : ∀ (u : Str → Option Value) h tk, Fr h₀ env.locals h (fun z => if stored.contains z then u z else m₀ z) → News h₀ env.locals h news → Q .next { s with heap := h, toks := tk }) :
    wpAny (model prog w) A (pyIter (.ref ax)) (fun it s₂ => TurnsAt prog w A h₀ env target body Q E it s₂) E s := by
  refine g_seqL (fun _ : Unit => news) (fun _ => []) stored (fun _ _ => True) () hh F N (fun _ _ _ => hm) hc hd (fun _ h => nomatch h) trivial ?_ ?_
  · intro I hI c i v u h tk it hv _ off F' N'
    have hlt : i < vs.length := (List.getElem?_eq_some_iff.mp hv).1
    obtain ⟨t, ht⟩ := hi.get i (ns[i]'(by rw [← hi.length]; exact hlt)) (by simp)
    have : v = .int (ns[i]'(by rw [← hi.length]; exact hlt)) t := by rw [hv] at ht; exact Option.some.inj ht
    subst this
    exact turn I hI i _ t u h tk it (by simp) off F' N'
  · intro c u h tk _ F' N'
    exact done u h tk F' N'
end
end Mine
namespace Mine
open_top hd for PySem.Challenge.rw_cy0002_02
end Mine
namespace Mine
theorem bisR : ClaimOf hd (fun prog w K p loose mean mg mb => BisTells BR prog w K p loose mean mg mb 23) := by
  unfold ClaimOf
  k_fill
  intro w mean mg mb
  unfold BisTells
  intro dp un gd cn cs a ccd cl outer A₀ base h₀ L m news s l vs ns nn x tk Q E B F X N T hk hl hi hfit hd hu hret
  replace N := news_dup N hl
  clear hl
  refine wpAny_call ?_
  k_with_none
  k_with "exec While Compare cons nil" => k_while_given ["a", "x"] (fun a x _ lo hi => (0 ≤ lo ∧ lo ≤ hi ∧ hi ≤ (a.length : Int)) ∧ WR a x lo hi) (fun _ _ _ lo hi => (hi - lo).toNat) "lo" "hi"
  k_with "state" => first | exact wr_start _ _ | exact wr_hi (by assumption) (by assumption) (by assumption) (by assumption) (by assumption) | exact wr_lo (by assumption) (by assumption) (by assumption) (by assumption) (by assumption)
  k_with "measure" => first | exact mid_lo (by assumption) | exact mid_hi (by assumption)
  k_dflt (refine' code_def ?k1 ?k2 ?k3 ?k4 ?k5 ?kA ?kF ?kK ?k6 ?k7 ?k8 ?k9 ?kB ?_ ?c2 ?c3 ?c4 ?c5; (case kA => exact rfl); (case kF => exact rfl); (case kK => assumption); (case k1 => k_asm); (case k2 => k_asm); (case k3 => k_asm); (case k4 => k_asm); (case k5 => k_asm); (case k6 => k_is); (case k7 => k_is); (case k8 => ktr_room); (case k9 => (refine' kp_binds ?kx ?ke; (case kx => k_in); (case ke => exact fun _ => rfl))); (case c5 => decide); (case kB => exact locs rfl); (case c2 => exact rfl); (case c3 => exact rfl); (case c4 => exact rfl); k_whole; intro g' L' h' FG' F' N' B' X' T'; (try dsimp only); (try k_lift B'); (try k_fold))
  k_steps
  all_goals exact bis_ret (Q := Q) (s := s) (rel := BR) hret (br_end (by assumption) (by assumption) (by assumption) (by assumption) (by assumption)) (by assumption) (by assumption)
end Mine
namespace Mine
local macro_rules | `(tactic| walk_at "call ref") => `(tactic| (
  k_here
  k_dflt (
    (with_reducible show wpAny _ _ (call (Value.ref 23) _) _ _ _)
    refine' bis_use ?B ?F ?X ?N ?T ?hk ?hm ?hi ?hf (bisR.at _ _ _ _) ?hd ?hu ?_
    (case B => k_asm)
    (case F => k_asm)
    (case X => k_asm)
    (case N => k_asm)
    (case T => k_asm)
    (case hk => exact rfl)
    (case hm => k_mem)
    (case hi => l_ints)
    (case hf => l_fact)
    (case hd => ktr_room)
    (case hu => ktr_units)
    (intro r9 t9 h9 tk9 hB9 F9 N9)
    (have hB0 := hB9.1)
    (have hB1 := hB9.2.1)
    (try dsimp only)
    (try k_fold)
    first
      | (have hB2 := told_in (by assumption) hB9 (by assumption) (by assumption) (by omega) (by omega); obtain ⟨hB3, hB4, hB5, hB6⟩ := hB2)
      | (have hB2 := point_in (by assumption) hB9 (by assumption) (by assumption) (by assumption) (by omega) (by omega)))))
local macro_rules | `(tactic| walk_at "GPost") => `(tactic| (dsimp only [GPost]))
local macro_rules | `(tactic| walk_at "GEnd") => `(tactic| (
  refine g_end () (by assumption) (by assumption) (by k_mem) (by (intro p9 hp9; repeat (first | exact hp9 | refine List.Mem.tail _ ?_))) (by assumption) (fun _ h => nomatch h) (by ksw_same) trivial))
local macro_rules | `(tactic| walk_at "pyIter ref") => `(tactic| (
  k_here
  (with_reducible show wpAny _ _ (pyIter (Value.ref _)) (fun it s₂ => TurnsAt _ _ _ _ _ _ _ _ _ it s₂) _ _)
  (with_unfolding_all (refine' g_still [Str.ofString "point"] ?h ?F ?N ?m ?c ?d ?i ?turn ?done
                       (case h => exact rfl)
                       (case F => k_asm)
                       (case N => k_asm)
                       (case m => k_mem)
                       (case c => first | exact .inl rfl | exact .inr rfl)
                       (case d => exact rfl)
                       (case i => first | l_ints | (repeat constructor))))
  (case' turn => intro I9 hI9 i9 x9 t9 u9 h9 tk9 it9 hx9 off9 F9 N9; try k_fold)
  (case' done => intro u9 h9 tk9 F9 N9; try k_fold)))
theorem t : PySem.Challenge.rw_cy0002_02.Holds := hd (by
  k_with_none
  (k_with "pyIter ref" => (k_of "x" => k_state (fun pre whole ends => ends.length = pre.length ∧ E2 pre whole ends) "whole" "ends"))
  (k_with "pyIter ref" => (k_of "k" => k_state_given ["ends!"] (fun e0 pre ends => ends = e0) "ends"))
  (k_with "state" => first | exact e2_start | exact e2_step (by assumption) (by assumption) | rfl)
  k_go)
end Mine
theorem PySem.Challenge.cw_cy0002_02_holds : PySem.Challenge.rw_cy0002_02.Holds := by
  exact Mine.t

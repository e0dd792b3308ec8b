import PyProof.Rows.All
import Wide.All
import OpenK.AllK
import Wide.FinOn
import PySem.Challenge.RW_cy0002_04
open PySem PySem.W PyProof.Rows
set_option Elab.async false
set_option maxRecDepth 100000
set_option maxHeartbeats 8000000
set_option linter.unusedVariables false
namespace Mine

/-- what bisect_right hands back, told by the two neighbours alone -/
def WR (a : List Int) (x lo hi : Int) : Prop := (lo = 0 ∨ a.getD (lo - 1).toNat 0 ≤ x) ∧ (hi = a.length ∨ x < a.getD hi.toNat 0)
def WL (a : List Int) (x lo hi : Int) : Prop := (lo = 0 ∨ a.getD (lo - 1).toNat 0 < x) ∧ (hi = a.length ∨ x ≤ a.getD hi.toNat 0)
def BR (a : List Int) (x r : Int) : Prop := 0 ≤ r ∧ r ≤ a.length ∧ WR a x r r
def BL (a : List Int) (x r : Int) : Prop := 0 ≤ r ∧ r ≤ a.length ∧ WL a x r r

theorem mid_facts {lo hi : Int} (h : lo < hi) : lo ≤ (lo + hi).fdiv 2 ∧ (lo + hi).fdiv 2 < hi := by
  rw [Int.fdiv_eq_ediv_of_nonneg _ (by decide)]
  omega

theorem wr_start (a : List Int) (x : Int) : (0 ≤ (0 : Int) ∧ (0 : Int) ≤ (a.length : Int) ∧ (a.length : Int) ≤ (a.length : Int)) ∧ WR a x 0 a.length :=
  ⟨by omega, .inl rfl, .inl rfl⟩
theorem wl_start (a : List Int) (x : Int) : (0 ≤ (0 : Int) ∧ (0 : Int) ≤ (a.length : Int) ∧ (a.length : Int) ≤ (a.length : Int)) ∧ WL a x 0 a.length :=
  ⟨by omega, .inl rfl, .inl rfl⟩
theorem wr_hi {a : List Int} {x lo hi : Int} (h0 : 0 ≤ lo) (h1 : hi ≤ a.length) (w : WR a x lo hi) (h : lo < hi) (hx : x < a.getD ((lo + hi).fdiv 2).toNat 0) :
    (0 ≤ lo ∧ lo ≤ (lo + hi).fdiv 2 ∧ (lo + hi).fdiv 2 ≤ (a.length : Int)) ∧ WR a x lo ((lo + hi).fdiv 2) := by
  have := mid_facts h
  exact ⟨by omega, w.1, .inr hx⟩
theorem wr_lo {a : List Int} {x lo hi : Int} (h0 : 0 ≤ lo) (h1 : hi ≤ a.length) (w : WR a x lo hi) (h : lo < hi) (hx : ¬ x < a.getD ((lo + hi).fdiv 2).toNat 0) :
    (0 ≤ (lo + hi).fdiv 2 + 1 ∧ (lo + hi).fdiv 2 + 1 ≤ hi ∧ hi ≤ (a.length : Int)) ∧ WR a x ((lo + hi).fdiv 2 + 1) hi := by
  have := mid_facts h
  refine ⟨by omega, .inr ?_, w.2⟩
  rw [show (lo + hi).fdiv 2 + 1 - 1 = (lo + hi).fdiv 2 by omega]
  omega
theorem wl_lo {a : List Int} {x lo hi : Int} (h0 : 0 ≤ lo) (h1 : hi ≤ a.length) (w : WL a x lo hi) (h : lo < hi) (hx : a.getD ((lo + hi).fdiv 2).toNat 0 < x) :
    (0 ≤ (lo + hi).fdiv 2 + 1 ∧ (lo + hi).fdiv 2 + 1 ≤ hi ∧ hi ≤ (a.length : Int)) ∧ WL a x ((lo + hi).fdiv 2 + 1) hi := by
  have := mid_facts h
  refine ⟨by omega, .inr ?_, w.2⟩
  rw [show (lo + hi).fdiv 2 + 1 - 1 = (lo + hi).fdiv 2 by omega]
  omega
theorem wl_hi {a : List Int} {x lo hi : Int} (h0 : 0 ≤ lo) (h1 : hi ≤ a.length) (w : WL a x lo hi) (h : lo < hi) (hx : ¬ a.getD ((lo + hi).fdiv 2).toNat 0 < x) :
    (0 ≤ lo ∧ lo ≤ (lo + hi).fdiv 2 ∧ (lo + hi).fdiv 2 ≤ (a.length : Int)) ∧ WL a x lo ((lo + hi).fdiv 2) := by
  have := mid_facts h
  exact ⟨by omega, w.1, .inr (by omega)⟩
theorem mid_lo {lo hi : Int} (h : lo < hi) : (hi - ((lo + hi).fdiv 2 + 1)).toNat < (hi - lo).toNat := by
  have := mid_facts h
  omega
theorem mid_hi {lo hi : Int} (h : lo < hi) : ((lo + hi).fdiv 2 - lo).toNat < (hi - lo).toNat := by
  have := mid_facts h
  omega
theorem br_end {a : List Int} {x lo hi : Int} (h0 : 0 ≤ lo) (h1 : lo ≤ hi) (h2 : hi ≤ a.length) (w : WR a x lo hi) (h : ¬ lo < hi) : BR a x lo := by
  have : hi = lo := by omega
  subst this
  exact ⟨h0, h2, w⟩
theorem bl_end {a : List Int} {x lo hi : Int} (h0 : 0 ≤ lo) (h1 : lo ≤ hi) (h2 : hi ≤ a.length) (w : WL a x lo hi) (h : ¬ lo < hi) : BL a x lo := by
  have : hi = lo := by omega
  subst this
  exact ⟨h0, h2, w⟩

/-- a search function's contract upon a list of the ledger's -/
def BisTells (rel : List Int → Int → Int → Prop) (prog : Program) (w : World) (K : Frag) (p : Program) (loose : List Str) (mean : ExcName → Option Value) (mg mb : Str → Option Value) (f : Addr) : Prop :=
  ∀ (dp un : Nat) (gd : Option (List Code)) (cn : Str) (cs : Scope) (a : Addr) (ccd : Value) (cl : List (Str × Addr)) (outer : List Env) (A₀ : Around) (base h₀ : Heap) (L : Addr) (m : Str → Option Value) (news : List (Addr × Obj)) (s : Shared) (l : Addr) (vs : List Value) (ns : List Int) (nn : Nat) (x : Int) (tk : Tok)
    (Q E : Value → Shared → Prop),
    Below A₀ base outer h₀ → Fr h₀ L s.heap m → K.In h₀ → News h₀ L s.heap news → Top p loose mean mg mb h₀ → cs.kind = .function → (l, listOf vs.toArray nn) ∈ news → IntsAre vs ns → ns.length ≤ 2 ^ 20 → dp + 1 < recursionLimit → un + 8 < cLine →
    (∀ (r : Int) (t : Tok) (h' : Heap) (tk' : Nat), rel ns x r → Fr h₀ L h' m → News h₀ L h' news → Q (.int r t) { s with heap := h', toks := tk' }) →
    wpAny (model prog w) (ktrTop dp un gd cn cs L a ccd cl outer) (call (.ref f) [.ref l, .int x tk]) Q E s

theorem bis_ret {rel : List Int → Int → Int → Prop} {h₀ h' : Heap} {L : Addr} {m : Str → Option Value} {news : List (Addr × Obj)} {ns : List Int} {x : Int} {s : Shared} {Q : Value → Shared → Prop} {y : Int} {t : Tok} {tk' : Nat} {p : Addr × Obj}
    (hret : ∀ (r : Int) (t : Tok) (h' : Heap) (tk' : Nat), rel ns x r → Fr h₀ L h' m → News h₀ L h' news → Q (.int r t) { s with heap := h', toks := tk' }) (e : rel ns x y) (F : Fr h₀ L h' m) (N : News h₀ L h' (p :: news)) : Q (.int y t) { s with heap := h', toks := tk' } :=
  hret y t h' tk' e F (fun q hq => N q (.tail _ hq))
theorem news_dup {h₀ h : Heap} {L : Addr} {p : Addr × Obj} {news : List (Addr × Obj)} (N : News h₀ L h news) (hp : p ∈ news) : News h₀ L h (p :: news) := fun q hq => by
  rcases List.mem_cons.mp hq with rfl | hq
  · exact N _ hp
  · exact N q hq
/-- the claim for the program that a head is about -/
def ClaimOf {q : Program} {loose : List Str} {XP : (Str → Option Value) → Heap → Prop} {K : Params → Frag} {as : List Addr} {e : ∀ P, as = (K P).map (·.1)} {r : RowW} {d : DefRec} {kwd : List (Str × Expr)} {run : Value → List Value → Sem Value} {H : Prop}
    (_hd : WalkO q loose XP (kHook K as e).says r d kwd run → H) (C : Program → World → Frag → Program → List Str → (ExcName → Option Value) → (Str → Option Value) → (Str → Option Value) → Prop) : Prop :=
  ∀ (w : World) (mean : ExcName → Option Value) (mg mb : Str → Option Value), C r.prog w (K w.params) q (looseW q loose) mean mg mb
end Mine
namespace Mine
theorem ClaimOf.at {q : Program} {loose : List Str} {XP : (Str → Option Value) → Heap → Prop} {K : Params → Frag} {as : List Addr} {e : ∀ P, as = (K P).map (·.1)} {r : RowW} {d : DefRec} {kwd : List (Str × Expr)} {run : Value → List Value → Sem Value} {H : Prop}
    {hd : WalkO q loose XP (kHook K as e).says r d kwd run → H} {C : Program → World → Frag → Program → List Str → (ExcName → Option Value) → (Str → Option Value) → (Str → Option Value) → Prop} (h : ClaimOf hd C)
    (w : World) (mean : ExcName → Option Value) (mg mb : Str → Option Value) : C r.prog w (K w.params) q (looseW q loose) mean mg mb := h w mean mg mb
end Mine
namespace Mine
theorem bis_use {rel : List Int → Int → Int → Prop} {prog : Program} {w : World} {K : Frag} {p : Program} {loose : List Str} {mean : ExcName → Option Value} {mg mb : Str → Option Value} {f : Addr}
    {dp un : Nat} {gd : Option (List Code)} {cn : Str} {cs : Scope} {a : Addr} {ccd : Value} {cl : List (Str × Addr)} {outer : List Env} {A₀ : Around} {base h₀ : Heap} {L : Addr} {m : Str → Option Value} {news : List (Addr × Obj)} {s : Shared} {l : Addr} {vs : List Value} {ns : List Int} {nn : Nat} {x : Int} {tk : Tok}
    {Q E : Value → Shared → Prop} (B : Below A₀ base outer h₀) (F : Fr h₀ L s.heap m) (X : K.In h₀) (N : News h₀ L s.heap news) (T : Top p loose mean mg mb h₀) (hk : cs.kind = .function) (hm : (l, listOf vs.toArray nn) ∈ news) (hi : IntsAre vs ns) (hfit : ns.length ≤ 2 ^ 20)
    (C : BisTells rel prog w K p loose mean mg mb f) (hd : dp + 1 < recursionLimit) (hu : un + 8 < cLine)
    (ret : ∀ (r : Int) (t : Tok) (h' : Heap) (tk' : Nat), rel ns x r → Fr h₀ L h' m → News h₀ L h' news → Q (.int r t) { s with heap := h', toks := tk' }) :
    wpAny (model prog w) (ktrTop dp un gd cn cs L a ccd cl outer) (call (.ref f) [.ref l, .int x tk]) Q E s := C _ _ _ _ _ _ _ _ _ _ _ _ _ _ _ _ _ _ _ _ _ _ _ _ B F X N T hk hm hi hfit hd hu ret
theorem bool_end {p : Prop} [Decidable p] (h : p) : (decide p == true) = true := by simp [h]
end Mine
namespace Mine
def Srt (a : List Int) : Prop := ∀ i j : Nat, i ≤ j → j < a.length → a.getD i 0 ≤ a.getD j 0
def SrtS (a : List Int) : Prop := ∀ i j : Nat, i < j → j < a.length → a.getD i 0 < a.getD j 0
theorem SrtS.srt {a : List Int} (h : SrtS a) : Srt a := fun i j hij hj => by
  rcases Nat.lt_or_eq_of_le hij with h1 | rfl
  · exact Int.le_of_lt (h i j h1 hj)
  · exact Int.le_refl _
theorem BR.lo {a : List Int} {x r : Int} (hs : Srt a) (h : BR a x r) {i : Nat} (hi : (i : Int) < r) : a.getD i 0 ≤ x := by
  obtain ⟨h0, h1, h2, _⟩ := h
  rcases h2 with h2 | h2
  · omega
  · exact Int.le_trans (hs i (r - 1).toNat (by omega) (by omega)) h2
theorem BR.hi {a : List Int} {x r : Int} (hs : Srt a) (h : BR a x r) {i : Nat} (hi : r ≤ (i : Int)) (hl : i < a.length) : x < a.getD i 0 := by
  obtain ⟨h0, h1, _, h2⟩ := h
  rcases h2 with h2 | h2
  · omega
  · exact Int.lt_of_lt_of_le h2 (hs r.toNat i (by omega) hl)
theorem BL.lo {a : List Int} {x r : Int} (hs : Srt a) (h : BL a x r) {i : Nat} (hi : (i : Int) < r) : a.getD i 0 < x := by
  obtain ⟨h0, h1, h2, _⟩ := h
  rcases h2 with h2 | h2
  · omega
  · exact Int.lt_of_le_of_lt (hs i (r - 1).toNat (by omega) (by omega)) h2
theorem BL.hi {a : List Int} {x r : Int} (hs : Srt a) (h : BL a x r) {i : Nat} (hi : r ≤ (i : Int)) (hl : i < a.length) : x ≤ a.getD i 0 := by
  obtain ⟨h0, h1, _, h2⟩ := h
  rcases h2 with h2 | h2
  · omega
  · exact Int.le_trans h2 (hs r.toNat i (by omega) hl)

end Mine
namespace Mine
theorem nodup_le {α : Type} [DecidableEq α] : ∀ (l m : List α), l.Nodup → (∀ x ∈ l, x ∈ m) → l.length ≤ m.length
  | [], _, _, _ => Nat.zero_le _
  | x :: l, m, hn, hs => by
    have hx : x ∈ m := hs x (.head _)
    have h1 : l.length ≤ (m.erase x).length := by
      refine nodup_le l _ (List.nodup_cons.mp hn).2 fun y hy => ?_
      have hne : y ≠ x := fun e => (List.nodup_cons.mp hn).1 (e ▸ hy)
      exact (List.mem_erase_of_ne hne).mpr (hs y (.tail _ hy))
    have h2 := List.length_erase_of_mem hx
    have h3 : 0 < m.length := List.length_pos_of_mem hx
    simp only [List.length_cons]
    omega
theorem pairs_le {ps : List (Nat × Nat)} {a b : Nat} (hn : ps.Nodup) (h : ∀ t ∈ ps, t.1 < a ∧ t.2 < b) : ps.length ≤ a * b := by
  have := nodup_le ps ((List.range a).flatMap fun i => (List.range b).map fun j => (i, j)) hn (fun t ht => by
    obtain ⟨h1, h2⟩ := h t ht
    exact List.mem_flatMap.mpr ⟨t.1, List.mem_range.mpr h1, List.mem_map.mpr ⟨t.2, List.mem_range.mpr h2, rfl⟩⟩)
  refine Nat.le_trans this ?_
  have e : ∀ n : Nat, ((List.range n).map fun _ => b).sum = n * b := by
    intro n
    induction n with
    | zero => simp
    | succ n ih => rw [List.range_succ, List.map_append, List.sum_append, ih]; simp [Nat.succ_mul]
  rw [List.length_flatMap]
  simp only [List.length_map, List.length_range]
  exact Nat.le_of_eq (e a)

def put (t : List Int) (r x : Int) : List Int := if r = t.length then t ++ [x] else t.set r.toNat x
theorem put_app {t : List Int} {r x : Int} (h : r = t.length) : t ++ [x] = put t r x := by rw [put, if_pos h]
theorem put_set {t : List Int} {r x : Int} (h : r ≠ t.length) : t.set r.toNat x = put t r x := by rw [put, if_neg h]
theorem put_getD {t : List Int} {r x : Int} (h0 : 0 ≤ r) (h1 : r ≤ t.length) (i : Nat) : (put t r x).getD i 0 = if i = r.toNat then x else t.getD i 0 := by
  unfold put
  split
  · rename_i h
    have e : r.toNat = t.length := by omega
    rw [e]
    simp only [List.getD_eq_getElem?_getD]
    by_cases hi : i < t.length
    · rw [List.getElem?_append_left hi, if_neg (by omega)]
    · by_cases hj : i = t.length
      · subst hj; simp
      · rw [if_neg hj, List.getElem?_eq_none (by simp; omega), List.getElem?_eq_none (by omega)]
  · rename_i h
    have e : r.toNat < t.length := by omega
    simp only [List.getD_eq_getElem?_getD, List.getElem?_set]
    by_cases hj : r.toNat = i
    · subst hj; simp [e]
    · simp [hj, Ne.symm hj]
theorem put_len {t : List Int} {r x : Int} (h0 : 0 ≤ r) (h1 : r ≤ t.length) : t.length ≤ (put t r x).length ∧ (put t r x).length ≤ t.length + 1 ∧ r.toNat < (put t r x).length ∧ ∀ i, i < (put t r x).length → i = r.toNat ∨ i < t.length := by
  unfold put
  split
  · rename_i h
    simp only [List.length_append, List.length_cons, List.length_nil]
    exact ⟨by omega, by omega, by omega, fun i hi => by omega⟩
  · simp only [List.length_set]
    exact ⟨by omega, by omega, by omega, fun i hi => by omega⟩
theorem put_srt {t : List Int} {r x : Int} (hs : Srt t) (h : BR t x r) : Srt (put t r x) := by
  obtain ⟨a, b, c, d⟩ := put_len (x := x) h.1 h.2.1
  intro i j hij hj
  rw [put_getD h.1 h.2.1, put_getD h.1 h.2.1]
  have h0 := h.1
  by_cases e1 : i = r.toNat
  · by_cases e2 : j = r.toNat
    · simp [e1, e2]
    · rw [if_pos e1, if_neg e2]
      exact Int.le_of_lt (h.hi hs (by omega) (by have := d j hj; omega))
  · by_cases e2 : j = r.toNat
    · rw [if_neg e1, if_pos e2]
      exact h.lo hs (by omega)
    · rw [if_neg e1, if_neg e2]
      exact hs i j hij (by have := d j hj; omega)
theorem put_srtS {t : List Int} {r x : Int} (hs : SrtS t) (h : BL t x r) : SrtS (put t r x) := by
  obtain ⟨a, b, c, d⟩ := put_len (x := x) h.1 h.2.1
  intro i j hij hj
  rw [put_getD h.1 h.2.1, put_getD h.1 h.2.1]
  have h0 := h.1
  by_cases e1 : i = r.toNat
  · rw [if_pos e1, if_neg (by omega)]
    have := h.hi hs.srt (i := r.toNat) (by omega) (by have := d j hj; omega)
    exact Int.lt_of_le_of_lt this (hs r.toNat j (by omega) (by have := d j hj; omega))
  · by_cases e2 : j = r.toNat
    · rw [if_neg e1, if_pos e2]
      exact h.lo hs.srt (by omega)
    · rw [if_neg e1, if_neg e2]
      exact hs i j hij (by have := d j hj; omega)

def Inv (pre level falls : List Int) : Prop := Srt level ∧ SrtS falls ∧ ∃ ps : List (Nat × Nat × Int), ps.length = pre.length ∧ (ps.map fun t => (t.1, t.2.1)).Nodup ∧
  ∀ t ∈ ps, t.1 < level.length ∧ t.2.1 < falls.length ∧ level.getD t.1 0 ≤ t.2.2 ∧ falls.getD t.2.1 0 ≤ 0 - t.2.2
theorem inv_start : (([] : List Int).length ≤ ([] : List Int).length ∧ ([] : List Int).length ≤ ([] : List Int).length) ∧ Inv [] [] [] :=
  ⟨⟨Nat.le_refl _, Nat.le_refl _⟩, fun _ _ _ h => absurd h (Nat.not_lt_zero _), fun _ _ _ h => absurd h (Nat.not_lt_zero _), [], rfl, List.Pairwise.nil, fun _ h => nomatch h⟩
theorem inv_step {pre level falls L F : List Int} {x r q : Int} (eL : L = put level r x) (eF : F = put falls q (0 - x)) (h1 : level.length ≤ pre.length) (h2 : falls.length ≤ pre.length) (h : Inv pre level falls) (hr : BR level x r) (hq : BL falls (0 - x) q) :
    (L.length ≤ (pre ++ [x]).length ∧ F.length ≤ (pre ++ [x]).length) ∧ Inv (pre ++ [x]) L F := by
  subst eL eF
  obtain ⟨hs, ht, ps, hl, hn, hp⟩ := h
  obtain ⟨a1, b1, c1, d1⟩ := put_len (x := x) hr.1 hr.2.1
  obtain ⟨a2, b2, c2, d2⟩ := put_len (x := 0 - x) hq.1 hq.2.1
  have hr0 := hr.1
  have hq0 := hq.1
  refine ⟨by rw [List.length_append, List.length_singleton]; omega, put_srt hs hr, put_srtS ht hq, ps ++ [(r.toNat, q.toNat, x)], by simp [hl], ?_, ?_⟩
  · rw [List.map_append, List.nodup_append]
    refine ⟨hn, by simp, ?_⟩
    intro t ht' u hu e
    simp only [List.map_cons, List.map_nil, List.mem_singleton] at hu
    subst e
    obtain ⟨v, hv, e⟩ := List.mem_map.mp ht'
    rw [hu] at e
    obtain ⟨e1, e2⟩ := Prod.mk.inj e
    obtain ⟨p1, p2, p3, p4⟩ := hp v hv
    by_cases hx : v.2.2 ≤ x
    · have := hr.hi hs (i := v.1) (by omega) p1
      omega
    · have := hq.hi ht.srt (i := v.2.1) (by omega) p2
      omega
  · intro t ht'
    rcases List.mem_append.mp ht' with ht' | ht'
    · obtain ⟨p1, p2, p3, p4⟩ := hp t ht'
      refine ⟨by omega, by omega, ?_, ?_⟩
      · rw [put_getD hr.1 hr.2.1]
        split
        · rename_i e
          have := hr.hi hs (i := t.1) (by omega) p1
          omega
        · exact p3
      · rw [put_getD hq.1 hq.2.1]
        split
        · rename_i e
          have := hq.hi ht.srt (i := t.2.1) (by omega) p2
          omega
        · exact p4
    · have e := List.mem_singleton.mp ht'
      subst e
      refine ⟨c1, c2, ?_, ?_⟩
      · rw [put_getD hr.1 hr.2.1, if_pos rfl]; exact Int.le_refl _
      · rw [put_getD hq.1 hq.2.1, if_pos rfl]; exact Int.le_refl _
theorem inv_end {pre level falls : List Int} (h : Inv pre level falls) : (pre.length : Int) ≤ (level.length : Int) * (falls.length : Int) := by
  obtain ⟨_, _, ps, hl, hn, hp⟩ := h
  have := pairs_le hn (a := level.length) (b := falls.length) (fun t ht => by
    obtain ⟨v, hv, rfl⟩ := List.mem_map.mp ht
    exact ⟨(hp v hv).1, (hp v hv).2.1⟩)
  rw [List.length_map, hl] at this
  exact_mod_cast this
end Mine
namespace Mine
open_top hd for PySem.Challenge.rw_cy0002_04
end Mine
namespace Mine
theorem bisR : ClaimOf hd (fun prog w K p loose mean mg mb => BisTells BR prog w K p loose mean mg mb 23) := by
  unfold ClaimOf
  k_fill
  intro w mean mg mb
  unfold BisTells
  intro dp un gd cn cs a ccd cl outer A₀ base h₀ L m news s l vs ns nn x tk Q E B F X N T hk hl hi hfit hd hu hret
  replace N := news_dup N hl
  clear hl
  refine wpAny_call ?_
  k_with_none
  k_with "exec While Compare cons nil" => k_while_given ["a", "x"] (fun a x _ lo hi => (0 ≤ lo ∧ lo ≤ hi ∧ hi ≤ (a.length : Int)) ∧ WR a x lo hi) (fun _ _ _ lo hi => (hi - lo).toNat) "lo" "hi"
  k_with "state" => first | exact wr_start _ _ | exact wr_hi (by assumption) (by assumption) (by assumption) (by assumption) (by assumption) | exact wr_lo (by assumption) (by assumption) (by assumption) (by assumption) (by assumption)
  k_with "measure" => first | exact mid_lo (by assumption) | exact mid_hi (by assumption)
  k_dflt (refine' code_def ?k1 ?k2 ?k3 ?k4 ?k5 ?kA ?kF ?kK ?k6 ?k7 ?k8 ?k9 ?kB ?_ ?c2 ?c3 ?c4 ?c5; (case kA => exact rfl); (case kF => exact rfl); (case kK => assumption); (case k1 => k_asm); (case k2 => k_asm); (case k3 => k_asm); (case k4 => k_asm); (case k5 => k_asm); (case k6 => k_is); (case k7 => k_is); (case k8 => ktr_room); (case k9 => (refine' kp_binds ?kx ?ke; (case kx => k_in); (case ke => exact fun _ => rfl))); (case c5 => decide); (case kB => exact locs rfl); (case c2 => exact rfl); (case c3 => exact rfl); (case c4 => exact rfl); k_whole; intro g' L' h' FG' F' N' B' X' T'; (try dsimp only); (try k_lift B'); (try k_fold))
  k_steps
  all_goals exact bis_ret (Q := Q) (s := s) (rel := BR) hret (br_end (by assumption) (by assumption) (by assumption) (by assumption) (by assumption)) (by assumption) (by assumption)
theorem bisL : ClaimOf hd (fun prog w K p loose mean mg mb => BisTells BL prog w K p loose mean mg mb 32) := by
  unfold ClaimOf
  k_fill
  intro w mean mg mb
  unfold BisTells
  intro dp un gd cn cs a ccd cl outer A₀ base h₀ L m news s l vs ns nn x tk Q E B F X N T hk hl hi hfit hd hu hret
  replace N := news_dup N hl
  clear hl
  refine wpAny_call ?_
  k_with_none
  k_with "exec While Compare cons nil" => k_while_given ["a", "x"] (fun a x _ lo hi => (0 ≤ lo ∧ lo ≤ hi ∧ hi ≤ (a.length : Int)) ∧ WL a x lo hi) (fun _ _ _ lo hi => (hi - lo).toNat) "lo" "hi"
  k_with "state" => first | exact wl_start _ _ | exact wl_hi (by assumption) (by assumption) (by assumption) (by assumption) (by assumption) | exact wl_lo (by assumption) (by assumption) (by assumption) (by assumption) (by assumption)
  k_with "measure" => first | exact mid_lo (by assumption) | exact mid_hi (by assumption)
  k_dflt (refine' code_def ?k1 ?k2 ?k3 ?k4 ?k5 ?kA ?kF ?kK ?k6 ?k7 ?k8 ?k9 ?kB ?_ ?c2 ?c3 ?c4 ?c5; (case kA => exact rfl); (case kF => exact rfl); (case kK => assumption); (case k1 => k_asm); (case k2 => k_asm); (case k3 => k_asm); (case k4 => k_asm); (case k5 => k_asm); (case k6 => k_is); (case k7 => k_is); (case k8 => ktr_room); (case k9 => (refine' kp_binds ?kx ?ke; (case kx => k_in); (case ke => exact fun _ => rfl))); (case c5 => decide); (case kB => exact locs rfl); (case c2 => exact rfl); (case c3 => exact rfl); (case c4 => exact rfl); k_whole; intro g' L' h' FG' F' N' B' X' T'; (try dsimp only); (try k_lift B'); (try k_fold))
  k_steps
  all_goals exact bis_ret (Q := Q) (s := s) (rel := BL) hret (bl_end (by assumption) (by assumption) (by assumption) (by assumption) (by assumption)) (by assumption) (by assumption)
end Mine
namespace Mine
local macro_rules | `(tactic| walk_at "call ref") => `(tactic| (
  k_here
  k_dflt (
    (first
      | ((with_reducible show wpAny _ _ (call (Value.ref 23) _) _ _ _); refine' bis_use ?B ?F ?X ?N ?T ?hk ?hm ?hi ?hf (bisR.at _ _ _ _) ?hd ?hu ?_)
      | ((with_reducible show wpAny _ _ (call (Value.ref 32) _) _ _ _); refine' bis_use ?B ?F ?X ?N ?T ?hk ?hm ?hi ?hf (bisL.at _ _ _ _) ?hd ?hu ?_))
    (case B => k_asm)
    (case F => k_asm)
    (case X => k_asm)
    (case N => k_asm)
    (case T => k_asm)
    (case hk => exact rfl)
    (case hm => k_mem)
    (case hi => l_ints)
    (case hf => l_fact)
    (case hd => ktr_room)
    (case hu => ktr_units)
    (intro r9 t9 h9 tk9 hB9 F9 N9)
    (have hB0 := hB9.1)
    (have hB1 := hB9.2.1)
    (try dsimp only)
    (try k_fold)
    )))
theorem t : PySem.Challenge.rw_cy0002_04.Holds := hd (by
  k_with_none
  (k_with "pyIter ref" => k_state (fun pre level falls => (level.length ≤ pre.length ∧ falls.length ≤ pre.length) ∧ Inv pre level falls) "level" "falls")
  (k_with "state" => first | exact inv_start | exact inv_step (by first | exact put_app (by assumption) | exact put_set (by assumption)) (by first | exact put_app (by assumption) | exact put_set (by assumption)) (by assumption) (by assumption) (by assumption) (by assumption) (by assumption))
  (k_with "end" => exact bool_end (inv_end (by assumption)))
  k_go)
end Mine
theorem PySem.Challenge.cw_cy0002_04_holds : PySem.Challenge.rw_cy0002_04.Holds := by
  exact Mine.t

import PyProof.Rows.All
import Wide.All
import OpenK.AllK
import Wide.FinOn
import PySem.Challenge.RW_mq0442_01
open PySem PySem.W PyProof.Rows
set_option Elab.async false
set_option maxRecDepth 100000
set_option maxHeartbeats 8000000

open_top Mine.hd for PySem.Challenge.rw_mq0442_01

namespace Mine
theorem map_start {x : Str} {t u : Tok} {k : Int} {v : Value} : (fun y => if y = Str.ofString "lpos" then some v else List.lookup y [(Str.ofString "amount", Value.int k u), (Str.ofString "s", Value.str x t)]) = fun y => if y = Str.ofString "lpos" then some v else if y = Str.ofString "amount" then some (.int (k - ((0:Nat):Int)) u) else if y = Str.ofString "s" then some (.str x t) else none := by
  funext y
  by_cases h0 : y = Str.ofString "lpos"
  · rw [if_pos h0, if_pos h0]
  rw [if_neg h0, if_neg h0]
  by_cases h1 : y = Str.ofString "amount"
  · subst h1; simp
  · have h1' : (y == Str.ofString "amount") = false := beq_eq_false_iff_ne.mpr h1
    rw [List.lookup_cons, h1', if_neg h1]
    by_cases h2 : y = Str.ofString "s"
    · subst h2; simp
    · have h2' : (y == Str.ofString "s") = false := beq_eq_false_iff_ne.mpr h2
      rw [List.lookup_cons, h2', if_neg h2]; rfl

theorem lpos_ne_amount : Str.ofString "lpos" ≠ Str.ofString "amount" := by decide
theorem rpos_ne_amount : Str.ofString "rpos" ≠ Str.ofString "amount" := by decide
theorem map_turn {x : Str} {t tl ta tl' ta' : Tok} {k : Int} {l : Nat} : (fun y => if y = Str.ofString "amount" then some (Value.int (k - (l : Int) - 1) ta') else if y = Str.ofString "lpos" then some (.int ((l : Int) + 1) tl') else if y = Str.ofString "lpos" then some (.int (l : Int) tl) else if y = Str.ofString "amount" then some (.int (k - (l : Int)) ta) else if y = Str.ofString "s" then some (.str x t) else none)
    = fun y => if y = Str.ofString "lpos" then some (.int ((l + 1 : Nat) : Int) tl') else if y = Str.ofString "amount" then some (.int (k - ((l + 1 : Nat) : Int)) ta') else if y = Str.ofString "s" then some (.str x t) else none := by
  funext y
  by_cases h1 : y = Str.ofString "lpos"
  · have h2 : y ≠ Str.ofString "amount" := by rw [h1]; exact lpos_ne_amount
    rw [if_neg h2, if_pos h1, if_pos h1]; rfl
  · by_cases h2 : y = Str.ofString "amount"
    · rw [if_pos h2, if_neg h1, if_pos h2]
      have : k - (l : Int) - 1 = k - ((l + 1 : Nat) : Int) := by omega
      rw [this]
    · rw [if_neg h2, if_neg h1, if_neg h1, if_neg h2, if_neg h1, if_neg h2]
theorem map_turnR {m : Str → Option Value} {tl ta tl' ta' : Tok} {k n : Int} {r : Nat} : (fun y => if y = Str.ofString "amount" then some (Value.int (k - (r : Int) - 1) ta') else if y = Str.ofString "rpos" then some (.int (n - (r : Int) - 1) tl') else if y = Str.ofString "rpos" then some (.int (n - (r : Int)) tl) else if y = Str.ofString "amount" then some (.int (k - (r : Int)) ta) else m y)
    = fun y => if y = Str.ofString "rpos" then some (.int (n - ((r + 1 : Nat) : Int)) tl') else if y = Str.ofString "amount" then some (.int (k - ((r + 1 : Nat) : Int)) ta') else m y := by
  have e1 : k - (r : Int) - 1 = k - ((r + 1 : Nat) : Int) := by omega
  have e2 : n - (r : Int) - 1 = n - ((r + 1 : Nat) : Int) := by omega
  funext y
  by_cases h1 : y = Str.ofString "rpos"
  · have h2 : y ≠ Str.ofString "amount" := by rw [h1]; exact rpos_ne_amount
    rw [if_neg h2, if_pos h1, if_pos h1, e2]
  · by_cases h2 : y = Str.ofString "amount"
    · rw [if_pos h2, if_neg h1, if_pos h2, e1]
    · rw [if_neg h2, if_neg h1, if_neg h1, if_neg h2, if_neg h1, if_neg h2]
theorem map_startR {m : Str → Option Value} {tl ta : Tok} {k n : Int} (h : m (Str.ofString "amount") = some (.int k ta)) : (fun y => if y = Str.ofString "rpos" then some (Value.int n tl) else m y)
    = fun y => if y = Str.ofString "rpos" then some (.int (n - ((0 : Nat) : Int)) tl) else if y = Str.ofString "amount" then some (.int (k - ((0 : Nat) : Int)) ta) else m y := by
  have e1 : k - ((0 : Nat) : Int) = k := by omega
  have e2 : n - ((0 : Nat) : Int) = n := by omega
  rw [e1, e2]
  funext y
  by_cases h1 : y = Str.ofString "rpos"
  · rw [if_pos h1, if_pos h1]
  · rw [if_neg h1, if_neg h1]
    by_cases h2 : y = Str.ofString "amount"
    · rw [if_pos h2, h2, h]
    · rw [if_neg h2]

theorem strip_call {w : World} {mean : ExcName → Option Value} {mg mb : Str → Option Value}
    {dp un : Nat} {gd : Option (List Code)} {cn : Str} {cs : Scope} {a : Addr} {ccd : Value} {cl : List (Str × Addr)} {outer : List Env} {A₀ : Around} {base h₀ : Heap} {L : Addr} {m : Str → Option Value} {news : List (Addr × Obj)} {s : Shared} {Q E : Value → Shared → Prop}
    {x : Str} {t : Tok} {k : Int} {u : Tok} (p q : Nat)
    (B : Below A₀ base outer h₀) (F : Fr h₀ L s.heap m) (X : (Mine.hd.heap_39 w.params).In h₀) (N : News h₀ L s.heap news) (T : Top Mine.hd.view_39 (looseW Mine.hd.view_39 []) mean mg mb h₀) (hk : cs.kind = .function)
    (hd : dp + 3 < recursionLimit)
    (hlen : x.length ≤ 1000) (hp : p ≤ x.length)
    (hb : ∀ i : Nat, i < p → (Txt.item x (i : Int) == Str.ofString " ") = true)
    (hnb : p < x.length → (Txt.item x (p : Int) == Str.ofString " ") = false)
    (hq : p < x.length → p + q < x.length)
    (hbq : p < x.length → ∀ i : Nat, i < q → (Txt.item x ((x.length : Int) - 1 - i) == Str.ofString " ") = true)
    (hnbq : p < x.length → (Txt.item x ((x.length : Int) - 1 - q) == Str.ofString " ") = false)
    (ret : ∀ (l r : Nat) t h' tk', l ≤ p → r ≤ q → (k < 0 ∨ ((l + r : Nat) : Int) ≤ k) → ((k = l ∧ r = 0) ∨ (p < x.length ∧ l = p ∧ (k = ((l + r : Nat) : Int) ∨ r = q))) →
      Fr h₀ L h' m → News h₀ L h' news → Q (.str (Txt.slice x (some (l : Int)) (some ((x.length : Int) - 1 - r + 1))) t) { s with heap := h', toks := tk' })
    (rse : p = x.length → (k < 0 ∨ (p : Int) < k) → ∀ e g h' tk', Fr h₀ L g m → g.UpToSlots h' → RaisedN base (envX cn cs L a ccd cl :: outer) e (.type "IndexError") news h' → E (.ref e) { s with heap := h', toks := tk' }) :
    wpAny (model PySem.Challenge.rw_mq0442_01.row.prog w) (ktrTop dp un gd cn cs L a ccd cl outer) (call (.ref 21) [.str x t, .int k u]) Q E s := by
  w_top off
  revert X
  k_fill
  intro X
  refine wpAny_call ?_
  k_dflt (refine' code_def B F X N T ?kA ?kF ?kK ?k6 ?k7 ?k8 ?k9 ?kB ?_ ?c2 ?c3 ?c4 ?c5; (case kA => exact rfl); (case kF => exact rfl); (case kK => exact hk); (case k6 => k_is); (case k7 => k_is); (case k8 => (show dp < recursionLimit; omega)); (case k9 => exact BindsTo.of_eq rfl); (case c5 => decide); (case kB => exact locs rfl); (case c2 => exact rfl); (case c3 => exact rfl); (case c4 => exact rfl))
  intro g1 L1 h1 FG1 F1 N1 B1 X1 T1
  (try dsimp only)
  (try k_fold)
  iterate 5 walk1
  dsimp only
  iterate 2 walk1
  rename Fr _ _ _ _ => F2
  rename News _ _ _ _ => N2
  refine wpAny_mono (Q := fun f s' => f = Flow.next ∧ ∃ (l : Nat) (tl ta : Tok) (h₁ : Heap) (tk₁ : Nat), s' = { s with heap := h₁, toks := tk₁ } ∧ l ≤ p ∧ (k < 0 ∨ (l : Int) ≤ k) ∧ (k = l ∨ (p < x.length ∧ l = p)) ∧ News g1 L1 h₁ news ∧ Fr g1 L1 h₁ (fun y => if y = Str.ofString "lpos" then some (.int (l : Int) tl) else if y = Str.ofString "amount" then some (.int (k - l) ta) else if y = Str.ofString "s" then some (.str x t) else none)) ?_ ?_ (fun _ _ e => e)
  · refine While_inv2 (J := fun n m₁ news₁ => news₁ = news ∧ ∃ (l : Nat) (tl ta : Tok), l ≤ p ∧ (k < 0 ∨ (l : Int) ≤ k) ∧ n = p - l ∧ m₁ = fun y => if y = Str.ofString "lpos" then some (.int (l : Int) tl) else if y = Str.ofString "amount" then some (.int (k - l) ta) else if y = Str.ofString "s" then some (.str x t) else none) (n₀ := p) F2 N2 ?_ ?_ ?_
    · with_unfolding_all exact ⟨rfl, 0, _, u, Nat.zero_le _, by omega, rfl, map_start⟩
    · rintro n m₁ news₁ h₁ tk₁ F₁ N₁ ⟨rfl, l, tl, ta, hl, hkl, rfl, rfl⟩
      iterate 4 walk1
      split
      · rename_i hne
        have hne : k - (l : Int) ≠ 0 := by simpa using hne
        iterate 5 walk1
        refine item_str_or rfl (fitsSsize_of (N := 9223372036854775808) (by omega) (by omega) (Int.le_refl _)) ?_ ?_
        · intro hout h' tk e hx
          have hpl : l = p ∧ p = x.length := by omega

          show wpAny _ _ (leaving _ _) _ _ _
          refine leave_newK B1 hx F₁ N₁ ?_
          intro h'' hR hU
          exact rse hpl.2 (by omega) e _ h'' _ (by assumption) hU hR
        · intro _ hin
          iterate 3 walk1
          by_cases hlp : l < p
          · rw [if_pos (hb l hlp)]
            walk1
            rw [if_pos rfl]
            repeat walk1
            exact ⟨_, _, _, _, p - (l + 1), rfl, by assumption, by assumption, by omega, rfl, l + 1, _, _, by omega, by omega, rfl, map_turn⟩
          · have hlp' : l = p := by omega
            have hplen : p < x.length := by omega
            rw [if_neg (by rw [hlp', hnb hplen]; decide), if_neg (by decide)]
            exact ⟨rfl, l, tl, ta, h₁, _, rfl, hl, hkl, .inr ⟨hplen, hlp'⟩, N₁, F₁⟩
      · rename_i hne
        have hne : k - (l : Int) = 0 := by simpa using hne
        rw [if_neg (by decide)]
        exact ⟨rfl, l, tl, ta, h₁, tk₁, rfl, hl, hkl, .inl (by omega), N₁, F₁⟩
    · walk1
  · rintro f s' ⟨rfl, l, tl, ta, h₁, tk₁, rfl, hl, hkl, hex, N3, F3⟩
    dsimp only
    iterate 15 walk1

    rename Fr _ _ _ _ => F4
    rename News _ _ _ _ => N4
    refine wpAny_mono (Q := fun f s' => f = Flow.next ∧ ∃ (r : Nat) (tl' ta' : Tok) (h₁ : Heap) (tk₁ : Nat), s' = { s with heap := h₁, toks := tk₁ } ∧ r ≤ q ∧ (k < 0 ∨ ((l + r : Nat) : Int) ≤ k) ∧ ((k = l ∧ r = 0) ∨ (p < x.length ∧ l = p ∧ (k = ((l + r : Nat) : Int) ∨ r = q))) ∧ News g1 L1 h₁ news ∧ Fr g1 L1 h₁ (fun y => if y = Str.ofString "rpos" then some (.int ((x.length : Int) - 1 - r) tl') else if y = Str.ofString "amount" then some (.int (k - l - r) ta') else if y = Str.ofString "lpos" then some (.int (l : Int) tl) else if y = Str.ofString "amount" then some (.int (k - l) ta) else if y = Str.ofString "s" then some (.str x t) else none)) ?_ ?_ (fun _ _ e => e)
    · refine While_inv2 (J := fun n m₁ news₁ => news₁ = news ∧ ∃ (r : Nat) (tl' ta' : Tok), r ≤ q ∧ (k < 0 ∨ ((l + r : Nat) : Int) ≤ k) ∧ (r = 0 ∨ (p < x.length ∧ l = p)) ∧ n = q - r ∧ m₁ = fun y => if y = Str.ofString "rpos" then some (.int ((x.length : Int) - 1 - r) tl') else if y = Str.ofString "amount" then some (.int (k - l - r) ta') else if y = Str.ofString "lpos" then some (.int (l : Int) tl) else if y = Str.ofString "amount" then some (.int (k - l) ta) else if y = Str.ofString "s" then some (.str x t) else none) (n₀ := q) F4 N4 ?_ ?_ ?_
      · exact ⟨rfl, 0, _, ta, Nat.zero_le _, by omega, .inl rfl, rfl, map_startR rfl⟩
      · rintro n m₁ news₁ h₁ tk₁ F₁ N₁ ⟨rfl, r, tl', ta', hr, hkr, hr0, rfl, rfl⟩
        iterate 4 walk1
        split
        · rename_i hne
          have hne : k - (l : Int) - r ≠ 0 := by simpa using hne
          have hpl : p < x.length ∧ l = p := by omega
          have hq' := hq hpl.1
          iterate 5 walk1
          refine item_str_or rfl (fitsSsize_of (N := 9223372036854775808) (by omega) (by omega) (Int.le_refl _)) ?_ ?_
          · intro hout
            exfalso
            omega
          · intro _ hin
            iterate 3 walk1
            by_cases hlp : r < q
            · rw [if_pos (hbq hpl.1 r hlp)]
              walk1
              rw [if_pos rfl]
              repeat walk1
              exact ⟨_, _, _, _, q - (r + 1), rfl, by assumption, by assumption, by omega, rfl, r + 1, _, _, by omega, by omega, .inr hpl, rfl, map_turnR⟩
            · have hlp' : r = q := by omega
              rw [if_neg (by rw [hlp', hnbq hpl.1]; decide), if_neg (by decide)]
              exact ⟨rfl, r, _, _, h₁, _, rfl, hr, hkr, .inr ⟨hpl.1, hpl.2, .inr hlp'⟩, N₁, F₁⟩
        · rename_i hne
          have hne : k - (l : Int) - r = 0 := by simpa using hne
          rw [if_neg (by decide)]
          exact ⟨rfl, r, _, _, h₁, tk₁, rfl, hr, hkr, by omega, N₁, F₁⟩
      · walk1
    · rintro f s' ⟨rfl, r, tl', ta', h₂, tk₂, rfl, hr, hkr, hfin, N5, F5⟩
      dsimp only
      repeat walk1
      exact ret l r _ _ _ hl hr hkr hfin (by assumption) (by assumption)

def greatest (ns : List Int) : Int := ns.foldl (fun g n => max 0 (g + n)) 0
theorem greatest_snoc (ns : List Int) (n : Int) : greatest (ns ++ [n]) = max 0 (greatest ns + n) := by
  unfold greatest
  rw [List.foldl_append]
  rfl
theorem foldl_above : ∀ (ns : List Int) (g : Int), g + ns.sum ≤ ns.foldl (fun g n => max 0 (g + n)) g ∧ ∀ k, 1 ≤ k → k ≤ ns.length → (ns.drop k).sum ≤ ns.foldl (fun g n => max 0 (g + n)) g
  | [], g => ⟨by simp, fun k h1 h2 => by simp at h2; omega⟩
  | n :: r, g => by
    obtain ⟨h1, h2⟩ := foldl_above r (max 0 (g + n))
    rw [List.foldl_cons, List.sum_cons]
    refine ⟨by omega, fun k hk hl => ?_⟩
    cases k with
    | zero => omega
    | succ k =>
      rw [List.drop_succ_cons]
      by_cases h0 : k = 0
      · subst h0; rw [List.drop_zero]; omega
      · exact h2 k (by omega) (by simpa using hl)
theorem foldl_is : ∀ (ns : List Int) (g : Int), ns.foldl (fun g n => max 0 (g + n)) g = g + ns.sum ∨ ∃ k, 1 ≤ k ∧ k ≤ ns.length ∧ ns.foldl (fun g n => max 0 (g + n)) g = (ns.drop k).sum
  | [], g => .inl (by simp)
  | n :: r, g => by
    rw [List.foldl_cons, List.sum_cons]
    rcases foldl_is r (max 0 (g + n)) with h | ⟨k, h1, h2, h3⟩
    · rw [h]
      by_cases h0 : g + n ≤ 0
      · refine .inr ⟨1, Nat.le_refl _, by simp, ?_⟩
        rw [List.drop_succ_cons, List.drop_zero]
        omega
      · exact .inl (by omega)
    · exact .inr ⟨k + 1, by omega, by simpa using h2, by rw [h3, List.drop_succ_cons]⟩
theorem greatest_is {ns : List Int} {M : Int} (f : Int → Int) (hf : ∀ k : Nat, k ≤ ns.length → f (k : Int) = (ns.drop k).sum)
    (hm : M ∈ (rangeKs 0 ((ns.length : Int) + 1 - 0).toNat).map f) (ha : ∀ a, a ∈ (rangeKs 0 ((ns.length : Int) + 1 - 0).toNat).map f → a ≤ M) : M = greatest ns := by
  have inn : ∀ k : Nat, k ≤ ns.length → (ns.drop k).sum ≤ M := fun k hk => by
    refine ha _ (List.mem_map.mpr ⟨(k : Int), ?_, hf k hk⟩)
    exact List.mem_map.mpr ⟨k, List.mem_range.mpr (by omega), by omega⟩
  obtain ⟨i, hi, rfl⟩ := List.mem_map.mp hm
  obtain ⟨k, hk, rfl⟩ := List.mem_map.mp hi
  have hk' : k ≤ ns.length := by have := List.mem_range.mp hk; omega
  have e : (0 : Int) + (k : Int) = (k : Int) := by omega
  rw [e, hf k hk'] at inn ⊢
  have a1 := foldl_above ns 0
  have a2 := foldl_is ns 0
  unfold greatest
  refine Int.le_antisymm ?_ ?_
  · by_cases h0 : k = 0
    · subst h0; rw [List.drop_zero]; have := a1.1; omega
    · exact a1.2 k (by omega) hk'
  · rcases a2 with h | ⟨j, h1, h2, h3⟩
    · rw [h]; have := inn 0 (Nat.zero_le _); rw [List.drop_zero] at this; omega
    · rw [h3]; exact inn j h2
theorem greatest_call {w : World} {mean : ExcName → Option Value} {mg mb : Str → Option Value}
    {dp un : Nat} {gd : Option (List Code)} {cn : Str} {cs : Scope} {a : Addr} {ccd : Value} {cl : List (Str × Addr)} {outer : List Env} {A₀ : Around} {base h₀ : Heap} {L : Addr} {m : Str → Option Value} {news : List (Addr × Obj)} {s : Shared} {Q E : Value → Shared → Prop}
    {l : Addr} {vs : List Value} {ns : List Int} {n : Nat}
    (B : Below A₀ base outer h₀) (F : Fr h₀ L s.heap m) (X : (Mine.hd.heap_39 w.params).In h₀) (N0 : News h₀ L s.heap news) (hm : (l, listOf vs.toArray n) ∈ news) (T : Top Mine.hd.view_39 (looseW Mine.hd.view_39 []) mean mg mb h₀) (hk : cs.kind = .function)
    (hd : dp + 3 < recursionLimit) 
    (hi : IntsAre vs ns) (hlen : ns.length ≤ 1000)
    (ret : ∀ t h' tk', Fr h₀ L h' m → News h₀ L h' news → Q (.int (greatest ns) t) { s with heap := h', toks := tk' }) :
    wpAny (model PySem.Challenge.rw_mq0442_01.row.prog w) (ktrTop dp un gd cn cs L a ccd cl outer) (call (.ref 26) [.ref l]) Q E s := by
  have N : News h₀ L s.heap ((l, listOf vs.toArray n) :: news) := fun p hp => by
    rcases List.mem_cons.mp hp with rfl | hp
    · exact N0 _ hm
    · exact N0 _ hp
  w_top off
  revert X
  k_fill
  intro X
  refine wpAny_call ?_
  k_dflt (refine' code_defC B F X N T ?kA ?kF ?kK ?k6 ?k7 ?k8 ?k9 ?kB ?kC ?_ ?c2 ?c3 ?c4; (case kA => exact rfl); (case kF => exact rfl); (case kK => exact hk); (case k6 => k_is); (case k7 => k_is); (case k8 => (show dp < recursionLimit; omega)); (case k9 => exact BindsTo.of_eq rfl); (case kB => exact rfl); (case kC => decide); (case c2 => exact rfl); (case c3 => exact rfl); (case c4 => exact rfl))
  intro g1 L1 h1 tk1 cells FG1 F1 N1 Y1 B1 X1 T1 lt1
  k_lt lt1
  k_cells Y1
  simp only [List.cons_append, List.nil_append] at N1
  (try dsimp only)
  (try k_fold)

  repeat walk1
  rename Fr _ _ _ _ => F5
  rename News _ _ _ _ => N5
  rename IntsAre _ _ => I5
  refine kso_max F5 N5 (News.isList N5 (List.Mem.head _)) I5 ?_ rfl ?_
  · rw [List.length_map, rangeKs_length]; omega
  intro h6 M t6 tk6 F6 N6 hM hA
  have hG : M = greatest ns := by
    refine greatest_is _ ?_ hM hA
    intro k hk
    have e : ((k : Int)).toNat = k := by omega
    simp only [e, List.length_drop]
    rw [if_pos ⟨trivial, by omega⟩]
  subst hG
  repeat walk1
  exact ret _ _ _ (by assumption) (fun p hp => by
    rename News _ _ _ _ => N7
    exact N7 p (.tail _ (.tail _ (.tail _ hp))))

/-- the text between: not empty, short, no blank at its ends -/
def MidOk (x : Str) : Prop := 1 ≤ x.length ∧ x.length ≤ 6 ∧ (Txt.item x 0 == Str.ofString " ") = false ∧ (Txt.item x ((x.length : Int) - 1) == Str.ofString " ") = false
theorem mid_pick {t1 t2 t3 t4 : Tok} {k : Int} (h0 : 0 ≤ k) (h4 : k < 4) : ∃ (j : Nat) (x : Str) (t : Tok), seqIndex? k 4 = some j ∧ [Value.str (Str.ofString "7") t1, Value.str (Str.ofString "-1 234") t2, Value.str (Str.ofString "(0)") t3, Value.str (Str.ofString "1,5 x") t4][j]? = some (.str x t) ∧ MidOk x := by
  have h : k = 0 ∨ k = 1 ∨ k = 2 ∨ k = 3 := by omega
  rcases h with rfl | rfl | rfl | rfl
  · exact ⟨0, _, _, by decide, rfl, by unfold MidOk; decide +kernel⟩
  · exact ⟨1, _, _, by decide, rfl, by unfold MidOk; decide +kernel⟩
  · exact ⟨2, _, _, by decide, rfl, by unfold MidOk; decide +kernel⟩
  · exact ⟨3, _, _, by decide, rfl, by unfold MidOk; decide +kernel⟩
theorem tail_mid {prog : Program} {w : World} {A : Around} {E : Value → Shared → Prop} {s : Shared} {value slice : Expr} {a : Addr} {k : Int} {u t1 t2 t3 t4 : Tok} {Q : Value → Shared → Prop}
    (ht : IsTup s.heap a [Value.str (Str.ofString "7") t1, Value.str (Str.ofString "-1 234") t2, Value.str (Str.ofString "(0)") t3, Value.str (Str.ofString "1,5 x") t4].toArray) (h0 : 0 ≤ k) (h4 : k < 4)
    (h : ∀ x t, MidOk x → Q (.str x t) s)
    (hs : subscripted slice false (.ref a) (.int k u) = operate [.ref a, .int k u] (getItem (.ref a) (.int k u)) := by with_unfolding_all rfl) :
    wpAny (model prog w) A (subscriptTail value slice (.ref a) (.int k u)) Q E s := by
  obtain ⟨j, x, t, hj, hx, hM⟩ := mid_pick (t1 := t1) (t2 := t2) (t3 := t3) (t4 := t4) h0 h4
  exact item_tupleT ht (by omega) (by omega) hj hx (h x t hM) hs

abbrev tup3 (a b c : Int) (t u v : Tok) : Obj := { cls := .type "tuple", data := .seq #[.int a t, .int b u, .int c v] }
/-- the ledger bears these values as tuples of three ints -/
def Trips (news : List (Addr × Obj)) : List Value → List (Int × Int × Int) → Prop
  | [], [] => True
  | v :: vs, d :: ds => (∃ a t u z, v = .ref a ∧ (a, tup3 d.1 d.2.1 d.2.2 t u z) ∈ news) ∧ Trips news vs ds
  | _, _ => False
theorem Trips.mono {news news' : List (Addr × Obj)} (hs : ∀ p ∈ news, p ∈ news') : ∀ {vs : List Value} {ds : List (Int × Int × Int)}, Trips news vs ds → Trips news' vs ds
  | [], [], h => h
  | _ :: _, _ :: _, ⟨⟨a, t, u, z, e, hm⟩, r⟩ => ⟨⟨a, t, u, z, e, hs _ hm⟩, Trips.mono hs r⟩
  | [], _ :: _, h => h.elim
  | _ :: _, [], h => h.elim
theorem Trips.append {news : List (Addr × Obj)} : ∀ {vs ws : List Value} {ds es : List (Int × Int × Int)}, Trips news vs ds → Trips news ws es → Trips news (vs ++ ws) (ds ++ es)
  | [], _, [], _, _, k => k
  | _ :: _, _, _ :: _, _, ⟨h, r⟩, k => ⟨h, Trips.append r k⟩
  | [], _, _ :: _, _, h, _ => h.elim
  | _ :: _, _, [], _, h, _ => h.elim
theorem Trips.length {news : List (Addr × Obj)} : ∀ {vs : List Value} {ds : List (Int × Int × Int)}, Trips news vs ds → vs.length = ds.length
  | [], [], _ => rfl
  | _ :: _, _ :: _, ⟨_, r⟩ => by rw [List.length_cons, List.length_cons, Trips.length r]
  | [], _ :: _, h => h.elim
  | _ :: _, [], h => h.elim
theorem Trips.get {news : List (Addr × Obj)} : ∀ {vs : List Value} {ds : List (Int × Int × Int)} {i : Nat} {v : Value}, Trips news vs ds → vs[i]? = some v → ∃ d a t u z, ds[i]? = some d ∧ v = .ref a ∧ (a, tup3 d.1 d.2.1 d.2.2 t u z) ∈ news
  | v :: _, d :: _, 0, v', ⟨⟨a, t, u, z, e, hm⟩, _⟩, h => by
    have h' : v = v' := by simpa using h
    exact ⟨d, a, t, u, z, rfl, h' ▸ e, hm⟩
  | _ :: vs, _ :: ds, i + 1, v', ⟨_, r⟩, h => by
    have h' : vs[i]? = some v' := by simpa using h
    obtain ⟨d, a, t, u, z, e1, e2, hm⟩ := Trips.get r h'
    exact ⟨d, a, t, u, z, by simpa using e1, e2, hm⟩
  | [], [], _, _, _, h => by simp at h
  | [], _ :: _, _, _, h, _ => h.elim
  | _ :: _, [], _, _, h, _ => h.elim

theorem Trips.nil {news : List (Addr × Obj)} : Trips news [] [] := trivial
theorem Trips.cons {news : List (Addr × Obj)} {a : Addr} {x y z : Int} {t u v : Tok} {vs : List Value} {ds : List (Int × Int × Int)} (hm : (a, tup3 x y z t u v) ∈ news) (r : Trips news vs ds) : Trips news (.ref a :: vs) ((x, y, z) :: ds) := ⟨⟨a, t, u, v, rfl, hm⟩, r⟩
theorem news_sub {h₀ h : Heap} {L : Addr} {news news' : List (Addr × Obj)} (N : News h₀ L h news) (hs : ∀ p ∈ news', p ∈ news) : News h₀ L h news' := fun p hp => N p (hs p hp)
abbrev lstO (vs : List Value) (n : Nat) : Obj := { cls := .type "list", data := .seq vs.toArray n }
theorem add_led {prog : Program} {w : World} {A : Around} {E : Value → Shared → Prop} {s : Shared} {h₀ : Heap} {L l b : Addr} {m : Str → Option Value} {news : List (Addr × Obj)} {vs ws : List Value} {n n' : Nat} {Q : Value → Shared → Prop}
    (F : Fr h₀ L s.heap m) (N : News h₀ L s.heap news) (h1 : (l, lstO vs n) ∈ news) (h2 : (b, lstO ws n') ∈ news) (hsz : vs.length + ws.length ≤ 1000)
    (h : ∀ D h', Fr h₀ L h' m → News h₀ L h' ((D, lstO (vs ++ ws) 0) :: news) → (∀ p ∈ news, p.1 < D) → Q (.ref D) { s with heap := h' }) :
    wpAny (model prog w) A (binaryOp .Add (.ref l) (.ref b)) Q E s :=
  add_lists F N (News.isList N h1) (News.isList N h2) (fun h' F' N' => h _ h' F' N' fun p hp => Heap.lt_size (N p hp).1) (by rw [sizeLine_eq]; omega)

theorem add_led_int {prog : Program} {w : World} {A : Around} {E : Value → Shared → Prop} {s : Shared} {h₀ : Heap} {L l b : Addr} {m : Str → Option Value} {news : List (Addr × Obj)} {vs : List Value} {ns : List Int} {x : Int} {t : Tok} {n n' : Nat} {Q : Value → Shared → Prop}
    (F : Fr h₀ L s.heap m) (N : News h₀ L s.heap news) (h1 : (l, lstO vs n) ∈ news) (h2 : (b, lstO [Value.int x t] n') ∈ news) (hi : IntsAre vs ns) (hsz : ns.length ≤ 500)
    (h : ∀ D vs' h', Fr h₀ L h' m → News h₀ L h' ((D, lstO vs' 0) :: news) → (∀ p ∈ news, p.1 < D) → IntsAre vs' (ns ++ [x]) → Q (.ref D) { s with heap := h' }) :
    wpAny (model prog w) A (binaryOp .Add (.ref l) (.ref b)) Q E s :=
  add_led F N h1 h2 (by rw [hi.length, List.length_singleton]; omega) fun D h' F' N' lt => h D _ h' F' N' lt (hi.append (.cons x t .nil))
theorem pack4 {h₀ h : Heap} {L D a1 a2 a3 a4 : Addr} {e5 el : Addr × Obj} {x1 y1 z1 x2 y2 z2 x3 y3 z3 x4 y4 z4 : Int} {t1 u1 v1 t2 u2 v2 t3 u3 v3 t4 u4 v4 : Tok} {sv : List Value} {ds : List (Int × Int × Int)} {nw : List (Addr × Obj)}
    (N : News h₀ L h ((D, lstO (sv ++ [.ref a1, .ref a2, .ref a3, .ref a4]) 0) :: el :: (a4, tup3 x4 y4 z4 t4 u4 v4) :: (a3, tup3 x3 y3 z3 t3 u3 v3) :: (a2, tup3 x2 y2 z2 t2 u2 v2) :: (a1, tup3 x1 y1 z1 t1 u1 v1) :: e5 :: nw)) (htr : Trips nw sv ds) :
    ∃ sv8 nw8, News h₀ L h ((D, lstO sv8 0) :: nw8) ∧ Trips nw8 sv8 (ds ++ [(x1, y1, z1), (x2, y2, z2), (x3, y3, z3), (x4, y4, z4)]) := by
  refine ⟨_, _, N, Trips.append (Trips.mono (fun p hp => ?_) htr) (Trips.cons (t := t1) (u := u1) (v := v1) ?_ (Trips.cons (t := t2) (u := u2) (v := v2) ?_ (Trips.cons (t := t3) (u := u3) (v := v3) ?_ (Trips.cons (t := t4) (u := u4) (v := v4) ?_ Trips.nil))))⟩
  · exact .tail _ (.tail _ (.tail _ (.tail _ (.tail _ (.tail _ hp)))))
  · exact .tail _ (.tail _ (.tail _ (.tail _ (.head _))))
  · exact .tail _ (.tail _ (.tail _ (.head _)))
  · exact .tail _ (.tail _ (.head _))
  · exact .tail _ (.head _)

theorem off3_cons {I C D a : Addr} {o : Obj} {nw : List (Addr × Obj)} (h : LCg.Off3 I C D nw) (h1 : I < a) (h2 : C < a) (h3 : D < a) : LCg.Off3 I C D ((a, o) :: nw) := ⟨⟨Nat.ne_of_gt h1, Nat.ne_of_gt h2, Nat.ne_of_gt h3⟩, h⟩

theorem comp_trips {prog : Program} {w : World} {A : Around} {h₀ : Heap} {L : Addr} {m : Str → Option Value} {env : Env} {elt : Expr} {x : Str} {scope : Scope} {cl : List (Str × Addr)} {s : Shared} {Fin : List Value → List (Addr × Obj) → Prop} {news : List (Addr × Obj)}
    {vs : List Value} {ks : List Int} {ax : Addr} {n : Nat} (g : Int → Int × Int × Int) (hi : IntsAre vs ks) (hax : (ax, ({ cls := .type "list", data := .seq vs.toArray n } : Obj)) ∈ news)
    (turn : ∀ k t I oI C oC D m₂ ys h tk (E' : Value → Shared → Prop) nw, k ∈ ks → LCg.NsObj oC m₂ → m₂ x = some (.int k t) → Fr h₀ L h m → News h₀ L h ((I, oI) :: (C, oC) :: (D, LCg.lst ys) :: nw) →
      wpAny (model prog w) A (eval elt (compEnvC scope cl C env)) (fun y s₂ => ∃ h' tk' a t u z, s₂ = { s with heap := h', toks := tk' } ∧ y = .ref a ∧ Fr h₀ L h' m ∧ News h₀ L h' ((a, tup3 (g k).1 (g k).2.1 (g k).2.2 t u z) :: (I, oI) :: (C, oC) :: (D, LCg.lst ys) :: nw) ∧ I < a ∧ C < a ∧ D < a) E' { s with heap := h, toks := tk })
    (fin : ∀ ys nw, (∀ p ∈ news, p ∈ nw) → Trips nw ys (ks.map g) → Fin ys nw) :
    LCg.CompRest prog w A h₀ L m env elt x scope cl s (LCg.SrcAt h₀ ax vs.toArray) (fun i v => vs.toArray[i]? = some v) Fin vs.toArray.size 0 [] news := by
  have hks : vs.toArray.size = ks.length := by rw [List.size_toArray]; exact hi.length
  rw [hks]
  have key : ∀ (j i : Nat) (ys : List Value) nw, i + j = ks.length → (∀ p ∈ news, p ∈ nw) → Trips nw ys ((ks.take i).map g) → LCg.CompRest prog w A h₀ L m env elt x scope cl s (LCg.SrcAt h₀ ax vs.toArray) (fun i v => vs.toArray[i]? = some v) Fin j i ys nw := by
    intro j
    induction j with
    | zero =>
      intro i ys nw hi' hsub hy
      have e : i = ks.length := by omega
      subst e
      rw [List.take_length] at hy
      exact LCg.CompRest.zero (fin ys nw hsub hy)
    | succ j ih =>
      intro i ys nw hi' hsub hy
      refine LCg.CompRest.succ ?_
      intro v I oI C oC D m₂ h tk E' hv hC hx F N off ne
      obtain ⟨k, t, e, hk⟩ := IntsAre.at hi i v (by simpa using hv)
      rw [e] at hx
      refine wpAny_mono (turn k t I oI C oC D m₂ ys h tk E' nw (List.mem_of_getElem? hk) hC hx F N) (fun y s₂ hq => ?_) fun _ _ e => e
      obtain ⟨h', tk', a, t', u', z', rfl, rfl, F', N', l1, l2, l3⟩ := hq
      refine ⟨h', tk', (a, tup3 (g k).1 (g k).2.1 (g k).2.2 t' u' z') :: nw, rfl, F', fun p hp => N' p ?_, off3_cons off l1 l2 l3, .inr ⟨_, .tail _ (hsub _ hax), rfl, _, rfl⟩, ?_⟩
      · simp only [List.mem_cons] at hp ⊢
        rcases hp with hp | hp | hp | hp | hp
        · exact .inr (.inl hp)
        · exact .inr (.inr (.inl hp))
        · exact .inr (.inr (.inr (.inl hp)))
        · exact .inl hp
        · exact .inr (.inr (.inr (.inr hp)))
      · refine ih (i + 1) _ _ (by omega) (fun p hp => .tail _ (hsub p hp)) ?_
        rw [List.take_add_one, hk]
        rw [List.map_append]
        exact Trips.append (Trips.mono (fun p hp => .tail _ hp) hy) ⟨⟨a, t', u', z', rfl, .head _⟩, trivial⟩
  exact key _ 0 [] news (by omega) (fun _ h => h) trivial

def sp (n : Nat) : Str := ⟨(List.replicate n 32).toArray⟩
def txt (p : Nat) (mid : Str) (q : Nat) : Str := ⟨(List.replicate p 32 ++ mid.cps.toList ++ List.replicate q 32).toArray⟩
theorem blank_is : Str.ofString " " = (⟨#[32]⟩ : Str) := by decide +kernel
theorem str_eq {x y : Str} (h : x.cps.toList = y.cps.toList) : x = y := by
  cases x with | mk a => cases y with | mk b => exact congrArg Str.mk (Array.toList_inj.mp h)
theorem cps_mk (l : List Nat) : (⟨l.toArray⟩ : Str).cps.toList = l := rfl
theorem len_list (x : Str) : x.length = x.cps.toList.length := by
  show x.cps.size = _
  exact Array.length_toList.symm
theorem len_sp (n : Nat) : (sp n).length = n := by rw [len_list]; unfold sp; rw [cps_mk, List.length_replicate]
theorem len_txt (p : Nat) (mid : Str) (q : Nat) : (txt p mid q).length = p + mid.length + q := by
  rw [len_list, len_list]; unfold txt; rw [cps_mk, List.length_append, List.length_append, List.length_replicate, List.length_replicate]
theorem foldl_blank : ∀ (k : Nat) (a : Array Nat), ((List.replicate k #[32]).foldl (· ++ ·) a).toList = a.toList ++ List.replicate k 32
  | 0, a => by simp
  | k + 1, a => by
    rw [List.replicate_succ, List.foldl_cons, foldl_blank k, List.replicate_succ]
    simp
theorem mul_sp (n : Int) : Txt.mul (Str.ofString " ") n = sp n.toNat := by
  rw [blank_is]
  unfold Txt.mul
  by_cases h : n < 1
  · rw [if_pos h]
    have e : n.toNat = 0 := by omega
    rw [e]; rfl
  · rw [if_neg h]
    by_cases h1 : n = 1
    · subst h1; rfl
    · have hb : ¬ ((n == 1 || (⟨#[32]⟩ : Str).length == 0) = true) := by
        have h2 : (n == 1) = false := by simpa using h1
        rw [h2]; decide
      rw [if_neg hb]
      refine str_eq ?_
      have := foldl_blank n.toNat #[]
      simpa [sp] using this
theorem cps_append (x y : Str) : (x ++ y).cps.toList = x.cps.toList ++ y.cps.toList := by
  rw [Str.cps_append, Array.toList_append]
theorem glue_txt (f p q b : Nat) (mid : Str) : sp f ++ txt p mid q ++ sp b = txt (f + p) mid (q + b) := by
  refine str_eq ?_
  rw [cps_append, cps_append]
  unfold sp txt
  rw [cps_mk, cps_mk, cps_mk, cps_mk, ← List.replicate_append_replicate, ← List.replicate_append_replicate]
  simp only [List.append_assoc]
theorem glue_mid (p q : Nat) (mid : Str) : sp p ++ mid ++ sp q = txt p mid q := by
  refine str_eq ?_
  rw [cps_append, cps_append]
  unfold sp txt
  rw [cps_mk, cps_mk, cps_mk]
theorem mid_txt (mid : Str) : mid = txt 0 mid 0 := by
  refine str_eq ?_
  unfold txt
  rw [cps_mk]
  simp
theorem item_at {x : Str} {i : Nat} {c : Nat} (h : x.cps.toList[i]? = some c) : Txt.item x (i : Int) = ⟨#[c]⟩ := by
  have hlt : i < x.length := by
    rw [len_list]
    exact (List.getElem?_eq_some_iff.mp h).1
  have e : seqIndex? (i : Int) x.length = some i := by
    unfold seqIndex?
    have h1 : ¬ ((i : Int) < 0) := by omega
    simp only [h1, if_false]
    rw [if_pos]
    · simp
    · simp only [Bool.and_eq_true, decide_eq_true_eq]; omega
  unfold Txt.item Txt.charAt
  rw [e]
  have h' : x.cps[i]? = some c := by rw [← Array.getElem?_toList]; exact h
  show (⟨#[((some i).bind (x.cps[·]?)).getD 0]⟩ : Str) = _
  rw [Option.bind_some, h']
  rfl
theorem item_blank {x : Str} {i : Nat} (h : x.cps.toList[i]? = some 32) : (Txt.item x (i : Int) == Str.ofString " ") = true := by
  rw [item_at h, blank_is]; decide
theorem item_not {x : Str} {i c : Nat} (h : x.cps.toList[i]? = some c) (hc : c ≠ 32) : (Txt.item x (i : Int) == Str.ofString " ") = false := by
  rw [item_at h, blank_is]
  refine beq_eq_false_iff_ne.mpr fun e => hc ?_
  have := congrArg (fun s : Str => s.cps.toList) e
  simpa using this
theorem item_conv {x : Str} {i : Nat} (hi : i < x.length) (h : (Txt.item x (i : Int) == Str.ofString " ") = false) : ∃ c, x.cps.toList[i]? = some c ∧ c ≠ 32 := by
  rw [len_list] at hi
  refine ⟨x.cps.toList[i], List.getElem?_eq_getElem hi, fun e => ?_⟩
  have := item_blank (x := x) (i := i) (by rw [List.getElem?_eq_getElem hi, e])
  rw [this] at h
  cases h
theorem txt_front {p q i : Nat} {mid : Str} (h : i < p) : (txt p mid q).cps.toList[i]? = some 32 := by
  unfold txt
  rw [cps_mk, List.append_assoc, List.getElem?_append_left (by rw [List.length_replicate]; exact h), List.getElem?_replicate, if_pos h]
theorem txt_mid {p q i : Nat} {mid : Str} (h : i < mid.length) : (txt p mid q).cps.toList[p + i]? = mid.cps.toList[i]? := by
  unfold txt
  rw [len_list] at h
  rw [cps_mk, List.append_assoc, List.getElem?_append_right (by rw [List.length_replicate]; omega), List.length_replicate, List.getElem?_append_left (by omega)]
  congr 1
  omega
theorem txt_back {p q i : Nat} {mid : Str} (h : i < q) : (txt p mid q).cps.toList[p + mid.length + q - 1 - i]? = some 32 := by
  unfold txt
  rw [len_list, cps_mk, List.getElem?_append_right (by rw [List.length_append, List.length_replicate]; omega), List.length_append, List.length_replicate, List.getElem?_replicate, if_pos (by omega)]
theorem sp_at {n i : Nat} (h : i < n) : (sp n).cps.toList[i]? = some 32 := by
  unfold sp
  rw [cps_mk, List.getElem?_replicate, if_pos h]
theorem slice_is {x : Str} {i j : Int} (h0 : 0 ≤ i) (h1 : i ≤ j) (h2 : j ≤ x.length) : Txt.slice x (some i) (some j) = ⟨((x.cps.toList.drop i.toNat).take (j - i).toNat).toArray⟩ := eq_of_beq (slice_closesL h0 h1 h2)
theorem slice_txt {p q l r : Nat} {mid : Str} (hl : l ≤ p) (hr : r ≤ q) : Txt.slice (txt p mid q) (some (l : Int)) (some (((txt p mid q).length : Int) - 1 - r + 1)) = txt (p - l) mid (q - r) := by
  have hlen := len_txt p mid q
  rw [slice_is (by omega) (by omega) (by omega)]
  refine str_eq ?_
  rw [cps_mk]
  have e1 : ((l : Int)).toNat = l := by omega
  have e2 : (((txt p mid q).length : Int) - 1 - r + 1 - (l : Int)).toNat = (p - l) + mid.length + (q - r) := by omega
  rw [e1, e2]
  unfold txt
  rw [cps_mk, cps_mk, List.append_assoc, List.drop_append_of_le_length (by rw [List.length_replicate]; exact hl), List.drop_replicate, ← List.append_assoc, List.take_append, List.take_of_length_le, List.take_replicate]
  · congr 2
    rw [List.length_append, List.length_replicate, ← len_list]
    omega
  · rw [List.length_append, List.length_replicate, ← len_list]
    omega
theorem slice_sp {n l : Nat} (hl : l ≤ n) : Txt.slice (sp n) (some (l : Int)) (some (((sp n).length : Int) - 1 - ((0 : Nat) : Int) + 1)) = sp (n - l) := by
  have hlen := len_sp n
  rw [slice_is (by omega) (by omega) (by omega)]
  refine str_eq ?_
  rw [cps_mk]
  have e1 : ((l : Int)).toNat = l := by omega
  have e2 : (((sp n).length : Int) - 1 - ((0 : Nat) : Int) + 1 - (l : Int)).toNat = n - l := by omega
  rw [e1, e2]
  unfold sp
  rw [cps_mk, cps_mk, List.drop_replicate, List.take_replicate]
  congr 1
  omega
section
variable {prog : Program} {w : World} {A : Around} {E : Value → Shared → Prop} {s : Shared} {t u : Tok} {Q : Value → Shared → Prop}
theorem mul_blank {n : Int} (hlo : -1000 ≤ n) (hhi : n ≤ 1000) (h : ∀ t' k, Q (.str (sp n.toNat) t') { s with toks := k }) : wpAny (model prog w) A (binaryOp .Mult (.str (Str.ofString " ") t) (.int n u)) Q E s := by
  refine SB.mul (mulOk_of 16 1048576 (by decide) (by omega) (by omega) (by decide) (by decide)) ?_
  intro t' k
  rw [mul_sp]
  exact h t' k
theorem len_blank {n : Nat} (hn : n ≤ 1000) (h : ∀ t' k, Q (.int (n : Int) t') { s with toks := k }) : wpAny (model prog w) A (call (.builtin "len") [.str (sp n) t]) Q E s := by
  have hl := len_sp n
  refine P.len_str (by omega) ?_
  rw [hl]
  exact h _ _
theorem add_front {f P R : Nat} {mid : Str} (hsz : f + P + mid.length + R ≤ 2000) (h : ∀ t' k, Q (.str (txt (f + P) mid R) t') { s with toks := k }) : wpAny (model prog w) A (binaryOp .Add (.str (sp f) t) (.str (txt P mid R) u)) Q E s := by
  refine add_str ?_ ?_
  · intro t' k
    have e : sp f ++ txt P mid R = txt (f + P) mid R := by
      refine str_eq ?_
      rw [cps_append]
      unfold sp txt
      rw [cps_mk, cps_mk, cps_mk, ← List.replicate_append_replicate]
      simp only [List.append_assoc]
    rw [e]
    exact h t' k
  · rw [len_sp, len_txt, sizeLine_eq]; omega
theorem add_back {P R b : Nat} {mid : Str} (hsz : P + mid.length + R + b ≤ 2000) (h : ∀ t' k, Q (.str (txt P mid (R + b)) t') { s with toks := k }) : wpAny (model prog w) A (binaryOp .Add (.str (txt P mid R) t) (.str (sp b) u)) Q E s := by
  refine add_str ?_ ?_
  · intro t' k
    have e : txt P mid R ++ sp b = txt P mid (R + b) := by
      refine str_eq ?_
      rw [cps_append]
      unfold sp txt
      rw [cps_mk, cps_mk, cps_mk, ← List.replicate_append_replicate]
      simp only [List.append_assoc]
    rw [e]
    exact h t' k
  · rw [len_sp, len_txt, sizeLine_eq]; omega
theorem add_mid {P : Nat} {mid : Str} (hsz : P + mid.length ≤ 2000) (h : ∀ t' k, Q (.str (txt P mid 0) t') { s with toks := k }) : wpAny (model prog w) A (binaryOp .Add (.str (sp P) t) (.str mid u)) Q E s := by
  refine add_str ?_ ?_
  · intro t' k
    have e : sp P ++ mid = txt P mid 0 := by
      refine str_eq ?_
      rw [cps_append]
      unfold sp txt
      rw [cps_mk, cps_mk]
      simp
    rw [e]
    exact h t' k
  · rw [len_sp, sizeLine_eq]; omega
end

def tankP (p : Nat) (k : Int) : Nat := if k < 0 then 0 else p - k.toNat
def tankQ (p q : Nat) (k : Int) : Nat := if k < 0 then 0 else q - (k.toNat - p)
section
variable {w : World} {mean : ExcName → Option Value} {mg mb : Str → Option Value}
    {dp un : Nat} {gd : Option (List Code)} {cn : Str} {cs : Scope} {a : Addr} {ccd : Value} {cl : List (Str × Addr)} {outer : List Env} {A₀ : Around} {base h₀ : Heap} {L : Addr} {m : Str → Option Value} {news : List (Addr × Obj)} {s : Shared} {Q E : Value → Shared → Prop}
    {t : Tok} {k : Int} {u : Tok}
theorem strip_txt {p q : Nat} {mid : Str} (hM : MidOk mid) (hpq : p + q ≤ 900)
    (B : Below A₀ base outer h₀) (F : Fr h₀ L s.heap m) (X : (Mine.hd.heap_39 w.params).In h₀) (N : News h₀ L s.heap news) (T : Top Mine.hd.view_39 (looseW Mine.hd.view_39 []) mean mg mb h₀) (hk : cs.kind = .function)
    (hd : dp + 3 < recursionLimit)
    (ret : ∀ t h' tk', Fr h₀ L h' m → News h₀ L h' news → Q (.str (txt (tankP p k) mid (tankQ p q k)) t) { s with heap := h', toks := tk' }) :
    wpAny (model PySem.Challenge.rw_mq0442_01.row.prog w) (ktrTop dp un gd cn cs L a ccd cl outer) (call (.ref 21) [.str (txt p mid q) t, .int k u]) Q E s := by
  have hlen := len_txt p mid q
  obtain ⟨m1, m2, m3, m4⟩ := hM
  refine strip_call p q B F X N T hk hd (by omega) (by omega) (fun i hi => item_blank (txt_front hi)) (fun _ => ?_) (fun _ => by omega) (fun _ i hi => ?_) (fun _ => ?_) ?_ (fun h => by omega)
  · obtain ⟨c, hc, hn⟩ := item_conv (x := mid) (i := 0) (by omega) m3
    have := txt_mid (p := p) (q := q) (mid := mid) (i := 0) (by omega)
    rw [hc] at this
    exact item_not (i := p) this hn
  · have e : ((txt p mid q).length : Int) - 1 - (i : Int) = ((p + mid.length + q - 1 - i : Nat) : Int) := by omega
    rw [e]
    exact item_blank (txt_back hi)
  · have e0 : ((mid.length : Nat) : Int) - 1 = ((mid.length - 1 : Nat) : Int) := by omega
    rw [e0] at m4
    obtain ⟨c, hc, hn⟩ := item_conv (x := mid) (i := mid.length - 1) (by omega) m4
    have := txt_mid (p := p) (q := q) (mid := mid) (i := mid.length - 1) (by omega)
    rw [hc] at this
    have e : ((txt p mid q).length : Int) - 1 - (q : Int) = ((p + (mid.length - 1) : Nat) : Int) := by omega
    rw [e]
    exact item_not this hn
  · intro l r t' h' tk' hl hr hkl hfin F' N'
    rw [slice_txt hl hr]
    have e1 : p - l = tankP p k := by unfold tankP; split <;> omega
    have e2 : q - r = tankQ p q k := by unfold tankQ; split <;> omega
    rw [e1, e2]
    exact ret t' h' tk' F' N'
theorem strip_sp {n : Nat} (hn : n ≤ 900)
    (B : Below A₀ base outer h₀) (F : Fr h₀ L s.heap m) (X : (Mine.hd.heap_39 w.params).In h₀) (N : News h₀ L s.heap news) (T : Top Mine.hd.view_39 (looseW Mine.hd.view_39 []) mean mg mb h₀) (hk : cs.kind = .function)
    (hd : dp + 3 < recursionLimit)
    (ret : 0 ≤ k → k ≤ n → ∀ t h' tk', Fr h₀ L h' m → News h₀ L h' news → Q (.str (sp (n - k.toNat)) t) { s with heap := h', toks := tk' })
    (rse : (k < 0 ∨ (n : Int) < k) → ∀ e g h' tk', Fr h₀ L g m → g.UpToSlots h' → RaisedN base (envX cn cs L a ccd cl :: outer) e (.type "IndexError") news h' → E (.ref e) { s with heap := h', toks := tk' }) :
    wpAny (model PySem.Challenge.rw_mq0442_01.row.prog w) (ktrTop dp un gd cn cs L a ccd cl outer) (call (.ref 21) [.str (sp n) t, .int k u]) Q E s := by
  have hlen := len_sp n
  refine strip_call n 0 B F X N T hk hd (by omega) (by omega) (fun i hi => item_blank (sp_at hi)) (fun _ => by omega) (fun _ => by omega) (fun _ i hi => by omega) (fun _ => by omega) ?_ (fun _ hc => rse hc)
  intro l r t' h' tk' hl hr hkl hfin F' N'
  obtain rfl : r = 0 := by omega
  have e : k = (l : Int) := by omega
  rw [slice_sp hl]
  have e1 : n - l = n - k.toNat := by omega
  rw [e1]
  exact ret (by omega) (by omega) t' h' tk' F' N'
end

/-- a turn's end: the state's word holds again, what the loop itself holds is as it was -/
def TurnEnd (h₀ : Heap) (L I : Addr) (own : List (Addr × Obj)) (J : (Str → Option Value) → List (Addr × Obj) → Prop) (s₁ s₂ : Shared) : Prop :=
  ∃ h' tk m' nx, s₂ = { s₁ with heap := h', toks := tk } ∧ Fr h₀ L h' m' ∧ News h₀ L h' (own ++ nx) ∧ (∀ p ∈ nx, p.1 ≠ I) ∧ J m' nx
def TurnPost (h₀ : Heap) (L I : Addr) (own : List (Addr × Obj)) (J : (Str → Option Value) → List (Addr × Obj) → Prop) (s₁ : Shared) (Q : Flow → Shared → Prop) (f : Flow) (s₂ : Shared) : Prop :=
  match f with
  | .ret v => Q (.ret v) s₂
  | .brk => Q .next s₂
  | _ => TurnEnd h₀ L I own J s₁ s₂
theorem iter_led {prog : Program} {w : World} {A : Around} {E : Value → Shared → Prop} {s : Shared} {env : Env} {h₀ : Heap} {target : Expr} {body : List Stmt} {Q : Flow → Shared → Prop}
    {ax : Addr} {vs : List Value} {n : Nat} {m₀ : Str → Option Value} {news : List (Addr × Obj)} (J : Nat → (Str → Option Value) → List (Addr × Obj) → Prop)
    (hh : A.handled = none) (F : Fr h₀ env.locals s.heap m₀) (N : News h₀ env.locals s.heap news) (hm : (ax, lstO vs n) ∈ news) (hj : J 0 m₀ news)
    (turn : ∀ i v m₁ nx h tk I oI own, vs[i]? = some v → J i m₁ nx → (∀ p ∈ nx, p.1 ≠ I) → Fr h₀ env.locals h m₁ → News h₀ env.locals h ((I, oI) :: (own ++ nx)) →
      wpAny (model prog w) A (assign target env v) (fun _ s₃ => wpAny (model prog w) A (execs body env) (TurnPost h₀ env.locals I own (J (i + 1)) { s with heap := h, toks := tk } Q) E s₃) E { s with heap := h, toks := tk })
    (done : ∀ m₁ nx h tk, J vs.length m₁ nx → Fr h₀ env.locals h m₁ → News h₀ env.locals h nx → Q .next { s with heap := h, toks := tk }) :
    wpAny (model prog w) A (pyIter (.ref ax)) (fun it s₂ => TurnsAt prog w A h₀ env target body Q E it s₂) E s := by
  have hax := N _ hm
  have hl : s.heap.IsList ax vs.toArray := ⟨lstO vs n, hax.1, rfl, n, rfl⟩
  have hlt : ax < s.heap.objs.size := Heap.lt_size hax.1
  have hne : ax ≠ s.heap.objs.size := Nat.ne_of_lt hlt
  refine wpAny_pyIter_list hl ?_
  have W := KTurns.ofWalks (target := target) (Walks.list (prog := prog) (w := w) hh s.heap.objs.size ax hne vs.toArray) fun i v s Q E st q => letGo_listiter st.1 q
  have hsz : vs.toArray.size = vs.length := List.size_toArray ..
  rw [hsz] at W
  refine ⟨_, _, _, vs.length, _, _, _, m₀, news, J, rfl, W, ?_, ?_, ?_, ⟨⟨_, Heap.get?_push_size _ rfl, rfl, rfl⟩, hl.at fun o e => Heap.get?_push_of_some _ e⟩, F.push _, (fun p hp => ⟨Heap.get?_push_of_some _ (N p hp).1, (N p hp).2⟩), hj, ?_, ?_⟩
  · intro hI
    rcases List.mem_cons.mp hI with e | hI
    · exact absurd F.ns.lt (e ▸ Nat.lt_irrefl _)
    · exact hax.2.1 (List.mem_singleton.mp hI).symm
  · intro b hb
    rw [List.mem_singleton.mp hb]
    exact next_is_new F
  · intro p hp hI
    exact absurd (Heap.lt_size (N p hp).1) ((List.mem_singleton.mp hI) ▸ Nat.lt_irrefl _)
  · intro i v m₁ nx h₁ tk₁ own hin hP hJ hoff hown hget hall hst F₁ N₁
    obtain ⟨⟨oI, hoI, _⟩, _⟩ := id hst
    have hI0 : h₀.get? s.heap.objs.size = none := next_is_new F
    have hIown : (s.heap.objs.size, oI) ∈ own := hall _ (List.mem_cons_self ..) hI0 _ hoI
    have hv : vs[i]? = some v := by
      have hP' : vs.toArray[i]? = some v := hP
      simpa using hP'
    have N₂ : News h₀ env.locals h₁ ((s.heap.objs.size, oI) :: (own ++ nx)) := fun p hp => by
      rcases List.mem_cons.mp hp with rfl | hp
      · exact N₁ _ (List.mem_append_left _ hIown)
      · exact N₁ _ hp
    refine wpAny_mono (turn i v m₁ nx h₁ tk₁ s.heap.objs.size oI own hv hJ (fun p hp e => hoff p hp (List.mem_singleton.mpr e)) F₁ N₂) (fun _ s₂ h₂ => wpAny_mono h₂ (fun f s₃ h₃ => ?_) fun _ _ e => e) fun _ _ e => e
    have fin : TurnEnd h₀ env.locals s.heap.objs.size own (J (i + 1)) { s with heap := h₁, toks := tk₁ } s₃ → LoopStepU h₀ env.locals [s.heap.objs.size] own (J (i + 1)) { s with heap := h₁, toks := tk₁ } .next s₃ := by
      rintro ⟨h', tk, m', nx', e, F', N', ho, hJ'⟩
      exact ⟨rfl, h', tk, m', nx', e, F', N', fun p hp hI => ho p hp (List.mem_singleton.mp hI), hJ'⟩
    cases f with
    | ret v => exact .ret h₃
    | brk => exact .brk h₃
    | next => exact .next (fin h₃)
    | cont => exact .cont (fin h₃)
  · intro h' tk m' news' F' N' _ hJ
    exact done m' news' h' tk hJ F' N'

def trip (k : Int) : Int × Int × Int := (k.fmod 4, (k.fdiv 4).fmod 3, (k.fdiv 12 + 4).fmod 8 - 1)
def StepOk (d : Int × Int × Int) : Prop := 0 ≤ d.1 ∧ 0 ≤ d.2.1 ∧ d.1 + d.2.1 ≤ 5 ∧ -1 ≤ d.2.2 ∧ d.2.2 ≤ 9
theorem trip_ok (k : Int) : StepOk (trip k) := by
  unfold StepOk trip
  dsimp only
  have h1 := Int.fmod_nonneg_of_pos k (b := 4) (by decide)
  have h2 := Int.fmod_lt_of_pos k (b := 4) (by decide)
  have h3 := Int.fmod_nonneg_of_pos (k.fdiv 4) (b := 3) (by decide)
  have h4 := Int.fmod_lt_of_pos (k.fdiv 4) (b := 3) (by decide)
  have h5 := Int.fmod_nonneg_of_pos (k.fdiv 12 + 4) (b := 8) (by decide)
  have h6 := Int.fmod_lt_of_pos (k.fdiv 12 + 4) (b := 8) (by decide)
  omega
theorem steps_ok (ns : List Int) : ∀ d ∈ ([(4, 1, 2), (0, 3, 0)] ++ ns.map trip) ++ [(1, 2, 3), (2, 0, 9), (3, 1, -1), (0, 2, 1)], StepOk d := by
  intro d hd
  rcases List.mem_append.mp hd with hd | hd
  · rcases List.mem_append.mp hd with hd | hd
    · simp only [List.mem_cons, List.not_mem_nil, or_false] at hd
      rcases hd with rfl | rfl <;> (unfold StepOk; decide)
    · obtain ⟨k, _, rfl⟩ := List.mem_map.mp hd
      exact trip_ok k
  · simp only [List.mem_cons, List.not_mem_nil, or_false] at hd
    rcases hd with rfl | rfl | rfl | rfl <;> (unfold StepOk; decide)
/-- what holds between the turns: the two tanks (P ahead, R behind), the two lists whose greatest sums they are -/
def LawJ (mid : Str) (tmid : Tok) (cst : List (Addr × Obj)) (i : Nat) (m : Str → Option Value) (nx : List (Addr × Obj)) : Prop :=
  ∃ (la lb : Addr) (va vb : List Value) (na nb : Nat) (as bs : List Int) (P R : Nat) (tf : Tok),
    nx = (la, lstO va na) :: (lb, lstO vb nb) :: cst ∧ IntsAre va as ∧ IntsAre vb bs ∧ as.length ≤ i ∧ bs.length ≤ i ∧ greatest as = (P : Int) ∧ greatest bs = ((P + R : Nat) : Int) ∧ P + R ≤ 5 * i ∧
    m (Str.ofString "middle") = some (.str mid tmid) ∧ m (Str.ofString "field") = some (.str (txt P mid R) tf) ∧ m (Str.ofString "ahead") = some (.ref la) ∧ m (Str.ofString "both") = some (.ref lb)
theorem lawJ_map {m : Str → Option Value} {v1 v2 v3 v4 : Value} (h1 : m (Str.ofString "middle") = some v1) (h2 : m (Str.ofString "field") = some v2) (h3 : m (Str.ofString "ahead") = some v3) (h4 : m (Str.ofString "both") = some v4) :
    m = fun y => if y = Str.ofString "middle" then some v1 else if y = Str.ofString "field" then some v2 else if y = Str.ofString "ahead" then some v3 else if y = Str.ofString "both" then some v4 else m y := by
  funext y
  by_cases e1 : y = Str.ofString "middle"
  · rw [if_pos e1, e1, h1]
  · rw [if_neg e1]
    by_cases e2 : y = Str.ofString "field"
    · rw [if_pos e2, e2, h2]
    · rw [if_neg e2]
      by_cases e3 : y = Str.ofString "ahead"
      · rw [if_pos e3, e3, h3]
      · rw [if_neg e3]
        by_cases e4 : y = Str.ofString "both"
        · rw [if_pos e4, e4, h4]
        · rw [if_neg e4]
theorem fr_eq {h₀ h : Heap} {L : Addr} {m m' : Str → Option Value} (F : Fr h₀ L h m) (e : m = m') : Fr h₀ L h m' := e ▸ F
theorem led_turn {h₀ h : Heap} {L I a la lb : Addr} {oI o oa ob : Obj} {own cst : List (Addr × Obj)} (N : News h₀ L h ((I, oI) :: (own ++ (la, oa) :: (lb, ob) :: cst))) (hm : (a, o) ∈ cst) :
    ∃ rest, (∀ p ∈ own, p ∈ rest) ∧ (∀ p ∈ cst, p ∈ rest) ∧ News h₀ L h ((a, o) :: (la, oa) :: (lb, ob) :: (I, oI) :: rest) := by
  refine ⟨own ++ (la, oa) :: (lb, ob) :: cst, fun p hp => List.mem_append_left _ hp, fun p hp => List.mem_append_right _ (.tail _ (.tail _ hp)), fun p hp => N p ?_⟩
  simp only [List.mem_cons, List.mem_append] at hp ⊢
  rcases hp with rfl | hp | hp | hp | hp
  · exact .inr (.inr (.inr (.inr hm)))
  · exact .inr (.inr (.inl hp))
  · exact .inr (.inr (.inr (.inl hp)))
  · exact .inl hp
  · exact .inr hp
theorem wp_int {M : Model} {A : Around} {E : Value → Shared → Prop} {s : Shared} {T : Sem Value} {Q : Value → Shared → Prop} (x : Int) (h1 : wpAny M A T (fun v s' => ∃ t tk', v = .int x t ∧ s' = { s with toks := tk' }) E s)
    (h2 : ∀ t tk', Q (.int x t) { s with toks := tk' }) : wpAny M A T Q E s :=
  wpAny_mono h1 (fun _ _ ⟨t, tk', e1, e2⟩ => by rw [e1, e2]; exact h2 t tk') fun _ _ e => e
/-- what was taken -/
def taken (k : Int) : Int := if k ≥ 0 then k else 1000
theorem tank_front {as : List Int} {P R f : Nat} {k : Int} (h : greatest as = (P : Int)) (hb : P + R + f ≤ 900) (hk : -1 ≤ k) : greatest (as ++ [(f : Int) - taken k]) = ((tankP (f + P) k : Nat) : Int) := by
  rw [greatest_snoc, h]
  unfold taken tankP
  split <;> split <;> omega
theorem tank_both {bs : List Int} {P R f b : Nat} {k : Int} (h : greatest bs = ((P + R : Nat) : Int)) (hb : P + R + f + b ≤ 900) (hk : -1 ≤ k) : greatest (bs ++ [(f : Int) + (b : Int) - taken k]) = ((tankP (f + P) k + tankQ (f + P) (R + b) k : Nat) : Int) := by
  rw [greatest_snoc, h]
  unfold taken tankP tankQ
  split <;> split <;> omega
theorem tank_le {P R f b : Nat} {k : Int} : tankP (f + P) k + tankQ (f + P) (R + b) k ≤ P + R + f + b := by
  unfold tankP tankQ
  split <;> omega
theorem turn_end {h₀ h' : Heap} {L I dA dB : Addr} {m' : Str → Option Value} {led own cst : List (Addr × Obj)} {mid : Str} {tmid tf : Tok} {i P R : Nat} {va vb : List Value} {as bs : List Int} {s₁ : Shared} {tk : Nat} {Q : Flow → Shared → Prop}
    (F : Fr h₀ L h' m') (N : News h₀ L h' led) (hA : (dA, lstO va 0) ∈ led) (hB : (dB, lstO vb 0) ∈ led) (hown : ∀ p ∈ own, p ∈ led) (hcst : ∀ p ∈ cst, p ∈ led) (hnI : ∀ p ∈ cst, p.1 ≠ I) (lA : I < dA) (lB : I < dB)
    (Ia : IntsAre va as) (Ib : IntsAre vb bs) (lenA : as.length ≤ i + 1) (lenB : bs.length ≤ i + 1) (gA : greatest as = (P : Int)) (gB : greatest bs = ((P + R : Nat) : Int)) (hPR : P + R ≤ 5 * (i + 1))
    (m1 : m' (Str.ofString "middle") = some (.str mid tmid)) (m2 : m' (Str.ofString "field") = some (.str (txt P mid R) tf)) (m3 : m' (Str.ofString "ahead") = some (.ref dA)) (m4 : m' (Str.ofString "both") = some (.ref dB)) :
    TurnPost h₀ L I own (LawJ mid tmid cst (i + 1)) s₁ Q .next { s₁ with heap := h', toks := tk } := by
  refine ⟨h', tk, m', (dA, lstO va 0) :: (dB, lstO vb 0) :: cst, rfl, F, fun p hp => N p ?_, fun p hp => ?_, dA, dB, va, vb, 0, 0, as, bs, P, R, tf, rfl, Ia, Ib, lenA, lenB, gA, gB, hPR, m1, m2, m3, m4⟩
  · simp only [List.mem_append, List.mem_cons] at hp
    rcases hp with hp | rfl | rfl | hp
    · exact hown p hp
    · exact hA
    · exact hB
    · exact hcst p hp
  · simp only [List.mem_cons] at hp
    rcases hp with rfl | rfl | hp
    · exact Nat.ne_of_gt lA
    · exact Nat.ne_of_gt lB
    · exact hnI p hp

theorem law_holds : PySem.Challenge.rw_mq0442_01.Holds := by
  refine Mine.hd ?_
  k_fill
  intro w s₀ s₁ mg mb G Y fa o pm cd doc dV kV ho hd hcd hD hmg hg args vals as hpre hlay hrd hwl hlo
  have KX := kIn_of Y
  k_behind G ho hd hcd hD hmg hpre hlay hrd hwl hlo cd
  rename Top _ _ _ _ _ _ => T0
  rename Below _ _ _ _ => K0
  iterate 31 walk1
  rename_i w1 N1
  refine tail_mid (News.isTup N1 (.tail _ (.head _))) (Int.fmod_nonneg_of_pos _ (by decide)) (Int.fmod_lt_of_pos _ (by decide)) ?_
  intro middle tmid hM
  iterate 33 walk1
  k_dflt (refine LCg.ListComp_U (F₀ := by k_asm) (by rfl) (by decide) (by rfl) (by decide) (by rfl) ?_)
  iterate 8 walk1
  rename_i F2 N2 I2 c2 l2 lt2
  k_dflt (refine LCg.CompSrc.ledger (by rfl) F2 N2 (.head _) (by first | size_fits | exact Nat.le_of_ble_eq_true rfl) ?_)
  intro g2
  refine comp_trips trip I2 (.head _) ?_ ?_
  · intro k t I oI C oC D m2 ys h tk E' nw hk hC hx F N
    iterate 30 walk1
    rename_i F3 N3 lt3
    exact ⟨_, _, _, _, _, _, rfl, rfl, F3, N3, lt3.1, lt3.2.1, lt3.2.2.1⟩
  · intro ys nw hsub htr
    walk1
    rename_i F4 N4 o4
    have hyl := htr.length
    rw [List.length_map, List.length_take] at hyl
    refine add_led F4 N4 (.tail _ (hsub _ (.tail _ (.head _)))) (.head _) (by simp only [List.length_cons, List.length_nil]; omega) ?_
    intro D5 h5 F5 N5 lt5
    have htr2 := Trips.append (Trips.cons (hsub _ (.tail _ (.tail _ (.tail _ (.head _))))) (Trips.cons (hsub _ (.tail _ (.tail _ (.head _)))) Trips.nil)) htr
    obtain ⟨sv, N6, htr6⟩ : ∃ sv, News s₁.heap s₁.heap.objs.size h5 ((D5, lstO sv 0) :: nw) ∧ Trips nw sv _ := ⟨_, news_sub N5 (fun p hp => (List.mem_cons.mp hp).elim (fun e => e ▸ .head _) (fun h => .tail _ (.tail _ h))), htr2⟩
    clear N4 F4 o4 N5 htr2 htr lt5 hyl
    iterate 51 walk1
    rename_i F7 N7 lt7
    have hsl := htr6.length
    simp only [List.length_append, List.length_cons, List.length_nil, List.length_map, List.length_take] at hsl
    refine add_led F7 N7 (.tail _ (.tail _ (.tail _ (.tail _ (.tail _ (.head _)))))) (.head _) (by simp only [List.length_cons, List.length_nil]; omega) ?_
    intro D8 h8 F8 N8 lt8
    obtain ⟨sv8, nw8, N9, htr9⟩ := pack4 N8 htr6
    clear N8 lt8 htr6 hsl N7 F7 lt7
    iterate 20 walk1
    rename Fr _ _ _ _ => F10
    rename News _ _ _ _ => N10
    k_dflt (refine For_turns F10 ?_)
    · walk1
      have N11 := news_sub (news' := _ :: _ :: (D8, lstO sv8 0) :: nw8) N10 (fun p hp => by
        rcases List.mem_cons.mp hp with rfl | hp
        · exact .tail _ (.head _)
        · rcases List.mem_cons.mp hp with rfl | hp
          · exact .head _
          · exact .tail _ (.tail _ hp))
      k_dflt (refine iter_led (LawJ middle tmid ((D8, lstO sv8 0) :: nw8)) rfl F10 N11 (.tail _ (.tail _ (.head _))) ?_ ?_ ?_)
      · refine ⟨_, _, [], [], _, _, [], [], 0, 0, tmid, rfl, .nil, .nil, Nat.le_refl _, Nat.le_refl _, rfl, rfl, Nat.le_refl _, rfl, ?_, rfl, rfl⟩
        rw [← mid_txt]
        rfl
      · intro i v m₁ nx h tk I oI own hv hJ hnI F12 N12
        obtain ⟨la, lb, va, vb, na, nb, as, bs, P, R, tf, rfl, Ia, Ib, lenA, lenB, gA, gB, hPR, m1, m2, m3, m4⟩ := hJ
        obtain ⟨⟨f, b, k⟩, a, t1, t2, t3, hdd, rfl, hmem⟩ := htr9.get hv
        obtain ⟨o1, o2, o3, o4, o5⟩ := steps_ok _ _ (List.mem_of_getElem? hdd)
        dsimp only at o1 o2 o3 o4 o5 hmem
        have hi16 : i < 16 := by
          have h1 : i < sv8.length := (List.getElem?_eq_some_iff.mp hv).1
          rw [htr9.length] at h1
          simp only [List.length_append, List.length_cons, List.length_nil, List.length_map, List.length_take] at h1
          omega
        have hmid : middle.length ≤ 6 := hM.2.1
        obtain ⟨fn, rfl⟩ : ∃ n : Nat, f = (n : Int) := ⟨f.toNat, by omega⟩
        obtain ⟨bn, rfl⟩ : ∃ n : Nat, b = (n : Int) := ⟨b.toNat, by omega⟩
        have F13 := fr_eq F12 (lawJ_map m1 m2 m3 m4)
        obtain ⟨rest, hown, hcst, N13⟩ := led_turn N12 (List.mem_cons_of_mem _ hmem)
        clear F12 N12 m1 m2 m3 m4 F10 N10 N11
        iterate 24 walk1
        rename Fr _ _ _ _ => FA
        rename News _ _ _ _ => NA
        refine ⟨Frag.In.keeps KX FA.keep, ?_⟩
        k_dflt (refine greatest_call K0 FA KX NA (.tail _ (.tail _ (.head _))) T0 rfl ?_ Ib (by omega) ?_)
        · decide
        clear FA NA
        intro tG hG tkG FA NA
        rw [gB]
        iterate 4 walk1
        refine mul_blank (by omega) (by omega) ?_
        intro tA kA
        have eA : ((((P + R : Nat) : Int) + (fn : Int) + (bn : Int)).toNat) = P + R + fn + bn := by omega
        rw [eA]
        iterate 13 walk1
        refine mul_blank (by omega) (by omega) ?_
        intro tB kB
        rw [Int.toNat_natCast]
        walk1
        refine add_front (by omega) ?_
        intro tC kC
        iterate 3 walk1
        refine mul_blank (by omega) (by omega) ?_
        intro tD kD
        rw [Int.toNat_natCast]
        refine add_back (by omega) ?_
        intro tE kE
        iterate 3 walk1
        rename Fr _ _ _ _ => FB
        rename News _ _ _ _ => NB
        refine ⟨Frag.In.keeps KX FB.keep, ?_⟩
        k_dflt (refine strip_txt hM (by omega) K0 FB KX NB T0 rfl ?_ ?_)
        · decide
        clear FB NB
        intro tS hS tkS FB NB
        iterate 4 walk1
        refine wp_int (taken k) ?_ ?_
        · iterate 6 walk1
          by_cases hk0 : 0 ≤ k
          · rw [if_pos (decide_eq_true hk0)]
            rw [show taken k = k from if_pos hk0]
            walk1
            exact ⟨_, _, rfl, rfl⟩
          · rw [if_neg (by simpa using hk0)]
            rw [show taken k = 1000 from if_neg hk0]
            walk1
            exact ⟨_, _, rfl, rfl⟩
        intro tT tkT
        iterate 13 walk1
        rename Fr _ _ _ _ => FC
        rename News _ _ _ _ => NC
        refine add_led_int FC NC (.tail _ (.tail _ (.head _))) (.head _) Ia (by omega) ?_
        clear FC NC
        intro dA va' hA FC NC ltA Ia'
        k_lt ltA
        iterate 17 walk1
        rename Fr _ _ _ _ => FD
        rename News _ _ _ _ => ND
        refine add_led_int FD ND (.tail _ (.tail _ (.tail _ (.tail _ (.tail _ (.head _)))))) (.head _) Ib (by omega) ?_
        clear FD ND
        intro dB vb' hB FD ND ltB Ib'
        k_lt ltB
        have gA' := tank_front (R := R) (f := fn) gA (by omega) o4
        have gB' := tank_both (f := fn) (b := bn) gB (by omega) o4
        have hle := tank_le (P := P) (R := R) (f := fn) (b := bn) (k := k)
        generalize tankP (fn + P) k = P' at *
        generalize tankQ (fn + P) (R + bn) k = R' at *
        iterate 10 walk1
        rename Fr _ _ _ _ => FE
        rename News _ _ _ _ => NE
        refine ⟨Frag.In.keeps KX FE.keep, ?_⟩
        k_dflt (refine greatest_call K0 FE KX NE (.tail _ (.tail _ (.head _))) T0 rfl ?_ Ia' (by simp only [List.length_append, List.length_cons, List.length_nil]; omega) ?_)
        · decide
        clear FE NE
        intro tF hF tkF FE NE
        rw [gA']
        iterate 11 walk1
        refine mul_blank (by omega) (by omega) ?_
        intro tH kH
        rw [Int.toNat_natCast]
        walk1
        refine add_mid (by omega) ?_
        intro tI kI
        iterate 9 walk1
        rename Fr _ _ _ _ => FG
        rename News _ _ _ _ => NG
        refine ⟨Frag.In.keeps KX FG.keep, ?_⟩
        k_dflt (refine greatest_call K0 FG KX NG (.head _) T0 rfl ?_ Ib' (by simp only [List.length_append, List.length_cons, List.length_nil]; omega) ?_)
        · decide
        clear FG NG
        intro tJ hJ tkJ FG NG
        rw [gB']
        iterate 2 walk1
        refine mul_blank (by omega) (by omega) ?_
        intro tK kK
        have eR : ((((P' + R' : Nat) : Int) - (P' : Int)).toNat) = R' := by omega
        rw [eR]
        refine add_back (by omega) ?_
        intro tL kL
        rw [Nat.zero_add]
        iterate 2 walk1
        rw [if_neg (by simp)]
        walk1
        dsimp only
        iterate 12 walk1
        rename Fr _ _ _ _ => FH
        rename News _ _ _ _ => NH
        refine ⟨Frag.In.keeps KX FH.keep, ?_⟩
        k_dflt (refine strip_sp (by omega) K0 FH KX NH T0 rfl ?_ ?_ ?_)
        · decide
        · clear FH NH
          intro hk0 hkn tM hM tkM FH NH
          walk1
          dsimp only
          iterate 11 walk1
          rw [if_neg (by rw [decide_eq_true_eq]; omega)]
          iterate 9 walk1
          refine len_blank (by omega) ?_
          intro tO kO
          iterate 2 walk1
          rw [if_neg (by rw [decide_eq_true_eq]; omega)]
          iterate 13 walk1
          refine len_blank (by omega) ?_
          intro tP kP
          iterate 2 walk1
          refine mul_blank (by omega) (by omega) ?_
          intro tQ kQ
          have eD : ((((P + R + fn + bn : Nat) : Int) - k).toNat) = P + R + fn + bn - k.toNat := by omega
          rw [eD]
          walk1
          dsimp only
          walk1
          (try dsimp only)
          iterate 7 walk1
          walk1
          rw [if_neg (by simp)]
          walk1
          (try dsimp only)
          walk1
          (try dsimp only)
          rename Fr _ _ _ _ => FZ
          rename News _ _ _ _ => NZ
          exact turn_end FZ NZ (.tail _ (.tail _ (.head _))) (.head _) (fun p hp => .tail _ (.tail _ (.tail _ (.tail _ (.tail _ (.tail _ (.tail _ (.tail _ (hown p hp))))))))) (fun p hp => .tail _ (.tail _ (.tail _ (.tail _ (.tail _ (.tail _ (.tail _ (.tail _ (hcst p hp))))))))) (fun p hp => hnI p (.tail _ (.tail _ hp))) ltA.2.2.2.2.1 ltB.2.2.2.2.2.2.1 Ia' Ib' (by simp only [List.length_append, List.length_cons, List.length_nil]; omega) (by simp only [List.length_append, List.length_cons, List.length_nil]; omega) gA' gB' (by omega) rfl rfl rfl rfl
        · intro hk e g hM tkM FR hU hR
          refine caught_N0 (T' := "IndexError") K0 FR hU hR (topRead_of T0) PyProof.Rows.Boot.«IndexError» PySem.F.isExc_IndexError PySem.F.notTuple_IndexError (by rw [isSubtype_type]; kernel_rfl) ?_
          intro hN FI NI
          iterate 5 walk1
          (try dsimp only)
          walk1
          (try dsimp only)
          iterate 9 walk1
          by_cases hk0 : k < 0
          · rw [if_pos (decide_eq_true hk0), if_pos rfl]
            iterate 5 walk1
            dsimp only
            walk1
            (try dsimp only)
            iterate 7 walk1
            walk1
            rw [if_neg (by simp)]
            walk1
            (try dsimp only)
            walk1
            (try dsimp only)
            rename Fr _ _ _ _ => FZ
            rename News _ _ _ _ => NZ
            exact turn_end FZ NZ (.tail _ (.tail _ (.head _))) (.head _) (fun p hp => .tail _ (.tail _ (.tail _ (.tail _ (.tail _ (.tail _ (.tail _ (.tail _ (hown p hp))))))))) (fun p hp => .tail _ (.tail _ (.tail _ (.tail _ (.tail _ (.tail _ (.tail _ (.tail _ (hcst p hp))))))))) (fun p hp => hnI p (.tail _ (.tail _ hp))) ltA.2.2.2.2.1 ltB.2.2.2.2.2.2.1 Ia' Ib' (by simp only [List.length_append, List.length_cons, List.length_nil]; omega) (by simp only [List.length_append, List.length_cons, List.length_nil]; omega) gA' gB' (by omega) rfl rfl rfl rfl
          · rw [if_neg (by rw [decide_eq_true_eq]; omega)]
            iterate 9 walk1
            refine len_blank (by omega) ?_
            intro tO kO
            iterate 2 walk1
            rw [if_pos (decide_eq_true (by omega))]
            iterate 5 walk1
            dsimp only
            walk1
            (try dsimp only)
            iterate 7 walk1
            walk1
            rw [if_neg (by simp)]
            walk1
            (try dsimp only)
            walk1
            (try dsimp only)
            rename Fr _ _ _ _ => FZ
            rename News _ _ _ _ => NZ
            exact turn_end FZ NZ (.tail _ (.tail _ (.head _))) (.head _) (fun p hp => .tail _ (.tail _ (.tail _ (.tail _ (.tail _ (.tail _ (.tail _ (.tail _ (hown p hp))))))))) (fun p hp => .tail _ (.tail _ (.tail _ (.tail _ (.tail _ (.tail _ (.tail _ (.tail _ (hcst p hp))))))))) (fun p hp => hnI p (.tail _ (.tail _ hp))) ltA.2.2.2.2.1 ltB.2.2.2.2.2.2.1 Ia' Ib' (by simp only [List.length_append, List.length_cons, List.length_nil]; omega) (by simp only [List.length_append, List.length_cons, List.length_nil]; omega) gA' gB' (by omega) rfl rfl rfl rfl
      · intro m₁ nx h tk hJ F12 N12
        dsimp only
        k_steps
end Mine

theorem PySem.Challenge.cw_mq0442_01_holds : PySem.Challenge.rw_mq0442_01.Holds :=
  Mine.law_holds

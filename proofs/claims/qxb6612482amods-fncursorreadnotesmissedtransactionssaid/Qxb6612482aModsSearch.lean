import Derived.Test.Qxb6612482aModsInts
import Derived.Deep.LoopGhost
namespace Go.Proofs.Qxb6612482aMods
open Go.RowKit

set_option maxHeartbeats 400000 in
theorem isNaN31 (x : Int) (w : World) : Calls Trym.prog 31 #[.int .i64 x] w fun e w' => e = .returned (.bool false) ∧ w' = w := by
  go_enter Trym.func31, Trym.ntmps31
  go_wp2
  go_ret
  exact ⟨by simp, rfl⟩
set_option maxHeartbeats 400000 in
theorem isNaN30 (x : Int) (w : World) : Calls Trym.prog 30 #[.int .i64 x] w fun e w' => e = .returned (.bool false) ∧ w' = w := by
  go_enter Trym.func30, Trym.ntmps30
  go_wp2
  go_ret
  exact ⟨by simp, rfl⟩
set_option maxHeartbeats 400000 in
theorem less29 (x y : Int) (w : World) : Calls Trym.prog 29 #[.int .i64 x, .int .i64 y] w fun e w' => e = .returned (.bool (decide (x < y))) ∧ w' = w := by
  go_enter Trym.func29, Trym.ntmps29
  go_wp2_with (go_at_call 31; refine (isNaN31 _ _).mono ?_; rintro e w' ⟨rfl, rfl⟩)
  go_ret
  exact ⟨rfl, rfl⟩

/-- The numbers rise. -/
theorem rises {zs : List Int} {n : Nat} (h : ∀ i, 1 ≤ i → i < n → zs.getD (i - 1) 0 ≤ zs.getD i 0) (a d : Nat) : a + d < n → zs.getD a 0 ≤ zs.getD (a + d) 0 := by
  induction d with
  | zero => intro _; exact Int.le_refl _
  | succ d ih =>
    intro hd
    have h1 := ih (by omega)
    have h2 := h (a + (d + 1)) (by omega) hd
    rw [show a + (d + 1) - 1 = a + d from by omega] at h2
    omega

theorem search_no {zs : List Int} {n p : Nat} {x : Int} (hl : zs.length = n) (h1 : ∀ t, t < p → zs.getD t 0 < x) (h2 : ∀ t, p ≤ t → t < n → x < zs.getD t 0) : decide (x ∈ zs) = false := by
  rw [decide_eq_false_iff_not]
  intro hm
  obtain ⟨j, hj⟩ := List.getElem?_of_mem hm
  have hjn : j < n := by rw [← hl]; exact (List.getElem?_eq_some_iff.1 hj).1
  have e : zs.getD j 0 = x := by rw [List.getD_eq_getElem?_getD, hj]; rfl
  rcases Nat.lt_or_ge j p with h | h
  · have := h1 j h; omega
  · have := h2 j h hjn; omega

theorem search_yes {zs : List Int} {p : Nat} {x : Int} (hp : p < zs.length) (h : zs.getD p 0 = x) : decide (x ∈ zs) = true := by
  rw [decide_eq_true_eq, ← h, List.getD_eq_getElem?_getD, List.getElem?_eq_getElem hp]
  exact List.getElem_mem _

set_option maxHeartbeats 4000000 in
set_option maxRecDepth 1000000 in
theorem search28 (a : Option Addr) (n cap : Nat) (zs : List Int) (x : Int) (w : World) (h : IsInts w a n zs) (hn : n ≤ 131072) (hr : ∀ i, 1 ≤ i → i < n → zs.getD (i - 1) 0 ≤ zs.getD i 0) :
    Calls Trym.prog 28 #[.slice a n cap, .int .i64 x] w fun e w' => (∃ p : Int, e = .returned (.tuple #[.int .i64 p, .bool (decide (x ∈ zs))])) ∧ w' = w := by
  have H := hide h
  have S := hide (fun a b (hab : a ≤ b) (hb : b < n) => (show zs.getD a 0 ≤ zs.getD b 0 by have := rises hr a (b - a) (by omega); rwa [show a + (b - a) = b from by omega] at this))
  clear h hr
  go_enter Trym.func28, Trym.ntmps28
  go_wp2
  go_loopg [7, 8] n (fun g s7 s8 wr => ∃ lo hi : Nat, s7 = .int .i64 lo ∧ s8 = .int .i64 hi ∧ lo ≤ hi ∧ hi ≤ n ∧ hi - lo ≤ g ∧ wr = w ∧ (∀ t, t < lo → zs.getD t 0 < x) ∧ (∀ t, hi ≤ t → t < n → x ≤ zs.getD t 0))
  case atStart => exact ⟨0, n, rfl, rfl, Nat.zero_le _, Nat.le_refl _, by omega, rfl, fun t ht => absurd ht (Nat.not_lt_zero _), fun t h1 h2 => by omega⟩
  case round =>
    obtain ⟨lo, hi, rfl, rfl, hlh, hin, hg, rfl, h1, h2⟩ := hrel
    have I := hide (And.intro h1 h2)
    clear h1 h2
    by_cases hlt : lo < hi
    · obtain ⟨b, off, rfl⟩ := (unhide H).at' ((lo + hi) / 2) (by omega)
      have cm := (unhide H).cell b off rfl ((lo + hi) / 2) (by omega)
      generalize hy : zs.getD ((lo + hi) / 2) 0 = y at cm
      have Y := hide hy
      clear hy
      by_cases hyx : y < x
      · go_wp2_with (first | (go_at_call 29; refine (less29 _ _ _).mono ?_; rintro e w' ⟨rfl, rfl⟩) | (go_at_call 30; refine (isNaN30 _ _).mono ?_; rintro e w' ⟨rfl, rfl⟩))
        go_roundg (hi - ((lo + hi) / 2 + 1))
        case measure => omega
        case rel =>
          refine ⟨(lo + hi) / 2 + 1, hi, by rw [show ((lo : Int) + (hi : Int)) / 2 + 1 = (((lo + hi) / 2 + 1 : Nat) : Int) by omega], rfl, by omega, hin, Nat.le_refl _, rfl, fun t ht => ?_, (unhide I).2⟩
          have := unhide S t ((lo + hi) / 2) (by omega) (by omega)
          rw [unhide Y] at this
          omega
      · go_wp2_with (first | (go_at_call 29; refine (less29 _ _ _).mono ?_; rintro e w' ⟨rfl, rfl⟩) | (go_at_call 30; refine (isNaN30 _ _).mono ?_; rintro e w' ⟨rfl, rfl⟩))
        go_roundg ((lo + hi) / 2 - lo)
        case measure => omega
        case rel =>
          refine ⟨lo, (lo + hi) / 2, rfl, by rw [show ((lo : Int) + (hi : Int)) / 2 = (((lo + hi) / 2 : Nat) : Int) by omega], by omega, by omega, Nat.le_refl _, rfl, (unhide I).1, fun t ht htn => ?_⟩
          have := unhide S ((lo + hi) / 2) t ht htn
          rw [unhide Y] at this
          omega
    · have : hi = lo := by omega
      subst this
      by_cases hn' : hi < n
      · obtain ⟨b, off, rfl⟩ := (unhide H).at' hi hn'
        have cl := (unhide H).cell b off rfl hi hn'
        generalize hy : zs.getD hi 0 = y at cl
        have Y := hide hy
        clear hy
        by_cases hyx : y = x
        · have E := hide (search_yes (zs := zs) (p := hi) (x := x) (by rw [(unhide H).len]; exact hn') (by rw [unhide Y]; exact hyx))
          go_wp2_with (first | (go_at_call 29; refine (less29 _ _ _).mono ?_; rintro e w' ⟨rfl, rfl⟩) | (go_at_call 30; refine (isNaN30 _ _).mono ?_; rintro e w' ⟨rfl, rfl⟩))
          go_ret2
          refine ⟨⟨hi, ?_⟩, rfl⟩
          rw [unhide E]
          first | rfl | simp [*]
        · have E := hide (search_no (zs := zs) (n := n) (p := hi) (x := x) (unhide H).len (unhide I).1 (fun t ht htn => by
            have h1 := unhide S hi t ht htn
            have h2 := (unhide I).2 hi (Nat.le_refl _) hn'
            rw [unhide Y] at h1 h2
            omega))
          go_wp2_with (first | (go_at_call 29; refine (less29 _ _ _).mono ?_; rintro e w' ⟨rfl, rfl⟩) | (go_at_call 30; refine (isNaN30 _ _).mono ?_; rintro e w' ⟨rfl, rfl⟩))
          go_ret2
          refine ⟨⟨hi, ?_⟩, rfl⟩
          rw [unhide E]
          first | rfl | simp [*]
      · have E := hide (search_no (zs := zs) (n := n) (p := hi) (x := x) (unhide H).len (unhide I).1 (fun t ht htn => by omega))
        go_wp2_with (first | (go_at_call 29; refine (less29 _ _ _).mono ?_; rintro e w' ⟨rfl, rfl⟩) | (go_at_call 30; refine (isNaN30 _ _).mono ?_; rintro e w' ⟨rfl, rfl⟩))
        go_ret2
        refine ⟨⟨hi, ?_⟩, rfl⟩
        rw [unhide E]
        first | rfl | simp [*]

set_option maxHeartbeats 1000000 in
theorem ended_any (a : Option Addr) (n cap : Nat) (za : List Int) (a1 : Option Addr) (n1 cap1 : Nat) (zb : List Int) (w : World) (h : IsInts w a n za) (h1 : IsInts w a1 n1 zb) (hn : n ≤ 131072) (hn1 : n1 ≤ 131072) (hr : ∀ i, 1 ≤ i → i < n1 → zb.getD (i - 1) 0 ≤ zb.getD i 0) :
    Calls Trym.prog 27 #[.slice a n cap, .slice a1 n1 cap1] w fun e w' => e = .returned (.bool (!allIn za zb)) ∧ w' = w := by
  have H := hide h
  have H1 := hide h1
  have HR := hide hr
  clear h h1 hr
  go_enter Trym.func27, Trym.ntmps27
  go_wp2
  go_loop [11] (fun i => ∃ k : Nat, k ≤ n ∧ i = .int .i64 k ∧ ∀ j, j < k → decide (za.getD j 0 ∈ zb) = true) (fun i => n - (intOf i).toNat)
  case atStart => exact ⟨0, by omega, rfl, by intro j hj; omega⟩
  case round =>
    obtain ⟨k, hk, rfl, hp⟩ := hrel
    have HP := hide hp
    clear hp
    by_cases hlt : k < n
    · obtain ⟨b, off, rfl⟩ := (unhide H).at' k hlt
      have hx := (unhide H).cell b off rfl k hlt
      have HN := hide (allIn_no (za := za) (zb := zb) (k := k) (by rw [(unhide H).len]; exact hlt))
      generalize hye : za.getD k 0 = y at *
      have HY := hide hye
      clear hye
      go_wp2_with fail
      refine (search28 a1 n1 cap1 zb y _ (unhide H1) hn1 (unhide HR)).mono ?_
      rintro e w2 ⟨⟨p, rfl⟩, rfl⟩
      cases hd : decide (y ∈ zb)
      · have HD := hide hd
        clear hd
        go_wp2
        go_ret
        exact ⟨ret_bool (by rw [unhide HN (unhide HD)]; rfl), rfl⟩
      · have HD := hide hd
        clear hd
        go_wp2
        go_round
        case rel =>
          refine ⟨k + 1, by omega, by go_num, fun j hj => ?_⟩
          by_cases ej : j = k
          · subst ej; rw [unhide HY]; exact unhide HD
          · exact unhide HP j (by omega)
        case measure => simp [intOf]; omega
    · have HN := hide (allIn_yes (za := za) (zb := zb) (fun j hj => unhide HP j (by rw [(unhide H).len] at hj; omega)))
      go_wp2
      go_ret
      exact ⟨ret_bool (by rw [unhide HN]; rfl), rfl⟩

end Go.Proofs.Qxb6612482aMods

import Derived.Test.Qxb6605581aModsRead
namespace Go.Proofs.Qxb6605581aMods
open Go.RowKit Go.Maps

/-- The Pair of one call. -/
structure Cl where
  a : ByteArray
  b : ByteArray
  sa : Nat
  sb : Nat

/-- A slice of calls that is there: its elements. -/
structure IsCalls (w : World) (a : Option Addr) (n : Nat) (cs : List Cl) : Prop where
  len : cs.length = n
  small : n ≤ maxLen
  at' : ∀ i, i < n → ∃ b off, a = some ⟨b, off, none⟩
  cell : ∀ b off, a = some ⟨b, off, none⟩ → ∀ i r, cs[i]? = some r → w.cell? ⟨b, off + i * 4, none⟩ = some (.string r.a) ∧ w.cell? ⟨b, off + i * 4 + 1, none⟩ = some (.string r.b) ∧
    w.cell? ⟨b, off + i * 4 + 2, none⟩ = some (.float .f64 r.sa) ∧ w.cell? ⟨b, off + i * 4 + 3, none⟩ = some (.float .f64 r.sb)
  short : ∀ r ∈ cs, r.a.size ≤ maxLen ∧ r.b.size ≤ maxLen
theorem IsCalls.below {w w' : World} {a : Option Addr} {n : Nat} {cs : List Cl} (h : IsCalls w a n cs) (hb : Below w.heap.size w w') : IsCalls w' a n cs :=
  ⟨h.len, h.small, h.at', fun b off e i r hr => let c := h.cell b off e i r hr
    ⟨keep_cell hb c.1, keep_cell hb c.2.1, keep_cell hb c.2.2.1, keep_cell hb c.2.2.2⟩, h.short⟩
theorem IsCalls.get {w : World} {a : Option Addr} {n : Nat} {cs : List Cl} (h : IsCalls w a n cs) {i : Nat} (hi : i < n) : ∃ r, cs[i]? = some r := ⟨_, List.getElem?_eq_getElem (by rw [h.len]; exact hi)⟩

set_option maxHeartbeats 2000000 in
theorem bytes17_any (a : Option Addr) (n cap : Nat) (cs : List Cl) (w : World) (h : IsCalls w a n cs) :
    Calls Trym.prog 17 #[.slice a n cap] w fun e w' => IsBool e ∧ w' = w := by
  have H := hide h
  have hn := h.small
  unfold maxLen at hn
  clear h
  go_enter Trym.func17, Trym.ntmps17
  go_wp2
  · go_ret
    exact ⟨IsBool.of _ rfl, rfl⟩
  go_loop [3, 4] (fun q i => ∃ (k : Nat) (r : Int), k ≤ n ∧ i = .int .i64 k ∧ q = .int .i64 r ∧ 0 ≤ r ∧ r ≤ 1048576) (fun _ i => n - (intOf i).toNat)
  case atStart => exact ⟨0, _, Nat.zero_le _, rfl, rfl, by omega, by omega⟩
  case round =>
    obtain ⟨k, r, hk, rfl, rfl, hr0, hr1⟩ := hrel
    by_cases hlt : k < n
    · obtain ⟨b, off, rfl⟩ := (unhide H).at' k hlt
      obtain ⟨y, hy⟩ := (unhide H).get hlt
      have hc := (unhide H).cell b off rfl k y hy
      have hz := (unhide H).short y (List.mem_of_getElem? hy)
      obtain ⟨c0, c1, c2, c3⟩ := hc
      obtain ⟨z0, z1⟩ := hz
      unfold maxLen at z0 z1
      clear hy
      go_wp2
      all_goals first
        | (go_ret
           exact ⟨IsBool.of _ rfl, rfl⟩)
        | (go_round
           case rel => exact ⟨k + 1, r + y.a.size + y.b.size, by omega, by go_num, by go_num, by omega, by omega⟩
           case measure => simp [intOf]; omega)
    · go_wp2
      all_goals
        go_ret
        exact ⟨IsBool.of _ rfl, rfl⟩

/-! ### The plain model -/
def names (cs : List Cl) : List ByteArray := cs.foldl (fun N c => addS (addS N c.a) c.b) []
/-- A name's place. -/
def idx (N : List ByteArray) (s : ByteArray) : Nat := (findS N s).getD 0
def ckey (N : List ByteArray) (c : Cl) : Nat × Nat := pk (idx N c.a) (idx N c.b)
def csc (N : List ByteArray) (c : Cl) : Nat × Nat := sc (idx N c.a) (idx N c.b) c.sa c.sb
def keys (N : List ByteArray) (cs : List Cl) : List (Nat × Nat) := cs.foldl (fun K c => addK K (ckey N c)) []
def add1 (N : List ByteArray) (p : Nat × Nat) (x : Option Nat × Option Nat) (c : Cl) : Option Nat × Option Nat := if p = ckey N c then (fadd x.1 (csc N c).1, fadd x.2 (csc N c).2) else x
def tot (N : List ByteArray) (cs : List Cl) (p : Nat × Nat) : Option Nat × Option Nat := cs.foldl (add1 N p) (some 0, some 0)

theorem names_snoc (cs : List Cl) (c : Cl) : names (cs ++ [c]) = addS (addS (names cs) c.a) c.b := by simp [names]
theorem keys_snoc (N : List ByteArray) (cs : List Cl) (c : Cl) : keys N (cs ++ [c]) = addK (keys N cs) (ckey N c) := by simp [keys]
theorem tot_snoc (N : List ByteArray) (cs : List Cl) (c : Cl) (p : Nat × Nat) : tot N (cs ++ [c]) p = add1 N p (tot N cs p) c := by simp [tot]
theorem tot_step (N : List ByteArray) (cs : List Cl) (c : Cl) : tot N (cs ++ [c]) = updF (tot N cs) (ckey N c) (csc N c) := by
  funext p
  rw [tot_snoc, add1, updF]
  by_cases e : p = ckey N c
  · subst e; simp
  · simp [e]
theorem take_snoc {cs : List Cl} {k : Nat} {c : Cl} (h : cs[k]? = some c) : cs.take (k + 1) = cs.take k ++ [c] := by
  have := List.getElem?_eq_some_iff.1 h
  rw [List.take_succ_eq_append_getElem this.1, this.2]
theorem foldN_app (cs : List Cl) : ∀ N : List ByteArray, ∃ r, cs.foldl (fun N c => addS (addS N c.a) c.b) N = N ++ r := by
  induction cs with
  | nil => intro N; exact ⟨[], by simp⟩
  | cons c t ih =>
    intro N
    obtain ⟨r1, h1⟩ := addS_app N c.a
    obtain ⟨r2, h2⟩ := addS_app (addS N c.a) c.b
    obtain ⟨r3, h3⟩ := ih (addS (addS N c.a) c.b)
    refine ⟨r1 ++ r2 ++ r3, ?_⟩
    rw [List.foldl_cons, h3, h2, h1]; simp
theorem names_app (cs : List Cl) (k : Nat) : ∃ r, names cs = names (cs.take k) ++ r := by
  obtain ⟨r, h⟩ := foldN_app (cs.drop k) (names (cs.take k))
  refine ⟨r, ?_⟩
  rw [← h, names, names, ← List.foldl_append, List.take_append_drop]
/-- A place found after call k is the place at last. -/
theorem names_find {cs : List Cl} {k : Nat} {s : ByteArray} {i : Nat} (h : findS (names (cs.take k)) s = some i) : findS (names cs) s = some i := by
  obtain ⟨r, hr⟩ := names_app cs k
  rw [hr]; exact findS_app r h
theorem idx_of {N : List ByteArray} {s : ByteArray} {i : Nat} (h : findS N s = some i) : idx N s = i := by simp [idx, h]
theorem names_mem {cs : List Cl} {k : Nat} {c : Cl} (h : cs[k]? = some c) : findS (names cs) c.a = some (idx (names cs) c.a) ∧ findS (names cs) c.b = some (idx (names cs) c.b) := by
  have e := take_snoc h
  have hs : names (cs.take (k + 1)) = addS (addS (names (cs.take k)) c.a) c.b := by rw [e, names_snoc]
  obtain ⟨i, hi⟩ := addS_find (names (cs.take k)) c.a
  obtain ⟨r, hr⟩ := addS_app (addS (names (cs.take k)) c.a) c.b
  obtain ⟨j, hj⟩ := addS_find (addS (names (cs.take k)) c.a) c.b
  have h1 : findS (names cs) c.a = some i := names_find (k := k + 1) (by rw [hs, hr]; exact findS_app r hi)
  have h2 : findS (names cs) c.b = some j := names_find (k := k + 1) (by rw [hs]; exact hj)
  rw [idx_of h1, idx_of h2]; exact ⟨h1, h2⟩
theorem foldN_nodup (cs : List Cl) : ∀ N : List ByteArray, N.Nodup → (cs.foldl (fun N c => addS (addS N c.a) c.b) N).Nodup := by
  induction cs with
  | nil => intro N h; exact h
  | cons c t ih => intro N h; exact ih _ (addS_nodup (addS_nodup h _) _)
theorem names_nodup (cs : List Cl) : (names cs).Nodup := foldN_nodup cs [] (by simp)
theorem foldN_len (cs : List Cl) : ∀ N : List ByteArray, (cs.foldl (fun N c => addS (addS N c.a) c.b) N).length ≤ N.length + 2 * cs.length := by
  induction cs with
  | nil => intro N; simp
  | cons c t ih =>
    intro N
    have h1 := ih (addS (addS N c.a) c.b)
    have h2 := addS_len (addS N c.a) c.b
    have h3 := addS_len N c.a
    simp only [List.foldl_cons, List.length_cons]
    omega
theorem names_len (cs : List Cl) : (names cs).length ≤ 2 * cs.length := by simpa [names] using foldN_len cs []
theorem addK_nodup {K : List (Nat × Nat)} (h : K.Nodup) (p : Nat × Nat) : (addK K p).Nodup := by
  unfold addK; split
  · exact h
  · rename_i e
    rw [List.nodup_append]
    exact ⟨h, by simp, fun x hx y hy => by simp at hy; subst hy; exact fun e2 => e (e2 ▸ hx)⟩
theorem foldK_nodup (N : List ByteArray) (cs : List Cl) : ∀ K : List (Nat × Nat), K.Nodup → (cs.foldl (fun K c => addK K (ckey N c)) K).Nodup := by
  induction cs with
  | nil => intro K h; exact h
  | cons c t ih => intro K h; exact ih _ (addK_nodup h _)
theorem keys_nodup (N : List ByteArray) (cs : List Cl) : (keys N cs).Nodup := foldK_nodup N cs [] (by simp)
theorem addK_mem {K : List (Nat × Nat)} {p q : Nat × Nat} : q ∈ addK K p ↔ q ∈ K ∨ q = p := by
  unfold addK; split
  · rename_i h
    exact ⟨.inl, fun h2 => h2.elim id (fun e => e ▸ h)⟩
  · simp
theorem foldK_mem (N : List ByteArray) (q : Nat × Nat) (cs : List Cl) : ∀ K : List (Nat × Nat), q ∈ cs.foldl (fun K c => addK K (ckey N c)) K ↔ q ∈ K ∨ ∃ c ∈ cs, q = ckey N c := by
  induction cs with
  | nil => intro K; simp
  | cons c t ih =>
    intro K
    rw [List.foldl_cons, ih, addK_mem]
    simp [or_assoc]
theorem keys_mem {N : List ByteArray} {q : Nat × Nat} {cs : List Cl} : q ∈ keys N cs ↔ ∃ c ∈ cs, q = ckey N c := by simp [keys, foldK_mem]
theorem tot_zero {N : List ByteArray} {p : Nat × Nat} : ∀ {cs : List Cl} (x : Option Nat × Option Nat), (∀ c ∈ cs, p ≠ ckey N c) → cs.foldl (add1 N p) x = x
  | [], x, _ => rfl
  | c :: t, x, h => by
    rw [List.foldl_cons, add1, if_neg (h c (by simp))]
    exact tot_zero x fun d hd => h d (List.mem_cons_of_mem _ hd)
theorem tot_none {N : List ByteArray} {p : Nat × Nat} {cs : List Cl} (h : p ∉ keys N cs) : tot N cs p = (some 0, some 0) := tot_zero _ fun c hc e => h (keys_mem.2 ⟨c, hc, e⟩)
theorem keys_len (N : List ByteArray) (cs : List Cl) : (keys N cs).length ≤ cs.length := by
  have : ∀ (cs : List Cl) (K : List (Nat × Nat)), (cs.foldl (fun K c => addK K (ckey N c)) K).length ≤ K.length + cs.length := by
    intro cs
    induction cs with
    | nil => intro K; simp
    | cons c t ih =>
      intro K
      have h1 := ih (addK K (ckey N c))
      have h2 : (addK K (ckey N c)).length ≤ K.length + 1 := by unfold addK; split <;> simp
      simp only [List.foldl_cons, List.length_cons]
      omega
  simpa [keys] using this cs []

/-- One call more, in the Tally. -/
theorem St.add {w w' : World} {base gt : Nat} {cs : List Cl} {k : Nat} {c : Cl} (hc : cs[k]? = some c) (h : Added w w' base gt (names (cs.take k)) (keys (names cs) (cs.take k)) (tot (names cs) (cs.take k)) (3 * k) c.a c.b c.sa c.sb) :
    St w' base gt (names (cs.take (k + 1))) (keys (names cs) (cs.take (k + 1))) (tot (names cs) (cs.take (k + 1))) (3 * (k + 1)) ∧ Below base w w' := by
  obtain ⟨bi, bp, i, j, v', L', hi, hj, hT, hL, hb⟩ := h
  have hN : names (cs.take (k + 1)) = addS (addS (names (cs.take k)) c.a) c.b := by rw [take_snoc hc, names_snoc]
  rw [← hN] at hi hj hT
  have ei := idx_of (names_find hi)
  have ej := idx_of (names_find hj)
  refine ⟨.inr ⟨bi, bp, v', L', ?_, ?_⟩, hb⟩
  · rw [take_snoc hc, tot_step, ckey, csc, ei, ej, ← take_snoc hc]
    exact hT
  · rw [take_snoc hc, keys_snoc, ckey, ei, ej]; exact hL

theorem addPair_any (base gt : Nat) (cs : List Cl) (k : Nat) (c : Cl) (w : World) (hc : cs[k]? = some c) (h : St w base gt (names (cs.take k)) (keys (names cs) (cs.take k)) (tot (names cs) (cs.take k)) (3 * k)) (hk : k ≤ 4096) (hA : c.a.size ≤ maxLen) (hB : c.b.size ≤ maxLen) :
    Calls Trym.prog 18 #[.pointer (some ⟨gt, 0, none⟩), .agg #[.string c.a, .string c.b, .float .f64 c.sa, .float .f64 c.sb]] w fun e w' => e = .returned (.tuple #[]) ∧
      St w' base gt (names (cs.take (k + 1))) (keys (names cs) (cs.take (k + 1))) (tot (names cs) (cs.take (k + 1))) (3 * (k + 1)) ∧ Below base w w' := by
  have hlen : (names (cs.take k)).length ≤ 131000 := by
    have := names_len (cs.take k)
    have := List.length_take_le k cs
    omega
  rcases h with ⟨h1, h2, h3, h4⟩ | ⟨bi, bp, v, L, h, hL⟩
  · refine (addPair_nil base gt (tot (names cs) (cs.take k)) c.a c.b c.sa c.sb w h4 h3 hA hB (fun p => tot_none (by rw [h2]; simp))).mono ?_
    rintro e w' ⟨rfl, hA⟩
    refine ⟨rfl, St.add hc ?_⟩
    rw [h1, h2]
    obtain ⟨bi, bp, i, j, v', L', q1, q2, q3, q4⟩ := hA
    exact ⟨bi, bp, i, j, v', L', q1, q2, q3.mono (by omega), q4⟩
  · refine (addPair_tal base gt bi bp v _ L _ _ c.a c.b c.sa c.sb w h hA hB (by omega) hlen (by rw [hL]; exact keys_nodup _ _) (fun p hp => tot_none (by rw [← hL]; exact findP_none.1 hp))).mono ?_
    rintro e w' ⟨rfl, hA⟩
    rw [hL] at hA
    exact ⟨rfl, St.add hc hA⟩

end Go.Proofs.Qxb6605581aMods

import Derived.Test.Qxb6600884aModsRows
import Derived.WalkKit
import Derived.WalkSpells
import Derived.WalkLawsBesides
import Derived.Deep.RegionHeld3
import Derived.Deep.DrawnRows
import Derived.Deep.AppendLies
namespace Go.Proofs.Qxb6600884aMods
open Go.RowKit

theorem bcell {W w1 : World} (hb : Below W.heap.size W w1) : (∀ b o, b < W.heap.size → w1.cell? ⟨b, o, none⟩ = W.cell? ⟨b, o, none⟩) ∧ (∀ b o, b < W.heap.size → w1.frozen? ⟨b, o, none⟩ = W.frozen? ⟨b, o, none⟩) :=
  ⟨fun b o h => hb.cell (p := ⟨b, o, none⟩) h, fun b o h => hb.frozen (p := ⟨b, o, none⟩) h⟩

/-- The value of an Entry. -/
abbrev ent (p t : ByteArray) (m : Int) (h g : ByteArray) : Value := .agg #[.string p, .string t, .int .u32 m, .string h, .string g]

set_option maxHeartbeats 400000 in
theorem entry_any (p t h g : ByteArray) (m : Int) (w : World) :
    Calls Trym.prog 18 #[ent p t m h g] w fun e w' => e = .returned (ent p t m h g) ∧ Below w.heap.size w w' := by
  go_enter Trym.func18, Trym.ntmps18
  go_wp2
  exact bodyPost_ret (v := ent p t m h g) (by simp [results, Trym.results18, go_sem]) rfl ⟨rfl, ((Below.refl _ _).alloc (Nat.le_refl _) _).alloc (by simp) _⟩

set_option maxHeartbeats 400000 in
theorem entryBytes_any (p t h g : ByteArray) (m : Int) (w : World) (hp : p.size ≤ 1048576) (ht : t.size ≤ 1048576) (hh : h.size ≤ 1048576) (hg : g.size ≤ 1048576) :
    Calls Trym.prog 16 #[ent p t m h g] w fun e w' => e = .returned (.int .i64 (p.size + t.size + h.size + g.size)) ∧ Below w.heap.size w w' := by
  go_enter Trym.func16, Trym.ntmps16
  go_wp2
  go_ret
  exact ⟨rfl, (Below.refl _ _).alloc (Nat.le_refl _) _⟩

set_option maxHeartbeats 1000000 in
theorem bytes20_any (p t h g p' t' h' g' : ByteArray) (m m' : Int) (w : World) (hp : p.size ≤ maxLen) (ht : t.size ≤ maxLen) (hh : h.size ≤ maxLen) (hg : g.size ≤ maxLen) (hp' : p'.size ≤ maxLen) (ht' : t'.size ≤ maxLen) (hh' : h'.size ≤ maxLen) (hg' : g'.size ≤ maxLen) :
    Calls Trym.prog 20 #[ent p t m h g, ent p' t' m' h' g'] w fun e w' => (∃ b, e = .returned (.bool b) ∧ (b = true → p.size + t.size + h.size + g.size + p'.size + t'.size + h'.size + g'.size ≤ 1048576)) ∧ Below w.heap.size w w' := by
  unfold maxLen at *
  go_enter Trym.func20, Trym.ntmps20
  go_wp2
  all_goals go_ret
  all_goals refine ⟨⟨_, rfl, ?_⟩, ((Below.refl _ _).alloc (Nat.le_refl _) _).alloc (by simp) _⟩
  all_goals first | (intro h; cases h; done) | (intro _; omega)

/-- A goal that the walk leaves alone. -/
def Hold (p : Prop) : Prop := p
theorem Hold.out {p : Prop} (h : Hold p) : p := h
theorem Hold.of {p : Prop} (h : p) : Hold p := h

def kMissing : ByteArray := ⟨#[109, 105, 115, 115, 105, 110, 103]⟩
def kLinkMissing : ByteArray := ⟨#[108, 105, 110, 107, 45, 109, 105, 115, 115, 105, 110, 103]⟩
def kAdded : ByteArray := ⟨#[97, 100, 100, 101, 100]⟩
def kChanged : ByteArray := ⟨#[99, 104, 97, 110, 103, 101, 100]⟩
def kLinkChanged : ByteArray := ⟨#[108, 105, 110, 107, 45, 99, 104, 97, 110, 103, 101, 100]⟩
def kMode : ByteArray := ⟨#[109, 111, 100, 101, 45, 99, 104, 97, 110, 103, 101, 100]⟩
def chg (l : Bool) : ByteArray := if l then kLinkChanged else kChanged

theorem Trym.info43 : (Trym.prog.info? 43).map (fun i => (i.zero, i.size, i.bytes)) = some (some (.string ⟨#[]⟩), 1, 16) := by kernel_rfl

/-- One new block of one string. -/
theorem owns_one {w : World} {B base : Nat} {k : ByteArray} (hb : w.heap[B]? = some (.cells #[.string k] 43 (0, 0))) (hB : base ≤ B) : w.ownsRow base 43 1 (.slice (some ⟨B, 0, none⟩) 1 1) 1 [.string k] :=
  ⟨rfl, .inr ⟨B, 1, #[.string k], rfl, hB, hb, Nat.le_refl _, by decide, rfl, rfl⟩⟩

theorem heap_at {w : World} {o : Obj} {B : Nat} (h : w.heap.size = B) : (w.alloc o).heap[B]? = some o := by subst h; exact heap_alloc_new w o
theorem owns_new {w : World} {B base : Nat} {k : ByteArray} (h : w.heap.size = B) (hB : base ≤ B) : (w.alloc (.cells #[.string k] 43)).ownsRow base 43 1 (.slice (some ⟨B, 0, none⟩) 1 1) 1 [.string k] := by
  subst h
  exact owns_one (heap_alloc_new w _) hB

set_option maxHeartbeats 1000000 in
theorem cmp_gone (p t h g p' t' h' g' : ByteArray) (m m' : Int) (iw l : Bool) (w : World) (hl : (t.toList == [108, 105, 110, 107]) = l) :
    Calls Trym.prog 24 #[ent p t m h g, ent p' t' m' h' g', .bool iw, .bool false] w fun e w' => ∃ v, e = .returned v ∧ w'.ownsRow w.heap.size 43 1 v 1 [.string (if l then kLinkMissing else kMissing)] ∧ Below w.heap.size w w' := by
  cases l
  all_goals
    go_enter Trym.func24, Trym.ntmps24
    go_wp2
    go_ret
    exact ⟨_, rfl, owns_new (by simp) (by omega), (((Below.refl _ _).alloc (Nat.le_refl _) _).alloc (by simp) _).alloc (by simp; omega) _⟩

set_option maxHeartbeats 1000000 in
theorem cmp_added (p t h g p' t' h' g' : ByteArray) (m m' : Int) (l : Bool) (w : World) (hl : (t.toList == [108, 105, 110, 107]) = l) :
    Calls Trym.prog 24 #[ent p t m h g, ent p' t' m' h' g', .bool false, .bool true] w fun e w' => ∃ v, e = .returned v ∧ w'.ownsRow w.heap.size 43 1 v 1 [.string kAdded] ∧ Below w.heap.size w w' := by
  cases l
  all_goals
    go_enter Trym.func24, Trym.ntmps24
    go_wp2
    go_ret
    exact ⟨_, rfl, owns_new (by simp) (by omega), (((Below.refl _ _).alloc (Nat.le_refl _) _).alloc (by simp) _).alloc (by simp; omega) _⟩

set_option maxHeartbeats 1000000 in
theorem cmp_type (p t h g p' t' h' g' : ByteArray) (m m' : Int) (l : Bool) (w : World) (hl : (t.toList == [108, 105, 110, 107]) = l) (h1 : (t.toList == t'.toList) = false) :
    Calls Trym.prog 24 #[ent p t m h g, ent p' t' m' h' g', .bool true, .bool true] w fun e w' => ∃ v, e = .returned v ∧ w'.ownsRow w.heap.size 43 1 v 1 [.string (chg l)] ∧ Below w.heap.size w w' := by
  cases l
  all_goals
    go_enter Trym.func24, Trym.ntmps24
    go_wp2
    go_ret
    exact ⟨_, rfl, owns_new (by simp) (by omega), (((Below.refl _ _).alloc (Nat.le_refl _) _).alloc (by simp) _).alloc (by simp; omega) _⟩

set_option maxHeartbeats 1000000 in
theorem cmp_same (p t h g p' t' h' g' : ByteArray) (m m' : Int) (l : Bool) (w : World) (hl : (t.toList == [108, 105, 110, 107]) = l) (h1 : (t.toList == t'.toList) = true) (h2 : (h.toList == h'.toList) = true) (h3 : (g.toList == g'.toList) = true) (h4 : (m == m') = true) :
    Calls Trym.prog 24 #[ent p t m h g, ent p' t' m' h' g', .bool true, .bool true] w fun e w' => ∃ v, e = .returned v ∧ w'.ownsRow w.heap.size 43 1 v 0 [] ∧ Below w.heap.size w w' := by
  cases l
  all_goals
    go_enter Trym.func24, Trym.ntmps24
    go_wp2
    go_ret
    exact ⟨_, rfl, World.ownsRow_nil _ _ _ _, ((Below.refl _ _).alloc (Nat.le_refl _) _).alloc (by simp) _⟩

set_option maxHeartbeats 1000000 in
theorem cmp_mode (p t h g p' t' h' g' : ByteArray) (m m' : Int) (l : Bool) (w : World) (hl : (t.toList == [108, 105, 110, 107]) = l) (h1 : (t.toList == t'.toList) = true) (h2 : (h.toList == h'.toList) = true) (h3 : (g.toList == g'.toList) = true) (h4 : (m == m') = false) :
    Calls Trym.prog 24 #[ent p t m h g, ent p' t' m' h' g', .bool true, .bool true] w fun e w' => ∃ v, e = .returned v ∧ w'.ownsRow w.heap.size 43 1 v 1 [.string kMode] ∧ Below w.heap.size w w' := by
  obtain ⟨i0, hi0, hz0, hz1, hz2⟩ := info_parts Trym.info43
  have h5 : (m != m') = true := by simp [bne, h4]
  cases l
  all_goals
    go_enter Trym.func24, Trym.ntmps24
    go_wp2_with (at_builtin; refine Hold.out ?_)
    refine Hold.of ?_
    refine wpList_append_lies _ rfl _ _ _ (by rfl) w.heap.size 43 i0 _ 1 16 Trym.underlying37 hi0 hz0 hz1 hz2 rfl (by omega) (.slice none 0 0) 0 [] (by rfl) (World.ownsRow_nil _ _ _ _) ⟨w.heap.size + 1 + 1, 0, none⟩ 1 1 [.string kMode] (by rfl) (by rfl) ?_ (by simp [Value.oneCell']) (by omega) (by decide) (by omega) (by simp; omega) _ rfl ?_
    · exact World.news_of_block (cs := #[.string kMode]) (t := 43) (fr := (0, 0)) (heap_at (by simp))
    · intro g cap w1 hown hgrow hat hlt
      go_wp2
      go_ret
      exact ⟨_, rfl, hown, (((((Below.refl _ _).alloc (Nat.le_refl _) _).alloc (by simp) _).alloc (by simp; omega) _)).grown hgrow (by simp; omega) (by simp [Value.ownBlock])⟩

set_option maxHeartbeats 2000000 in
theorem cmp_contentLS (p t h g p' t' h' g' : ByteArray) (m m' : Int) (w : World) (hl : (t.toList == [108, 105, 110, 107]) = true) (h1 : (t.toList == t'.toList) = true) (hc : (h.toList == h'.toList) = false ∨ ((h.toList == h'.toList) = true ∧ (g.toList == g'.toList) = false)) (h4 : (m == m') = true) :
    Calls Trym.prog 24 #[ent p t m h g, ent p' t' m' h' g', .bool true, .bool true] w fun e w' => ∃ v, e = .returned v ∧ w'.ownsRow w.heap.size 43 1 v 1 [.string (chg true)] ∧ Below w.heap.size w w' := by
  obtain ⟨i0, hi0, hz0, hz1, hz2⟩ := info_parts Trym.info43
  have h5 : (m != m') = false := by simp [bne, h4]
  rcases hc with h2 | ⟨h2, h3⟩
  all_goals
    go_enter Trym.func24, Trym.ntmps24
    go_wp2_with (at_builtin; refine Hold.out ?_)
    refine Hold.of ?_
    refine wpList_append_lies _ rfl _ _ _ (by rfl) w.heap.size 43 i0 _ 1 16 Trym.underlying37 hi0 hz0 hz1 hz2 rfl (by omega) (.slice none 0 0) 0 [] (by rfl) (World.ownsRow_nil _ _ _ _) ⟨w.heap.size + 1 + 1, 0, none⟩ 1 1 [.string (chg true)] (by rfl) (by rfl) ?_ (by simp [Value.oneCell']) (by omega) (by decide) (by omega) (by simp; omega) _ rfl ?_
    · exact World.news_of_block (cs := #[.string (chg true)]) (t := 43) (fr := (0, 0)) (heap_at (by simp))
    · intro g cap w1 hown hgrow hat hlt
      have hb : Below w.heap.size w w1 := (((((Below.refl _ _).alloc (Nat.le_refl _) _).alloc (by simp) _).alloc (by simp; omega) _)).grown hgrow (by simp; omega) (by simp [Value.ownBlock])
      have c1 : w1.cell? ⟨w.heap.size, 2, none⟩ = some (.int .u32 m) := by rw [hgrow.cell_far _ (by simp; omega) (by simp [Value.ownBlock])]; go_simp
      have c2 : w1.cell? ⟨w.heap.size + 1, 2, none⟩ = some (.int .u32 m') := by rw [hgrow.cell_far _ (by simp) (by simp [Value.ownBlock])]; go_simp
      have hown' : w1.ownsRow w.heap.size 43 1 (.slice (some ⟨g, 0, none⟩) 1 cap) 1 [.string (chg true)] := hown
      clear hown hgrow hat
      go_wp2
      go_ret
      exact ⟨_, rfl, hown', hb⟩
set_option maxHeartbeats 2000000 in
theorem cmp_contentLM (p t h g p' t' h' g' : ByteArray) (m m' : Int) (w : World) (hl : (t.toList == [108, 105, 110, 107]) = true) (h1 : (t.toList == t'.toList) = true) (hc : (h.toList == h'.toList) = false ∨ ((h.toList == h'.toList) = true ∧ (g.toList == g'.toList) = false)) (h4 : (m == m') = false) :
    Calls Trym.prog 24 #[ent p t m h g, ent p' t' m' h' g', .bool true, .bool true] w fun e w' => ∃ v, e = .returned v ∧ w'.ownsRow w.heap.size 43 1 v 2 [.string (chg true), .string kMode] ∧ Below w.heap.size w w' := by
  obtain ⟨i0, hi0, hz0, hz1, hz2⟩ := info_parts Trym.info43
  have h5 : (m != m') = true := by simp [bne, h4]
  rcases hc with h2 | ⟨h2, h3⟩
  all_goals
    go_enter Trym.func24, Trym.ntmps24
    go_wp2_with (at_builtin; refine Hold.out ?_)
    refine Hold.of ?_
    refine wpList_append_lies _ rfl _ _ _ (by rfl) w.heap.size 43 i0 _ 1 16 Trym.underlying37 hi0 hz0 hz1 hz2 rfl (by omega) (.slice none 0 0) 0 [] (by rfl) (World.ownsRow_nil _ _ _ _) ⟨w.heap.size + 1 + 1, 0, none⟩ 1 1 [.string (chg true)] (by rfl) (by rfl) ?_ (by simp [Value.oneCell']) (by omega) (by decide) (by omega) (by simp; omega) _ rfl ?_
    · exact World.news_of_block (cs := #[.string (chg true)]) (t := 43) (fr := (0, 0)) (heap_at (by simp))
    · intro g cap w1 hown hgrow hat hlt
      have hb : Below w.heap.size w w1 := (((((Below.refl _ _).alloc (Nat.le_refl _) _).alloc (by simp) _).alloc (by simp; omega) _)).grown hgrow (by simp; omega) (by simp [Value.ownBlock])
      have c1 : w1.cell? ⟨w.heap.size, 2, none⟩ = some (.int .u32 m) := by rw [hgrow.cell_far _ (by simp; omega) (by simp [Value.ownBlock])]; go_simp
      have c2 : w1.cell? ⟨w.heap.size + 1, 2, none⟩ = some (.int .u32 m') := by rw [hgrow.cell_far _ (by simp) (by simp [Value.ownBlock])]; go_simp
      have hown' : w1.ownsRow w.heap.size 43 1 (.slice (some ⟨g, 0, none⟩) 1 cap) 1 [.string (chg true)] := hown
      clear hown hgrow hat
      have hs := hb.size
      have hg := hown'.form (by omega)
      go_wp2_with (at_builtin; refine Hold.out ?_)
      refine Hold.of ?_
      refine wpList_append_lies _ rfl _ _ _ (by rfl) w.heap.size 43 i0 _ 1 16 Trym.underlying37 hi0 hz0 hz1 hz2 rfl (by omega) (.slice (some ⟨g, 0, none⟩) 1 cap) 1 [.string (chg true)] (by rfl) (hown'.alloc _) ⟨w1.heap.size, 0, none⟩ 1 1 [.string kMode] (by rfl) (by rfl) ?_ (by simp [Value.oneCell']) (by omega) (by decide) (by omega) (by simp; omega) _ rfl ?_
      · exact World.news_of_block (cs := #[.string kMode]) (t := 43) (fr := (0, 0)) (heap_at rfl)
      · intro g' cap' w2 hown2 hgrow hat hlt'
        have hb2 : Below w.heap.size w w2 := (hb.alloc hs _).grown hgrow (by simp; omega) (by
          obtain ⟨g2, cap2, hv, hg2, _⟩ := hg
          simp only [Value.slice.injEq, Option.some.injEq, Addr.mk.injEq] at hv
          intro k hk
          simp [Value.ownBlock] at hk
          omega)
        clear c1 c2 hgrow hat
        go_wp2
        go_ret
        exact ⟨_, rfl, hown2, hb2⟩
set_option maxHeartbeats 2000000 in
theorem cmp_contentFS (p t h g p' t' h' g' : ByteArray) (m m' : Int) (w : World) (hl : (t.toList == [108, 105, 110, 107]) = false) (h1 : (t.toList == t'.toList) = true) (hc : (h.toList == h'.toList) = false ∨ ((h.toList == h'.toList) = true ∧ (g.toList == g'.toList) = false)) (h4 : (m == m') = true) :
    Calls Trym.prog 24 #[ent p t m h g, ent p' t' m' h' g', .bool true, .bool true] w fun e w' => ∃ v, e = .returned v ∧ w'.ownsRow w.heap.size 43 1 v 1 [.string (chg false)] ∧ Below w.heap.size w w' := by
  obtain ⟨i0, hi0, hz0, hz1, hz2⟩ := info_parts Trym.info43
  have h5 : (m != m') = false := by simp [bne, h4]
  rcases hc with h2 | ⟨h2, h3⟩
  all_goals
    go_enter Trym.func24, Trym.ntmps24
    go_wp2_with (at_builtin; refine Hold.out ?_)
    refine Hold.of ?_
    refine wpList_append_lies _ rfl _ _ _ (by rfl) w.heap.size 43 i0 _ 1 16 Trym.underlying37 hi0 hz0 hz1 hz2 rfl (by omega) (.slice none 0 0) 0 [] (by rfl) (World.ownsRow_nil _ _ _ _) ⟨w.heap.size + 1 + 1, 0, none⟩ 1 1 [.string (chg false)] (by rfl) (by rfl) ?_ (by simp [Value.oneCell']) (by omega) (by decide) (by omega) (by simp; omega) _ rfl ?_
    · exact World.news_of_block (cs := #[.string (chg false)]) (t := 43) (fr := (0, 0)) (heap_at (by simp))
    · intro g cap w1 hown hgrow hat hlt
      have hb : Below w.heap.size w w1 := (((((Below.refl _ _).alloc (Nat.le_refl _) _).alloc (by simp) _).alloc (by simp; omega) _)).grown hgrow (by simp; omega) (by simp [Value.ownBlock])
      have c1 : w1.cell? ⟨w.heap.size, 2, none⟩ = some (.int .u32 m) := by rw [hgrow.cell_far _ (by simp; omega) (by simp [Value.ownBlock])]; go_simp
      have c2 : w1.cell? ⟨w.heap.size + 1, 2, none⟩ = some (.int .u32 m') := by rw [hgrow.cell_far _ (by simp) (by simp [Value.ownBlock])]; go_simp
      have hown' : w1.ownsRow w.heap.size 43 1 (.slice (some ⟨g, 0, none⟩) 1 cap) 1 [.string (chg false)] := hown
      clear hown hgrow hat
      go_wp2
      go_ret
      exact ⟨_, rfl, hown', hb⟩
set_option maxHeartbeats 2000000 in
theorem cmp_contentFM (p t h g p' t' h' g' : ByteArray) (m m' : Int) (w : World) (hl : (t.toList == [108, 105, 110, 107]) = false) (h1 : (t.toList == t'.toList) = true) (hc : (h.toList == h'.toList) = false ∨ ((h.toList == h'.toList) = true ∧ (g.toList == g'.toList) = false)) (h4 : (m == m') = false) :
    Calls Trym.prog 24 #[ent p t m h g, ent p' t' m' h' g', .bool true, .bool true] w fun e w' => ∃ v, e = .returned v ∧ w'.ownsRow w.heap.size 43 1 v 2 [.string (chg false), .string kMode] ∧ Below w.heap.size w w' := by
  obtain ⟨i0, hi0, hz0, hz1, hz2⟩ := info_parts Trym.info43
  have h5 : (m != m') = true := by simp [bne, h4]
  rcases hc with h2 | ⟨h2, h3⟩
  all_goals
    go_enter Trym.func24, Trym.ntmps24
    go_wp2_with (at_builtin; refine Hold.out ?_)
    refine Hold.of ?_
    refine wpList_append_lies _ rfl _ _ _ (by rfl) w.heap.size 43 i0 _ 1 16 Trym.underlying37 hi0 hz0 hz1 hz2 rfl (by omega) (.slice none 0 0) 0 [] (by rfl) (World.ownsRow_nil _ _ _ _) ⟨w.heap.size + 1 + 1, 0, none⟩ 1 1 [.string (chg false)] (by rfl) (by rfl) ?_ (by simp [Value.oneCell']) (by omega) (by decide) (by omega) (by simp; omega) _ rfl ?_
    · exact World.news_of_block (cs := #[.string (chg false)]) (t := 43) (fr := (0, 0)) (heap_at (by simp))
    · intro g cap w1 hown hgrow hat hlt
      have hb : Below w.heap.size w w1 := (((((Below.refl _ _).alloc (Nat.le_refl _) _).alloc (by simp) _).alloc (by simp; omega) _)).grown hgrow (by simp; omega) (by simp [Value.ownBlock])
      have c1 : w1.cell? ⟨w.heap.size, 2, none⟩ = some (.int .u32 m) := by rw [hgrow.cell_far _ (by simp; omega) (by simp [Value.ownBlock])]; go_simp
      have c2 : w1.cell? ⟨w.heap.size + 1, 2, none⟩ = some (.int .u32 m') := by rw [hgrow.cell_far _ (by simp) (by simp [Value.ownBlock])]; go_simp
      have hown' : w1.ownsRow w.heap.size 43 1 (.slice (some ⟨g, 0, none⟩) 1 cap) 1 [.string (chg false)] := hown
      clear hown hgrow hat
      have hs := hb.size
      have hg := hown'.form (by omega)
      go_wp2_with (at_builtin; refine Hold.out ?_)
      refine Hold.of ?_
      refine wpList_append_lies _ rfl _ _ _ (by rfl) w.heap.size 43 i0 _ 1 16 Trym.underlying37 hi0 hz0 hz1 hz2 rfl (by omega) (.slice (some ⟨g, 0, none⟩) 1 cap) 1 [.string (chg false)] (by rfl) (hown'.alloc _) ⟨w1.heap.size, 0, none⟩ 1 1 [.string kMode] (by rfl) (by rfl) ?_ (by simp [Value.oneCell']) (by omega) (by decide) (by omega) (by simp; omega) _ rfl ?_
      · exact World.news_of_block (cs := #[.string kMode]) (t := 43) (fr := (0, 0)) (heap_at rfl)
      · intro g' cap' w2 hown2 hgrow hat hlt'
        have hb2 : Below w.heap.size w w2 := (hb.alloc hs _).grown hgrow (by simp; omega) (by
          obtain ⟨g2, cap2, hv, hg2, _⟩ := hg
          simp only [Value.slice.injEq, Option.some.injEq, Addr.mk.injEq] at hv
          intro k hk
          simp [Value.ownBlock] at hk
          omega)
        clear c1 c2 hgrow hat
        go_wp2
        go_ret
        exact ⟨_, rfl, hown2, hb2⟩
end Go.Proofs.Qxb6600884aMods

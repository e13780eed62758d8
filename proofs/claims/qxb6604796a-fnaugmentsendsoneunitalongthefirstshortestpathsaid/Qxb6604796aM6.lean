/-
  'meet' AS ITS CALLERS SEE IT.
-/
import Derived.Test.Qxb6604796aM5
import Derived.Test.Qxb6604796aC1
namespace Go.Proofs.Qxb6604796a
open Go.RowKit Mt

/-- What is proved of 'meet' (its walk: Qxb6604796aM2). -/
def MeetSaid : Prop := ∀ (R A : Nat) (ai a1 a2 a3 : Option Addr) (n ca l1 c1 l2 c2 l3 c3 : Nat) (d : Option Addr) (cd lo hi : Nat) (Aa : Nat → Option Addr) (L C : Nat → Nat) (Z : Nat → Nat → Int) (Z1 Z2 Z3 : Nat → Int) (f : Nat → Value) (w : World),
    Dom n L Z l1 Z1 l2 Z2 l3 Z3 → n ≤ 4096 → l1 ≤ 65536 → l2 ≤ 65536 → l3 ≤ 65537 → (∀ v, v < n → L v ≤ 131072) → hi ≤ R → R < w.heap.size → A < w.heap.size → A ≠ R →
    w.rowIs R 66 44 f → f 1 = .pointer (some ⟨A, 0, none⟩) → f 5 = .slice d n cd → f 14 = .int .i64 0 → (∀ s, s < 4 → f (15 + s) = .slice none 0 0) →
    w.cell? ⟨A, 0, none⟩ = some (.slice ai n ca) → IRows w lo hi ai n Aa L C Z → IRow w lo hi a1 l1 Z1 → IRow w lo hi a2 l2 Z2 → IRow w lo hi a3 l3 Z3 →
    Calls Try.prog 36 #[.pointer (some ⟨R, 0, none⟩), .slice a1 l1 c1, .slice a2 l2 c2, .slice a3 l3 c3] w fun e w' => MeetRet L Z (half l1 l2 Z1 Z2) (blk l1 l2 l3 Z1 Z2 Z3) e ∧ w.grownBy w' (some R)

theorem below_grown {N R : Nat} {w0 w w' : World} (h : Below N w0 w) (hg : w.grownBy w' (some R)) (hR : N ≤ R) (hN : N ≤ w.heap.size) : Below N w0 w' := by
  refine h.trans ⟨hg.os, hg.tape, hg.output, hg.size, fun k hk => hg.block k (by omega) fun e => ?_⟩
  have : k = R := by simpa using e
  omega

/-- The contract at 'ZZMeet', on a reduction that was just made. -/
theorem zmeet (hm : MeetSaid) (w0 : World) (R A : Nat) (ai a1 a2 a3 : Option Addr) (n l1 c1 l2 c2 l3 c3 : Nat) (lo hi : Nat) (Aa : Nat → Option Addr) (L C : Nat → Nat) (Z : Nat → Nat → Int) (Z1 Z2 Z3 : Nat → Int) (w : World)
    (dom : Dom n L Z l1 Z1 l2 Z2 l3 Z3) (hn : n ≤ 4096) (h1 : l1 ≤ 65536) (h2 : l2 ≤ 65536) (h3 : l3 ≤ 65537) (hL : ∀ v, v < n → L v ≤ 131072) (hhi : hi ≤ w0.heap.size) (fr : Fresh w0 n R A ai w)
    (hr : IRows w0 lo hi ai n Aa L C Z) (r1 : IRow w0 lo hi a1 l1 Z1) (r2 : IRow w0 lo hi a2 l2 Z2) (r3 : IRow w0 lo hi a3 l3 Z3) :
    Calls Try.prog 28 #[.pointer (some ⟨R, 0, none⟩), .slice a1 l1 c1, .slice a2 l2 c2, .slice a3 l3 c3] w fun e w' => MeetRet L Z (half l1 l2 Z1 Z2) (blk l1 l2 l3 Z1 Z2 Z3) e ∧ Below w0.heap.size w0 w' := by
  obtain ⟨f, d, hf, f1, f5, f14, f15⟩ := fr.red
  have hlo := fr.rlo
  have key := hm R A ai a1 a2 a3 n n l1 c1 l2 c2 l3 c3 d n lo hi Aa L C Z Z1 Z2 Z3 f w dom hn h1 h2 h3 hL (by omega) fr.rlt fr.alt fr.ne hf f1 f5 f14 f15 fr.adj (hr.below fr.below hhi) (r1.below fr.below hhi) (r2.below fr.below hhi) (r3.below fr.below hhi)
  have K := hidden key
  have FB := hidden fr.below
  clear key hm hr r1 r2 r3 hf f1 f5 f14 f15 dom fr hL
  go_enter Try.func28, Try.ntmps28
  go_wp2_with fail
  refine K.out.mono ?_
  rintro e w' ⟨⟨r, rfl, hiff⟩, hg⟩
  have HI := hidden hiff
  have HG := hidden hg
  clear hiff hg
  go_wp2
  go_ret
  exact ⟨⟨r, rfl, HI.out⟩, below_grown FB.out HG.out hlo (by have := FB.out.size; omega)⟩

/-- More crashed nodes, of neither half: what was met may be lost, nothing is gained. -/
theorem meets_fewer {L : Nat → Nat} {Z : Nat → Nat → Int} {l1 l2 l3 : Nat} {Z1 Z2 Z3 Z3' : Nat → Int} (hsub : ∀ u, Pk Z3 l3 u → Pk Z3' (l3 + 1) u) (h : Meets L Z (half l1 l2 Z1 Z2) (blk l1 l2 (l3 + 1) Z1 Z2 Z3')) : Meets L Z (half l1 l2 Z1 Z2) (blk l1 l2 l3 Z1 Z2 Z3) := by
  obtain ⟨u, h0, h1⟩ := h
  have key : ∀ s u, blk l1 l2 l3 Z1 Z2 Z3 s u → blk l1 l2 (l3 + 1) Z1 Z2 Z3' s u := fun s u hb => by
    rcases hb with hb | hb
    · exact .inl hb
    · exact .inr (hsub u hb)
  exact ⟨u, Mt.Reach.fewer (key 0) h0, Mt.Reach.fewer (key 1) h1⟩

end Go.Proofs.Qxb6604796a

/-
  SEAT b6602327a. ZZcolumnsOf hands columnsOf's answer on.
-/
import Derived.Test.Qxb6602327aColumns
namespace Go.Proofs.Qxb6602327a
open Go.RowKit

theorem zzcolumns_any (xs hs : List ByteArray) (r z : Nat) (hz : hs.length = r + z) (a1 a2 : Option Addr) (b1 o1 c1 b2 o2 c2 : Nat) (w : World) (hn : xs.length ≤ 65536) (hm : hs.length ≤ 65536) (hc1 : xs.length ≤ c1) (hc2 : hs.length ≤ c2) (h1 : StrsIn w a1 b1 o1 xs) (h2 : StrsIn w a2 b2 o2 hs) :
    Calls Try.prog 9 #[.slice a1 xs.length c1, .slice a2 hs.length c2, .int .i64 z] w (ColsPost w (columns xs hs r)) := by
  have HC := hid (columns16_any xs hs r z hz a1 a2 b1 o1 c1 b2 o2 c2 w hn hm hc1 hc2 h1 h2)
  clear h1 h2 hz
  go_enter Try.func9, Try.ntmps9
  go_wp2_with fail
  refine Calls.mono HC.out ?_
  intro e w' hp
  cases hC : columns xs hs r with
  | none =>
    rw [hC] at hp
    obtain ⟨rfl, hb⟩ := hp
    have HCC := hid hC
    clear HC hC
    go_wp2
    go_ret2
    rw [HCC.out]
    exact ⟨rfl, hb⟩
  | some cs =>
    rw [hC] at hp
    obtain ⟨b, rfl, h1, h2, h3, hb⟩ := hp
    have H3 := hid h3
    have HCC := hid hC
    clear HC h3 hC
    go_wp2
    go_ret2
    rw [HCC.out]
    exact ⟨b, rfl, h1, h2, H3.out, hb⟩
end Go.Proofs.Qxb6602327a

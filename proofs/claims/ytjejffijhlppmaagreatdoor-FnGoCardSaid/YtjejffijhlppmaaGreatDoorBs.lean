/-
  Int.Lsh, Int.Add, Int.Sub on the heap's book-keeping.
-/
import Derived.Test.YtjejffijhlppmaaGreatDoorBp
import Derived.Test.YtjejffijhlppmaaGreatDoorBh
import Derived.Test.YtjejffijhlppmaaGreatDoorBi
namespace Go.Proofs.YtjejffijhlppmaaGreatDoor
open Go.Dv Go.RowKit
set_option linter.unusedVariables false
variable {B : Nat} {w0 w : World} {c cw p a : Nat} {d : Int}

theorem addM_1 (x0 S : Int) (h : MS B w0 w c cw p a d 1 6 #[.int .u64 x0, .int .u64 0, .int .u64 0, .int .u64 0, .int .u64 0, .int .u64 0]) (x00 : 0 ≤ x0) (x01 : x0 < 18446744073709551616) (d0 : 0 ≤ d) (d1 : d < 18446744073709551616) (hs : x0 + d < 18446744073709551616) (hS : x0 + d = S) (hnz : (S == 0) = false) :
    Calls Tryz.prog 51 #[.pointer (some ⟨p, 0, none⟩), .pointer (some ⟨p, 0, none⟩), .pointer (some ⟨c, 0, none⟩)] w fun e w' =>
      e = .returned (.pointer (some ⟨p, 0, none⟩)) ∧ MS B w0 w' c cw p a d 1 6 #[.int .u64 S, .int .u64 0, .int .u64 0, .int .u64 0, .int .u64 0, .int .u64 0] :=
  (intAdd_1 p c a cw x0 0 0 0 0 0 d x00 x01 d0 d1 hs S hS hnz w h.hp h.hc h.ha (blk_cell h.hcw 0 rfl) (Ne.symm h.cwa) h.pa).mono fun e w' hh => by
    obtain ⟨rfl, k, rfl⟩ := hh
    exact ⟨rfl, ((((h.word 0 (.int .u64 S)).word 1 (.int .u64 0)).hdr 1 6).neg).drewN k⟩

theorem subM_1 (q yb : Nat) (x0 R : Int) (h : MS B w0 w c cw p a d 1 6 #[.int .u64 x0, .int .u64 0, .int .u64 0, .int .u64 0, .int .u64 0, .int .u64 0]) (x00 : 0 ≤ x0) (x01 : x0 < 18446744073709551616) (hpos : 1 ≤ x0) (hR : x0 - 1 = R) (hnz : (R == 0) = false) (hgt : 1 < x0)
    (hQ : w.heap[q]? = some (.cells #[.bool false, .slice (some ⟨yb, 0, none⟩) 1 1] 78 (0, 0))) (hY : w.heap[yb]? = some (.cells #[.int .u64 1] 89 (0, 0))) (hne : a ≠ yb) :
    Calls Tryz.prog 52 #[.pointer (some ⟨p, 0, none⟩), .pointer (some ⟨p, 0, none⟩), .pointer (some ⟨q, 0, none⟩)] w fun e w' =>
      e = .returned (.pointer (some ⟨p, 0, none⟩)) ∧ MS B w0 w' c cw p a d 1 6 #[.int .u64 R, .int .u64 0, .int .u64 0, .int .u64 0, .int .u64 0, .int .u64 0] :=
  (intSub_1 p q a yb x0 0 0 0 0 0 x00 x01 R (by unfold sb; omega) (by unfold bw; rw [if_neg (by omega)]) hnz hgt w h.hp hQ h.ha (blk_cell hY 0 rfl) hne h.pa).mono fun e w' hh => by
    obtain ⟨rfl, k, rfl⟩ := hh
    exact ⟨rfl, (((h.word 0 (.int .u64 R)).hdr 1 6).neg).drewN k⟩

theorem addM_2 (x0 x1 S : Int) (h : MS B w0 w c cw p a d 2 7 #[.int .u64 x0, .int .u64 x1, .int .u64 0, .int .u64 0, .int .u64 0, .int .u64 0, .int .u64 0]) (x00 : 0 ≤ x0) (x01 : x0 < 18446744073709551616) (x10 : 0 ≤ x1) (x11 : x1 < 18446744073709551616) (d0 : 0 ≤ d) (d1 : d < 18446744073709551616) (hs : x0 + d < 18446744073709551616) (hS : x0 + d = S) (hnz : (x1 == 0) = false) :
    Calls Tryz.prog 51 #[.pointer (some ⟨p, 0, none⟩), .pointer (some ⟨p, 0, none⟩), .pointer (some ⟨c, 0, none⟩)] w fun e w' =>
      e = .returned (.pointer (some ⟨p, 0, none⟩)) ∧ MS B w0 w' c cw p a d 2 7 #[.int .u64 S, .int .u64 x1, .int .u64 0, .int .u64 0, .int .u64 0, .int .u64 0, .int .u64 0] :=
  (intAdd_2 p c a cw x0 x1 0 0 0 0 0 d x00 x01 x10 x11 d0 d1 hs S hS hnz w h.hp h.hc h.ha (blk_cell h.hcw 0 rfl) (Ne.symm h.cwa) h.pa).mono fun e w' hh => by
    obtain ⟨rfl, k, rfl⟩ := hh
    exact ⟨rfl, (((((h.word 0 (.int .u64 S)).word 1 (.int .u64 x1)).word 2 (.int .u64 0)).hdr 2 7).neg).drewN k⟩

theorem subM_2 (q yb : Nat) (x0 x1 R : Int) (h : MS B w0 w c cw p a d 2 7 #[.int .u64 x0, .int .u64 x1, .int .u64 0, .int .u64 0, .int .u64 0, .int .u64 0, .int .u64 0]) (x00 : 0 ≤ x0) (x01 : x0 < 18446744073709551616) (x10 : 0 ≤ x1) (x11 : x1 < 18446744073709551616) (hpos : 1 ≤ x0) (hR : x0 - 1 = R) (hnz : (x1 == 0) = false)
    (hQ : w.heap[q]? = some (.cells #[.bool false, .slice (some ⟨yb, 0, none⟩) 1 1] 78 (0, 0))) (hY : w.heap[yb]? = some (.cells #[.int .u64 1] 89 (0, 0))) (hne : a ≠ yb) :
    Calls Tryz.prog 52 #[.pointer (some ⟨p, 0, none⟩), .pointer (some ⟨p, 0, none⟩), .pointer (some ⟨q, 0, none⟩)] w fun e w' =>
      e = .returned (.pointer (some ⟨p, 0, none⟩)) ∧ MS B w0 w' c cw p a d 2 7 #[.int .u64 R, .int .u64 x1, .int .u64 0, .int .u64 0, .int .u64 0, .int .u64 0, .int .u64 0] :=
  (intSub_2 p q a yb x0 x1 0 0 0 0 0 x00 x01 x10 x11 R (by unfold sb; omega) (by unfold bw; rw [if_neg (by omega)]) hnz w h.hp hQ h.ha (blk_cell hY 0 rfl) hne h.pa).mono fun e w' hh => by
    obtain ⟨rfl, k, rfl⟩ := hh
    exact ⟨rfl, ((((h.word 0 (.int .u64 R)).word 1 (.int .u64 x1)).hdr 2 7).neg).drewN k⟩

theorem addM_3 (x0 x1 x2 S : Int) (h : MS B w0 w c cw p a d 3 8 #[.int .u64 x0, .int .u64 x1, .int .u64 x2, .int .u64 0, .int .u64 0, .int .u64 0, .int .u64 0, .int .u64 0]) (x00 : 0 ≤ x0) (x01 : x0 < 18446744073709551616) (x10 : 0 ≤ x1) (x11 : x1 < 18446744073709551616) (x20 : 0 ≤ x2) (x21 : x2 < 18446744073709551616) (d0 : 0 ≤ d) (d1 : d < 18446744073709551616) (hs : x0 + d < 18446744073709551616) (hS : x0 + d = S) (hnz : (x2 == 0) = false) :
    Calls Tryz.prog 51 #[.pointer (some ⟨p, 0, none⟩), .pointer (some ⟨p, 0, none⟩), .pointer (some ⟨c, 0, none⟩)] w fun e w' =>
      e = .returned (.pointer (some ⟨p, 0, none⟩)) ∧ MS B w0 w' c cw p a d 3 8 #[.int .u64 S, .int .u64 x1, .int .u64 x2, .int .u64 0, .int .u64 0, .int .u64 0, .int .u64 0, .int .u64 0] :=
  (intAdd_3 p c a cw x0 x1 x2 0 0 0 0 0 d x00 x01 x10 x11 x20 x21 d0 d1 hs S hS hnz w h.hp h.hc h.ha (blk_cell h.hcw 0 rfl) (Ne.symm h.cwa) h.pa).mono fun e w' hh => by
    obtain ⟨rfl, k, rfl⟩ := hh
    exact ⟨rfl, (((((h.word 0 (.int .u64 S)).word 1 (.int .u64 x1)).word 3 (.int .u64 0)).hdr 3 8).neg).drewN k⟩

theorem subM_3 (q yb : Nat) (x0 x1 x2 R : Int) (h : MS B w0 w c cw p a d 3 8 #[.int .u64 x0, .int .u64 x1, .int .u64 x2, .int .u64 0, .int .u64 0, .int .u64 0, .int .u64 0, .int .u64 0]) (x00 : 0 ≤ x0) (x01 : x0 < 18446744073709551616) (x10 : 0 ≤ x1) (x11 : x1 < 18446744073709551616) (x20 : 0 ≤ x2) (x21 : x2 < 18446744073709551616) (hpos : 1 ≤ x0) (hR : x0 - 1 = R) (hnz : (x2 == 0) = false)
    (hQ : w.heap[q]? = some (.cells #[.bool false, .slice (some ⟨yb, 0, none⟩) 1 1] 78 (0, 0))) (hY : w.heap[yb]? = some (.cells #[.int .u64 1] 89 (0, 0))) (hne : a ≠ yb) :
    Calls Tryz.prog 52 #[.pointer (some ⟨p, 0, none⟩), .pointer (some ⟨p, 0, none⟩), .pointer (some ⟨q, 0, none⟩)] w fun e w' =>
      e = .returned (.pointer (some ⟨p, 0, none⟩)) ∧ MS B w0 w' c cw p a d 3 8 #[.int .u64 R, .int .u64 x1, .int .u64 x2, .int .u64 0, .int .u64 0, .int .u64 0, .int .u64 0, .int .u64 0] :=
  (intSub_3 p q a yb x0 x1 x2 0 0 0 0 0 x00 x01 x10 x11 x20 x21 R (by unfold sb; omega) (by unfold bw; rw [if_neg (by omega)]) hnz w h.hp hQ h.ha (blk_cell hY 0 rfl) hne h.pa).mono fun e w' hh => by
    obtain ⟨rfl, k, rfl⟩ := hh
    exact ⟨rfl, ((((h.word 0 (.int .u64 R)).word 1 (.int .u64 x1)).hdr 3 8).neg).drewN k⟩

theorem lshM_01 (s : Int) (h : MS B w0 w c cw p a d 1 1 #[.int .u64 1]) (hs : 1 ≤ s) (hs1 : s ≤ 128) (eq : s / 64 = 0) (r : Int) (er : s % 64 = r) (r0 : 1 ≤ r) (r1 : r ≤ 63) (e1 : bits BinOp.and IntKind.u64 r 63 = r) (e2 : bits BinOp.and IntKind.u64 (64 - r) 63 = 64 - r) (T : Int) (eT : IntKind.u64.wrap (2 ^ r.toNat) = T) (e0 : (1 : Int) / 2 ^ (64 - r).toNat = 0) (T0 : (T == 0) = false) :
    Calls Tryz.prog 50 #[.pointer (some ⟨p, 0, none⟩), .pointer (some ⟨p, 0, none⟩), .int .u64 s] w fun e w' =>
      e = .returned (.pointer (some ⟨p, 0, none⟩)) ∧ ∃ a', MS B w0 w' c cw p a' d 1 6 #[.int .u64 T, .int .u64 0, .int .u64 0, .int .u64 0, .int .u64 0, .int .u64 0] :=
  (intLsh_01 p a s hs hs1 eq r er r0 r1 e1 e2 T eT e0 T0 w h.hp (blk_cell h.ha 0 rfl) (blk_lt h.ha)).mono fun e w' hh => by
    obtain ⟨rfl, k, rfl⟩ := hh
    exact ⟨rfl, _, (h.fresh 1 6 #[.int .u64 T, .int .u64 0, .int .u64 0, .int .u64 0, .int .u64 0, .int .u64 0]).drewN k⟩

theorem lshM_10 (s : Int) (h : MS B w0 w c cw p a d 1 1 #[.int .u64 1]) (hs : 1 ≤ s) (hs1 : s ≤ 128) (eq : s / 64 = 1) (er : s % 64 = 0) :
    Calls Tryz.prog 50 #[.pointer (some ⟨p, 0, none⟩), .pointer (some ⟨p, 0, none⟩), .int .u64 s] w fun e w' =>
      e = .returned (.pointer (some ⟨p, 0, none⟩)) ∧ ∃ a', MS B w0 w' c cw p a' d 2 7 #[.int .u64 0, .int .u64 1, .int .u64 0, .int .u64 0, .int .u64 0, .int .u64 0, .int .u64 0] :=
  (intLsh_10 p a s hs hs1 eq er w h.hp (blk_cell h.ha 0 rfl) (blk_lt h.ha)).mono fun e w' hh => by
    obtain ⟨rfl, k, rfl⟩ := hh
    exact ⟨rfl, _, (h.fresh 2 7 #[.int .u64 0, .int .u64 1, .int .u64 0, .int .u64 0, .int .u64 0, .int .u64 0, .int .u64 0]).drewN k⟩

theorem lshM_11 (s : Int) (h : MS B w0 w c cw p a d 1 1 #[.int .u64 1]) (hs : 1 ≤ s) (hs1 : s ≤ 128) (eq : s / 64 = 1) (r : Int) (er : s % 64 = r) (r0 : 1 ≤ r) (r1 : r ≤ 63) (e1 : bits BinOp.and IntKind.u64 r 63 = r) (e2 : bits BinOp.and IntKind.u64 (64 - r) 63 = 64 - r) (T : Int) (eT : IntKind.u64.wrap (2 ^ r.toNat) = T) (e0 : (1 : Int) / 2 ^ (64 - r).toNat = 0) (T0 : (T == 0) = false) :
    Calls Tryz.prog 50 #[.pointer (some ⟨p, 0, none⟩), .pointer (some ⟨p, 0, none⟩), .int .u64 s] w fun e w' =>
      e = .returned (.pointer (some ⟨p, 0, none⟩)) ∧ ∃ a', MS B w0 w' c cw p a' d 2 7 #[.int .u64 0, .int .u64 T, .int .u64 0, .int .u64 0, .int .u64 0, .int .u64 0, .int .u64 0] :=
  (intLsh_11 p a s hs hs1 eq r er r0 r1 e1 e2 T eT e0 T0 w h.hp (blk_cell h.ha 0 rfl) (blk_lt h.ha)).mono fun e w' hh => by
    obtain ⟨rfl, k, rfl⟩ := hh
    exact ⟨rfl, _, (h.fresh 2 7 #[.int .u64 0, .int .u64 T, .int .u64 0, .int .u64 0, .int .u64 0, .int .u64 0, .int .u64 0]).drewN k⟩

theorem lshM_20 (s : Int) (h : MS B w0 w c cw p a d 1 1 #[.int .u64 1]) (hs : 1 ≤ s) (hs1 : s ≤ 128) (eq : s / 64 = 2) (er : s % 64 = 0) :
    Calls Tryz.prog 50 #[.pointer (some ⟨p, 0, none⟩), .pointer (some ⟨p, 0, none⟩), .int .u64 s] w fun e w' =>
      e = .returned (.pointer (some ⟨p, 0, none⟩)) ∧ ∃ a', MS B w0 w' c cw p a' d 3 8 #[.int .u64 0, .int .u64 0, .int .u64 1, .int .u64 0, .int .u64 0, .int .u64 0, .int .u64 0, .int .u64 0] :=
  (intLsh_20 p a s hs hs1 eq er w h.hp (blk_cell h.ha 0 rfl) (blk_lt h.ha)).mono fun e w' hh => by
    obtain ⟨rfl, k, rfl⟩ := hh
    exact ⟨rfl, _, (h.fresh 3 8 #[.int .u64 0, .int .u64 0, .int .u64 1, .int .u64 0, .int .u64 0, .int .u64 0, .int .u64 0, .int .u64 0]).drewN k⟩
end Go.Proofs.YtjejffijhlppmaaGreatDoor

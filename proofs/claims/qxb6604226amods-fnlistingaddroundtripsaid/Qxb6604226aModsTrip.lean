/-
  THE WALK OF THE LAW FnListingAddRoundTrip (4), out of its callees' contracts.
-/
import Derived.Test.Qxb6604226aModsAdd
import Derived.Test.Qxb6604226aModsMore
import Derived.Test.Qxb6604226aModsPlain2
namespace Go.Proofs.Qxb6604226aMods
open Go.RowKit

set_option maxHeartbeats 1000000 in
theorem trip_walk (d name rest : ByteArray) (dp : Bool) (ao : Option Addr) (n cap : Nat) (Sx : Nat → ByteArray) (w : World) (hn63 : n ≤ 9223372036854775807) (hr : RowAt w w.heap.size ao n Sx) (hnil : ao = none → n = 0 ∧ cap = 0) :
    Calls Trym.prog 4 #[.string d, .slice ao n cap, .string name, .string rest, .bool dp] w fun e w' => e = .returned (.bool true) ∧ Below w.heap.size w w' := by
  by_cases hsz : d.size ≤ 65536 ∧ name.size ≤ 65536 ∧ rest.size ≤ 65536 ∧ n ≤ 65536
  · obtain ⟨hd, hp, hp2, hn⟩ := hsz
    go_enter Trym.func4, Trym.ntmps4
    go_wp2_with fail
    refine (bytes2_any d name rest dp ao n cap _ Sx _ hn63 hr).mono ?_
    rintro e w' ⟨⟨b, rfl⟩, hw⟩
    subst w'
    cases b
    · go_wp2_with fail
      go_ret
      exact ⟨rfl, Below.refl _ _⟩
    go_wp2_with fail
    refine (names_any ao n cap _ Sx _ hr).mono ?_
    rintro e w' ⟨t, rfl, ht0, ht1, hw⟩
    subst w'
    by_cases hneg : t < 0
    · go_wp2_with fail
      go_ret
      exact ⟨rfl, Below.refl _ _⟩
    by_cases hbig : 1048576 < t + d.size + name.size + rest.size
    · go_wp2_with fail
      go_ret
      exact ⟨rfl, Below.refl _ _⟩
    go_wp2_with fail
    refine (slash_any name _ (by omega)).mono ?_
    rintro e w' ⟨rfl, hw⟩
    subst w'
    cases hsl : slash name
    rotate_left
    · go_wp2_with fail
      go_ret
      exact ⟨rfl, Below.refl _ _⟩
    go_wp2_with fail
    refine (clone_any ao n cap _ Sx _ hn (Nat.le_refl _) hr hnil).mono ?_
    rintro e w1 ⟨a1, rfl, r1, n1, b1⟩
    go_wp2_with fail
    refine (clone_any a1 n n _ Sx _ hn (Nat.le_refl _) r1 (fun h => ⟨n1 h, n1 h⟩)).mono ?_
    rintro e w2 ⟨a2, rfl, r2, n2, b2⟩
    go_wp2_with fail
    refine (directory_any d _ hd).mono ?_
    rintro e w' ⟨⟨D, rfl, hD⟩, hw⟩
    subst w'
    cases dp
    · go_wp2_with fail
      refine (new_abs D a1 n _).mono ?_
      rintro e w3 ⟨lb, rfl, hlb, ⟨hl3, l0, l1, lf⟩, b3⟩
      have R1 : RowAt w3 lb a1 n Sx := ((r1.below b2).below (b3.mono b2.size)).mono (by have := b2.size; omega)
      have R2 : RowAt w3 lb a2 n Sx := (r2.below b3).mono hlb
      have B3 : Below w.heap.size w w3 := (b1.trans (b2.mono b1.size)).trans (b3.mono (by have := b1.size; have := b2.size; omega))
      have hlb0 : w.heap.size ≤ lb := by have := b1.size; have := b2.size; omega
      clear r1 r2 b1 b2 b3 hr hnil n2 hlb ht0 ht1 hneg hbig
      obtain ⟨hpre, hext⟩ := path_rest D name
      have hidx := indexByte_absent name.data.toList 47 hsl
      have hadd := add_plain lb n a1 D (D ++ name) name _ Sx w3 hn hl3 l0 l1 lf R1 n1 hpre (show Hid _ from hext.symm) (show Hid _ from rfl) (by omega)
      clear hpre hext hidx
      go_wp2_with fail
      refine hadd.mono ?_
      rintro e w4 ⟨rfl, ⟨g, cp, m0, m1, hcp, mg, mn⟩, b4⟩
      have R4 : RowAt w4 lb a2 n Sx := R2.below b4
      have B4 : Below w.heap.size w w4 := B3.trans (b4.mono hlb0)
      have G4 : RowAt w4 (g + 1) (some ⟨g, 0, none⟩) n Sx := Or.inr ⟨g, 0, rfl, by omega, fun i hi => by rw [Nat.zero_add]; exact mg i hi⟩
      clear R1 R2 l0 l1 lf B3 b4 mg hadd
      go_wp2_with fail
      refine (listed_any lb _ _ cp _ m1).mono ?_
      rintro e w' ⟨rfl, hw⟩
      subst w'
      go_wp2_with fail
      refine (same_any _ a2 n cp n _ lb Sx _ (by omega) G4 R4).mono ?_
      rintro e w' ⟨rfl, m', hw⟩
      subst w'
      go_wp2_with fail
      go_ret
      refine ⟨rfl, ?_⟩
      exact (below_drewN B4 _)
    · go_wp2_with fail
      refine (new_abs D a1 n _).mono ?_
      rintro e w3 ⟨lb, rfl, hlb, ⟨hl3, l0, l1, lf⟩, b3⟩
      have R1 : RowAt w3 lb a1 n Sx := ((r1.below b2).below (b3.mono b2.size)).mono (by have := b2.size; omega)
      have R2 : RowAt w3 lb a2 n Sx := (r2.below b3).mono hlb
      have B3 : Below w.heap.size w w3 := (b1.trans (b2.mono b1.size)).trans (b3.mono (by have := b1.size; have := b2.size; omega))
      have hlb0 : w.heap.size ≤ lb := by have := b1.size; have := b2.size; omega
      clear r1 r2 b1 b2 b3 hr hnil n2 hlb ht0 ht1 hneg hbig
      obtain ⟨hpre, hext⟩ := path_rest D (name ++ ⟨#[47]⟩ ++ rest)
      rw [← path_deep] at hpre hext
      obtain ⟨hidx, hnm⟩ := deep_name name rest hsl
      have hq : name.size < (name ++ ⟨#[47]⟩ ++ rest).size := by
        rw [ByteArray.size_append, ByteArray.size_append]
        have : (⟨#[47]⟩ : ByteArray).size = 1 := rfl
        omega
      have hq2 : (name ++ ⟨#[47]⟩ ++ rest).size ≤ 1048576 := by
        rw [ByteArray.size_append, ByteArray.size_append]
        have : (⟨#[47]⟩ : ByteArray).size = 1 := rfl
        omega
      have hadd := add_slash lb n a1 D (D ++ name ++ (⟨#[47]⟩ : ByteArray) ++ rest) (name ++ (⟨#[47]⟩ : ByteArray) ++ rest) name.size Sx w3 hn hl3 l0 l1 lf R1 n1 hpre (show Hid _ from hext.symm) (show Hid _ from hidx) hq hq2
      rw [hnm] at hadd
      clear hpre hext hidx hnm hq hq2
      go_wp2_with fail
      refine hadd.mono ?_
      rintro e w4 ⟨rfl, ⟨g, cp, m0, m1, hcp, mg, mn⟩, b4⟩
      have R4 : RowAt w4 lb a2 n Sx := R2.below b4
      have B4 : Below w.heap.size w w4 := B3.trans (b4.mono hlb0)
      have G4 : RowAt w4 (g + 1) (some ⟨g, 0, none⟩) n Sx := Or.inr ⟨g, 0, rfl, by omega, fun i hi => by rw [Nat.zero_add]; exact mg i hi⟩
      clear R1 R2 l0 l1 lf B3 b4 mg hadd
      go_wp2_with fail
      refine (listed_any lb _ _ cp _ m1).mono ?_
      rintro e w' ⟨rfl, hw⟩
      subst w'
      go_wp2_with fail
      refine (same_any _ a2 n cp n _ lb Sx _ (by omega) G4 R4).mono ?_
      rintro e w' ⟨rfl, m', hw⟩
      subst w'
      go_wp2_with fail
      go_ret
      refine ⟨rfl, ?_⟩
      exact (below_drewN B4 _)
  · have hs : d.size ≤ 65536 → name.size ≤ 65536 → rest.size ≤ 65536 → (65536 : Int) < n := fun h1 h2 h3 => by omega
    clear hsz
    go_enter Trym.func4, Trym.ntmps4
    go_wp2_with fail
    refine (bytes2_any d name rest dp ao n cap _ Sx _ hn63 hr).mono ?_
    rintro e w' ⟨⟨b, rfl⟩, hw⟩
    subst w'
    cases b
    · go_wp2_with fail
      go_ret
      exact ⟨rfl, Below.refl _ _⟩
    by_cases h1 : d.size ≤ 65536
    · by_cases h2 : name.size ≤ 65536
      · by_cases h3 : rest.size ≤ 65536
        · have h4 := hs h1 h2 h3
          clear hs
          go_wp2_with fail
          go_ret
          exact ⟨rfl, Below.refl _ _⟩
        · clear hs
          go_wp2_with fail
          go_ret
          exact ⟨rfl, Below.refl _ _⟩
      · clear hs
        go_wp2_with fail
        go_ret
        exact ⟨rfl, Below.refl _ _⟩
    · clear hs
      go_wp2_with fail
      go_ret
      exact ⟨rfl, Below.refl _ _⟩

end Go.Proofs.Qxb6604226aMods

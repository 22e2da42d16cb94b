/-
  THE WALK OF THE LAW FnListingAddExact (3), out of its callees' contracts.
-/
import Derived.Test.Qxb6604226aModsAdd
import Derived.Test.Qxb6604226aModsSizes
import Derived.Lib.IndexLaws
namespace Go.Proofs.Qxb6604226aMods
open Go.RowKit

set_option maxHeartbeats 1000000 in
theorem exact_walk (dir path : ByteArray) (ao : Option Addr) (n cap : Nat) (Sx : Nat → ByteArray) (w : World) (hn63 : n ≤ 9223372036854775807) (hr : RowAt w w.heap.size ao n Sx) (hnil : ao = none → n = 0 ∧ cap = 0) :
    Calls Trym.prog 3 #[.string dir, .slice ao n cap, .string path] w fun e w' => e = .returned (.bool true) ∧ Below w.heap.size w w' := by
  by_cases hsz : dir.size ≤ 65536 ∧ path.size ≤ 65536 ∧ n ≤ 65536
  · obtain ⟨hd, hp, hn⟩ := hsz
    go_enter Trym.func3, Trym.ntmps3
    go_wp2_with fail
    refine (bytes_any dir path ao n cap _ Sx _ hn63 hr).mono ?_
    rintro e w' ⟨⟨b, rfl⟩, hw⟩
    subst w'
    cases b
    · go_wp2_with fail
      go_ret
      exact ⟨rfl, Below.refl _ _⟩
    go_wp2_with fail
    refine (names_any ao n cap _ Sx _ hr).mono ?_
    rintro e w' ⟨t, rfl, ht0, ht1, hw⟩
    subst w'
    by_cases hneg : t < 0
    · go_wp2_with fail
      go_ret
      exact ⟨rfl, Below.refl _ _⟩
    by_cases hbig : 1048576 < t + dir.size + path.size
    · go_wp2_with fail
      go_ret
      exact ⟨rfl, Below.refl _ _⟩
    go_wp2_with fail
    refine (clone_any ao n cap _ Sx _ hn (Nat.le_refl _) hr hnil).mono ?_
    rintro e w1 ⟨a1, rfl, r1, n1, b1⟩
    go_wp2_with fail
    refine (clone_any a1 n n _ Sx _ hn (Nat.le_refl _) r1 (fun h => ⟨n1 h, n1 h⟩)).mono ?_
    rintro e w2 ⟨a2, rfl, r2, n2, b2⟩
    go_wp2_with fail
    refine (new_abs dir a1 n _).mono ?_
    rintro e w3 ⟨lb, rfl, hlb, ⟨hl3, l0, l1, lf⟩, b3⟩
    have R1 : RowAt w3 lb a1 n Sx := ((r1.below b2).below (b3.mono b2.size)).mono (by have := b2.size; omega)
    have R2 : RowAt w3 lb a2 n Sx := (r2.below b3).mono hlb
    have B3 : Below w.heap.size w w3 := (b1.trans (b2.mono b1.size)).trans (b3.mono (by have := b1.size; have := b2.size; omega))
    have hlb0 : w.heap.size ≤ lb := by have := b1.size; have := b2.size; omega
    clear r1 r2 b1 b2 b3 hr hnil n2 hlb ht0 ht1 hneg hbig
    by_cases hpre : Lib.hasPrefix path.data.toList dir.data.toList = true
    · obtain ⟨rest, hrest⟩ : ∃ rest, rest = path.extract dir.size path.size := ⟨_, rfl⟩
      have HR : Hid (rest = path.extract dir.size path.size) := hrest
      have hle := prefix_le path dir hpre
      have hrs : rest.size ≤ 65536 := by rw [hrest, Lib.size_eq, Lib.extract_data, List.length_take, List.length_drop, ← Lib.size_eq]; omega
      have hE : path.extract dir.size path.size = rest := hrest.symm
      clear hrest
      by_cases hq0 : Lib.indexByte rest.data.toList 47 < 0
      · have hns := name_plain rest _ rfl hq0
        have hself := prefix_self rest
        go_wp2_with fail
        refine (add_plain lb n a1 dir path rest _ Sx _ hn hl3 l0 l1 lf R1 n1 hpre HR (show Hid _ from rfl) hq0).mono ?_
        rintro e w4 ⟨rfl, ⟨g, cp, m0, m1, hcp, mg, mn⟩, b4⟩
        have R4 : RowAt w4 lb a2 n Sx := R2.below b4
        have B4 : Below w.heap.size w w4 := B3.trans (b4.mono hlb0)
        have G4 : RowAt w4 (g + 1) (some ⟨g, 0, none⟩) n Sx := Or.inr ⟨g, 0, rfl, by omega, fun i hi => by rw [Nat.zero_add]; exact mg i hi⟩
        clear R1 R2 l0 l1 lf B3 b4 mg hq0
        go_wp2_with fail
        refine (dir_any lb dir _ m0).mono ?_
        rintro e w' ⟨rfl, hw⟩
        subst w'
        go_wp2_with fail
        refine (listed_any lb _ _ cp _ m1).mono ?_
        rintro e w' ⟨rfl, hw⟩
        subst w'
        go_wp2_with fail
        refine (prefix_any path dir _ (by omega)).mono ?_
        rintro e w' ⟨rfl, m, hw⟩
        subst w'
        go_wp2_with fail
        refine (same_any _ a2 n cp n _ lb Sx _ (by omega) (G4.drewN m) (R4.drewN m)).mono ?_
        rintro e w' ⟨rfl, m', hw⟩
        subst w'
        go_wp2_with fail
        refine (prefix_any rest rest _ (by omega)).mono ?_
        rintro e w' ⟨rfl, m'', hw⟩
        subst w'
        go_wp2_with fail
        refine (slash_any rest _ (by omega)).mono ?_
        rintro e w' ⟨rfl, hw⟩
        subst w'
        go_wp2_with fail
        go_ret
        refine ⟨rfl, ?_⟩
        exact (below_drewN B4 _)
      · obtain ⟨q, hq⟩ : ∃ q : Nat, (q : Int) = Lib.indexByte rest.data.toList 47 := ⟨(Lib.indexByte rest.data.toList 47).toNat, by omega⟩
        obtain ⟨hqs, hsz, hp1, hs1, hat, hs2⟩ := name_slash rest q hq
        have HQ : Hid ((q : Int) = Lib.indexByte rest.data.toList 47) := hq
        clear hq hq0
        obtain ⟨nm, hnm⟩ : ∃ nm, nm = rest.extract 0 (q + 1) := ⟨_, rfl⟩
        rw [← hnm] at hsz hp1 hs1 hs2
        have hat' : ∀ h : q < nm.size, ((nm[q].toNat : Int) == 47) = true := by subst hnm; exact hat
        have hat2 := hat' (by omega)
        clear hat hat'
        have hadd := add_slash lb n a1 dir path rest q Sx w3 hn hl3 l0 l1 lf R1 n1 hpre HR HQ hqs (by omega)
        rw [← hnm] at hadd
        clear hnm
        go_wp2_with fail
        refine hadd.mono ?_
        rintro e w4 ⟨rfl, ⟨g, cp, m0, m1, hcp, mg, mn⟩, b4⟩
        have R4 : RowAt w4 lb a2 n Sx := R2.below b4
        have B4 : Below w.heap.size w w4 := B3.trans (b4.mono hlb0)
        have G4 : RowAt w4 (g + 1) (some ⟨g, 0, none⟩) n Sx := Or.inr ⟨g, 0, rfl, by omega, fun i hi => by rw [Nat.zero_add]; exact mg i hi⟩
        clear R1 R2 l0 l1 lf B3 b4 mg hadd
        go_wp2_with fail
        refine (dir_any lb dir _ m0).mono ?_
        rintro e w' ⟨rfl, hw⟩
        subst w'
        go_wp2_with fail
        refine (listed_any lb _ _ cp _ m1).mono ?_
        rintro e w' ⟨rfl, hw⟩
        subst w'
        go_wp2_with fail
        refine (prefix_any path dir _ (by omega)).mono ?_
        rintro e w' ⟨rfl, m, hw⟩
        subst w'
        go_wp2_with fail
        refine (same_any _ a2 n cp n _ lb Sx _ (by omega) (G4.drewN m) (R4.drewN m)).mono ?_
        rintro e w' ⟨rfl, m', hw⟩
        subst w'
        go_wp2_with fail
        refine (prefix_any rest nm _ (by omega)).mono ?_
        rintro e w' ⟨rfl, m'', hw⟩
        subst w'
        go_wp2_with fail
        · refine (slash_any nm _ (by omega)).mono ?_
          rintro e w' ⟨rfl, hw⟩
          subst w'
          go_wp2_with fail
          refine (slash_any (nm.extract 0 q) _ (by have := take_size nm q; omega)).mono ?_
          rintro e w' ⟨rfl, hw⟩
          subst w'
          go_wp2_with fail
          go_ret
          refine ⟨rfl, ?_⟩
          exact (below_drewN B4 _)
        · refine (slash_any (nm.extract 0 q) _ (by have := take_size nm q; omega)).mono ?_
          rintro e w' ⟨rfl, hw⟩
          subst w'
          go_wp2_with fail
          go_ret
          refine ⟨rfl, ?_⟩
          exact (below_drewN B4 _)
    · have hpre' : Lib.hasPrefix path.data.toList dir.data.toList = false := by simpa using hpre
      clear hpre
      go_wp2_with fail
      refine (add_miss lb dir path _ l0 hpre').mono ?_
      rintro e w' ⟨rfl, hw⟩
      subst w'
      go_wp2_with fail
      refine (dir_any lb dir _ l0).mono ?_
      rintro e w' ⟨rfl, hw⟩
      subst w'
      go_wp2_with fail
      refine (listed_any lb a1 n n _ l1).mono ?_
      rintro e w' ⟨rfl, hw⟩
      subst w'
      go_wp2_with fail
      refine (prefix_any path dir _ (by omega)).mono ?_
      rintro e w' ⟨rfl, m, hw⟩
      subst w'
      go_wp2_with fail
      refine (same_any a1 a2 n n n lb lb Sx _ (by omega) (R1.drewN m) (R2.drewN m)).mono ?_
      rintro e w' ⟨rfl, m', hw⟩
      subst w'
      go_wp2_with fail
      go_ret
      refine ⟨rfl, ?_⟩
      exact (below_drewN B3 _)
  · have hs : dir.size ≤ 65536 → path.size ≤ 65536 → (65536 : Int) < n := fun h1 h2 => by omega
    clear hsz
    go_enter Trym.func3, Trym.ntmps3
    go_wp2_with fail
    refine (bytes_any dir path ao n cap _ Sx _ hn63 hr).mono ?_
    rintro e w' ⟨⟨b, rfl⟩, hw⟩
    subst w'
    cases b
    · go_wp2_with fail
      go_ret
      exact ⟨rfl, Below.refl _ _⟩
    by_cases h1 : dir.size ≤ 65536
    · by_cases h2 : path.size ≤ 65536
      · have h3 := hs h1 h2
        clear hs
        go_wp2_with fail
        go_ret
        exact ⟨rfl, Below.refl _ _⟩
      · clear hs
        go_wp2_with fail
        go_ret
        exact ⟨rfl, Below.refl _ _⟩
    · clear hs
      go_wp2_with fail
      go_ret
      exact ⟨rfl, Below.refl _ _⟩

end Go.Proofs.Qxb6604226aMods

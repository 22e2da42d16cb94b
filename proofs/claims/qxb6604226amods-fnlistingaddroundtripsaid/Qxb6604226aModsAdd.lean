/-
  THE WALKS OF THE LISTING: ZZNewListing (9), ZZListingDir (11), ZZListingNames (12), (*Listing).AddName (21), (*Listing).Add (10).
-/
import Derived.Test.Qxb6604226aModsClone
import Derived.Test.Qxb6604226aModsSmall
import Derived.Test.Qxb6604226aModsSmall2
import Derived.Lib.Bytealg
namespace Go.Proofs.Qxb6604226aMods
open Go.RowKit

set_option maxHeartbeats 400000 in
theorem new_any (dir : ByteArray) (ao : Option Addr) (n cap : Nat) (w : World) :
    Calls Trym.prog 9 #[.string dir, .slice ao n cap] w fun e w' => e = .returned (.pointer (some ⟨w.heap.size, 0, none⟩)) ∧ w' = w.alloc (.cells #[.string dir, .slice ao n cap] 37) := by
  go_enter Trym.func9, Trym.ntmps9
  go_wp2
  go_ret
  exact ⟨rfl, rfl⟩

/-- a new listing, told by what it is good for -/
def Listed (w : World) (lb : Nat) (dir : ByteArray) (ao : Option Addr) (n : Nat) : Prop :=
  lb < w.heap.size ∧ w.cell? ⟨lb, 0, none⟩ = some (.string dir) ∧ w.cell? ⟨lb, 1, none⟩ = some (.slice ao n n) ∧ w.frozen? ⟨lb, 1, none⟩ = false

theorem new_abs (dir : ByteArray) (ao : Option Addr) (n : Nat) (w : World) :
    Calls Trym.prog 9 #[.string dir, .slice ao n n] w fun e w' => ∃ lb, e = .returned (.pointer (some ⟨lb, 0, none⟩)) ∧ w.heap.size ≤ lb ∧ Listed w' lb dir ao n ∧ Below w.heap.size w w' := by
  refine (new_any dir ao n n w).mono ?_
  rintro e w' ⟨rfl, rfl⟩
  refine ⟨_, rfl, Nat.le_refl _, ⟨by simp, by simp, by simp, ?_⟩, (Below.refl _ _).alloc (Nat.le_refl _) _⟩
  exact (World.rowIs_alloc w #[.string dir, .slice ao n n] 37 (fun i => if i = 0 then .string dir else .slice ao n n) (fun i hi => by match i, hi with | 0, _ => rfl | 1, _ => rfl)).frozen 1

set_option maxHeartbeats 400000 in
theorem dir_any (lb : Nat) (dir : ByteArray) (w : World) (h0 : w.cell? ⟨lb, 0, none⟩ = some (.string dir)) :
    Calls Trym.prog 11 #[.pointer (some ⟨lb, 0, none⟩)] w fun e w' => e = .returned (.string dir) ∧ w' = w := by
  go_enter Trym.func11, Trym.ntmps11
  go_wp2
  go_ret
  exact ⟨rfl, rfl⟩

set_option maxHeartbeats 400000 in
theorem listed_any (lb : Nat) (ao : Option Addr) (n cap : Nat) (w : World) (h1 : w.cell? ⟨lb, 1, none⟩ = some (.slice ao n cap)) :
    Calls Trym.prog 12 #[.pointer (some ⟨lb, 0, none⟩)] w fun e w' => e = .returned (.slice ao n cap) ∧ w' = w := by
  go_enter Trym.func12, Trym.ntmps12
  go_wp2
  go_ret
  exact ⟨rfl, rfl⟩

/-- what the listing holds behind an added name -/
def Added (w : World) (lb : Nat) (dir : ByteArray) (n : Nat) (Sx : Nat → ByteArray) (name : ByteArray) : Prop :=
  ∃ g cap, w.cell? ⟨lb, 0, none⟩ = some (.string dir) ∧ w.cell? ⟨lb, 1, none⟩ = some (.slice (some ⟨g, 0, none⟩) (n + 1) cap) ∧ n + 1 ≤ cap ∧
    (∀ i, i < n → w.cell? ⟨g, i, none⟩ = some (.string (Sx i))) ∧ w.cell? ⟨g, n, none⟩ = some (.string name)

theorem added_of {w w1 : World} {lb g n cap : Nat} {dir name : ByteArray} {Sx : Nat → ByteArray} {L : List Value} {v : Value} (hlb : lb < w.heap.size)
    (h0 : w.cell? ⟨lb, 0, none⟩ = some (.string dir)) (h1 : w.cell? ⟨lb, 1, none⟩ = some v)
    (hL : L = (List.range n).map (fun i => Value.string (Sx i)) ++ [.string name])
    (hown : w1.ownsRow (w.heap.size + 1) 9 1 (.slice (some ⟨g, 0, none⟩) (n + 1) cap) (n + 1) L) (hbel : Below w.heap.size w w1) :
    Added (w1.setCell ⟨lb, 1, none⟩ (.slice (some ⟨g, 0, none⟩) (n + 1) cap)) lb dir n Sx name := by
  subst hL
  have hg : w.heap.size + 1 ≤ g := (hown.lt g rfl).1
  have hcap : n + 1 ≤ cap := by
    rcases hown.2 with ⟨h, _⟩ | ⟨g', cap', cur, h, _, _, hle, _⟩
    · cases h
    · simp at h
      omega
  have e0 := (hbel.cell (p := ⟨lb, 0, none⟩) hlb).trans h0
  have e1 := (hbel.cell (p := ⟨lb, 1, none⟩) hlb).trans h1
  have hne : ∀ i, (⟨lb, 1, none⟩ : Addr) ≠ ⟨g, i, none⟩ := fun i h => by
    have h2 : lb = g := congrArg Addr.block h
    omega
  refine ⟨g, cap, ?_, ?_, hcap, ?_, ?_⟩
  · rw [World.cell?_setCell_other _ _ _ _ (by simp)]
    exact e0
  · exact World.cell?_setCell_same _ _ _ e1
  · intro i hi
    rw [World.cell?_setCell_other _ _ _ _ (hne i), hown.cellAt i (by omega)]
    rw [List.getElem?_append_left (by simpa using hi)]
    simp [hi]
  · rw [World.cell?_setCell_other _ _ _ _ (hne n), hown.cellAt n (by omega)]
    rw [List.getElem?_append_right (by simp)]
    simp

set_option maxHeartbeats 800000 in
set_option maxRecDepth 1000000 in
theorem addName_any (lb n : Nat) (ao : Option Addr) (dir name : ByteArray) (Sx : Nat → ByteArray) (w : World) (hn : n ≤ 65536) (hlb : lb < w.heap.size)
    (h0 : w.cell? ⟨lb, 0, none⟩ = some (.string dir)) (h1 : w.cell? ⟨lb, 1, none⟩ = some (.slice ao n n)) (f1 : w.frozen? ⟨lb, 1, none⟩ = false)
    (hr : RowAt w lb ao n Sx) (hnil : ao = none → n = 0) :
    Calls Trym.prog 21 #[.pointer (some ⟨lb, 0, none⟩), .string name] w fun e w' => e = .returned (.tuple #[]) ∧ Added w' lb dir n Sx name ∧ Below lb w w' := by
  obtain ⟨i0, hi, hz0, hz1, hz2⟩ := info_parts Trym.info9
  go_enter Trym.func21, Trym.ntmps21
  go_wp2_with (at_builtin; refine wpList_append_grows _ rfl (.tmp 8) (.tmp 10) 22 rfl 9 i0 (.string ByteArray.empty) 1 16 Trym.underlying22 hi hz0 hz1 hz2 rfl (by decide) ao n n ((List.range n).map fun i => Value.string (Sx i)) rfl (fun h => ⟨hnil h, hnil h⟩) (by simp) ?olds ⟨w.heap.size, 0, none⟩ 1 1 [.string name] rfl rfl ?c1 ?c2 (by omega) (by unfold maxLen; omega) (by omega) ?grow)
  case olds =>
    intro b hb j u hu
    have hj : j < n := by
      have := (List.getElem?_eq_some_iff.1 hu).1
      simpa using this
    rcases hr with h | ⟨b', off, hx, hlt, hc⟩
    · omega
    obtain rfl : b = ⟨b', off, none⟩ := by rw [hx] at hb; simpa using hb.symm
    have e : (⟨b', off, none⟩ : Addr).add j = ⟨b', off + j, none⟩ := by simp [Addr.add]
    rw [e, World.cell?_alloc_lt _ _ _ (by show b' < w.heap.size; omega), hc j hj]
    simp [hj] at hu
    rw [hu]
  case c1 => intro j u hj; match j, hj with | 0, hj => simp at hj; subst hj; simp [Addr.add]
  case c2 => intro u hu; simp at hu; subst hu; rfl
  case grow =>
    intro v' w' hown hgrow
    have hbel : Below w.heap.size w w' := ((Below.refl _ _).alloc (Nat.le_refl _) _).grown hgrow (by simp) (fun k h => by cases h)
    obtain ⟨g, cap', rfl⟩ : ∃ g cap', v' = .slice (some ⟨g, 0, none⟩) (n + 1) cap' := by
      rcases hown.2 with ⟨_, h⟩ | ⟨g, cap', _, h, _⟩
      · omega
      · exact ⟨g, cap', h⟩
    have hadd := added_of (dir := dir) (name := name) (Sx := Sx) (v := .slice ao n n) hlb h0 h1 rfl (by simpa using hown) hbel
    have hb2 : Below lb w (w'.setCell ⟨lb, 1, none⟩ (.slice (some ⟨g, 0, none⟩) (n + 1) cap')) := (hbel.mono (B' := lb) (by omega)).setCell (p := ⟨lb, 1, none⟩) (Nat.le_refl _) _
    have k1 := (hbel.cell (p := ⟨lb, 1, none⟩) hlb).trans h1
    have e1 := (hbel.frozen (p := ⟨lb, 1, none⟩) hlb).trans f1
    clear hown hgrow h0 h1 f1 hr
    go_wp2
    go_end0
    exact ⟨rfl, hadd, hb2⟩

set_option maxHeartbeats 400000 in
/-- Add of a path that lies elsewhere: nothing happens. -/
theorem add_miss (lb : Nat) (dir path : ByteArray) (w : World) (h0 : w.cell? ⟨lb, 0, none⟩ = some (.string dir)) (hp : Lib.hasPrefix path.data.toList dir.data.toList = false) :
    Calls Trym.prog 10 #[.pointer (some ⟨lb, 0, none⟩), .string path] w fun e w' => e = .returned (.tuple #[]) ∧ w' = w := by
  go_enter Trym.func10, Trym.ntmps10
  go_wp2_with (go_at_call 19; refine (cut_miss _ _ _ hp).mono ?_; rintro e w' ⟨rfl, rfl⟩)
  refine bodyPost_ret (results_none rfl _ _ _) rfl ?_
  exact ⟨rfl, rfl⟩

theorem cut_as (s p rest : ByteArray) (w : World) (hr : Hid (rest = s.extract p.size s.size)) (h : Lib.hasPrefix s.data.toList p.data.toList = true) :
    Calls Trym.prog 19 #[.string s, .string p] w fun e w' => e = .returned (.tuple #[.string rest, .bool true]) ∧ w' = w := by
  obtain rfl := hr.out
  exact cut_hit s p w h

theorem index_as (s : ByteArray) (q : Int) (w : World) (hq : Hid (q = Lib.indexByte s.data.toList 47)) :
    Calls Trym.prog 20 #[.string s, .int .u8 47] w fun e w' => e = .returned (.int .i64 q) ∧ w' = w := by
  obtain rfl := hq.out
  exact index_any s 47 w

set_option maxHeartbeats 400000 in
/-- Add of a path in the directory, no '/' in its rest: the rest is the name. -/
theorem add_plain (lb n : Nat) (ao : Option Addr) (dir path rest : ByteArray) (q : Int) (Sx : Nat → ByteArray) (w : World) (hn : n ≤ 65536) (hlb : lb < w.heap.size)
    (h0 : w.cell? ⟨lb, 0, none⟩ = some (.string dir)) (h1 : w.cell? ⟨lb, 1, none⟩ = some (.slice ao n n)) (f1 : w.frozen? ⟨lb, 1, none⟩ = false)
    (hr : RowAt w lb ao n Sx) (hnil : ao = none → n = 0) (hp : Lib.hasPrefix path.data.toList dir.data.toList = true)
    (hrest : Hid (rest = path.extract dir.size path.size)) (hq : Hid (q = Lib.indexByte rest.data.toList 47)) (hq0 : q < 0) :
    Calls Trym.prog 10 #[.pointer (some ⟨lb, 0, none⟩), .string path] w fun e w' => e = .returned (.tuple #[]) ∧ Added w' lb dir n Sx rest ∧ Below lb w w' := by
  go_enter Trym.func10, Trym.ntmps10
  go_wp2_with (first
    | (go_at_call 19; refine (cut_as _ _ _ _ hrest hp).mono ?_; rintro e w' ⟨rfl, rfl⟩)
    | (go_at_call 20; refine (index_as _ _ _ hq).mono ?_; rintro e w' ⟨rfl, rfl⟩))
  refine (addName_any lb n ao dir rest Sx _ hn hlb h0 h1 f1 hr hnil).mono ?_
  rintro e w1 ⟨rfl, hadd, hbel⟩
  clear h0 h1 f1
  go_wp2
  go_end0
  exact ⟨rfl, hadd, hbel⟩

set_option maxHeartbeats 400000 in
/-- Add of a path in the directory, a '/' in its rest at place q: the name goes up to it. -/
theorem add_slash (lb n : Nat) (ao : Option Addr) (dir path rest : ByteArray) (q : Nat) (Sx : Nat → ByteArray) (w : World) (hn : n ≤ 65536) (hlb : lb < w.heap.size)
    (h0 : w.cell? ⟨lb, 0, none⟩ = some (.string dir)) (h1 : w.cell? ⟨lb, 1, none⟩ = some (.slice ao n n)) (f1 : w.frozen? ⟨lb, 1, none⟩ = false)
    (hr : RowAt w lb ao n Sx) (hnil : ao = none → n = 0) (hp : Lib.hasPrefix path.data.toList dir.data.toList = true)
    (hrest : Hid (rest = path.extract dir.size path.size)) (hq : Hid ((q : Int) = Lib.indexByte rest.data.toList 47)) (hq0 : q < rest.size) (hs : rest.size ≤ 1048576) :
    Calls Trym.prog 10 #[.pointer (some ⟨lb, 0, none⟩), .string path] w fun e w' => e = .returned (.tuple #[]) ∧ Added w' lb dir n Sx (rest.extract 0 (q + 1)) ∧ Below lb w w' := by
  go_enter Trym.func10, Trym.ntmps10
  go_wp2_with (first
    | (go_at_call 19; refine (cut_as _ _ _ _ hrest hp).mono ?_; rintro e w' ⟨rfl, rfl⟩)
    | (go_at_call 20; refine (index_as _ _ _ hq).mono ?_; rintro e w' ⟨rfl, rfl⟩))
  refine (addName_any lb n ao dir (rest.extract 0 (q + 1)) Sx _ hn hlb h0 h1 f1 hr hnil).mono ?_
  rintro e w1 ⟨rfl, hadd, hbel⟩
  clear h0 h1 f1
  go_wp2
  go_end0
  exact ⟨rfl, hadd, hbel⟩

end Go.Proofs.Qxb6604226aMods

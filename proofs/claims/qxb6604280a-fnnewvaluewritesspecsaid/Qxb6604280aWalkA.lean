import Derived.Test.Qxb6604280aRows
import Derived.Test.Qxb6604280aParts
import Derived.WalkKit
import Derived.WalkSpells
import Derived.WalkLawsBesides
import Derived.Outline
namespace Go.Proofs.Qxb6604280a
open Go.RowKit

theorem addLen_any (t l : Int) (w : World) (h1 : -1 ≤ t) (h2 : t ≤ 1048576) (h3 : 0 ≤ l) (h4 : l ≤ 9223372036854775807) :
    Calls Try.prog 13 #[.int .i64 t, .int .i64 l] w fun e w' => (∃ t', e = .returned (.int .i64 t') ∧ -1 ≤ t' ∧ t' ≤ 1048576) ∧ w' = w := by
  by_cases c1 : t < 0
  · go_enter Try.func13, Try.ntmps13
    go_wp2
    go_ret
    exact ⟨⟨_, rfl, by omega, by omega⟩, rfl⟩
  by_cases c2 : 1048576 < l
  · go_enter Try.func13, Try.ntmps13
    go_wp2
    go_ret
    exact ⟨⟨_, rfl, by omega, by omega⟩, rfl⟩
  by_cases c3 : 1048576 < t + l
  · go_enter Try.func13, Try.ntmps13
    go_wp2
    go_ret
    exact ⟨⟨_, rfl, by omega, by omega⟩, rfl⟩
  · go_enter Try.func13, Try.ntmps13
    go_wp2
    go_ret
    exact ⟨⟨_, rfl, by omega, by omega⟩, rfl⟩

theorem zopsBytes_big (a : Option Addr) (n c : Nat) (w : World) (hn : 6898 < n) (hm : n ≤ 9223372036854775807) :
    Calls Try.prog 7 #[.slice a n c] w fun e w' => e = .returned (.int .i64 (-1)) ∧ w' = w := by
  have c1' : (6898 : Int) < (n : Int) := by omega
  go_enter Try.func7, Try.ntmps7
  go_wp2
  go_ret
  exact ⟨rfl, rfl⟩

theorem zopsBytes_small (a : Option Addr) (b off n c : Nat) (rs : List Rc) (w : World) (ha : Hid (0 < n → a = some ⟨b, off, none⟩)) (hn : Hid (n = rs.length)) (hs : n ≤ 6898) (hc : RowAt w b off rs) (hok : ∀ r ∈ rs, r.ok) :
    Calls Try.prog 7 #[.slice a n c] w fun e w' => (∃ t' : Int, e = .returned (.int .i64 t') ∧ -1 ≤ t') ∧ w' = w := by
  have c1' : (n : Int) ≤ 6898 := by omega
  go_enter Try.func7, Try.ntmps7
  go_wp2
  go_loop [3, 4] (fun t i => ∃ (k : Nat) (z : Int), k ≤ n ∧ i = .int .i64 k ∧ t = .int .i64 z ∧ -1 ≤ z ∧ z ≤ 1048576) (fun _ i => n - (intOf i).toNat)
  case atStart => exact ⟨0, _, Nat.zero_le _, rfl, rfl, by omega, by omega⟩
  case round =>
    obtain ⟨k, z, hk, rfl, rfl, hz1, hz2⟩ := hrel
    by_cases hlt : k < n
    · obtain rfl := ha.out (by omega)
      obtain ⟨r, hm, _, hcr⟩ := hc.get (k := k) (by rw [← hn.out]; exact hlt)
      obtain ⟨e0, e1, _, e3, e4, e5⟩ := cells_fields hcr
      obtain ⟨o0, o1, o3, o4, o5⟩ := hok r hm
      clear hcr hc hok hm
      go_wp2_with (go_at_call 13; refine (addLen_any _ _ _ (by omega) (by omega) (by omega) (by omega)).mono ?_; rintro e w' ⟨⟨t', rfl, ht1, ht2⟩, rfl⟩)
      go_round
      case rel => exact ⟨k + 1, _, by omega, by go_num, rfl, by assumption, by assumption⟩
      case measure => simp [intOf]; omega
    · go_wp2
      go_ret
      exact ⟨⟨z, rfl, by omega⟩, rfl⟩

/-! The bound on the sum of all lengths: three functions of one text. -/
def IsBool (e : Ending) : Prop := ∃ t : Bool, e = .returned (.bool t)
set_option maxRecDepth 20000 in
set_option maxHeartbeats 1000000 in
theorem zzb6 (a : Option Addr) (b off n c : Nat) (rs : List Rc) (w : World) (ha : Hid (0 < n → a = some ⟨b, off, none⟩)) (hn : Hid (n = rs.length)) (hm : n ≤ 9223372036854775807) (hc : RowAt w b off rs) (hok : ∀ r ∈ rs, r.ok) :
    Calls Try.prog 6 #[.slice a n c] w fun e w' => IsBool e ∧ w' = w := by
  by_cases h1 : (1048576 : Int) < (n : Int)
  · clear hc hok
    go_enter Try.func6, Try.ntmps6
    go_wp2
    go_ret
    exact ⟨⟨_, rfl⟩, rfl⟩
  go_enter Try.func6, Try.ntmps6
  go_wp2
  go_loop [3, 4] (fun t i => ∃ (k : Nat) (z : Int), k ≤ n ∧ i = .int .i64 k ∧ t = .int .i64 z ∧ 0 ≤ z ∧ z ≤ 1048576) (fun _ i => n - (intOf i).toNat)
  case atStart => exact ⟨0, _, Nat.zero_le _, rfl, rfl, by omega, by omega⟩
  case round =>
    obtain ⟨k, z, hk, rfl, rfl, hz1, hz2⟩ := hrel
    by_cases hlt : k < n
    · obtain rfl := ha.out (by omega)
      obtain ⟨r, hm, _, hcr⟩ := hc.get (k := k) (by rw [← hn.out]; exact hlt)
      obtain ⟨e0, e1, _, e3, e4, e5⟩ := cells_fields hcr
      obtain ⟨o0, o1, o3, o4, o5⟩ := hok r hm
      clear hcr hc hok hm
      go_wp2
      all_goals first
        | (go_ret; exact ⟨⟨_, rfl⟩, rfl⟩)
        | (go_round
           case rel => exact ⟨k + 1, _, by omega, by go_num, rfl, by omega, by omega⟩
           case measure => simp [intOf]; omega)
    · go_wp2
      go_ret
      exact ⟨⟨_, rfl⟩, rfl⟩
set_option maxRecDepth 20000 in
set_option maxHeartbeats 1000000 in
theorem zzb10 (a : Option Addr) (b off n c : Nat) (rs : List Rc) (w : World) (ha : Hid (0 < n → a = some ⟨b, off, none⟩)) (hn : Hid (n = rs.length)) (hm : n ≤ 9223372036854775807) (hc : RowAt w b off rs) (hok : ∀ r ∈ rs, r.ok) :
    Calls Try.prog 10 #[.slice a n c] w fun e w' => IsBool e ∧ w' = w := by
  by_cases h1 : (1048576 : Int) < (n : Int)
  · clear hc hok
    go_enter Try.func10, Try.ntmps10
    go_wp2
    go_ret
    exact ⟨⟨_, rfl⟩, rfl⟩
  go_enter Try.func10, Try.ntmps10
  go_wp2
  go_loop [3, 4] (fun t i => ∃ (k : Nat) (z : Int), k ≤ n ∧ i = .int .i64 k ∧ t = .int .i64 z ∧ 0 ≤ z ∧ z ≤ 1048576) (fun _ i => n - (intOf i).toNat)
  case atStart => exact ⟨0, _, Nat.zero_le _, rfl, rfl, by omega, by omega⟩
  case round =>
    obtain ⟨k, z, hk, rfl, rfl, hz1, hz2⟩ := hrel
    by_cases hlt : k < n
    · obtain rfl := ha.out (by omega)
      obtain ⟨r, hm, _, hcr⟩ := hc.get (k := k) (by rw [← hn.out]; exact hlt)
      obtain ⟨e0, e1, _, e3, e4, e5⟩ := cells_fields hcr
      obtain ⟨o0, o1, o3, o4, o5⟩ := hok r hm
      clear hcr hc hok hm
      go_wp2
      all_goals first
        | (go_ret; exact ⟨⟨_, rfl⟩, rfl⟩)
        | (go_round
           case rel => exact ⟨k + 1, _, by omega, by go_num, rfl, by omega, by omega⟩
           case measure => simp [intOf]; omega)
    · go_wp2
      go_ret
      exact ⟨⟨_, rfl⟩, rfl⟩
set_option maxRecDepth 20000 in
set_option maxHeartbeats 1000000 in
theorem zzb12 (a : Option Addr) (b off n c : Nat) (kk : Int) (rs : List Rc) (w : World) (ha : Hid (0 < n → a = some ⟨b, off, none⟩)) (hn : Hid (n = rs.length)) (hm : n ≤ 9223372036854775807) (hc : RowAt w b off rs) (hok : ∀ r ∈ rs, r.ok) :
    Calls Try.prog 12 #[.slice a n c, .int .i64 kk] w fun e w' => IsBool e ∧ w' = w := by
  by_cases h1 : (1048576 : Int) < (n : Int)
  · clear hc hok
    go_enter Try.func12, Try.ntmps12
    go_wp2
    go_ret
    exact ⟨⟨_, rfl⟩, rfl⟩
  go_enter Try.func12, Try.ntmps12
  go_wp2
  go_loop [5, 6] (fun t i => ∃ (k : Nat) (z : Int), k ≤ n ∧ i = .int .i64 k ∧ t = .int .i64 z ∧ 0 ≤ z ∧ z ≤ 1048576) (fun _ i => n - (intOf i).toNat)
  case atStart => exact ⟨0, _, Nat.zero_le _, rfl, rfl, by omega, by omega⟩
  case round =>
    obtain ⟨k, z, hk, rfl, rfl, hz1, hz2⟩ := hrel
    by_cases hlt : k < n
    · obtain rfl := ha.out (by omega)
      obtain ⟨r, hm, _, hcr⟩ := hc.get (k := k) (by rw [← hn.out]; exact hlt)
      obtain ⟨e0, e1, _, e3, e4, e5⟩ := cells_fields hcr
      obtain ⟨o0, o1, o3, o4, o5⟩ := hok r hm
      clear hcr hc hok hm
      go_wp2
      all_goals first
        | (go_ret; exact ⟨⟨_, rfl⟩, rfl⟩)
        | (go_round
           case rel => exact ⟨k + 1, _, by omega, by go_num, rfl, by omega, by omega⟩
           case measure => simp [intOf]; omega)
    · go_wp2
      go_ret
      exact ⟨⟨_, rfl⟩, rfl⟩
end Go.Proofs.Qxb6604280a

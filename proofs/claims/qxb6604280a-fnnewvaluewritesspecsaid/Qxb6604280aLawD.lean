import Derived.Test.Qxb6604280aLawB
namespace Go.Proofs.Qxb6604280a
open Go.RowKit
theorem amb_empty' : amb [] 0 = -1 := rfl
set_option maxRecDepth 20000 in
set_option maxHeartbeats 1000000 in
theorem law4_nil (c : Nat) (w : World) :
    Calls Try.prog 4 #[.slice none 0 c] w fun e w' => e = .returned (.bool true) ∧ Below w.heap.size w w' := by
  have hr : ∀ w : World, RowAt w 0 0 [] := fun w i r h => by simp at h
  have ha' : Hid (0 < 0 → (none : Option Addr) = some ⟨0, 0, none⟩) := fun h => absurd h (by omega)
  go_enter Try.func4, Try.ntmps4
  go_wp2_with (first
    | (go_at_call 10; refine (zzb10 none 0 0 0 c [] _ ha' rfl (by omega) (hr _) (fun r h => by simp at h)).mono ?_; rintro e w' ⟨⟨t, rfl⟩, hw⟩; obtain rfl := hw.symm; rcases t)
    | (go_at_call 7; refine (zopsBytes_small none 0 0 0 c [] _ ha' rfl (by omega) (hr _) (fun r h => by simp at h)).mono ?_; rintro e w' ⟨⟨t, rfl, ht⟩, hw⟩; obtain rfl := hw.symm)
    | (go_at_call 8; refine (toOps_nil c _).mono ?_; rintro e w1 ⟨rfl, hw⟩; obtain rfl := hw.symm)
    )
  · go_ret
    exact ⟨rfl, Below.refl _ _⟩
  · go_ret
    exact ⟨rfl, Below.refl _ _⟩
  refine (zznv_any none 0 0 0 0 0 [] w ha' rfl (by omega) rfl (hr _) (fun h => absurd h (by omega)) (fun r h => by simp at h)).mono ?_
  rintro e w2 ⟨OF, WR, V, M, R, rfl, N⟩
  have hb2 := N.bel
  clear N hr
  rw [amb_empty']
  generalize decide (t < 0) = bt
  go_wp2
  go_loop [9, 10] (fun wa i => wa = .int .i64 (-1) ∧ i = .int .i64 0) (fun _ _ => 0)
  case atStart => exact ⟨rfl, rfl⟩
  case round =>
    obtain ⟨rfl, rfl⟩ := hrel
    go_wp2
    go_loop [16] (fun q => q = .int .i64 0) (fun _ => 0)
    case atStart => rfl
    case round =>
      obtain rfl := hrel
      go_wp2
      go_ret
      exact ⟨ret_bool (by simp), hb2⟩
set_option maxRecDepth 20000 in
theorem law4_big (a : Option Addr) (b off n c : Nat) (rs : List Rc) (w : World) (ha : Hid (0 < n → a = some ⟨b, off, none⟩)) (hn : Hid (n = rs.length)) (hs : 6898 < n) (hm : n ≤ 9223372036854775807) (hc : RowAt w b off rs) (hok : ∀ r ∈ rs, r.ok) :
    Calls Try.prog 4 #[.slice a n c] w fun e w' => e = .returned (.bool true) ∧ Below w.heap.size w w' := by
  go_enter Try.func4, Try.ntmps4
  go_wp2_with (first
    | (go_at_call 10; refine (zzb10 a b off n c rs _ ha hn hm hc hok).mono ?_; rintro e w' ⟨⟨t, rfl⟩, hw⟩; obtain rfl := hw.symm; rcases t)
    | (go_at_call 7; refine (zopsBytes_big a n c _ hs hm).mono ?_; rintro e w' ⟨rfl, hw⟩; obtain rfl := hw.symm))
  all_goals
    go_ret
    exact ⟨rfl, Below.refl _ _⟩
theorem law4_any (a : Option Addr) (b off n c : Nat) (rs : List Rc) (w : World) (ha : 0 < n → a = some ⟨b, off, none⟩) (h0 : a = none → n = 0) (hn : n = rs.length) (hm : n ≤ 9223372036854775807) (hc : RowAt w b off rs) (hb : 0 < n → b < w.heap.size) (hok : ∀ r ∈ rs, r.ok) :
    Calls Try.prog 4 #[.slice a n c] w fun e w' => e = .returned (.bool true) ∧ Below w.heap.size w w' := by
  by_cases hs : n ≤ 6898
  · cases a with
    | none =>
      obtain rfl := h0 rfl
      exact law4_nil c w
    | some x => exact law4_some x b off n c rs w (fun h => by simpa using ha h) hn hs hc hb hok
  · exact law4_big a b off n c rs w ha hn (by omega) hm hc hok
end Go.Proofs.Qxb6604280a

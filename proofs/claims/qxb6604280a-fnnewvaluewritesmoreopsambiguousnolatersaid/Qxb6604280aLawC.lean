import Derived.Test.Qxb6604280aNvD
import Derived.Test.Qxb6604280aWalkB
namespace Go.Proofs.Qxb6604280a
open Go.RowKit
theorem row_take {w : World} {b off : Nat} {rs : List Rc} (h : RowAt w b off rs) (k : Nat) : RowAt w b off (rs.take k) := fun i r hi => h i r (by
  have hk : i < k := by have := (List.getElem?_eq_some_iff.1 hi).1; simp at this; omega
  rwa [List.getElem?_take_of_lt hk] at hi)
/-- The whole history's first ambiguous read comes no later than the prefix's. -/
theorem amb_no_later (rs : List Rc) {k q : Nat} (hk : k ≤ rs.length) (h : amb (rs.take k) k = (q : Nat)) : 0 ≤ amb rs rs.length ∧ amb rs rs.length ≤ q := by
  obtain ⟨p, r, h1, h2, h3, h4, h5⟩ := amb_at (rs.take k) k (by omega)
  obtain rfl : p = q := by omega
  have hr : rs[p]? = some r := by rwa [List.getElem?_take_of_lt h2] at h3
  exact amb_first rs rs.length p r (by omega) hr h4 (Nat.lt_of_lt_of_le h5 (ways_mono rs k r))
theorem kind_at {w : World} {B : Nat} {rs : List Rc} {p : Nat} {r : Rc} (h : RowAt w B 0 rs) (hr : rs[p]? = some r) : w.cell? ⟨B, p * 14 + 2, none⟩ = some (.int .i64 r.kind) := by
  have := (cells_fields (h p r hr)).2.2.1
  simpa using this

set_option maxRecDepth 20000 in
set_option maxHeartbeats 2000000 in
theorem law5_some (x : Addr) (b off n c k : Nat) (rs : List Rc) (w : World) (ha : Hid (0 < n → x = ⟨b, off, none⟩)) (hn : Hid (n = rs.length)) (hs : n ≤ 6898) (hc : RowAt w b off rs) (hb : Hid (0 < n → b < w.heap.size)) (hok : ∀ r ∈ rs, r.ok) (hk : k ≤ n) :
    Calls Try.prog 5 #[.slice (some x) n c, .int .i64 k] w fun e w' => e = .returned (.bool true) ∧ Below w.heap.size w w' := by
  have ha' : Hid (0 < n → some x = some ⟨b, off, none⟩) := fun h => by rw [ha.out h]
  have hg1 := amb_ge rs n
  have hg2 := amb_lt rs n
  have hg3 := amb_ge (rs.take k) k
  have hg4 := amb_lt (rs.take k) k
  have hki : (k : Int) ≤ (n : Int) := by omega
  obtain ⟨nw, hnw⟩ : ∃ nw, nw = (n + 63) / 64 := ⟨_, rfl⟩
  obtain ⟨nk, hnk⟩ : ∃ nk, nk = (k + 63) / 64 := ⟨_, rfl⟩
  have Hnw : Hid (nw = (n + 63) / 64) := hnw
  have Hnk : Hid (nk = (k + 63) / 64) := hnk
  clear hnw hnk
  go_enter Try.func5, Try.ntmps5
  go_wp2_with (first
    | (go_at_call 12; refine (zzb12 (some x) b off n c _ rs _ ha' hn (by omega) hc hok).mono ?_; rintro e w' ⟨⟨t, rfl⟩, hw⟩; obtain rfl := hw.symm; rcases t)
    | (go_at_call 7; refine (zopsBytes_small (some x) b off n c rs _ ha' hn hs hc hok).mono ?_; rintro e w' ⟨⟨t, rfl, ht⟩, hw⟩; obtain rfl := hw.symm)
    | (go_at_call 8; refine (toOps_some x b off n c rs _ ha hn hs hc hb).mono ?_; rintro e w1 ⟨rfl, hrow, hbel⟩)
    )
  · go_ret
    exact ⟨rfl, Below.refl _ _⟩
  · go_ret
    exact ⟨rfl, Below.refl _ _⟩
  have hB : Hid (0 < n → w.heap.size < w1.heap.size) := fun h => by
    have hl := hn.out
    exact block_lt_of_cell (hrow 0 (rs[0]'(by omega)) (by simp) 0 _ rfl)
  refine (zznv_any (some ⟨w.heap.size, 0, none⟩) w.heap.size 0 n n nw rs w1 (fun _ => rfl) hn hs Hnw hrow hB hok).mono ?_
  rintro e w2 ⟨OF, WR, V, M, R, rfl, N⟩
  have hrow2 := row_bel hrow N.bel
  have hbel2 : Below w.heap.size w w2 := hbel.trans (N.bel.mono hbel.size)
  have hB2 : Hid (0 < k → w.heap.size < w2.heap.size) := fun h => Nat.lt_of_lt_of_le (hB.out (by omega)) N.bel.size
  have hok2 : ∀ r ∈ rs.take k, r.ok := fun r hr => hok r (List.mem_of_mem_take hr)
  have hn2 : Hid (k = (rs.take k).length) := by have := hn.out; show k = _; simp; omega
  clear N hrow hbel hc hok
  go_wp2_with fail
  refine (zznv_any (some ⟨w.heap.size, 0, none⟩) w.heap.size 0 k n nk (rs.take k) w2 (fun _ => rfl) hn2 (by omega) Hnk (row_take hrow2 k) hB2 hok2).mono ?_
  rintro e w3 ⟨OF', WR', V', M', R', rfl, N⟩
  have hrow3 := row_bel hrow2 N.bel
  have hbel3 : Below w.heap.size w w3 := hbel2.trans (N.bel.mono hbel2.size)
  have hall : ∀ p : Nat, amb rs n = (p : Nat) → ∃ r : Rc, w3.cell? ⟨w.heap.size, p * 14 + 2, none⟩ = some (.int .i64 r.kind) ∧ (r.kind == 0) = false := fun p hp => by
    obtain ⟨p', r, h1, _, h3, h4, _⟩ := amb_at rs n (by omega)
    obtain rfl : p' = p := by omega
    exact ⟨r, kind_at hrow3 h3, by simpa using h4⟩
  have hpre : ∀ q : Nat, amb (rs.take k) k = (q : Nat) → (∃ r : Rc, w3.cell? ⟨w.heap.size, q * 14 + 2, none⟩ = some (.int .i64 r.kind) ∧ (r.kind == 0) = false) ∧ 0 ≤ amb rs n ∧ amb rs n ≤ q := fun q hq => by
    obtain ⟨p', r, h1, h2, h3, h4, _⟩ := amb_at (rs.take k) k (by omega)
    obtain rfl : p' = q := by omega
    have h5 := amb_no_later rs (k := k) (q := p') (by rw [← hn.out]; exact hk) hq
    rw [← hn.out] at h5
    exact ⟨⟨r, kind_at hrow3 (by rwa [List.getElem?_take_of_lt h2] at h3), by simpa using h4⟩, h5⟩
  clear N hrow2 hrow3 hbel2 hok2
  revert hall hpre
  generalize amb rs n = A at hg1 hg2 ⊢
  generalize amb (rs.take k) k = P at hg3 hg4 ⊢
  intro hall hpre
  by_cases hP : P < 0
  · by_cases hA : A < 0
    · clear hall hpre
      go_wp2
      go_ret
      exact ⟨rfl, hbel3⟩
    · obtain ⟨p, rfl⟩ : ∃ p : Nat, A = p := ⟨A.toNat, by omega⟩
      obtain ⟨r, e1, e2⟩ := hall p rfl
      have hpn : p < n := by omega
      clear hall hpre
      go_wp2
      go_ret
      exact ⟨rfl, hbel3⟩
  · obtain ⟨q, rfl⟩ : ∃ q : Nat, P = q := ⟨P.toNat, by omega⟩
    obtain ⟨⟨r', e3, e4⟩, h5, h6⟩ := hpre q rfl
    obtain ⟨p, rfl⟩ : ∃ p : Nat, A = p := ⟨A.toNat, by omega⟩
    obtain ⟨r, e1, e2⟩ := hall p rfl
    have hpn : p < n := by omega
    have hqn : q < n := by omega
    clear hall hpre
    go_wp2
    go_ret
    exact ⟨rfl, hbel3⟩
theorem amb_empty : amb [] 0 = -1 := rfl
set_option maxRecDepth 20000 in
theorem law5_nil (c : Nat) (w : World) :
    Calls Try.prog 5 #[.slice none 0 c, .int .i64 0] w fun e w' => e = .returned (.bool true) ∧ Below w.heap.size w w' := by
  have hr : ∀ w : World, RowAt w 0 0 [] := fun w i r h => by simp at h
  have ha' : Hid (0 < 0 → (none : Option Addr) = some ⟨0, 0, none⟩) := fun h => absurd h (by omega)
  go_enter Try.func5, Try.ntmps5
  go_wp2_with (first
    | (go_at_call 12; refine (zzb12 none 0 0 0 c _ [] _ ha' rfl (by omega) (hr _) (fun r h => by simp at h)).mono ?_; rintro e w' ⟨⟨t, rfl⟩, hw⟩; obtain rfl := hw.symm; rcases t)
    | (go_at_call 7; refine (zopsBytes_small none 0 0 0 c [] _ ha' rfl (by omega) (hr _) (fun r h => by simp at h)).mono ?_; rintro e w' ⟨⟨t, rfl, ht⟩, hw⟩; obtain rfl := hw.symm)
    | (go_at_call 8; refine (toOps_nil c _).mono ?_; rintro e w1 ⟨rfl, hw⟩; obtain rfl := hw.symm)
    )
  · go_ret
    exact ⟨rfl, Below.refl _ _⟩
  · go_ret
    exact ⟨rfl, Below.refl _ _⟩
  refine (zznv_any none 0 0 0 0 0 [] w ha' rfl (by omega) rfl (hr _) (fun h => absurd h (by omega)) (fun r h => by simp at h)).mono ?_
  rintro e w2 ⟨OF, WR, V, M, R, rfl, N⟩
  have hb2 := N.bel
  clear N
  go_wp2_with fail
  refine (zznv_any none 0 0 0 0 0 [] w2 ha' rfl (by omega) rfl (hr _) (fun h => absurd h (by omega)) (fun r h => by simp at h)).mono ?_
  rintro e w3 ⟨OF', WR', V', M', R', rfl, N⟩
  have hb3 : Below w.heap.size w w3 := hb2.trans (N.bel.mono hb2.size)
  clear N hr
  have e1 := amb_empty
  go_wp2
  go_ret
  exact ⟨rfl, hb3⟩
theorem law5_out (a : Option Addr) (b off n c : Nat) (k : Int) (rs : List Rc) (w : World) (ha : Hid (0 < n → a = some ⟨b, off, none⟩)) (hn : Hid (n = rs.length)) (hs : n ≤ 6898) (hc : RowAt w b off rs) (hok : ∀ r ∈ rs, r.ok) (hk : k < 0 ∨ (n : Int) < k) :
    Calls Try.prog 5 #[.slice a n c, .int .i64 k] w fun e w' => e = .returned (.bool true) ∧ Below w.heap.size w w' := by
  rcases hk with hk | hk
  · go_enter Try.func5, Try.ntmps5
    go_wp2_with (first
      | (go_at_call 12; refine (zzb12 a b off n c _ rs _ ha hn (by omega) hc hok).mono ?_; rintro e w' ⟨⟨t, rfl⟩, hw⟩; obtain rfl := hw.symm; rcases t)
      | (go_at_call 7; refine (zopsBytes_small a b off n c rs _ ha hn hs hc hok).mono ?_; rintro e w' ⟨⟨t, rfl, ht⟩, hw⟩; obtain rfl := hw.symm))
    all_goals
      go_ret
      exact ⟨rfl, Below.refl _ _⟩
  · have hk0 : ¬ k < 0 := by omega
    go_enter Try.func5, Try.ntmps5
    go_wp2_with (first
      | (go_at_call 12; refine (zzb12 a b off n c _ rs _ ha hn (by omega) hc hok).mono ?_; rintro e w' ⟨⟨t, rfl⟩, hw⟩; obtain rfl := hw.symm; rcases t)
      | (go_at_call 7; refine (zopsBytes_small a b off n c rs _ ha hn hs hc hok).mono ?_; rintro e w' ⟨⟨t, rfl, ht⟩, hw⟩; obtain rfl := hw.symm))
    all_goals
      go_ret
      exact ⟨rfl, Below.refl _ _⟩
theorem law5_big (a : Option Addr) (b off n c : Nat) (k : Int) (rs : List Rc) (w : World) (ha : Hid (0 < n → a = some ⟨b, off, none⟩)) (hn : Hid (n = rs.length)) (hs : 6898 < n) (hm : n ≤ 9223372036854775807) (hc : RowAt w b off rs) (hok : ∀ r ∈ rs, r.ok) :
    Calls Try.prog 5 #[.slice a n c, .int .i64 k] w fun e w' => e = .returned (.bool true) ∧ Below w.heap.size w w' := by
  go_enter Try.func5, Try.ntmps5
  go_wp2_with (first
    | (go_at_call 12; refine (zzb12 a b off n c _ rs _ ha hn hm hc hok).mono ?_; rintro e w' ⟨⟨t, rfl⟩, hw⟩; obtain rfl := hw.symm; rcases t)
    | (go_at_call 7; refine (zopsBytes_big a n c _ hs hm).mono ?_; rintro e w' ⟨rfl, hw⟩; obtain rfl := hw.symm))
  all_goals
    go_ret
    exact ⟨rfl, Below.refl _ _⟩
theorem law5_any (a : Option Addr) (b off n c : Nat) (k : Int) (rs : List Rc) (w : World) (ha : 0 < n → a = some ⟨b, off, none⟩) (h0 : a = none → n = 0) (hn : n = rs.length) (hm : n ≤ 9223372036854775807) (hc : RowAt w b off rs) (hb : 0 < n → b < w.heap.size) (hok : ∀ r ∈ rs, r.ok) :
    Calls Try.prog 5 #[.slice a n c, .int .i64 k] w fun e w' => e = .returned (.bool true) ∧ Below w.heap.size w w' := by
  by_cases hs : n ≤ 6898
  · by_cases hk : k < 0 ∨ (n : Int) < k
    · exact law5_out a b off n c k rs w ha hn hs hc hok hk
    · obtain ⟨kk, rfl⟩ : ∃ kk : Nat, k = kk := ⟨k.toNat, by omega⟩
      cases a with
      | none =>
        obtain rfl := h0 rfl
        obtain rfl : kk = 0 := by omega
        exact law5_nil c w
      | some x => exact law5_some x b off n c kk rs w (fun h => by simpa using ha h) hn hs hc hb hok (by omega)
  · exact law5_big a b off n c k rs w ha hn (by omega) hm hc hok
end Go.Proofs.Qxb6604280a

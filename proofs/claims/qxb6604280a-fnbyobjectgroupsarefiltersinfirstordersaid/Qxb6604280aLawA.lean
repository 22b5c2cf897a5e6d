import Derived.Test.Qxb6604280aWalkB
import Derived.Test.Qxb6604280aByA
import Derived.Test.Qxb6604280aPlainB
import Derived.Deep.QuietTactic
import Derived.BigQuiet
import Derived.Maps.RangeWalk
namespace Go.Proofs.Qxb6604280a
open Go.RowKit
theorem run_neq_rc (r : Rc) (w : World) : (binOp .neq 34 (.agg r.arr) (.agg r.arr)).run Try.prog w = .ok (.bool false) w := by
  go_simp

theorem group_facts {w2 W : World} {rs : List Rc} {X Y m j : Nat} (G : Grps w2 rs X Y m W) (hj : j < m) : ∃ (d : List UInt8) (r0 : Rc) (S L : Nat), Hid ((dist (keys rs))[j]? = some d ∧ S = st (cnts (keys rs)) j ∧ L = (grp rs d).length ∧ r0.key = d ∧ d ∈ keys rs) ∧ 0 < L ∧
    W.cell? ⟨X, j, none⟩ = some (.slice (some ⟨Y, S * 14, none⟩) L L) ∧ W.cell? ⟨Y, S * 14 + 1, none⟩ = some (.string r0.obj) ∧ RowAt W Y (S * 14) (grp rs d) ∧ S + L ≤ rs.length := by
  have hlen := G.len
  have hd : (dist (keys rs))[j]? = some ((dist (keys rs))[j]'(by omega)) := List.getElem?_eq_getElem (by omega)
  have hrow := G.rows j _ hd
  have hmem := mem_dist.1 (List.mem_of_getElem? hd)
  have hL : (grp rs ((dist (keys rs))[j]'(by omega))).length = cnt (keys rs) ((dist (keys rs))[j]'(by omega)) := grp_len rs _
  have hc := cnts_at hd
  obtain ⟨hl1, hc1⟩ := List.getElem?_eq_some_iff.1 hc
  have hpos : 0 < (grp rs ((dist (keys rs))[j]'(by omega))).length := by
    rw [hL, ← hc1]
    exact cnts_pos _ _
  have h0 : (grp rs ((dist (keys rs))[j]'(by omega)))[0]? = some ((grp rs ((dist (keys rs))[j]'(by omega)))[0]'hpos) := List.getElem?_eq_getElem hpos
  have hcell := G.cell j _ hd
  rw [← hL] at hcell
  refine ⟨_, _, _, _, ⟨hd, rfl, rfl, (grp_key h0).1, hmem⟩, hpos, hcell, ?_, hrow, ?_⟩
  · have := hrow 0 _ h0 1 _ rfl
    simpa using this
  · have := st_end (cnts (keys rs)) hl1
    rw [hc1, cnts_sum, keys_len, ← hL] at this
    exact this

theorem cells_at {w : World} {b o : Nat} {r : Rc} (h : w.rangeAt b o r.cells) :
    w.cell? ⟨b, o, none⟩ = some (.string r.ses) ∧ w.cell? ⟨b, o + 1, none⟩ = some (.string r.obj) ∧ w.cell? ⟨b, o + 2, none⟩ = some (.int .i64 r.kind) ∧ w.cell? ⟨b, o + 3, none⟩ = some (.string r.nm) ∧ w.cell? ⟨b, o + 4, none⟩ = some (.string r.arg) ∧ w.cell? ⟨b, o + 5, none⟩ = some (.string r.val) ∧ w.cell? ⟨b, o + 6, none⟩ = some (.int .i64 r.out) ∧ w.cell? ⟨b, o + 7, none⟩ = some (.int .i64 r.line) ∧ w.cell? ⟨b, o + 8, none⟩ = some (.int .i64 r.id) ∧ w.cell? ⟨b, o + 9, none⟩ = some (.int .i64 r.lev) ∧ w.cell? ⟨b, o + 10, none⟩ = some (.bool r.timed) ∧ w.cell? ⟨b, o + 11, none⟩ = some (.int .u64 r.st) ∧ w.cell? ⟨b, o + 12, none⟩ = some (.int .u64 r.en) ∧ w.cell? ⟨b, o + 13, none⟩ = some (.int .i64 r.tx) :=
  ⟨h 0 _ rfl, h 1 _ rfl, h 2 _ rfl, h 3 _ rfl, h 4 _ rfl, h 5 _ rfl, h 6 _ rfl, h 7 _ rfl, h 8 _ rfl, h 9 _ rfl, h 10 _ rfl, h 11 _ rfl, h 12 _ rfl, h 13 _ rfl⟩
theorem obj_eq {r r0 : Rc} (h : r.key = r0.key) : (r.obj.toList == r0.obj.toList) = true := by
  rw [ByteArray.toList_eq, ByteArray.toList_eq]; simpa [Rc.key] using h
theorem obj_ne {r r0 : Rc} (h : ¬ r.key = r0.key) : (r.obj.toList == r0.obj.toList) = false := by
  rw [ByteArray.toList_eq, ByteArray.toList_eq]; simpa [Rc.key] using h
theorem below_drewN {B : Nat} {w w2 : World} (h : Below B w w2) (t : Nat) : Below B w (w2.drewN t) := ⟨h.os, h.tape, h.output, h.size, h.block⟩
theorem row_below {w w' : World} {b off : Nat} {rs : List Rc} (h : RowAt w b off rs) (hb : Below w.heap.size w w') : RowAt w' b off rs := fun i r hi j v hj => by
  have h1 := h i r hi j v hj
  rw [hb.cell (p := ⟨b, _, none⟩) (block_lt_of_cell h1)]
  exact h1

set_option maxRecDepth 20000 in
set_option maxHeartbeats 4000000 in
theorem law3_small (a : Option Addr) (b off n c : Nat) (rs : List Rc) (w : World) (ha : Hid (0 < n → a = some ⟨b, off, none⟩)) (h0 : Hid (a = none → n = 0)) (hn : Hid (n = rs.length)) (hs : n ≤ 6898) (hc : RowAt w b off rs) (hb : Hid (0 < n → b < w.heap.size)) (hok : ∀ r ∈ rs, r.ok) :
    Calls Try.prog 3 #[.slice a n c] w fun e w' => e = .returned (.bool true) ∧ Below w.heap.size w w' := by
  go_enter Try.func3, Try.ntmps3
  go_wp2_with (first
    | (go_at_call 6; refine (zzb6 a b off n c rs _ ha hn (by omega) hc hok).mono ?_; rintro e w' ⟨⟨t, rfl⟩, hw⟩; obtain rfl := hw.symm; rcases t)
    | (go_at_call 7; refine (zopsBytes_small a b off n c rs _ ha hn hs hc hok).mono ?_; rintro e w' ⟨⟨t, rfl, ht⟩, hw⟩; obtain rfl := hw.symm)
    | (go_at_call 8; refine (toOps_any a b off n c rs _ ha h0.out hn hs hc hb).mono ?_; rintro e w1 ⟨oa, oc, rfl, hO, hB, hrow, hoc, hbel⟩)
    | (go_at_call 14; refine (byObject_any oa _ 0 n oc rs _ hO hn hs hrow hB hok).mono ?_; rintro e w2 ⟨X, Y, m, rfl, G⟩)
    | go_in)
  · go_ret
    exact ⟨rfl, Below.refl _ _⟩
  · go_ret
    exact ⟨rfl, Below.refl _ _⟩
  · have hb2 : Below w.heap.size w w2 := hbel.trans (G.bel.mono hbel.size)
    have hrow2 : RowAt w2 w.heap.size 0 rs := row_below hrow G.bel
    have hm : m ≤ n := by rw [G.len, hn.out, ← keys_len]; exact dist_len _
    clear hrow hc hok
    generalize decide (t < 0) = bt
    go_loopw [6, 7, 8] (fun tot pv i wr => ∃ (j S tt : Nat) (P : Int), j ≤ m ∧ i = .int .i64 j ∧ tot = .int .i64 S ∧ pv = .int .i64 P ∧ Hid (S = st (cnts (keys rs)) j ∧ P = pf rs j) ∧ S ≤ n ∧ -1 ≤ P ∧ P ≤ n ∧ wr = w2.drewN tt) (fun _ _ i _ => m - (intOf i).toNat)
    case atStart => exact ⟨0, 0, 0, -1, Nat.zero_le _, rfl, rfl, rfl, ⟨(st_zero _).symm, rfl⟩, by omega, by omega, by omega, rfl⟩
    case round =>
      obtain ⟨j, S, tt, P, hj, rfl, rfl, rfl, hSP, hSn, hP1, hP2, rfl⟩ := hrel
      by_cases hjm : j < m
      · obtain ⟨d, r0, S', L, hd, hL, e1, e2, hrg, hSL⟩ := group_facts G hjm
        obtain rfl : S = S' := by rw [hSP.out.1, hd.out.2.1]
        have hLn : S + L ≤ n := by rw [hn.out]; exact hSL
        have hL0 : ((L : Int) == 0) = false := by simp; omega
        clear hSL
        have HG : Hid (Grps w1 rs X Y m w2) := G
        clear G
        go_wp2
        go_loopw [11, 12, 13] (fun f k q wr => ∃ (p cc uu : Nat) (F : Int), p ≤ n ∧ q = .int .i64 p ∧ k = .int .i64 cc ∧ f = .int .i64 F ∧ Hid (cc = (grp (rs.take p) d).length ∧ F = fi rs d p) ∧ cc ≤ L ∧ -1 ≤ F ∧ F ≤ n ∧ wr = w2.drewN uu) (fun _ _ q _ => n - (intOf q).toNat)
        case atStart => exact ⟨0, 0, tt, -1, Nat.zero_le _, rfl, rfl, rfl, ⟨rfl, (fi_zero _ _).symm⟩, by omega, by omega, by omega, rfl⟩
        case round =>
          obtain ⟨p, cc, uu, F, hp, rfl, rfl, rfl, hH, hcL, hF1, hF2, rfl⟩ := hrel
          by_cases hpn : p < n
          · obtain rfl := hO.out (by omega)
            obtain ⟨r, hmem, hr, hcr⟩ := hrow2.get (k := p) (by rw [← hn.out]; exact hpn)
            have hHr : Hid (rs[p]? = some r) := hr
            simp only [Nat.zero_add] at hcr
            have y1 := (cells_fields hcr).2.1
            clear hr hmem
            by_cases hkd : r.key = r0.key
            · have ht := obj_eq hkd
              have hrd : r.key = d := hkd.trans hd.out.2.2.2.1
              have hat := grp_at hHr.out hrd
              rw [← hH.out.1] at hat
              have hcc : cc < L := by rw [hd.out.2.2.1]; exact (List.getElem?_eq_some_iff.1 hat).1
              have hgr := hrg cc r hat
              have HRD : Hid (r.key = d) := hrd
              have hg1 : decide ((L : Int) ≤ (cc : Int)) = false := decide_eq_false (by omega)
              have hg2 : (cc : Int) < (L : Int) := by omega
              have hg3 : (p : Int) < (n : Int) := by omega
              obtain ⟨z0, z1, z2, z3, z4, z5, z6, z7, z8, z9, z10, z11, z12, z13⟩ := cells_at hgr
              obtain ⟨x0, x1, x2, x3, x4, x5, x6, x7, x8, x9, x10, x11, x12, x13⟩ := cells_at hcr
              clear hgr hcr hat hrd hkd hrg hrow2 e1 e2 y1
              by_cases hF0 : F < 0
              · go_wp2
                go_quiet (fail)
                go_wp2
                go_roundw
                case rel =>
                  repeat apply Exists.intro
                  exact ⟨⟨p + 1, cc + 1, _, p, by omega, by go_num, by go_num, rfl, ⟨by rw [grp_hit hHr.out HRD.out]; exact congrArg (· + 1) hH.out.1, (fi_hit_new hHr.out HRD.out (by rw [← hH.out.2]; exact hF0)).symm⟩, by omega, by omega, by omega, rfl⟩, rfl⟩
                case measure => simp [intOf]; omega
              · go_wp2
                go_quiet (fail)
                go_wp2
                go_roundw
                case rel =>
                  repeat apply Exists.intro
                  exact ⟨⟨p + 1, cc + 1, _, F, by omega, by go_num, by go_num, rfl, ⟨by rw [grp_hit hHr.out HRD.out]; exact congrArg (· + 1) hH.out.1, (by rw [fi_hit_old hHr.out (by rw [← hH.out.2]; omega)]; exact hH.out.2)⟩, by omega, by omega, by omega, rfl⟩, rfl⟩
                case measure => simp [intOf]; omega
            · have ht := obj_ne hkd
              have HRD : Hid (¬ r.key = d) := fun h => hkd (h.trans hd.out.2.2.2.1.symm)
              clear hkd hrg hcr
              go_wp2
              go_roundw
              case rel => exact ⟨p + 1, cc, uu, F, by omega, by go_num, rfl, rfl, ⟨by rw [grp_miss hHr.out HRD.out]; exact hH.out.1, by rw [fi_miss hHr.out HRD.out]; exact hH.out.2⟩, by omega, by omega, by omega, rfl⟩
              case measure => simp [intOf]; omega
          · obtain rfl : p = n := by omega
            have htk : rs.take p = rs := List.take_of_length_le (by rw [← hn.out]; exact Nat.le_refl _)
            obtain rfl : cc = L := by rw [hH.out.1, htk, hd.out.2.2.1]
            have hPF : P < F := by
              have h1 := pf_lt hd.out.1
              have h2 := fi_end hd.out.2.2.2.2
              rw [← hn.out, ← hH.out.2] at h2
              rw [h2, hSP.out.2]
              exact h1
            have HF : Hid (F = pf rs (j + 1)) := by
              have h2 := fi_end hd.out.2.2.2.2
              rw [← hn.out, ← hH.out.2] at h2
              show F = _
              rw [h2, pf_succ hd.out.1]
            have HS : Hid (S + cc = st (cnts (keys rs)) (j + 1)) := st_next hSP.out.1 (by rw [cnts_at hd.out.1, ← grp_len, hd.out.2.2.1])
            clear htk hrg hrow2 e1 e2
            go_wp2
            go_roundw
            case rel => exact ⟨j + 1, S + cc, uu, F, by omega, by go_num, by go_num, rfl, ⟨HS.out, HF.out⟩, by omega, by omega, by omega, rfl⟩
            case measure => simp [intOf]; omega
      · obtain rfl : j = m := by omega
        have hSn' : S = n := by
          have h1 := st_all (cnts (keys rs))
          rw [cnts_sum, keys_len, cnts_len, ← G.len, ← hSP.out.1] at h1
          rw [h1, hn.out]
        subst hSn'
        clear G hrow2
        go_wp2
        go_ret
        exact ⟨by simp, below_drewN hb2 _⟩

theorem law3_big (a : Option Addr) (b off n c : Nat) (rs : List Rc) (w : World) (ha : Hid (0 < n → a = some ⟨b, off, none⟩)) (hn : Hid (n = rs.length)) (hs : 6898 < n) (hm : n ≤ 9223372036854775807) (hc : RowAt w b off rs) (hok : ∀ r ∈ rs, r.ok) :
    Calls Try.prog 3 #[.slice a n c] w fun e w' => e = .returned (.bool true) ∧ Below w.heap.size w w' := by
  go_enter Try.func3, Try.ntmps3
  go_wp2_with (first
    | (go_at_call 6; refine (zzb6 a b off n c rs _ ha hn hm hc hok).mono ?_; rintro e w' ⟨⟨t, rfl⟩, hw⟩; obtain rfl := hw.symm; rcases t)
    | (go_at_call 7; refine (zopsBytes_big a n c _ hs hm).mono ?_; rintro e w' ⟨rfl, hw⟩; obtain rfl := hw.symm))
  · go_ret
    exact ⟨rfl, Below.refl _ _⟩
  · go_ret
    exact ⟨rfl, Below.refl _ _⟩
theorem law3_any (a : Option Addr) (b off n c : Nat) (rs : List Rc) (w : World) (ha : 0 < n → a = some ⟨b, off, none⟩) (h0 : a = none → n = 0) (hn : n = rs.length) (hm : n ≤ 9223372036854775807) (hc : RowAt w b off rs) (hb : 0 < n → b < w.heap.size) (hok : ∀ r ∈ rs, r.ok) :
    Calls Try.prog 3 #[.slice a n c] w fun e w' => e = .returned (.bool true) ∧ Below w.heap.size w w' := by
  by_cases hs : n ≤ 6898
  · exact law3_small a b off n c rs w ha h0 hn hs hc hb hok
  · exact law3_big a b off n c rs w ha hn (by omega) hm hc hok
end Go.Proofs.Qxb6604280a

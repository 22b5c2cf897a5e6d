import Derived.Test.Qxb6604280aNvD
import Derived.Test.Qxb6604280aBits
import Derived.Test.Qxb6604280aWalkB
import Derived.Outline
namespace Go.Proofs.Qxb6604280a
open Go.RowKit
theorem below_drewN' {B : Nat} {w w2 : World} (h : Below B w w2) (t : Nat) : Below B w (w2.drewN t) := ⟨h.os, h.tape, h.output, h.size, h.block⟩
theorem cells_at' {w : World} {b o : Nat} {r : Rc} (h : w.rangeAt b o r.cells) :
    w.cell? ⟨b, o, none⟩ = some (.string r.ses) ∧ w.cell? ⟨b, o + 1, none⟩ = some (.string r.obj) ∧ w.cell? ⟨b, o + 2, none⟩ = some (.int .i64 r.kind) ∧ w.cell? ⟨b, o + 3, none⟩ = some (.string r.nm) ∧ w.cell? ⟨b, o + 4, none⟩ = some (.string r.arg) ∧ w.cell? ⟨b, o + 5, none⟩ = some (.string r.val) ∧ w.cell? ⟨b, o + 6, none⟩ = some (.int .i64 r.out) ∧ w.cell? ⟨b, o + 7, none⟩ = some (.int .i64 r.line) ∧ w.cell? ⟨b, o + 8, none⟩ = some (.int .i64 r.id) ∧ w.cell? ⟨b, o + 9, none⟩ = some (.int .i64 r.lev) ∧ w.cell? ⟨b, o + 10, none⟩ = some (.bool r.timed) ∧ w.cell? ⟨b, o + 11, none⟩ = some (.int .u64 r.st) ∧ w.cell? ⟨b, o + 12, none⟩ = some (.int .u64 r.en) ∧ w.cell? ⟨b, o + 13, none⟩ = some (.int .i64 r.tx) :=
  ⟨h 0 _ rfl, h 1 _ rfl, h 2 _ rfl, h 3 _ rfl, h 4 _ rfl, h 5 _ rfl, h 6 _ rfl, h 7 _ rfl, h 8 _ rfl, h 9 _ rfl, h 10 _ rfl, h 11 _ rfl, h 12 _ rfl, h 13 _ rfl⟩

theorem idxs_prefix (xs : List Rc) (o s : ByteArray) (ys : List Rc) : ∃ zs, idxs (xs ++ ys) o s = idxs xs o s ++ zs := by
  refine snoc_ind (p := fun ys => ∃ zs, idxs (xs ++ ys) o s = idxs xs o s ++ zs) ⟨[], by simp⟩ (fun us u ih => ?_) ys
  obtain ⟨zs, h⟩ := ih
  rw [← List.append_assoc, idxs_snoc, h, List.append_assoc]
  exact ⟨_, rfl⟩
theorem idxs_at {rs : List Rc} {p : Nat} {r : Rc} {o s : ByteArray} (hr : rs[p]? = some r) (h : hitB o s r = true) : (idxs rs o s)[(idxs (rs.take p) o s).length]? = some p := by
  have e : rs = rs.take (p + 1) ++ rs.drop (p + 1) := (List.take_append_drop _ _).symm
  obtain ⟨zs, hz⟩ := idxs_prefix (rs.take (p + 1)) o s (rs.drop (p + 1))
  rw [← e, idxs_take_snoc hr, if_pos h] at hz
  rw [hz, List.append_assoc, List.getElem?_append_right (Nat.le_refl _)]
  simp
theorem nv_of_write {w W : World} {rs : List Rc} {sv : Value} {n nw OF WR V M : Nat} {R : Value → Value → Prop} {i : Nat} {r : Rc} (N : NV w rs sv n nw OF WR V M R n W) (hr : rs[i]? = some r) (hi : i < n) (hk : r.kind = 0) : W.cell? ⟨OF, i, none⟩ = some (.slice none 0 0) := by
  obtain ⟨f, f1, f2⟩ := N.of
  have := (f2 i r hr).1 hi
  rw [OfOk, if_pos hk] at this
  rw [f1.cell hi, this]
theorem nv_of_read {w W : World} {rs : List Rc} {sv : Value} {n nw OF WR V M : Nat} {R : Value → Value → Prop} {i : Nat} {r : Rc} (N : NV w rs sv n nw OF WR V M R n W) (hr : rs[i]? = some r) (hi : i < n) (hk : ¬ r.kind = 0) :
    ∃ (va : Option Addr) (vl vc : Nat), W.cell? ⟨OF, i, none⟩ = some (.slice va vl vc) ∧ Hid (vl = (idxs rs r.obj r.val).length) ∧
      Hid (0 < vl → ∃ g, va = some ⟨g, 0, none⟩ ∧ ∀ (j q : Nat), (idxs rs r.obj r.val)[j]? = some q → W.cell? ⟨g, j, none⟩ = some (.int .i64 (q : Nat))) := by
  obtain ⟨f, f1, f2⟩ := N.of
  have h1 := (f2 i r hr).1 hi
  rw [OfOk, if_neg hk] at h1
  have hc := f1.cell hi
  rcases h1 with h1 | ⟨h1, h2⟩
  · obtain ⟨o, s, e1, e2, e3⟩ := N.map.own _ _ h1
    obtain ⟨rfl, rfl⟩ := kv_inj e1
    rcases e3.2 with ⟨e4, e5⟩ | ⟨g, cap, cur, e4, _⟩
    · exact absurd (List.length_eq_zero_iff.1 e5) e2
    · rw [e4] at hc e3
      refine ⟨_, _, _, hc, rfl, fun _ => ⟨g, rfl, fun j q hj => ?_⟩⟩
      have hjl := (List.getElem?_eq_some_iff.1 hj).1
      rw [e3.cellAt j (by omega), ints, List.getElem?_map, hj]
      rfl
  · rw [h2] at hc
    refine ⟨none, 0, 0, hc, ?_, fun h => absurd h (by omega)⟩
    have : idxs rs r.obj r.val = [] := Classical.byContradiction fun hne => by
      obtain ⟨v, hv⟩ := N.map.has _ _ hne
      exact h1 v hv
    show 0 = _
    rw [this]; rfl
theorem ways_in {rs : List Rc} {r : Rc} {vl : Nat} (h : vl = (idxs rs r.obj r.val).length) (hi : isInit r.val = true) : ways rs r = vl + 1 := by rw [ways, if_pos hi, h]
theorem ways_out {rs : List Rc} {r : Rc} {vl : Nat} (h : vl = (idxs rs r.obj r.val).length) (hi : ¬ isInit r.val = true) : ways rs r = vl := by rw [ways, if_neg hi, h]; rfl
theorem hit_iff {r r' : Rc} : hitB r.obj r.val r' = true ↔ r'.kind = 0 ∧ (r'.obj.toList == r.obj.toList) = true ∧ (r'.val.toList == r.val.toList) = true := by
  have key : ∀ a b : ByteArray, (a.toList == b.toList) = true ↔ a = b := fun a b => by
    rw [ByteArray.toList_eq, ByteArray.toList_eq]
    constructor
    · intro h; exact key_inj (by simpa using h)
    · rintro rfl; simp
  simp [hitB, key]

set_option maxRecDepth 20000 in
set_option maxHeartbeats 4000000 in
theorem law4_some (x : Addr) (b off n c : Nat) (rs : List Rc) (w : World) (ha : Hid (0 < n → x = ⟨b, off, none⟩)) (hn : Hid (n = rs.length)) (hs : n ≤ 6898) (hc : RowAt w b off rs) (hb : Hid (0 < n → b < w.heap.size)) (hok : ∀ r ∈ rs, r.ok) :
    Calls Try.prog 4 #[.slice (some x) n c] w fun e w' => e = .returned (.bool true) ∧ Below w.heap.size w w' := by
  have ha' : Hid (0 < n → some x = some ⟨b, off, none⟩) := fun h => by rw [ha.out h]
  obtain ⟨nw, hnw⟩ : ∃ nw, nw = (n + 63) / 64 := ⟨_, rfl⟩
  have Hnw : Hid (nw = (n + 63) / 64) := hnw
  have hnwB : ((nw : Int) != ((n : Int) + 63) / 64) = false := by simp; omega
  clear hnw
  have hne := fun (wx : World) (a : Option Addr) (n c : Nat) => run_neq_slice_nil_any (P := Try.prog) wx 40 3 a n c 0 0 Try.underlying40
  go_enter Try.func4, Try.ntmps4
  go_wp2_with (first
    | (go_at_call 10; refine (zzb10 (some x) b off n c rs _ ha' hn (by omega) hc hok).mono ?_; rintro e w' ⟨⟨t, rfl⟩, hw⟩; obtain rfl := hw.symm; rcases t)
    | (go_at_call 7; refine (zopsBytes_small (some x) b off n c rs _ ha' hn hs hc hok).mono ?_; rintro e w' ⟨⟨t, rfl, ht⟩, hw⟩; obtain rfl := hw.symm)
    | (go_at_call 8; refine (toOps_some x b off n c rs _ ha hn hs hc hb).mono ?_; rintro e w1 ⟨rfl, hrow, hbel⟩)
    )
  · go_ret
    exact ⟨rfl, Below.refl _ _⟩
  · go_ret
    exact ⟨rfl, Below.refl _ _⟩
  have hB : Hid (0 < n → w.heap.size < w1.heap.size) := fun h => by
    have hl := hn.out
    exact block_lt_of_cell (hrow 0 (rs[0]'(by omega)) (by simp) 0 _ rfl)
  refine (zznv_any (some ⟨w.heap.size, 0, none⟩) w.heap.size 0 n n nw rs w1 (fun _ => rfl) hn hs Hnw hrow hB hok).mono ?_
  rintro e w2 ⟨OF, WR, V, M, R, rfl, N⟩
  have hrow2 := row_bel hrow N.bel
  have hbel2 : Below w.heap.size w w2 := hbel.trans (N.bel.mono hbel.size)
  have HN : Hid (NV w1 rs (.slice (some ⟨w.heap.size, 0, none⟩) n n) n nw OF WR V M R n w2) := N
  clear N hrow hbel hc hok
  generalize decide (t < 0) = bt
  go_wp2
  go_loopw [9, 10] (fun wa i wr => ∃ (k tt : Nat), k ≤ n ∧ i = .int .i64 k ∧ wa = .int .i64 (amb rs k) ∧ wr = w2.drewN tt) (fun _ i _ => n - (intOf i).toNat)
  case atStart => exact ⟨0, 0, Nat.zero_le _, rfl, rfl, rfl⟩
  case round =>
    obtain ⟨k, tt, hk, rfl, rfl, rfl⟩ := hrel
    by_cases hlt : k < n
    · obtain ⟨r, hmem, hr, hcr⟩ := hrow2.get (k := k) (by rw [← hn.out]; exact hlt)
      have hHr : Hid (rs[k]? = some r) := hr
      simp only [Nat.zero_add] at hcr
      obtain ⟨z0, z1, z2, z3, z4, z5, z6, z7, z8, z9, z10, z11, z12, z13⟩ := cells_at' hcr
      have hkw : k / 64 < nw := by have := Hnw.out; omega
      have hkw2 : (k : Int) / 64 < (nw : Int) := by omega
      have x1 : w2.cell? ⟨WR, k / 64, none⟩ = some (.int .u64 (word rs n (k / 64) : Nat)) := HN.out.wt.cell hkw
      clear hcr hr hmem
      by_cases hkd : r.kind = 0
      · have hkb : (r.kind == 0) = true := by simpa using hkd
        have hbit := bit_write (n := n) hHr.out hlt hkd
        have x2 := nv_of_write HN.out hHr.out hlt hkd
        have HA : Hid (amb rs (k + 1) = amb rs k) := amb_write hHr.out hkd
        clear hkd hrow2
        go_wp2
        go_quiet (fail)
        go_wp2
        go_roundw
        case rel => exact ⟨k + 1, _, by omega, by go_num, by rw [HA.out], rfl⟩
        case measure => simp [intOf]; omega
      · have hkb : (r.kind == 0) = false := by simpa using hkd
        have hbit := bit_read (n := n) hHr.out hkd
        obtain ⟨va, vl, vc, x2, hvl, hrowv⟩ := nv_of_read HN.out hHr.out hlt hkd
        have HK : Hid (¬ r.kind = 0) := hkd
        have hg1 := amb_ge rs k
        have hg2 := amb_lt rs k
        clear hkd
        go_wp2
        go_quiet (fail)
        go_wp2
        have hvn : vl ≤ n := by rw [hvl.out, hn.out]; exact idxs_len _ _ _
        go_loopw [13, 14] (fun kk q wr => ∃ (p cc uu : Nat), p ≤ n ∧ q = .int .i64 p ∧ kk = .int .i64 cc ∧ Hid (cc = (idxs (rs.take p) r.obj r.val).length) ∧ cc ≤ vl ∧ wr = w2.drewN uu) (fun _ q _ => n - (intOf q).toNat)
        case atStart => exact ⟨0, 0, _, Nat.zero_le _, rfl, rfl, rfl, Nat.zero_le _, rfl⟩
        case round =>
          obtain ⟨p, cc, uu, hp, rfl, rfl, hcc, hcv, rfl⟩ := hrel
          by_cases hpn : p < n
          · obtain ⟨r', hmem', hr', hcr'⟩ := hrow2.get (k := p) (by rw [← hn.out]; exact hpn)
            have hHr' : Hid (rs[p]? = some r') := hr'
            simp only [Nat.zero_add] at hcr'
            obtain ⟨_, y1, y2, _, _, y5⟩ := cells_fields hcr'
            have hpi : (p : Int) < (n : Int) := by omega
            have hki : (k : Int) < (n : Int) := by omega
            clear hcr' hr' hmem' hbit x1 x2 z0 z2 z3 z4 z6 z7 z8 z9 z10 z11 z12 z13
            by_cases hh : hitB r.obj r.val r' = true
            · obtain ⟨t1, t2, t3⟩ := hit_iff.1 hh
              have t1' : (r'.kind == 0) = true := by simpa using t1
              have hat := idxs_at hHr'.out hh
              rw [← hcc.out] at hat
              have hclt : cc < vl := by rw [hvl.out]; exact (List.getElem?_eq_some_iff.1 hat).1
              obtain ⟨g, rfl, hgc⟩ := hrowv.out (by omega)
              have g1 := hgc cc p hat
              have HM : Hid (cc + 1 = (idxs (rs.take (p + 1)) r.obj r.val).length) := by
                show cc + 1 = _
                rw [idxs_take_snoc hHr'.out, if_pos hh, List.length_append, ← hcc.out]; rfl
              have hg3 : (cc : Int) < (vl : Int) := by omega
              clear hgc hat hh t1
              go_wp2
              go_quiet (fail)
              go_wp2
              go_roundw
              case rel => first | exact ⟨p + 1, cc + 1, _, by omega, by go_num, by go_num, HM.out, by omega, rfl⟩ | (repeat apply Exists.intro; exact ⟨⟨p + 1, cc + 1, _, by omega, by go_num, by go_num, HM.out, by omega, rfl⟩, rfl⟩)
              case measure => simp [intOf]; omega
            · have HM : Hid (cc = (idxs (rs.take (p + 1)) r.obj r.val).length) := by
                show cc = _
                rw [idxs_take_snoc hHr'.out, if_neg hh, List.append_nil, ← hcc.out]
              by_cases t1 : r'.kind = 0
              · have t1' : (r'.kind == 0) = true := by simpa using t1
                by_cases t2 : (r'.obj.toList == r.obj.toList) = true
                · have t3 : (r'.val.toList == r.val.toList) = false := by
                    cases e : (r'.val.toList == r.val.toList) with
                    | false => rfl
                    | true => exact absurd (hit_iff.2 ⟨t1, t2, e⟩) hh
                  clear hh t1
                  go_wp2
                  go_quiet (fail)
                  go_wp2
                  go_roundw
                  case rel => first | exact ⟨p + 1, cc, _, by omega, by go_num, rfl, HM.out, by omega, rfl⟩ | (repeat apply Exists.intro; exact ⟨⟨p + 1, cc, _, by omega, by go_num, rfl, HM.out, by omega, rfl⟩, rfl⟩)
                  case measure => simp [intOf]; omega
                · have t2' : (r'.obj.toList == r.obj.toList) = false := by simpa using t2
                  clear hh t1 t2
                  go_wp2
                  go_quiet (fail)
                  go_wp2
                  go_roundw
                  case rel => first | exact ⟨p + 1, cc, _, by omega, by go_num, rfl, HM.out, by omega, rfl⟩ | (repeat apply Exists.intro; exact ⟨⟨p + 1, cc, _, by omega, by go_num, rfl, HM.out, by omega, rfl⟩, rfl⟩)
                  case measure => simp [intOf]; omega
              · have t1' : (r'.kind == 0) = false := by simpa using t1
                clear hh t1
                go_wp2
                go_quiet (fail)
                go_wp2
                go_roundw
                case rel => first | exact ⟨p + 1, cc, _, by omega, by go_num, rfl, HM.out, by omega, rfl⟩ | (repeat apply Exists.intro; exact ⟨⟨p + 1, cc, _, by omega, by go_num, rfl, HM.out, by omega, rfl⟩, rfl⟩)
                case measure => simp [intOf]; omega
          · obtain rfl : p = n := by omega
            have htk : rs.take p = rs := List.take_of_length_le (by rw [← hn.out]; exact Nat.le_refl _)
            obtain rfl : cc = vl := by rw [hcc.out, htk, hvl.out]
            clear htk hbit x1 x2 z0 z2 z3 z4 z6 z7 z8 z9 z10 z11 z12 z13 hrow2
            by_cases i1 : (r.val.toList == [48]) = true
            · have HW : Hid (ways rs r = cc + 1) := ways_in hvl.out (by simp [isInit, i1])
              by_cases hA : amb rs k < 0
              · by_cases hW : 1 < cc + 1
                · have HA : Hid (amb rs (k + 1) = (k : Nat)) := amb_read hHr.out HK.out hA (by rw [HW.out]; exact hW)
                  go_wp2
                  go_roundw
                  case rel => first | exact ⟨k + 1, _, by omega, by go_num, by rw [HA.out], rfl⟩ | (repeat apply Exists.intro; exact ⟨⟨k + 1, _, by omega, by go_num, by rw [HA.out], rfl⟩, rfl⟩)
                  case measure => simp [intOf]; omega
                · have HA : Hid (amb rs (k + 1) = amb rs k) := amb_keep hHr.out (.inr (by rw [HW.out]; exact hW))
                  go_wp2
                  go_roundw
                  case rel => first | exact ⟨k + 1, _, by omega, by go_num, by rw [HA.out], rfl⟩ | (repeat apply Exists.intro; exact ⟨⟨k + 1, _, by omega, by go_num, by rw [HA.out], rfl⟩, rfl⟩)
                  case measure => simp [intOf]; omega
              · have HA : Hid (amb rs (k + 1) = amb rs k) := amb_keep hHr.out (.inl (by omega))
                go_wp2
                go_roundw
                case rel => first | exact ⟨k + 1, _, by omega, by go_num, by rw [HA.out], rfl⟩ | (repeat apply Exists.intro; exact ⟨⟨k + 1, _, by omega, by go_num, by rw [HA.out], rfl⟩, rfl⟩)
                case measure => simp [intOf]; omega
            · have i1' : (r.val.toList == [48]) = false := by simpa using i1
              clear i1
              by_cases i2 : (r.val.toList == [110, 105, 108]) = true
              · have HW : Hid (ways rs r = cc + 1) := ways_in hvl.out (by simp [isInit, i2])
                by_cases hA : amb rs k < 0
                · by_cases hW : 1 < cc + 1
                  · have HA : Hid (amb rs (k + 1) = (k : Nat)) := amb_read hHr.out HK.out hA (by rw [HW.out]; exact hW)
                    go_wp2
                    go_roundw
                    case rel => first | exact ⟨k + 1, _, by omega, by go_num, by rw [HA.out], rfl⟩ | (repeat apply Exists.intro; exact ⟨⟨k + 1, _, by omega, by go_num, by rw [HA.out], rfl⟩, rfl⟩)
                    case measure => simp [intOf]; omega
                  · have HA : Hid (amb rs (k + 1) = amb rs k) := amb_keep hHr.out (.inr (by rw [HW.out]; exact hW))
                    go_wp2
                    go_roundw
                    case rel => first | exact ⟨k + 1, _, by omega, by go_num, by rw [HA.out], rfl⟩ | (repeat apply Exists.intro; exact ⟨⟨k + 1, _, by omega, by go_num, by rw [HA.out], rfl⟩, rfl⟩)
                    case measure => simp [intOf]; omega
                · have HA : Hid (amb rs (k + 1) = amb rs k) := amb_keep hHr.out (.inl (by omega))
                  go_wp2
                  go_roundw
                  case rel => first | exact ⟨k + 1, _, by omega, by go_num, by rw [HA.out], rfl⟩ | (repeat apply Exists.intro; exact ⟨⟨k + 1, _, by omega, by go_num, by rw [HA.out], rfl⟩, rfl⟩)
                  case measure => simp [intOf]; omega
              · have i2' : (r.val.toList == [110, 105, 108]) = false := by simpa using i2
                clear i2
                have HW : Hid (ways rs r = cc) := ways_out hvl.out (by simp [isInit, i1', i2'])
                by_cases hA : amb rs k < 0
                · by_cases hW : 1 < cc
                  · have HA : Hid (amb rs (k + 1) = (k : Nat)) := amb_read hHr.out HK.out hA (by rw [HW.out]; exact hW)
                    go_wp2
                    go_roundw
                    case rel => first | exact ⟨k + 1, _, by omega, by go_num, by rw [HA.out], rfl⟩ | (repeat apply Exists.intro; exact ⟨⟨k + 1, _, by omega, by go_num, by rw [HA.out], rfl⟩, rfl⟩)
                    case measure => simp [intOf]; omega
                  · have HA : Hid (amb rs (k + 1) = amb rs k) := amb_keep hHr.out (.inr (by rw [HW.out]; exact hW))
                    go_wp2
                    go_roundw
                    case rel => first | exact ⟨k + 1, _, by omega, by go_num, by rw [HA.out], rfl⟩ | (repeat apply Exists.intro; exact ⟨⟨k + 1, _, by omega, by go_num, by rw [HA.out], rfl⟩, rfl⟩)
                    case measure => simp [intOf]; omega
                · have HA : Hid (amb rs (k + 1) = amb rs k) := amb_keep hHr.out (.inl (by omega))
                  go_wp2
                  go_roundw
                  case rel => first | exact ⟨k + 1, _, by omega, by go_num, by rw [HA.out], rfl⟩ | (repeat apply Exists.intro; exact ⟨⟨k + 1, _, by omega, by go_num, by rw [HA.out], rfl⟩, rfl⟩)
                  case measure => simp [intOf]; omega
    · obtain rfl : k = n := by omega
      have hnwb : nw ≤ 200 := by have := Hnw.out; omega
      have hkn : k ≤ nw * 64 := by have := Hnw.out; omega
      clear hrow2
      go_wp2
      go_loop [16] (fun q => ∃ p : Nat, k ≤ p ∧ p ≤ nw * 64 ∧ q = .int .i64 p) (fun q => nw * 64 - (intOf q).toNat)
      case atStart => exact ⟨k, Nat.le_refl _, hkn, rfl⟩
      case round =>
        obtain ⟨p, hp1, hp2, rfl⟩ := hrel
        by_cases hpn : p < nw * 64
        · have hpi : (p : Int) < (nw : Int) * 64 := by omega
          have hpw : (p : Int) / 64 < (nw : Int) := by omega
          have x1 : w2.cell? ⟨WR, p / 64, none⟩ = some (.int .u64 (word rs k (p / 64) : Nat)) := HN.out.wt.cell (by omega)
          have hbit := bit_beyond (rs := rs) hp1
          go_wp2
          go_round
          case rel => exact ⟨p + 1, by omega, by omega, by go_num⟩
          case measure => simp [intOf]; omega
        · have hpi : ¬ (p : Int) < (nw : Int) * 64 := by omega
          go_wp2
          go_ret
          exact ⟨ret_bool (by simp), below_drewN' hbel2 _⟩
end Go.Proofs.Qxb6604280a

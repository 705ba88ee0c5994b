/-
  THE WALKS of seat b6602447a, seventh part: FnValueEndPrefixClosed, way by way.
-/
import Derived.Test.Qxb6602447aWalkF
namespace Go.Proofs.Qxb6602447a
open Go.RowKit Pl

set_option maxHeartbeats 400000 in
/-- No byte at all. -/
theorem pc_empty (a a2 : Option Addr) (c m c2 : Nat) (xs ys : List Int) (w : World) (hm : m ≤ 524288) (hc : a = none → c = 0) (hc2 : a2 = none → c2 = 0) (hs : Src w a 0 xs) (hs2 : Src w a2 m ys) :
    Calls Try.prog 5 #[.slice a 0 c, .int .i64 0, .slice a2 m c2] w fun e w' => e = .returned (.bool true) ∧ Below w.heap.size w w' := by
  have HS : Hid (Src w a 0 xs) := hs
  have HS2 : Hid (Src w a2 m ys) := hs2
  clear hs hs2
  go_enter Try.func5, Try.ntmps5
  go_wp2_with fail
  refine (zb14_yes a a2 0 c m c2 0 w (by omega)).mono ?_
  rintro e w' ⟨rfl, hw⟩
  rw [hw]
  clear hw
  go_wp2_with fail
  refine (clone_src a 0 c xs w (by omega) hc HS.out).mono ?_
  rintro e w1 ⟨a', rfl, _, hb1⟩
  have HB1 : Hid (Below w.heap.size w w1) := hb1
  have HS3 : Hid (Src w1 a2 m ys) := src_below HS2.out hb1
  clear hb1
  go_wp2_with fail
  refine (clone_src a2 m c2 ys w1 (by omega) hc2 HS3.out).mono ?_
  rintro e w2 ⟨a'', rfl, _, hb2⟩
  have HB2 : Hid (Below w.heap.size w w2) := HB1.out.trans (hb2.mono HB1.out.size)
  clear hb2
  go_wp2_with fail
  refine (zz_zero a' 0 w2).mono ?_
  rintro e w' ⟨rfl, hw⟩
  rw [hw]
  clear hw
  go_wp2
  go_ret
  exact ⟨rfl, HB2.out⟩

set_option maxHeartbeats 400000 in
/-- No end is found. -/
theorem pc_none (a2 : Option Addr) (b off n c i m c2 : Nat) (xs ys : List Int) (w : World) (hn : n ≤ 524288) (h0 : 0 < n) (hi : i ≤ n) (hm : m ≤ 524288) (hc2 : a2 = none → c2 = 0) (hd : Dat w b off n xs) (hb : Byt xs) (hs2 : Src w a2 m ys)
    (hv : at_ xs 0 0 i = -1) :
    Calls Try.prog 5 #[.slice (some ⟨b, off, none⟩) n c, .int .i64 i, .slice a2 m c2] w fun e w' => e = .returned (.bool true) ∧ Below w.heap.size w w' := by
  have HD : Hid (Dat w b off n xs) := hd
  have HS2 : Hid (Src w a2 m ys) := hs2
  have Z : Hid (∀ w', Dat w' w.heap.size 0 n xs → Calls Try.prog 11 #[.slice (some ⟨w.heap.size, 0, none⟩) n n, .int .i64 i] w' fun e w'' => e = .returned (.int .i64 (-1)) ∧ ∃ m, w'' = w'.drewN m) :=
    fun w' h => by have := zz_any w.heap.size 0 n n i xs w' (by omega) hi h hb; rw [hv] at this; exact this
  clear hs2 hd hv hb
  go_enter Try.func5, Try.ntmps5
  go_wp2_with fail
  refine (zb14_yes _ a2 n c m c2 i w (by omega)).mono ?_
  rintro e w' ⟨rfl, hw⟩
  rw [hw]
  clear hw
  go_wp2_with fail
  refine (clone_some b off n c xs w (by omega) h0 HD.out).mono ?_
  rintro e w1 ⟨rfl, hrow, hb1⟩
  have HB1 : Hid (Below w.heap.size w w1) := hb1
  have HD1 : Hid (Dat w1 w.heap.size 0 n xs) := dat_of_row hrow HD.out.1
  have HS3 : Hid (Src w1 a2 m ys) := src_below HS2.out hb1
  clear hb1 hrow
  go_wp2_with fail
  refine (clone_src a2 m c2 ys w1 (by omega) hc2 HS3.out).mono ?_
  rintro e w2 ⟨a'', rfl, _, hb2⟩
  have HB2 : Hid (Below w.heap.size w w2) := HB1.out.trans (hb2.mono HB1.out.size)
  have HD2 : Hid (Dat w2 w.heap.size 0 n xs) := dat_below HD1.out hb2
  clear hb2
  go_wp2_with fail
  refine (Z.out _ HD2.out).mono ?_
  rintro e w' ⟨rfl, k, rfl⟩
  go_wp2
  go_ret
  exact ⟨rfl, below_drewN HB2.out⟩

set_option maxHeartbeats 800000 in
/-- An end is found, of a bare literal. -/
theorem pc_lit (a2 : Option Addr) (b off n c i m c2 e : Nat) (xs ys : List Int) (w : World) (hn : n ≤ 524288) (h0 : 0 < n) (hm : m ≤ 524288) (hc2 : a2 = none → c2 = 0) (hd : Dat w b off n xs) (hb : Byt xs) (hs2 : Src w a2 m ys)
    (he1 : i < e) (he2 : e ≤ n) (hv : at_ xs 0 0 i = (e : Int)) (hv2 : at_ (xs.take e) 0 0 i = (e : Int)) (t1 : (el xs i != 34) = true) (t2 : (el xs i != 123) = true) (t3 : (el xs i != 91) = true) :
    Calls Try.prog 5 #[.slice (some ⟨b, off, none⟩) n c, .int .i64 i, .slice a2 m c2] w fun e w' => e = .returned (.bool true) ∧ Below w.heap.size w w' := by
  have HD : Hid (Dat w b off n xs) := hd
  have HS2 : Hid (Src w a2 m ys) := hs2
  have Z : Hid (∀ w', Dat w' w.heap.size 0 n xs → Calls Try.prog 11 #[.slice (some ⟨w.heap.size, 0, none⟩) n n, .int .i64 i] w' fun e' w'' => e' = .returned (.int .i64 (e : Int)) ∧ ∃ m, w'' = w'.drewN m) :=
    fun w' h => by have := zz_any w.heap.size 0 n n i xs w' (by omega) (by omega) h hb; rw [hv] at this; exact this
  have Z2 : Hid (∀ w', Dat w' w.heap.size 0 n xs → Calls Try.prog 11 #[.slice (some ⟨w.heap.size, 0, none⟩) e n, .int .i64 i] w' fun e' w'' => e' = .returned (.int .i64 (e : Int)) ∧ ∃ m, w'' = w'.drewN m) :=
    fun w' h => by have := zz_any w.heap.size 0 e n i (xs.take e) w' (by omega) (by omega) (dat_take h he2) (byt_take hb); rw [hv2] at this; exact this
  clear hs2 hd hv hv2 hb
  go_enter Try.func5, Try.ntmps5
  go_wp2_with fail
  refine (zb14_yes _ a2 n c m c2 i w (by omega)).mono ?_
  rintro e' w' ⟨rfl, hw⟩
  rw [hw]
  clear hw
  go_wp2_with fail
  refine (clone_some b off n c xs w (by omega) h0 HD.out).mono ?_
  rintro e' w1 ⟨rfl, hrow, hb1⟩
  have HB1 : Hid (Below w.heap.size w w1) := hb1
  have HD1 : Hid (Dat w1 w.heap.size 0 n xs) := dat_of_row hrow HD.out.1
  have HS3 : Hid (Src w1 a2 m ys) := src_below HS2.out hb1
  clear hb1 hrow
  go_wp2_with fail
  refine (clone_src a2 m c2 ys w1 (by omega) hc2 HS3.out).mono ?_
  rintro e' w2 ⟨a'', rfl, _, hb2⟩
  have HB2 : Hid (Below w.heap.size w w2) := HB1.out.trans (hb2.mono HB1.out.size)
  have HD2 : Hid (Dat w2 w.heap.size 0 n xs) := dat_below HD1.out hb2
  clear hb2
  go_wp2_with fail
  refine (Z.out _ HD2.out).mono ?_
  rintro e' w3 ⟨rfl, k, hw⟩
  have HB3 : Hid (Below w.heap.size w w3) := by rw [hw]; exact below_drewN HB2.out
  have HD3 : Hid (Dat w3 w.heap.size 0 n xs) := by rw [hw]; exact dat_drewN HD2.out
  clear hw
  go_wp2_with fail
  refine (Z2.out _ HD3.out).mono ?_
  rintro e' w4 ⟨rfl, k2, hw⟩
  have HB4 : Hid (Below w.heap.size w w4) := by rw [hw]; exact below_drewN HB3.out
  have hcell : w4.cell? ⟨w.heap.size, i, none⟩ = some (.int .u8 (el xs i)) := by rw [hw]; have := HD3.out.2 i (by omega); rw [Nat.zero_add] at this; exact this
  clear hw
  go_wp2
  go_ret
  exact ⟨rfl, HB4.out⟩

theorem dat_grown {w w' : World} {B n : Nat} {xs : List Int} {row : Option Nat} (h : Dat w B 0 n xs) (hg : w.grownBy w' row) (hne : some B ≠ row) : Dat w' B 0 n xs :=
  ⟨h.1, fun j hj => hg.cell (h.2 j hj) hne⟩
theorem src_grown {w w' w'' : World} {a : Option Addr} {m : Nat} {ys : List Int} (h : Src w a m ys) (hg : w.grownBy w' none) (hg' : w'.grownBy w'' (some w.heap.size)) : Src w'' a m ys :=
  ⟨h.1, h.2.1, fun ad ha j hj => by
    have h1 := h.2.2 ad ha j hj
    have h2 := hg.cell h1 (fun e => by cases e)
    have h3 := World.block_lt_of_cell? _ _ h1
    exact hg'.cell h2 (fun e => by have := Option.some.inj e; omega)⟩
theorem cells_take {w : World} {B n e : Nat} {xs : List Int} (h : Dat w B 0 n xs) (he : e ≤ n) : ∀ ad, some (⟨B, 0, none⟩ : Addr) = some ad → ∀ j u, ((xs.take e).map (Value.int .u8))[j]? = some u → w.cell? (ad.add j) = some u := by
  intro ad had j u hu
  obtain rfl := Option.some.inj had
  have hd := dat_take h he
  obtain ⟨hj, hu'⟩ := List.getElem?_eq_some_iff.1 hu
  rw [List.length_map, hd.1] at hj
  rw [Go.WideShapes.add_plain, hd.2 j hj, ← hu', List.getElem_map]
  unfold el
  have hj2 : j < (xs.take e).length := by rw [hd.1]; exact hj
  rw [List.getD_eq_getElem?_getD, List.getElem?_eq_getElem hj2, Option.getD_some]
theorem cells_src {w : World} {a : Option Addr} {m : Nat} {ys : List Int} (h : Src w a m ys) : ∀ ad, a = some ad → ∀ j u, (ys.map (Value.int .u8))[j]? = some u → w.cell? (ad.add j) = some u := by
  intro ad had j u hu
  obtain ⟨hj, hu'⟩ := List.getElem?_eq_some_iff.1 hu
  rw [List.length_map] at hj
  rw [h.2.2 ad had j (by rw [← h.1]; exact hj), ← hu', List.getElem_map]
  unfold el
  simp [hj]
theorem dat_of_owns {w : World} {base g n c : Nat} {xs ys : List Int} (h : w.ownsRow base 5 1 (.slice (some ⟨g, 0, none⟩) n c) n (xs.map (Value.int .u8) ++ ys.map (Value.int .u8))) (hl : (xs ++ ys).length = n) : Dat w g 0 n (xs ++ ys) := by
  refine ⟨hl, fun j hj => ?_⟩
  rw [Nat.zero_add, h.cellAt j (by omega), ← List.map_append, List.getElem?_map, List.getElem?_eq_getElem (by omega)]
  unfold el
  simp [List.getD_eq_getElem?_getD, hl, hj]
theorem byt_app {xs ys : List Int} (h : Byt xs) (h' : Byt ys) : Byt (xs ++ ys) := by
  intro j
  by_cases hj : j < xs.length
  · have e : el (xs ++ ys) j = el xs j := by unfold el; simp [List.getElem?_append_left hj]
    rw [e]; exact h _
  · have e : el (xs ++ ys) j = el ys (j - xs.length) := by unfold el; simp [List.getElem?_append_right (by omega : xs.length ≤ j)]
    rw [e]; exact h' _

set_option maxHeartbeats 800000 in
/-- An end is found, of a string, an object or an array: it is found again in front of whatever bytes. -/
theorem pc_join (a2 : Option Addr) (b off n c i m c2 e : Nat) (xs ys : List Int) (w : World) (hn : n ≤ 524288) (h0 : 0 < n) (hm : m ≤ 524288) (hc2 : a2 = none → c2 = 0) (hd : Dat w b off n xs) (hb : Byt xs) (hby : Byt ys) (hs2 : Src w a2 m ys)
    (he1 : i < e) (he2 : e ≤ n) (hv : at_ xs 0 0 i = (e : Int)) (hv2 : at_ (xs.take e) 0 0 i = (e : Int)) (hv3 : at_ (xs.take e ++ ys) 0 0 i = (e : Int))
    (ht : (el xs i != 34) = false ∨ ((el xs i != 34) = true ∧ (el xs i != 123) = false) ∨ ((el xs i != 34) = true ∧ (el xs i != 123) = true ∧ (el xs i != 91) = false)) :
    Calls Try.prog 5 #[.slice (some ⟨b, off, none⟩) n c, .int .i64 i, .slice a2 m c2] w fun e w' => e = .returned (.bool true) ∧ Below w.heap.size w w' := by
  have HD : Hid (Dat w b off n xs) := hd
  have HS2 : Hid (Src w a2 m ys) := hs2
  have Z : Hid (∀ w', Dat w' w.heap.size 0 n xs → Calls Try.prog 11 #[.slice (some ⟨w.heap.size, 0, none⟩) n n, .int .i64 i] w' fun e' w'' => e' = .returned (.int .i64 (e : Int)) ∧ ∃ m, w'' = w'.drewN m) :=
    fun w' h => by have := zz_any w.heap.size 0 n n i xs w' (by omega) (by omega) h hb; rw [hv] at this; exact this
  have Z2 : Hid (∀ w', Dat w' w.heap.size 0 n xs → Calls Try.prog 11 #[.slice (some ⟨w.heap.size, 0, none⟩) e n, .int .i64 i] w' fun e' w'' => e' = .returned (.int .i64 (e : Int)) ∧ ∃ m, w'' = w'.drewN m) :=
    fun w' h => by have := zz_any w.heap.size 0 e n i (xs.take e) w' (by omega) (by omega) (dat_take h he2) (byt_take hb); rw [hv2] at this; exact this
  have Z3 : Hid (∀ w' B, Dat w' B 0 (e + m) (xs.take e ++ ys) → Calls Try.prog 11 #[.slice (some ⟨B, 0, none⟩) (e + m) (e + m), .int .i64 i] w' fun e' w'' => e' = .returned (.int .i64 (e : Int)) ∧ ∃ m, w'' = w'.drewN m) :=
    fun w' B h => by have := zz_any B 0 (e + m) (e + m) i (xs.take e ++ ys) w' (by omega) (by omega) h (byt_app (byt_take hb) hby); rw [hv3] at this; exact this
  obtain ⟨i0, hi0, hz0, hz1, hz2⟩ := info_parts Try.info5
  clear hs2 hd hv hv2 hv3 hb hby
  rcases ht with t1 | ⟨t1, t2⟩ | ⟨t1, t2, t3⟩
  all_goals
    go_enter Try.func5, Try.ntmps5
    go_wp2_with fail
    refine (zb14_yes _ a2 n c m c2 i w (by omega)).mono ?_
    rintro e' w' ⟨rfl, hw⟩
    rw [hw]
    clear hw
    go_wp2_with fail
    refine (clone_some b off n c xs w (by omega) h0 HD.out).mono ?_
    rintro e' w1 ⟨rfl, hrow, hb1⟩
    have HB1 : Hid (Below w.heap.size w w1) := hb1
    have HD1 : Hid (Dat w1 w.heap.size 0 n xs) := dat_of_row hrow HD.out.1
    have HS3 : Hid (Src w1 a2 m ys) := src_below HS2.out hb1
    clear hb1 hrow
    go_wp2_with fail
    refine (clone_src a2 m c2 ys w1 (by omega) hc2 HS3.out).mono ?_
    rintro e' w2 ⟨a'', rfl, hs4, hb2⟩
    have HB2 : Hid (Below w.heap.size w w2) := HB1.out.trans (hb2.mono HB1.out.size)
    have HD2 : Hid (Dat w2 w.heap.size 0 n xs) := dat_below HD1.out hb2
    have HS4 : Hid (Src w2 a'' m ys) := hs4
    clear hb2 hs4
    go_wp2_with fail
    refine (Z.out _ HD2.out).mono ?_
    rintro e' w3 ⟨rfl, k, hw⟩
    have HB3 : Hid (Below w.heap.size w w3) := by rw [hw]; exact below_drewN HB2.out
    have HD3 : Hid (Dat w3 w.heap.size 0 n xs) := by rw [hw]; exact dat_drewN HD2.out
    have HS35 : Hid (Src w3 a'' m ys) := by rw [hw]; exact HS4.out
    clear hw
    go_wp2_with fail
    refine (Z2.out _ HD3.out).mono ?_
    rintro e' w4 ⟨rfl, k2, hw⟩
    have HB4 : Hid (Below w.heap.size w w4) := by rw [hw]; exact below_drewN HB3.out
    have HD4 : Hid (Dat w4 w.heap.size 0 n xs) := by rw [hw]; exact dat_drewN HD3.out
    have HS5 : Hid (Src w4 a'' m ys) := by rw [hw]; exact HS35.out
    clear hw
    have hcell : w4.cell? ⟨w.heap.size, i, none⟩ = some (.int .u8 (el xs i)) := by have := HD4.out.2 i (by omega); rw [Nat.zero_add] at this; exact this
    go_wp2_with (at_make; refine wpList_make_own _ rfl _ _ 22 rfl w4.heap.size 5 i0 (.int .u8 0) 1 Try.underlying22 hi0 hz0 hz1 _ _ _ (e + m) rfl rfl (by omega) (by rw [hz2]; omega) (by unfold maxLen; omega) (Nat.le_refl _) ?_)
    intro w5 hown5 hgrow5
    have HD6 : Hid (Dat w5 w.heap.size 0 n xs) := dat_grown HD4.out hgrow5 (fun h => by cases h)
    have HG5 : Hid (w4.grownBy w5 none) := hgrow5
    clear hcell hgrow5
    go_wp2_with (at_builtin; refine wpList_append_fits_any _ rfl (.tmp 73) (.tmp 76) 22 rfl w4.heap.size 5 i0 1 Try.underlying22 hi0 hz1 w4.heap.size 0 (e + m) [] rfl hown5 (some ⟨w.heap.size, 0, none⟩) e n ((xs.take e).map (Value.int .u8)) rfl (by rw [List.length_map, List.length_take, HD6.out.1]; omega) (fun h => by cases h) (cells_take HD6.out he2) (ints_oneCell _ _) (by omega) ?_)
    intro w6 hown6 hgrow6
    have HS7 : Hid (Src w6 a'' m ys) := src_grown HS5.out HG5.out hgrow6
    have HG6 : Hid (w5.grownBy w6 (some w4.heap.size)) := hgrow6
    clear hown5 hgrow6
    go_wp2_with (at_builtin; refine wpList_append_fits_any _ rfl (.tmp 78) (.tmp 79) 22 rfl w4.heap.size 5 i0 1 Try.underlying22 hi0 hz1 w4.heap.size e (e + m) _ rfl hown6 a'' m m (ys.map (Value.int .u8)) rfl (by rw [List.length_map, HS7.out.1]; omega) (fun h => ⟨HS7.out.2.1 h, HS7.out.2.1 h⟩) (cells_src HS7.out) (ints_oneCell _ _) (Nat.le_refl _) ?_)
    intro w7 hown7 hgrow7
    rw [← List.map_take] at hown7
    have HD8 : Hid (Dat w7 w4.heap.size 0 (e + m) (xs.take e ++ ys)) := dat_of_owns hown7 (by rw [List.length_append, List.length_take, HD.out.1, HS2.out.1]; omega)
    have HB8 : Hid (Below w.heap.size w w7) := by
      have b5 := HB4.out.grown HG5.out HB4.out.size (fun k h => by cases h)
      have b6 := b5.grown HG6.out b5.size (fun k h => by cases h; exact HB4.out.size)
      exact b6.grown hgrow7 b6.size (fun k h => by cases h; exact HB4.out.size)
    clear hown6 hown7 hgrow7
    go_wp2_with fail
    refine (Z3.out _ _ HD8.out).mono ?_
    rintro e' w8 ⟨rfl, k3, rfl⟩
    go_wp2
    go_ret
    exact ⟨rfl, below_drewN HB8.out⟩

end Go.Proofs.Qxb6602447a

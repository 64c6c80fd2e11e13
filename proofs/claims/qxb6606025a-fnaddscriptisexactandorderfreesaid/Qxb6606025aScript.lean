/-
  The walk of FnAddScriptIsExactAndOrderFree (function 6) at a slice that is not nil: a copy, two sums in two orders, a wrapping accumulator that counts its overflows.
-/
import Derived.Test.Qxb6606025aAdd
import Derived.Test.Qxb6606025aSums
import Derived.Lib.SliceRun
import Derived.OwnWalk
import Derived.Stop.LaidErr
namespace Go.Proofs.Qxb6606025a
open Go.RowKit

/-- Block g is a variable of type Sum that holds S. -/
def Sum2 (g : Nat) (S : Int) (w : World) : Prop :=
  w.cell? ⟨g, 0, none⟩ = some (.int .i64 (hiOf S)) ∧ w.cell? ⟨g, 1, none⟩ = some (.int .u64 (loOf S)) ∧ w.frozen? ⟨g, 0, none⟩ = false ∧ w.frozen? ⟨g, 1, none⟩ = false

theorem Sum2.below {g B : Nat} {S : Int} {w w' : World} (h : Sum2 g S w) (hb : Below B w w') (hg : g < B) : Sum2 g S w' := by
  obtain ⟨a, b, c, d⟩ := h
  exact ⟨(hb.cell (p := ⟨g, 0, none⟩) hg).trans a, (hb.cell (p := ⟨g, 1, none⟩) hg).trans b, (hb.frozen (p := ⟨g, 0, none⟩) hg).trans c, (hb.frozen (p := ⟨g, 1, none⟩) hg).trans d⟩

theorem add_sum (g : Nat) (S v : Int) (w : World) (h0 : -1208925819614629174706176 ≤ S) (h1 : S ≤ 1208925819614629174706176) (hv0 : -9223372036854775808 ≤ v) (hv1 : v ≤ 9223372036854775807) (h : Sum2 g S w) :
    Calls Try.prog 9 #[.pointer (some ⟨g, 0, none⟩), .int .i64 v] w fun e w' => e = .returned (.tuple #[]) ∧ Sum2 g (S + v) w' ∧ Below g w w' := by
  obtain ⟨c0, c1, f0, f1⟩ := h
  refine (add_any g (hiOf S) (loOf S) v w (loOf_bd S).1 (loOf_bd S).2 c0 c1 f0 f1).mono ?_
  rintro e w' ⟨rfl, rfl⟩
  rw [addLo_of, addHi_of S v h0 h1 hv0 hv1]
  refine ⟨rfl, ⟨?_, ?_, ?_, ?_⟩, ((Below.refl g w).setCell (p := ⟨g, 1, none⟩) (Nat.le_refl _) _).setCell (p := ⟨g, 0, none⟩) (Nat.le_refl _) _⟩
  · refine World.cell?_setCell_same _ _ _ (u := .int .i64 (hiOf S)) ?_
    rw [World.cell?_setCell_other _ _ _ _ (by simp)]
    exact c0
  · rw [World.cell?_setCell_other _ _ _ _ (by simp)]
    exact World.cell?_setCell_same _ _ _ c1
  · rw [World.frozen?_setCell, World.frozen?_setCell]; exact f0
  · rw [World.frozen?_setCell, World.frozen?_setCell]; exact f1

theorem Sum2.new (w : World) : Sum2 w.heap.size 0 (w.alloc (.cells #[.int .i64 0, .int .u64 0] 25)) := by
  refine ⟨?_, ?_, ?_, ?_⟩ <;> simp [go_sem, hiOf, loOf]

theorem lt_of_cell {w : World} {g o : Nat} {v : Value} (h : w.cell? ⟨g, o, none⟩ = some v) : g < w.heap.size := by
  rcases Nat.lt_or_ge g w.heap.size with h' | h'
  · exact h'
  · simp [World.cell?, Array.getElem?_eq_none h'] at h

theorem Try.info2 : (Try.prog.info? 2).map (fun i => (i.zero, i.size, i.bytes)) = some (some (.int .i64 0), 1, 8) := by kernel_rfl

/-- What the fresh row holds when k numbers have been copied. -/
def part (zs : List Int) (n k : Nat) : List Value := (zs.take k).map (Value.int .i64) ++ List.replicate (n - k) (.int .i64 0)

theorem part_zero (zs : List Int) (n : Nat) : part zs n 0 = List.replicate n (.int .i64 0) := by simp [part]

theorem part_full (zs : List Int) (n : Nat) : part zs n n = (zs.take n).map (Value.int .i64) := by simp [part]

theorem part_set (zs : List Int) (n k : Nat) (hk : k < n) (hz : k < zs.length) : (part zs n k).set k (.int .i64 (zs.getD k 0)) = part zs n (k + 1) := by
  unfold part
  have h1 : ((zs.take k).map (Value.int .i64)).length = k := by simp; omega
  have h2 : n - k = (n - (k + 1)) + 1 := by omega
  rw [List.set_append_right _ _ (by omega), h1, Nat.sub_self, h2, List.replicate_succ, List.set_cons_zero, List.take_succ_eq_append_getElem hz, List.map_append, List.append_assoc, List.getD_eq_getElem?_getD, List.getElem?_eq_getElem hz]
  rfl

theorem part_at (zs : List Int) (n k : Nat) (hk : k < n) (hz : k < zs.length) : (part zs n k)[k]? = some (.int .i64 0) := by
  unfold part
  have h1 : ((zs.take k).map (Value.int .i64)).length = k := by simp; omega
  rw [List.getElem?_append_right (by omega), h1, Nat.sub_self, List.getElem?_replicate, if_pos (by omega)]

set_option maxHeartbeats 1000000 in
theorem walk_some (x : Addr) (b off n c : Nat) (zs : List Int) (w : World) (hn : n ≤ zs.length) (hb : n ≤ 65536) (hx : 0 < n → x = ⟨b, off, none⟩) (hz : ∀ j, -9223372036854775808 ≤ zs.getD j 0 ∧ zs.getD j 0 ≤ 9223372036854775807)
    (hc : ∀ j, j < n → w.cell? ⟨b, off + j, none⟩ = some (.int .i64 (zs.getD j 0))) (hbB : 0 < n → b < w.heap.size) :
    Calls Try.prog 6 #[.slice (some x) n c] w fun e w' => e = .returned (.bool true) ∧ Below w.heap.size w w' := by
  have hd1 : decide ((1048576 : Int) < (n : Int)) = false := decide_eq_false (by omega)
  have hd2 : decide ((65536 : Int) < (n : Int)) = false := decide_eq_false (by omega)
  obtain ⟨i0, hi, hz0, hz1, hz2⟩ := info_parts Try.info2
  have q36 : ∀ (w : World) (a : Option Addr) (n c n' c' : Nat), (binOp .neq 36 (.slice a n c) (.slice none n' c')).run Try.prog w = .ok (.bool (!a.isNone)) w := fun w a n c n' c' => run_neq_slice_nil_any w _ _ a n c n' c' Try.underlying36
  have HX : Hid (0 < n → x = ⟨b, off, none⟩) := hx
  have HZ : Hid (∀ j, -9223372036854775808 ≤ zs.getD j 0 ∧ zs.getD j 0 ≤ 9223372036854775807) := hz
  have HC : Hid (∀ j, j < n → w.cell? ⟨b, off + j, none⟩ = some (.int .i64 (zs.getD j 0))) := hc
  clear hx hz hc
  go_enter Try.func6, Try.ntmps6
  go_wp2_with (first | (at_make; refine wpList_make_full _ rfl _ _ 36 rfl w.heap.size 2 i0 (.int .i64 0) 1 Try.underlying36 hi hz0 hz1 .i64 .i64 _ _ n rfl rfl rfl rfl (by rw [hz2]; omega) (by unfold maxLen; omega) (Nat.le_refl _) ?_; intro w1 hown1 hgrow1) | go_in)
  rw [Nat.mul_one, show (Value.int .i64 0).cells = #[.int .i64 0] from rfl, toList_madeCells_one, ← part_zero zs] at hown1
  have hB1 : Below w.heap.size w w1 := (Below.refl _ _).grown hgrow1 (Nat.le_refl _) (by simp)
  clear hgrow1
  go_loopw [4] (fun i wr => ∃ k : Nat, k ≤ n ∧ i = .int .i64 k ∧ wr.ownsRow w.heap.size 2 1 (.slice (some ⟨w.heap.size, 0, none⟩) n n) n (part zs n k) ∧ Below w.heap.size w wr) (fun i _ => n - (intOf i).toNat)
  case atStart => exact ⟨0, Nat.zero_le _, rfl, hown1, hB1⟩
  case round =>
    obtain ⟨k, hk, rfl, hown, hbel⟩ := hrel
    clear hown1 hB1
    by_cases hlt : k < n
    · have hcx : wr.cell? ⟨b, off + k, none⟩ = some (.int .i64 (zs.getD k 0)) := (hbel.cell (by exact hbB (by omega))).trans (HC.out k hlt)
      have hfr := hown.frozenAt k
      have hcl : wr.cell? ⟨w.heap.size, k, none⟩ = some (.int .i64 0) := (hown.cellAt k (by omega)).trans (part_at zs n k hlt (by omega))
      have hst := (hown.stored k (.int .i64 (zs.getD k 0))).1
      rw [part_set zs n k hlt (by omega)] at hst
      have hzl : k < zs.length := by omega
      have R : Hid ((wr.setCell ⟨w.heap.size, k, none⟩ (.int .i64 (zs.getD k 0))).ownsRow w.heap.size 2 1 (.slice (some ⟨w.heap.size, 0, none⟩) n n) n (part zs n (k + 1))) := hst
      have hx : x = ⟨b, off, none⟩ := HX.out (by omega)
      subst hx
      clear hst hown
      go_wp2
      go_roundw
      case rel => exact ⟨k + 1, by omega, by go_num, by simpa [hzl] using R.out, hbel.setCell (Nat.le_refl _) _⟩
      case measure => simp [intOf]; omega
    · have hkn : k = n := by omega
      have hcl : Hid (∀ j, j < n → wr.cell? ⟨w.heap.size, j, none⟩ = some (.int .i64 (zs.getD j 0))) := by
        intro j hj
        rw [hown.cellAt j (by omega), hkn, part_full, List.getElem?_map, List.getElem?_take, if_pos hj, List.getElem?_eq_getElem (by omega), List.getD_eq_getElem?_getD, List.getElem?_eq_getElem (by omega)]
        rfl
      clear hown hkn
      go_wp2
      obtain ⟨wo, rfl⟩ : ∃ wo : World, wo = wr := ⟨_, rfl⟩
      have hN := Sum2.new wo
      have hNB : Below wo.heap.size wo (wo.alloc (.cells #[.int .i64 0, .int .u64 0] 25)) := (Below.refl _ _).alloc (Nat.le_refl _) _
      have hNS : wo.heap.size < (wo.alloc (.cells #[.int .i64 0, .int .u64 0] 25)).heap.size := by simp
      go_loopw [6] (fun i wr => ∃ t : Nat, t ≤ n ∧ i = .int .i64 t ∧ Sum2 wo.heap.size (psum zs t) wr ∧ Below wo.heap.size wo wr ∧ wo.heap.size < wr.heap.size) (fun i _ => n - (intOf i).toNat)
      case atStart => exact ⟨0, Nat.zero_le _, rfl, hN, hNB, hNS⟩
      case round =>
        obtain ⟨t, ht, rfl, hs2, hbel2, hsz2⟩ := hrel
        clear hN hNB hNS
        by_cases hlt2 : t < n
        · obtain ⟨v, hv⟩ : ∃ v, v = zs.getD t 0 := ⟨_, rfl⟩
          have hcx : wr.cell? ⟨w.heap.size, t, none⟩ = some (.int .i64 v) := by rw [hv]; exact (hbel2.cell (by exact lt_of_cell (hcl.out t hlt2))).trans (hcl.out t hlt2)
          have hbv := HZ.out t
          rw [← hv] at hbv
          have hpb := psum_bd zs HZ.out t
          have HV : Hid (psum zs (t + 1) = psum zs t + v) := by show _ = _; rw [hv]; rfl
          clear hv
          go_wp2_with (go_at_call 9; refine (add_sum wo.heap.size (psum zs t) v wr (by omega) (by omega) hbv.1 hbv.2 hs2).mono ?_; rintro e w' ⟨rfl, hs3, hbel3⟩)
          rw [← HV.out] at hs3
          have hsz3 := hbel3.size
          go_roundw
          case rel => exact ⟨t + 1, by omega, by go_num, hs3, hbel2.trans hbel3, by omega⟩
          case measure => simp [intOf]; omega
        · have htn : t = n := by omega
          rw [htn] at hs2
          clear htn
          go_wp2
          obtain ⟨wf, rfl⟩ : ∃ wf : World, wf = wr := ⟨_, rfl⟩
          have hN : Sum2 wf.heap.size (psum zs n - psum zs n) (wf.alloc (.cells #[.int .i64 0, .int .u64 0] 25)) := by rw [Int.sub_self]; exact Sum2.new wf
          have hNB : Below wf.heap.size wf (wf.alloc (.cells #[.int .i64 0, .int .u64 0] 25)) := (Below.refl _ _).alloc (Nat.le_refl _) _
          have hNS : wf.heap.size < (wf.alloc (.cells #[.int .i64 0, .int .u64 0] 25)).heap.size := by simp
          go_loopw [8] (fun i wr => ∃ r : Nat, r ≤ n ∧ i = .int .i64 ((r : Int) - 1) ∧ Sum2 wf.heap.size (psum zs n - psum zs r) wr ∧ Below wf.heap.size wf wr ∧ wf.heap.size < wr.heap.size) (fun i _ => (intOf i + 1).toNat)
          case atStart => exact ⟨n, Nat.le_refl _, rfl, hN, hNB, hNS⟩
          case round =>
            obtain ⟨r, hr, rfl, hs4, hbel4, hsz4⟩ := hrel
            clear hN hNB hNS
            by_cases hlt3 : 0 < r
            · obtain ⟨u, rfl⟩ : ∃ u, r = u + 1 := ⟨r - 1, by omega⟩
              obtain ⟨v, hv⟩ : ∃ v, v = zs.getD u 0 := ⟨_, rfl⟩
              have hcu := hcl.out u (by omega)
              have hgu := lt_of_cell hcu
              have hcx : wr.cell? ⟨w.heap.size, u, none⟩ = some (.int .i64 v) := by
                rw [hv]
                refine (hbel4.cell (by show w.heap.size < wf.heap.size; omega)).trans ((hbel2.cell (by exact hgu)).trans hcu)
              have hbv := HZ.out u
              rw [← hv] at hbv
              have hpb := psum_bd zs HZ.out (u + 1)
              have hpn := psum_bd zs HZ.out n
              have HV : Hid (psum zs n - psum zs u = psum zs n - psum zs (u + 1) + v) := by show _ = _; rw [hv]; simp only [psum]; omega
              have hun : (u : Int) < n := by omega
              clear hv hcu hgu
              go_wp2_with (go_at_call 9; refine (add_sum wf.heap.size (psum zs n - psum zs (u + 1)) v wr (by omega) (by omega) hbv.1 hbv.2 hs4).mono ?_; rintro e w' ⟨rfl, hs5, hbel5⟩)
              rw [← HV.out] at hs5
              have hsz5 := hbel5.size
              go_roundw
              case rel => exact ⟨u, by omega, by go_num, hs5, hbel4.trans hbel5, by omega⟩
              case measure => simp [intOf]
            · have hs6 : Sum2 wf.heap.size (psum zs n) wr := by
                have hr0 : r = 0 := by omega
                rw [hr0] at hs4
                simpa [psum] using hs4
              have hs7 := hs2.below hbel4 (by omega)
              clear hs4 hs2
              have hcl2 : Hid (∀ j, j < n → wr.cell? ⟨w.heap.size, j, none⟩ = some (.int .i64 (zs.getD j 0))) := fun j hj =>
                (hbel4.cell (by show w.heap.size < wf.heap.size; have := lt_of_cell (hcl.out j hj); omega)).trans ((hbel2.cell (by exact lt_of_cell (hcl.out j hj))).trans (hcl.out j hj))
              go_wp2
              go_loop [9, 10, 11] (fun a b i => ∃ j : Nat, j ≤ n ∧ i = .int .i64 j ∧ a = .int .i64 (wOf (psum zs j)) ∧ b = .int .i64 (kOf (psum zs j))) (fun _ _ i => n - (intOf i).toNat)
              case atStart => exact ⟨0, Nat.zero_le _, rfl, by rw [show wOf (psum zs 0) = 0 from by simp [psum, wOf, wrap64]], by rw [show kOf (psum zs 0) = 0 from by simp [psum, kOf]]⟩
              case round =>
                obtain ⟨j, hj, rfl, rfl, rfl⟩ := hrel
                by_cases hlt4 : j < n
                · obtain ⟨v, hv⟩ : ∃ v, v = zs.getD j 0 := ⟨_, rfl⟩
                  have hcx : wr.cell? ⟨w.heap.size, j, none⟩ = some (.int .i64 v) := by rw [hv]; exact hcl2.out j hlt4
                  have hbv : Hid (-9223372036854775808 ≤ v ∧ v ≤ 9223372036854775807) := by show _ ∧ _; rw [hv]; exact HZ.out j
                  have HV : Hid (psum zs (j + 1) = psum zs j + v) := by show _ = _; rw [hv]; rfl
                  have hpb := psum_bd zs HZ.out j
                  have hkb := kOf_bd (psum zs j) (by omega) (by omega)
                  have hnw : wrap64 (wOf (psum zs j) + v) = wOf (psum zs (j + 1)) := by rw [HV.out]; exact wOf_add _ _
                  clear hv hpb
                  by_cases s1 : 0 ≤ wOf (psum zs j)
                  · have n1 : ¬ wOf (psum zs j) < 0 := by omega
                    by_cases s2 : 0 ≤ v
                    · have n2 : ¬ v < 0 := by omega
                      by_cases s3 : wOf (psum zs (j + 1)) < 0
                      · have hk1 : Hid (kOf (psum zs (j + 1)) = kOf (psum zs j) + 1) := by show _ = _; rw [HV.out] at s3 ⊢; exact kOf_up _ _ hbv.out.1 hbv.out.2 s1 s2 s3
                        go_wp2
                        go_round
                        case rel => exact ⟨j + 1, by omega, by go_num, by rw [hnw], by rw [hk1.out]⟩
                        case measure => simp [intOf]; omega
                      · have hk1 : Hid (kOf (psum zs (j + 1)) = kOf (psum zs j)) := by show _ = _; rw [HV.out] at s3 ⊢; exact kOf_same _ _ hbv.out.1 hbv.out.2 (by omega) (by omega)
                        go_wp2
                        go_round
                        case rel => exact ⟨j + 1, by omega, by go_num, by rw [hnw], by rw [hk1.out]⟩
                        case measure => simp [intOf]; omega
                    · have n2 : v < 0 := by omega
                      have hk1 : Hid (kOf (psum zs (j + 1)) = kOf (psum zs j)) := by show _ = _; rw [HV.out]; exact kOf_same _ _ hbv.out.1 hbv.out.2 (by omega) (by omega)
                      go_wp2
                      go_round
                      case rel => exact ⟨j + 1, by omega, by go_num, by rw [hnw], by rw [hk1.out]⟩
                      case measure => simp [intOf]; omega
                  · have n1 : wOf (psum zs j) < 0 := by omega
                    by_cases s2 : v < 0
                    · have n2 : ¬ 0 ≤ v := by omega
                      by_cases s3 : 0 ≤ wOf (psum zs (j + 1))
                      · have hk1 : Hid (kOf (psum zs (j + 1)) = kOf (psum zs j) - 1) := by show _ = _; rw [HV.out] at s3 ⊢; exact kOf_down _ _ hbv.out.1 hbv.out.2 n1 s2 s3
                        go_wp2
                        go_round
                        case rel => exact ⟨j + 1, by omega, by go_num, by rw [hnw], by rw [hk1.out]⟩
                        case measure => simp [intOf]; omega
                      · have hk1 : Hid (kOf (psum zs (j + 1)) = kOf (psum zs j)) := by show _ = _; rw [HV.out] at s3 ⊢; exact kOf_same _ _ hbv.out.1 hbv.out.2 (by omega) (by omega)
                        go_wp2
                        go_round
                        case rel => exact ⟨j + 1, by omega, by go_num, by rw [hnw], by rw [hk1.out]⟩
                        case measure => simp [intOf]; omega
                    · have n2 : 0 ≤ v := by omega
                      have hk1 : Hid (kOf (psum zs (j + 1)) = kOf (psum zs j)) := by show _ = _; rw [HV.out]; exact kOf_same _ _ hbv.out.1 hbv.out.2 (by omega) (by omega)
                      go_wp2
                      go_round
                      case rel => exact ⟨j + 1, by omega, by go_num, by rw [hnw], by rw [hk1.out]⟩
                      case measure => simp [intOf]; omega
                · have hjn : j = n := by omega
                  rw [← hjn] at hs6 hs7
                  obtain ⟨r0, r1, _, _⟩ := hs6
                  obtain ⟨f0, f1, _, _⟩ := hs7
                  have hkb := kOf_bd (psum zs j) (by have := psum_bd zs HZ.out j; omega) (by have := psum_bd zs HZ.out j; omega)
                  have hlo := lo_w (psum zs j)
                  clear hjn
                  have g0 := fun o => cell?_alloc_old o f0
                  have g1 := fun o => cell?_alloc_old o f1
                  have hsz6 : w.heap.size ≤ wf.heap.size := by have := hbel.size; omega
                  have hBB : Below w.heap.size w wr := (hbel.trans (hbel2.mono hbel.size)).trans (hbel4.mono hsz6)
                  clear hbel hbel2 hbel4
                  by_cases s1 : wOf (psum zs j) < 0
                  · have hhi := hi_neg (psum zs j) s1
                    go_wp2
                    go_ret
                    exact ⟨by simp, (hBB.alloc (by omega) _).alloc (by simp; omega) _⟩
                  · have hhi := hi_pos (psum zs j) (by omega)
                    go_wp2
                    go_ret
                    exact ⟨by simp, (hBB.alloc (by omega) _).alloc (by simp; omega) _⟩

theorem walk_nil (w : World) : Calls Try.prog 6 #[.slice none 0 0] w fun e w' => e = .returned (.bool true) ∧ Below w.heap.size w w' := by
  have q36 : ∀ (w : World) (a : Option Addr) (n c n' c' : Nat), (binOp .neq 36 (.slice a n c) (.slice none n' c')).run Try.prog w = .ok (.bool (!a.isNone)) w := fun w a n c n' c' => run_neq_slice_nil_any w _ _ a n c n' c' Try.underlying36
  go_enter Try.func6, Try.ntmps6
  go_wp2
  refine wp_loop_rounds 1 ?_
  rw [rounds_succ]
  go_wp2
  refine wp_loop_rounds 1 ?_
  rw [rounds_succ]
  go_wp2
  refine wp_loop_rounds 1 ?_
  rw [rounds_succ]
  go_wp2
  go_ret
  exact ⟨rfl, by repeat (first | exact Below.refl _ _ | refine Below.alloc ?_ (by simp; try omega) _)⟩

theorem walk_long (a : Option Addr) (n c : Nat) (w : World) (h : 1048576 < n) : Calls Try.prog 6 #[.slice a n c] w fun e w' => e = .returned (.bool true) ∧ Below w.heap.size w w' := by
  have hd1 : decide ((1048576 : Int) < (n : Int)) = true := decide_eq_true (by omega)
  go_enter Try.func6, Try.ntmps6
  go_wp2
  go_ret
  exact ⟨rfl, Below.refl _ _⟩

theorem walk_mid (a : Option Addr) (n c : Nat) (w : World) (h0 : ¬ 1048576 < n) (h : 65536 < n) : Calls Try.prog 6 #[.slice a n c] w fun e w' => e = .returned (.bool true) ∧ Below w.heap.size w w' := by
  have hd1 : decide ((1048576 : Int) < (n : Int)) = false := decide_eq_false (by omega)
  have hd2 : decide ((65536 : Int) < (n : Int)) = true := decide_eq_true (by omega)
  go_enter Try.func6, Try.ntmps6
  go_wp2
  go_ret
  exact ⟨rfl, Below.refl _ _⟩
end Go.Proofs.Qxb6606025a

/-
  The walk of fSortedCopy: a fresh row, the values of the one that came in, in fBefore order. (The text of the merge loop stands three times, laid by program: once for each way of the two tests ahead of it.)
-/
import Derived.Test.Qxb6602921aNth
import Derived.Test.Qxb6602921aSmall
namespace Go.Proofs.Qxb6602921a
open Go.RowKit Go.Sort
attribute [local go_sem] run_store_float

/-- Two fresh rows beside what was there. -/
structure Two (w wr : World) (A B : Nat) (da db : Array Nat) : Prop where
  bel : Below w.heap.size w wr
  ha : Holds enc wr A 0 da
  hb : Holds enc wr B 0 db
  ne : A ≠ B
  hA : w.heap.size ≤ A
  hB : w.heap.size ≤ B

theorem Two.drewN {w wr : World} {A B : Nat} {da db : Array Nat} (h : Two w wr A B da db) (q : Nat) : Two w (wr.drewN q) A B da db := ⟨bel_drewN h.bel q, h.ha, h.hb, h.ne, h.hA, h.hB⟩
theorem Two.swap {w wr : World} {A B : Nat} {da db : Array Nat} (h : Two w wr A B da db) : Two w wr B A db da := ⟨h.bel, h.hb, h.ha, h.ne.symm, h.hB, h.hA⟩
theorem Two.store {w wr : World} {A B : Nat} {da db : Array Nat} (h : Two w wr A B da db) (k x : Nat) (hk : k < db.size) : Two w (wr.setCell ⟨B, k, none⟩ (.float .f64 x)) A B da (db.setIfInBounds k x) := by
  have e : wr.setCell ⟨B, k, none⟩ (.float .f64 x) = putRow enc wr B 0 (db.setIfInBounds k x) := by
    have := putRow_set enc wr B 0 db k x hk
    rw [putRow_self _ _ _ _ _ h.hb, Nat.zero_add] at this
    exact this
  rw [e]
  refine ⟨bel_putRow h.bel enc 0 _ h.hB, fun t ht => ?_, holds_putRow enc wr B 0 db _ h.hb (by simp), h.ne, h.hA, h.hB⟩
  rw [cell?_putRow_other _ _ _ _ _ _ (.inl h.ne), frozen?_putRow]
  exact h.ha t ht

theorem calls_flip {f : Nat} {args : Array Value} {w : World} {v : Value} (h : Calls Try.prog f args w fun e w' => e = .returned v ∧ w = w') : Calls Try.prog f args w fun e w' => e = .returned v ∧ w' = w :=
  h.mono fun _ _ ⟨h1, h2⟩ => ⟨h1, h2.symm⟩

set_option maxRecDepth 1000000 in
set_option maxHeartbeats 4000000 in
theorem sorted_any (blk off n cap : Nat) (d : Array Nat) (w : World) (hn : n ≤ 1048576) (hd : d.size = n) (hb : n = 0 ∨ blk < w.heap.size) (hc : ∀ j, j < n → w.cell? ⟨blk, off + j, none⟩ = some (.float .f64 d[j]!)) :
    Calls Try.prog 21 #[.slice (some ⟨blk, off, none⟩) n cap] w fun e w' => ∃ (A : Nat) (s : Array Nat), e = .returned (.slice (some ⟨A, 0, none⟩) n n) ∧ w.heap.size ≤ A ∧ s.size = n ∧ s.toList.Perm d.toList ∧ Sorted n s ∧ Holds enc w' A 0 s ∧ Below w.heap.size w w' := by
  have hmk := run_make_row' (P := Try.prog) 22 25 (.float .f64 0) 8 Try.underlying22 Try.info25 rfl .i64 .i64 n (by omega) (by omega)
  go_enter Try.func21, Try.ntmps21
  go_wp2
  go_loopw [5] (fun i wr => ∃ k : Nat, k ≤ n ∧ i = .int .i64 k ∧ wr = w.alloc (.cells (cl d n k) 25)) (fun i _ => n - (intOf i).toNat)
  case atStart => exact ⟨0, Nat.zero_le _, rfl, by rw [cl_zero d n]⟩
  case round =>
    obtain ⟨k, hk, rfl, rfl⟩ := hrel
    by_cases hlt : k < n
    · obtain ⟨x, hx⟩ : ∃ x, d[k]! = x := ⟨_, rfl⟩
      have c1 : w.cell? ⟨blk, off + k, none⟩ = some (.float .f64 x) := by rw [← hx]; exact hc k hlt
      have c2 : (cl d n k)[k]? = some (.float .f64 0) := by rw [cl_get d n k k hlt]; simp
      have hbl : blk < w.heap.size := by omega
      have HX : Hid (d[k]! = x) := hx
      clear hx hc hmk hd
      go_wp2
      go_roundw
      case rel => exact ⟨k + 1, by omega, by go_num, by rw [← HX.out, cl_set]⟩
      case measure => simp [intOf]; omega
    · obtain rfl : n = k := by omega
      clear hc hb
      have HD : Hid (d.size = n) := hd
      clear hd
      have h0 : Two w ((w.alloc (.cells (cl d n n) 25)).alloc (.cells (madeCells #[.float .f64 0] n) 25)) w.heap.size (w.heap.size + 1) d (Array.replicate n 0) := by
        refine ⟨((Below.refl _ _).alloc (Nat.le_refl _) _).alloc (by simp) _, fun t ht => ?_, fun t ht => ?_, by omega, by omega, by omega⟩
        · have ht' : t < n := by rw [← HD.out]; exact ht
          rw [Nat.zero_add, World.cell?_alloc_past _ _ _ (by simp), World.frozen?_alloc_past _ _ _ (by simp), World.cell?_alloc_at _ _ _ _ rfl, World.frozen?_alloc_at _ _ _ _ rfl, cl_get _ _ _ _ ht', if_pos ht']
          exact ⟨rfl, rfl⟩
        · have ht' : t < n := by simpa using ht
          rw [Nat.zero_add, World.cell?_alloc_at _ _ _ _ (by simp), World.frozen?_alloc_at _ _ _ _ (by simp)]
          simp [madeCells, ht', Nat.mod_one, enc]
      go_wp2
      clear hmk
      generalize (w.alloc (.cells (cl d n n) 25)).alloc (.cells (madeCells #[.float .f64 0] n) 25) = W0 at h0 ⊢
      go_loopw [4, 6, 7] (fun va vb vW wr => ∃ (A B W : Nat) (da db : Array Nat), va = .slice (some ⟨A, 0, none⟩) n n ∧ vb = .slice (some ⟨B, 0, none⟩) n n ∧ vW = .int .i64 W ∧ 1 ≤ W ∧ W ≤ 2 * n + 1 ∧ da.size = n ∧ db.size = n ∧ Runs n W da ∧ da.toList.Perm d.toList ∧ Two w wr A B da db) (fun _ _ vW _ => n - (intOf vW).toNat)
      case atStart => exact ⟨w.heap.size, w.heap.size + 1, 1, d, Array.replicate n 0, rfl, rfl, rfl, by omega, by omega, HD.out, by simp, runs_one n d, List.Perm.refl _, h0⟩
      case round =>
        clear h0
        obtain ⟨A, B, W, da, db0, rfl, rfl, rfl, hW1, hW2, hda, hdb, hruns, hperm, h2⟩ := hrel
        have HDA : Hid (da.size = n) := hda
        have HDB : Hid (db0.size = n) := hdb
        clear hda hdb
        by_cases hWn : W < n
        · go_wp2
          go_loopw [8] (fun vlo wr => ∃ (lo : Nat) (db : Array Nat), vlo = .int .i64 lo ∧ lo ≤ 4 * n ∧ Chunk da n W lo db ∧ Two w wr A B da db) (fun vlo _ => n - (intOf vlo).toNat)
          case atStart => exact ⟨0, db0, rfl, by omega, Chunk.begin HDA.out HDB.out, h2⟩
          case round =>
            clear h2
            obtain ⟨lo, db1, rfl, hlo4, hch, h1⟩ := hrel
            by_cases hlo : lo < n
            · have hmrg0 := hch.toMrg hruns hlo hW1
              have hdone0 : ∀ {i j db}, Mrg da db1 n lo (min (lo + W) n) (min (lo + 2 * W) n) i j db → ¬ i + j - min (lo + W) n < min (lo + 2 * W) n → Chunk da n W (lo + 2 * W) db := fun h h3 => h.done hch h3 hlo
              obtain ⟨M, hM⟩ : ∃ M, min (lo + W) n = M := ⟨_, rfl⟩
              obtain ⟨Hh, hHh⟩ : ∃ Hh, min (lo + 2 * W) n = Hh := ⟨_, rfl⟩
              rw [hM, hHh] at hmrg0
              have hdone1 : ∀ {i j db}, Mrg da db1 n lo M Hh i j db → ¬ i + j - M < Hh → Chunk da n W (lo + 2 * W) db := by rw [hM, hHh] at hdone0; exact hdone0
              have HM : Hid (min (lo + W) n = M) := hM
              have HH : Hid (min (lo + 2 * W) n = Hh) := hHh
              have hmrg : Mrg da db1 n lo M Hh lo M db1 := hmrg0
              have hdone : Hid (∀ i j db, Mrg da db1 n lo M Hh i j db → ¬ i + j - M < Hh → Chunk da n W (lo + 2 * W) db) := fun i j db a b => hdone1 a b
              clear hM hHh hmrg0 hdone0 hdone1 hch
              rcases Nat.lt_or_ge n (lo + W) with g1 | g1
              · have hma : M ≤ n := by have := HM.out; omega
                have hmb : n ≤ M := by have := HM.out; omega
                have hha : Hh ≤ n := by have := HH.out; omega
                have hhb : n ≤ Hh := by have := HH.out; omega
                have t1 : (n : Int) < (lo : Int) + (W : Int) := by omega
                have t2 : (n : Int) < (lo : Int) + 2 * (W : Int) := by omega
                go_wp2
                go_loopw [11, 12, 13] (fun vi vj vk wr => ∃ (i j k : Nat) (db : Array Nat), vi = .int .i64 i ∧ vj = .int .i64 j ∧ vk = .int .i64 k ∧ k + M ≤ i + j ∧ i + j ≤ k + M ∧ Mrg da db1 n lo M Hh i j db ∧ Two w wr A B da db) (fun _ _ vk _ => Hh - (intOf vk).toNat)
                case atStart => exact ⟨lo, M, lo, db1, rfl, by go_num, rfl, by omega, by omega, hmrg, h1⟩
                case round =>
                  obtain ⟨i, j, k, db, rfl, rfl, rfl, hk1, hk2, hm, h2⟩ := hrel
                  clear hmrg h1
                  have HK : Hid (i + j - M = k) := by show _ = _; omega
                  have hli := hm.li
                  have him := hm.im
                  have hmj := hm.mj
                  have hjh := hm.jh
                  by_cases hkh : k < Hh
                  · have ck0 := (h2.hb k (by rw [hm.sb]; omega)).1
                    have fk := (h2.hb k (by rw [hm.sb]; omega)).2
                    rw [Nat.zero_add] at ck0 fk
                    obtain ⟨o, ho⟩ : ∃ o, db[k]! = o := ⟨_, rfl⟩
                    rw [ho] at ck0
                    have ck : wr.cell? ⟨B, k, none⟩ = some (.float .f64 o) := ck0
                    clear ho ck0
                    by_cases hjj : j < Hh
                    · omega
                    · have hg1 : (n : Int) ≤ (j : Int) := by omega
                      obtain ⟨x, hx⟩ : ∃ x, da[i]! = x := ⟨_, rfl⟩
                      have ci0 := (h2.ha i (by rw [hm.sa]; omega)).1
                      rw [Nat.zero_add, hx] at ci0
                      have HX : Hid (da[i]! = x) := hx
                      have ci : wr.cell? ⟨A, i, none⟩ = some (.float .f64 x) := ci0
                      clear hx ci0

                      go_wp2_with fail
                      go_quiet (fail)
                      go_wp2
                      go_roundw
                      case rel =>
                        have hnew := hm.takeL (by omega) (.inl (by omega))
                        rw [HK.out, HX.out] at hnew
                        exact ⟨i + 1, j, k + 1, _, by go_num, by go_num, by go_num, by omega, by omega, hnew, (h2.drewN nq).store k x (by rw [hm.sb]; omega)⟩
                      case measure => simp [intOf]; omega

                  · go_wp2
                    go_roundw
                    case rel => exact ⟨lo + 2 * W, db, by go_num, by omega, hdone.out _ _ _ hm (by rw [HK.out]; exact hkh), h2⟩
                    case measure => simp [intOf]; omega
              · rcases Nat.lt_or_ge n (lo + 2 * W) with g2 | g2
                · have hma : M ≤ lo + W := by have := HM.out; omega
                  have hmb : lo + W ≤ M := by have := HM.out; omega
                  have hha : Hh ≤ n := by have := HH.out; omega
                  have hhb : n ≤ Hh := by have := HH.out; omega
                  have t1 : ¬ (n : Int) < (lo : Int) + (W : Int) := by omega
                  have t2 : (n : Int) < (lo : Int) + 2 * (W : Int) := by omega
                  go_wp2
                  go_loopw [11, 12, 13] (fun vi vj vk wr => ∃ (i j k : Nat) (db : Array Nat), vi = .int .i64 i ∧ vj = .int .i64 j ∧ vk = .int .i64 k ∧ k + M ≤ i + j ∧ i + j ≤ k + M ∧ Mrg da db1 n lo M Hh i j db ∧ Two w wr A B da db) (fun _ _ vk _ => Hh - (intOf vk).toNat)
                  case atStart => exact ⟨lo, M, lo, db1, rfl, by go_num, rfl, by omega, by omega, hmrg, h1⟩
                  case round =>
                    obtain ⟨i, j, k, db, rfl, rfl, rfl, hk1, hk2, hm, h2⟩ := hrel
                    clear hmrg h1
                    have HK : Hid (i + j - M = k) := by show _ = _; omega
                    have hli := hm.li
                    have him := hm.im
                    have hmj := hm.mj
                    have hjh := hm.jh
                    by_cases hkh : k < Hh
                    · have ck0 := (h2.hb k (by rw [hm.sb]; omega)).1
                      have fk := (h2.hb k (by rw [hm.sb]; omega)).2
                      rw [Nat.zero_add] at ck0 fk
                      obtain ⟨o, ho⟩ : ∃ o, db[k]! = o := ⟨_, rfl⟩
                      rw [ho] at ck0
                      have ck : wr.cell? ⟨B, k, none⟩ = some (.float .f64 o) := ck0
                      clear ho ck0
                      by_cases hjj : j < Hh
                      · have hg1 : decide (n ≤ j) = false := decide_eq_false (by omega)
                        obtain ⟨y, hy⟩ : ∃ y, da[j]! = y := ⟨_, rfl⟩
                        have cj0 := (h2.ha j (by rw [hm.sa]; omega)).1
                        rw [Nat.zero_add, hy] at cj0
                        have HY : Hid (da[j]! = y) := hy
                        have cj : wr.cell? ⟨A, j, none⟩ = some (.float .f64 y) := cj0
                        clear hy cj0

                        by_cases hii : i < M
                        · have hg2 : decide ((i : Int) < (lo : Int) + (W : Int)) = true := decide_eq_true (by omega)
                          have hg3 : (i : Int) < (lo : Int) + (W : Int) := by omega
                          obtain ⟨x, hx⟩ : ∃ x, da[i]! = x := ⟨_, rfl⟩
                          have ci0 := (h2.ha i (by rw [hm.sa]; omega)).1
                          rw [Nat.zero_add, hx] at ci0
                          have HX : Hid (da[i]! = x) := hx
                          have ci : wr.cell? ⟨A, i, none⟩ = some (.float .f64 x) := ci0
                          clear hx ci0

                          cases hbf : Fl.bef y x with
                          | true =>
                            have cb := before_any y x
                            rw [hbf] at cb
                            have CB : Hid _ := cb
                            have HBF : Hid _ := hbf
                            clear cb hbf
                            go_wp2_with fail
                            go_quiet ((go_at_call 34; exact Calls.quiet_of_same (calls_flip (CB.out _))))
                            go_wp2
                            go_roundw
                            case rel =>
                              have hnew := hm.takeR (by omega) (.inr (by rw [HX.out, HY.out]; exact HBF.out))
                              rw [HK.out, HY.out] at hnew
                              exact ⟨i, j + 1, k + 1, _, by go_num, by go_num, by go_num, by omega, by omega, hnew, (h2.drewN nq).store k y (by rw [hm.sb]; omega)⟩
                            case measure => simp [intOf]; omega

                          | false =>
                            have cb := before_any y x
                            rw [hbf] at cb
                            have CB : Hid _ := cb
                            have HBF : Hid _ := hbf
                            clear cb hbf
                            go_wp2_with fail
                            go_quiet ((go_at_call 34; exact Calls.quiet_of_same (calls_flip (CB.out _))))
                            go_wp2
                            go_roundw
                            case rel =>
                              have hnew := hm.takeL (by omega) (.inr (by rw [HX.out, HY.out]; exact HBF.out))
                              rw [HK.out, HX.out] at hnew
                              exact ⟨i + 1, j, k + 1, _, by go_num, by go_num, by go_num, by omega, by omega, hnew, (h2.drewN nq).store k x (by rw [hm.sb]; omega)⟩
                            case measure => simp [intOf]; omega

                        · have hg2 : decide ((i : Int) < (lo : Int) + (W : Int)) = false := decide_eq_false (by omega)
                          go_wp2_with fail
                          go_quiet (fail)
                          go_wp2
                          go_roundw
                          case rel =>
                            have hnew := hm.takeR (by omega) (.inl (by omega))
                            rw [HK.out, HY.out] at hnew
                            exact ⟨i, j + 1, k + 1, _, by go_num, by go_num, by go_num, by omega, by omega, hnew, (h2.drewN nq).store k y (by rw [hm.sb]; omega)⟩
                          case measure => simp [intOf]; omega

                      · have hg1 : (n : Int) ≤ (j : Int) := by omega
                        obtain ⟨x, hx⟩ : ∃ x, da[i]! = x := ⟨_, rfl⟩
                        have ci0 := (h2.ha i (by rw [hm.sa]; omega)).1
                        rw [Nat.zero_add, hx] at ci0
                        have HX : Hid (da[i]! = x) := hx
                        have ci : wr.cell? ⟨A, i, none⟩ = some (.float .f64 x) := ci0
                        clear hx ci0

                        go_wp2_with fail
                        go_quiet (fail)
                        go_wp2
                        go_roundw
                        case rel =>
                          have hnew := hm.takeL (by omega) (.inl (by omega))
                          rw [HK.out, HX.out] at hnew
                          exact ⟨i + 1, j, k + 1, _, by go_num, by go_num, by go_num, by omega, by omega, hnew, (h2.drewN nq).store k x (by rw [hm.sb]; omega)⟩
                        case measure => simp [intOf]; omega

                    · go_wp2
                      go_roundw
                      case rel => exact ⟨lo + 2 * W, db, by go_num, by omega, hdone.out _ _ _ hm (by rw [HK.out]; exact hkh), h2⟩
                      case measure => simp [intOf]; omega
                · have hma : M ≤ lo + W := by have := HM.out; omega
                  have hmb : lo + W ≤ M := by have := HM.out; omega
                  have hha : Hh ≤ lo + 2 * W := by have := HH.out; omega
                  have hhb : lo + 2 * W ≤ Hh := by have := HH.out; omega
                  have t1 : ¬ (n : Int) < (lo : Int) + (W : Int) := by omega
                  have t2 : ¬ (n : Int) < (lo : Int) + 2 * (W : Int) := by omega
                  go_wp2
                  go_loopw [11, 12, 13] (fun vi vj vk wr => ∃ (i j k : Nat) (db : Array Nat), vi = .int .i64 i ∧ vj = .int .i64 j ∧ vk = .int .i64 k ∧ k + M ≤ i + j ∧ i + j ≤ k + M ∧ Mrg da db1 n lo M Hh i j db ∧ Two w wr A B da db) (fun _ _ vk _ => Hh - (intOf vk).toNat)
                  case atStart => exact ⟨lo, M, lo, db1, rfl, by go_num, rfl, by omega, by omega, hmrg, h1⟩
                  case round =>
                    obtain ⟨i, j, k, db, rfl, rfl, rfl, hk1, hk2, hm, h2⟩ := hrel
                    clear hmrg h1
                    have HK : Hid (i + j - M = k) := by show _ = _; omega
                    have hli := hm.li
                    have him := hm.im
                    have hmj := hm.mj
                    have hjh := hm.jh
                    by_cases hkh : k < Hh
                    · have ck0 := (h2.hb k (by rw [hm.sb]; omega)).1
                      have fk := (h2.hb k (by rw [hm.sb]; omega)).2
                      rw [Nat.zero_add] at ck0 fk
                      obtain ⟨o, ho⟩ : ∃ o, db[k]! = o := ⟨_, rfl⟩
                      rw [ho] at ck0
                      have ck : wr.cell? ⟨B, k, none⟩ = some (.float .f64 o) := ck0
                      clear ho ck0
                      by_cases hjj : j < Hh
                      · have hg1 : decide ((lo : Int) + 2 * (W : Int) ≤ (j : Int)) = false := decide_eq_false (by omega)
                        obtain ⟨y, hy⟩ : ∃ y, da[j]! = y := ⟨_, rfl⟩
                        have cj0 := (h2.ha j (by rw [hm.sa]; omega)).1
                        rw [Nat.zero_add, hy] at cj0
                        have HY : Hid (da[j]! = y) := hy
                        have cj : wr.cell? ⟨A, j, none⟩ = some (.float .f64 y) := cj0
                        clear hy cj0

                        by_cases hii : i < M
                        · have hg2 : decide ((i : Int) < (lo : Int) + (W : Int)) = true := decide_eq_true (by omega)
                          have hg3 : (i : Int) < (lo : Int) + (W : Int) := by omega
                          obtain ⟨x, hx⟩ : ∃ x, da[i]! = x := ⟨_, rfl⟩
                          have ci0 := (h2.ha i (by rw [hm.sa]; omega)).1
                          rw [Nat.zero_add, hx] at ci0
                          have HX : Hid (da[i]! = x) := hx
                          have ci : wr.cell? ⟨A, i, none⟩ = some (.float .f64 x) := ci0
                          clear hx ci0

                          cases hbf : Fl.bef y x with
                          | true =>
                            have cb := before_any y x
                            rw [hbf] at cb
                            have CB : Hid _ := cb
                            have HBF : Hid _ := hbf
                            clear cb hbf
                            go_wp2_with fail
                            go_quiet ((go_at_call 34; exact Calls.quiet_of_same (calls_flip (CB.out _))))
                            go_wp2
                            go_roundw
                            case rel =>
                              have hnew := hm.takeR (by omega) (.inr (by rw [HX.out, HY.out]; exact HBF.out))
                              rw [HK.out, HY.out] at hnew
                              exact ⟨i, j + 1, k + 1, _, by go_num, by go_num, by go_num, by omega, by omega, hnew, (h2.drewN nq).store k y (by rw [hm.sb]; omega)⟩
                            case measure => simp [intOf]; omega

                          | false =>
                            have cb := before_any y x
                            rw [hbf] at cb
                            have CB : Hid _ := cb
                            have HBF : Hid _ := hbf
                            clear cb hbf
                            go_wp2_with fail
                            go_quiet ((go_at_call 34; exact Calls.quiet_of_same (calls_flip (CB.out _))))
                            go_wp2
                            go_roundw
                            case rel =>
                              have hnew := hm.takeL (by omega) (.inr (by rw [HX.out, HY.out]; exact HBF.out))
                              rw [HK.out, HX.out] at hnew
                              exact ⟨i + 1, j, k + 1, _, by go_num, by go_num, by go_num, by omega, by omega, hnew, (h2.drewN nq).store k x (by rw [hm.sb]; omega)⟩
                            case measure => simp [intOf]; omega

                        · have hg2 : decide ((i : Int) < (lo : Int) + (W : Int)) = false := decide_eq_false (by omega)
                          go_wp2_with fail
                          go_quiet (fail)
                          go_wp2
                          go_roundw
                          case rel =>
                            have hnew := hm.takeR (by omega) (.inl (by omega))
                            rw [HK.out, HY.out] at hnew
                            exact ⟨i, j + 1, k + 1, _, by go_num, by go_num, by go_num, by omega, by omega, hnew, (h2.drewN nq).store k y (by rw [hm.sb]; omega)⟩
                          case measure => simp [intOf]; omega

                      · have hg1 : decide ((lo : Int) + 2 * (W : Int) ≤ (j : Int)) = true := decide_eq_true (by omega)
                        obtain ⟨x, hx⟩ : ∃ x, da[i]! = x := ⟨_, rfl⟩
                        have ci0 := (h2.ha i (by rw [hm.sa]; omega)).1
                        rw [Nat.zero_add, hx] at ci0
                        have HX : Hid (da[i]! = x) := hx
                        have ci : wr.cell? ⟨A, i, none⟩ = some (.float .f64 x) := ci0
                        clear hx ci0

                        go_wp2_with fail
                        go_quiet (fail)
                        go_wp2
                        go_roundw
                        case rel =>
                          have hnew := hm.takeL (by omega) (.inl (by omega))
                          rw [HK.out, HX.out] at hnew
                          exact ⟨i + 1, j, k + 1, _, by go_num, by go_num, by go_num, by omega, by omega, hnew, (h2.drewN nq).store k x (by rw [hm.sb]; omega)⟩
                        case measure => simp [intOf]; omega

                    · go_wp2
                      go_roundw
                      case rel => exact ⟨lo + 2 * W, db, by go_num, by omega, hdone.out _ _ _ hm (by rw [HK.out]; exact hkh), h2⟩
                      case measure => simp [intOf]; omega
            · have hfin := hch.finish hlo
              have hdb1 := hch.sb
              have hda1 := hch.sa
              have HDB1 : Hid _ := hdb1
              have HDA1 : Hid _ := hda1
              clear hdb1 hda1
              go_wp2
              go_roundw
              case rel => exact ⟨B, A, W * 2, db1, da, rfl, rfl, by go_num, by omega, by omega, HDB1.out, HDA1.out, by rw [Nat.mul_comm]; exact hfin.1, hfin.2.trans hperm, h1.swap⟩
              case measure => simp [intOf]; omega
        · go_wp2
          go_ret
          exact ⟨A, da, rfl, h2.hA, HDA.out, hperm, runs_all hruns hWn, h2.ha, h2.bel⟩
end Go.Proofs.Qxb6602921a

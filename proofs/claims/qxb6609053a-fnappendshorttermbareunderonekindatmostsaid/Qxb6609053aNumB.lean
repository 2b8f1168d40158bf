/-
  zzNumberKind (12), no sign (HOW MADE: one text at several places, written out by a small program of the prover's).
-/
import Derived.Test.Qxb6609053aNum
namespace Go.Proofs.Qxb6609053a
open Go.RowKit

set_option maxHeartbeats 16000000 in
theorem num_plain (s : ByteArray) (w : World) (hs : s.size ≤ 1048576) (hp : 0 < s.size) (g1 : ((s[0].toNat : Int) == 43) = false) (g2 : ((s[0].toNat : Int) == 45) = false) (h0 : Hid (Pl.sgn (txt s) = 0)) :
    Calls Try.prog 12 #[.string s] w fun e w' => e = .returned (.string (dtS (Pl.numKindT (tl s)))) ∧ w' = w := by
  go_enter Try.func12, Try.ntmps12
  go_wp2
  go_loop [4, 5] (fun s4 s5 => ∃ j : Nat, 0 ≤ j ∧ j ≤ s.size ∧ s4 = .int .i64 (-1) ∧ s5 = .int .i64 j ∧ Hid (∀ k (h : k < s.size), 0 ≤ k → k < j → Pl.isE s[k] = false)) (fun _ s5 => s.size - (intOf s5).toNat)
  case atStart => exact ⟨0, Nat.le_refl _, by omega, rfl, rfl, fun k _ h1 h2 => by omega⟩
  case round =>
    obtain ⟨j, hnj, hj, rfl, rfl, HN⟩ := hrel
    by_cases hlt : j < s.size
    · cases h101 : ((s[j].toNat : Int) == 101)
      · cases h69 : ((s[j].toNat : Int) == 69)
        · go_wp2
          go_round
          case rel =>
            refine ⟨j + 1, by omega, by omega, rfl, by go_num, fun k h h1 h2 => ?_⟩
            by_cases e : k = j
            · subst e; exact isE_not h101 h69
            · exact HN.out k h h1 (by omega)
          case measure => simp [intOf]; omega
        · have HC : Hid (Cut s (s.extract 0 j) (s.extract (j + 1) s.size) true) := by
            have hx := mant_at s 0 j h0.out hnj hlt HN.out (isE_of (.inr h69))
            exact ⟨hx.1, by rw [ByteArray.size_extract]; omega, by rw [ByteArray.size_extract]; omega, .inr ⟨rfl, _, hx.2⟩⟩
          go_wp2
          obtain ⟨m, hme⟩ : ∃ m, s.extract 0 j = m := ⟨_, rfl⟩
          rw [hme] at HC ⊢
          have HM : Hid (Pl.mant (tl s) = txt m) := HC.out.1
          have hm : m.size ≤ 1048576 := Nat.le_trans HC.out.2.1 hs
          clear hme
          obtain ⟨ex, hexe⟩ : ∃ ex, s.extract (j + 1) s.size = ex := ⟨_, rfl⟩
          rw [hexe] at HC ⊢
          have hex : ex.size ≤ 1048576 := Nat.le_trans HC.out.2.2.1 hs
          obtain ⟨c, hre⟩ : ∃ c, Pl.rest (tl s) = c :: txt ex := by
            rcases HC.out.2.2.2 with ⟨h, _⟩ | ⟨_, h⟩
            · cases h
            · exact h
          have HRE : Hid (Pl.rest (tl s) = c :: txt ex) := hre
          clear hexe hre HC
          go_loop [9, 10, 11, 12] (fun s9 s10 s11 s12 => ∃ (d : Bool) (z : Int) (b a k : Nat), Hid (Dot d z) ∧ s9 = .int .i64 z ∧ s10 = .int .i64 b ∧ s11 = .int .i64 a ∧ s12 = .int .i64 k ∧ k ≤ m.size ∧ b ≤ k ∧ a ≤ k ∧ -1 ≤ z ∧ z ≤ k ∧ Hid (mk m k = some (d, b, a))) (fun _ _ _ s12 => m.size - (intOf s12).toNat)
          case atStart => exact ⟨false, -1, 0, 0, 0, .inl ⟨rfl, rfl⟩, rfl, rfl, rfl, rfl, Nat.zero_le _, Nat.le_refl _, Nat.le_refl _, by omega, by omega, rfl⟩
          case round =>
            obtain ⟨d, z, b, a, k, HD, rfl, rfl, rfl, rfl, hk, hb, ha, hz1, hz2, HK⟩ := hrel
            by_cases hklt : k < m.size
            · cases h46 : ((m[k].toNat : Int) == 46)
              · by_cases hdg : (48 : Int) ≤ (m[k].toNat : Int) ∧ (m[k].toNat : Int) ≤ 57
                · obtain ⟨d1, d2⟩ := hdg
                  rcases HD.out with ⟨rfl, hz⟩ | ⟨rfl, hz⟩
                  · have HK2 : Hid (mk m (k + 1) = some (false, b + 1, a)) := mk_before m k b a hklt HK.out h46 d1 d2
                    have hz3 : z < 0 := by omega
                    clear hz
                    go_wp2
                    go_round
                    case rel => exact ⟨false, z, b + 1, a, k + 1, HD, rfl, by go_num, rfl, by go_num, by omega, by omega, by omega, hz1, by omega, HK2⟩
                    case measure => simp [intOf]; omega
                  · have HK2 : Hid (mk m (k + 1) = some (true, b, a + 1)) := mk_after m k b a hklt HK.out h46 d1 d2
                    go_wp2
                    go_round
                    case rel => exact ⟨true, z, b, a + 1, k + 1, HD, rfl, rfl, by go_num, by go_num, by omega, by omega, by omega, hz1, by omega, HK2⟩
                    case measure => simp [intOf]; omega
                · have HR : Hid (Pl.numKindT (tl s) = 0) := nk_none HM.out (mk_bad m k b a d hklt HK.out h46 hdg)
                  by_cases d1 : (48 : Int) ≤ (m[k].toNat : Int)
                  · have d2 : ¬ (m[k].toNat : Int) ≤ 57 := fun h => hdg ⟨d1, h⟩
                    clear hdg
                    go_wp2
                    go_ret
                    exact ⟨ret_dt HR.out rfl, rfl⟩
                  · clear hdg
                    go_wp2
                    go_ret
                    exact ⟨ret_dt HR.out rfl, rfl⟩
              · rcases HD.out with ⟨rfl, hz⟩ | ⟨rfl, hz⟩
                · have HK2 : Hid (mk m (k + 1) = some (true, b, a)) := mk_dot m k b a hklt HK.out h46
                  have hz3 : z < 0 := by omega
                  clear hz
                  go_wp2
                  go_round
                  case rel => exact ⟨true, k, b, a, k + 1, .inr ⟨rfl, by omega⟩, rfl, rfl, rfl, by go_num, by omega, by omega, by omega, by omega, by omega, HK2⟩
                  case measure => simp [intOf]; omega
                · have HR : Hid (Pl.numKindT (tl s) = 0) := nk_none HM.out (mk_dot2 m k b a hklt HK.out h46)
                  go_wp2
                  go_ret
                  exact ⟨ret_dt HR.out rfl, rfl⟩
            · obtain rfl : k = m.size := by omega
              have HKE : Hid (Pl.mfold (txt m) = some (d, b, a)) := by show _ = _; rw [← mk_end]; exact HK.out
              clear HK
              have HK := HKE
              clear HKE
              rcases ex_sign ex with ⟨g1, g4⟩ | ⟨g1, g2, g3, g4⟩ | ⟨g1, g2, g4⟩ | ⟨g1, g2, g3, g4⟩
              · have HSG : Hid (Pl.sgn (txt ex) = 0) := g4
                clear g4
                have HR : Hid (Pl.numKindT (tl s) = 0) := by show _ = _; rw [nk_exp HM.out HK.out HRE.out, ex_none ex 0 HSG.out (by omega)]; rfl
                go_wp2
                go_ret
                exact ⟨ret_dt HR.out rfl, rfl⟩
              · have HSG : Hid (Pl.sgn (txt ex) = 0) := g4
                clear g4
                go_wp2
                go_loop [14] (fun s14 => ∃ q : Nat, 0 ≤ q ∧ q ≤ ex.size ∧ s14 = .int .i64 q ∧ Hid (∀ k (h : k < ex.size), 0 ≤ k → k < q → Pl.dig ex[k] = true)) (fun s14 => ex.size - (intOf s14).toNat)
                case atStart => exact ⟨0, by omega, by omega, rfl, fun k _ h1 h2 => by omega⟩
                case round =>
                  obtain ⟨q, hq0, hql, rfl, HQ⟩ := hrel
                  by_cases hqlt : q < ex.size
                  · by_cases hdg : (48 : Int) ≤ (ex[q].toNat : Int) ∧ (ex[q].toNat : Int) ≤ 57
                    · obtain ⟨d1, d2⟩ := hdg
                      go_wp2
                      go_round
                      case rel =>
                        refine ⟨q + 1, by omega, by omega, by go_num, fun k h h1 h2 => ?_⟩
                        by_cases e : k = q
                        · subst e; exact dig_of d1 d2
                        · exact HQ.out k h h1 (by omega)
                      case measure => simp [intOf]; omega
                    · have HR : Hid (Pl.numKindT (tl s) = 0) := by show _ = _; rw [nk_exp HM.out HK.out HRE.out, ex_bad ex 0 q HSG.out hq0 hqlt (dig_not hdg)]; rfl
                      by_cases d1 : (48 : Int) ≤ (ex[q].toNat : Int)
                      · have d2 : ¬ (ex[q].toNat : Int) ≤ 57 := fun h => hdg ⟨d1, h⟩
                        clear hdg
                        go_wp2
                        go_ret
                        exact ⟨ret_dt HR.out rfl, rfl⟩
                      · clear hdg
                        go_wp2
                        go_ret
                        exact ⟨ret_dt HR.out rfl, rfl⟩
                  · obtain rfl : q = ex.size := by omega
                    have HX : Hid (Pl.exOk (txt ex) = true) := ex_ok ex 0 HSG.out (by omega) (fun k h h1 => HQ.out k h h1 h)
                    by_cases hba : b + a = 0
                    · obtain rfl : b = 0 := by omega
                      obtain rfl : a = 0 := by omega
                      have HR : Hid (Pl.numKindT (tl s) = 0) := by show _ = _; rw [nk_exp HM.out HK.out HRE.out, HX.out]; rfl
                      go_wp2
                      go_ret
                      exact ⟨ret_dt HR.out rfl, rfl⟩
                    · have HR : Hid (Pl.numKindT (tl s) = 3) := by
                        have hz : (b + a == 0) = false := by rw [beq_eq_false_iff_ne]; exact hba
                        show _ = _; rw [nk_exp HM.out HK.out HRE.out, HX.out, hz]; rfl
                      go_wp2
                      go_ret
                      exact ⟨ret_dt HR.out rfl, rfl⟩
              · have HSG : Hid (Pl.sgn (txt ex) = 1) := g4
                clear g4
                by_cases h1 : ex.size = 1
                · have h1b : ex.size ≤ 1 := by omega
                  clear h1
                  have HR : Hid (Pl.numKindT (tl s) = 0) := by show _ = _; rw [nk_exp HM.out HK.out HRE.out, ex_none ex 1 HSG.out (by omega)]; rfl
                  go_wp2
                  go_ret
                  exact ⟨ret_dt HR.out rfl, rfl⟩
                · have h1a : 1 < ex.size := by omega
                  clear h1
                  go_wp2
                  go_loop [14] (fun s14 => ∃ q : Nat, 1 ≤ q ∧ q ≤ ex.size ∧ s14 = .int .i64 q ∧ Hid (∀ k (h : k < ex.size), 1 ≤ k → k < q → Pl.dig ex[k] = true)) (fun s14 => ex.size - (intOf s14).toNat)
                  case atStart => exact ⟨1, by omega, by omega, rfl, fun k _ h1 h2 => by omega⟩
                  case round =>
                    obtain ⟨q, hq0, hql, rfl, HQ⟩ := hrel
                    by_cases hqlt : q < ex.size
                    · by_cases hdg : (48 : Int) ≤ (ex[q].toNat : Int) ∧ (ex[q].toNat : Int) ≤ 57
                      · obtain ⟨d1, d2⟩ := hdg
                        go_wp2
                        go_round
                        case rel =>
                          refine ⟨q + 1, by omega, by omega, by go_num, fun k h h1 h2 => ?_⟩
                          by_cases e : k = q
                          · subst e; exact dig_of d1 d2
                          · exact HQ.out k h h1 (by omega)
                        case measure => simp [intOf]; omega
                      · have HR : Hid (Pl.numKindT (tl s) = 0) := by show _ = _; rw [nk_exp HM.out HK.out HRE.out, ex_bad ex 1 q HSG.out hq0 hqlt (dig_not hdg)]; rfl
                        by_cases d1 : (48 : Int) ≤ (ex[q].toNat : Int)
                        · have d2 : ¬ (ex[q].toNat : Int) ≤ 57 := fun h => hdg ⟨d1, h⟩
                          clear hdg
                          go_wp2
                          go_ret
                          exact ⟨ret_dt HR.out rfl, rfl⟩
                        · clear hdg
                          go_wp2
                          go_ret
                          exact ⟨ret_dt HR.out rfl, rfl⟩
                    · obtain rfl : q = ex.size := by omega
                      have HX : Hid (Pl.exOk (txt ex) = true) := ex_ok ex 1 HSG.out (by omega) (fun k h h1 => HQ.out k h h1 h)
                      by_cases hba : b + a = 0
                      · obtain rfl : b = 0 := by omega
                        obtain rfl : a = 0 := by omega
                        have HR : Hid (Pl.numKindT (tl s) = 0) := by show _ = _; rw [nk_exp HM.out HK.out HRE.out, HX.out]; rfl
                        go_wp2
                        go_ret
                        exact ⟨ret_dt HR.out rfl, rfl⟩
                      · have HR : Hid (Pl.numKindT (tl s) = 3) := by
                          have hz : (b + a == 0) = false := by rw [beq_eq_false_iff_ne]; exact hba
                          show _ = _; rw [nk_exp HM.out HK.out HRE.out, HX.out, hz]; rfl
                        go_wp2
                        go_ret
                        exact ⟨ret_dt HR.out rfl, rfl⟩
              · have HSG : Hid (Pl.sgn (txt ex) = 1) := g4
                clear g4
                by_cases h1 : ex.size = 1
                · have h1b : ex.size ≤ 1 := by omega
                  clear h1
                  have HR : Hid (Pl.numKindT (tl s) = 0) := by show _ = _; rw [nk_exp HM.out HK.out HRE.out, ex_none ex 1 HSG.out (by omega)]; rfl
                  go_wp2
                  go_ret
                  exact ⟨ret_dt HR.out rfl, rfl⟩
                · have h1a : 1 < ex.size := by omega
                  clear h1
                  go_wp2
                  go_loop [14] (fun s14 => ∃ q : Nat, 1 ≤ q ∧ q ≤ ex.size ∧ s14 = .int .i64 q ∧ Hid (∀ k (h : k < ex.size), 1 ≤ k → k < q → Pl.dig ex[k] = true)) (fun s14 => ex.size - (intOf s14).toNat)
                  case atStart => exact ⟨1, by omega, by omega, rfl, fun k _ h1 h2 => by omega⟩
                  case round =>
                    obtain ⟨q, hq0, hql, rfl, HQ⟩ := hrel
                    by_cases hqlt : q < ex.size
                    · by_cases hdg : (48 : Int) ≤ (ex[q].toNat : Int) ∧ (ex[q].toNat : Int) ≤ 57
                      · obtain ⟨d1, d2⟩ := hdg
                        go_wp2
                        go_round
                        case rel =>
                          refine ⟨q + 1, by omega, by omega, by go_num, fun k h h1 h2 => ?_⟩
                          by_cases e : k = q
                          · subst e; exact dig_of d1 d2
                          · exact HQ.out k h h1 (by omega)
                        case measure => simp [intOf]; omega
                      · have HR : Hid (Pl.numKindT (tl s) = 0) := by show _ = _; rw [nk_exp HM.out HK.out HRE.out, ex_bad ex 1 q HSG.out hq0 hqlt (dig_not hdg)]; rfl
                        by_cases d1 : (48 : Int) ≤ (ex[q].toNat : Int)
                        · have d2 : ¬ (ex[q].toNat : Int) ≤ 57 := fun h => hdg ⟨d1, h⟩
                          clear hdg
                          go_wp2
                          go_ret
                          exact ⟨ret_dt HR.out rfl, rfl⟩
                        · clear hdg
                          go_wp2
                          go_ret
                          exact ⟨ret_dt HR.out rfl, rfl⟩
                    · obtain rfl : q = ex.size := by omega
                      have HX : Hid (Pl.exOk (txt ex) = true) := ex_ok ex 1 HSG.out (by omega) (fun k h h1 => HQ.out k h h1 h)
                      by_cases hba : b + a = 0
                      · obtain rfl : b = 0 := by omega
                        obtain rfl : a = 0 := by omega
                        have HR : Hid (Pl.numKindT (tl s) = 0) := by show _ = _; rw [nk_exp HM.out HK.out HRE.out, HX.out]; rfl
                        go_wp2
                        go_ret
                        exact ⟨ret_dt HR.out rfl, rfl⟩
                      · have HR : Hid (Pl.numKindT (tl s) = 3) := by
                          have hz : (b + a == 0) = false := by rw [beq_eq_false_iff_ne]; exact hba
                          show _ = _; rw [nk_exp HM.out HK.out HRE.out, HX.out, hz]; rfl
                        go_wp2
                        go_ret
                        exact ⟨ret_dt HR.out rfl, rfl⟩
      · have HC : Hid (Cut s (s.extract 0 j) (s.extract (j + 1) s.size) true) := by
          have hx := mant_at s 0 j h0.out hnj hlt HN.out (isE_of (.inl h101))
          exact ⟨hx.1, by rw [ByteArray.size_extract]; omega, by rw [ByteArray.size_extract]; omega, .inr ⟨rfl, _, hx.2⟩⟩
        go_wp2
        obtain ⟨m, hme⟩ : ∃ m, s.extract 0 j = m := ⟨_, rfl⟩
        rw [hme] at HC ⊢
        have HM : Hid (Pl.mant (tl s) = txt m) := HC.out.1
        have hm : m.size ≤ 1048576 := Nat.le_trans HC.out.2.1 hs
        clear hme
        obtain ⟨ex, hexe⟩ : ∃ ex, s.extract (j + 1) s.size = ex := ⟨_, rfl⟩
        rw [hexe] at HC ⊢
        have hex : ex.size ≤ 1048576 := Nat.le_trans HC.out.2.2.1 hs
        obtain ⟨c, hre⟩ : ∃ c, Pl.rest (tl s) = c :: txt ex := by
          rcases HC.out.2.2.2 with ⟨h, _⟩ | ⟨_, h⟩
          · cases h
          · exact h
        have HRE : Hid (Pl.rest (tl s) = c :: txt ex) := hre
        clear hexe hre HC
        go_loop [9, 10, 11, 12] (fun s9 s10 s11 s12 => ∃ (d : Bool) (z : Int) (b a k : Nat), Hid (Dot d z) ∧ s9 = .int .i64 z ∧ s10 = .int .i64 b ∧ s11 = .int .i64 a ∧ s12 = .int .i64 k ∧ k ≤ m.size ∧ b ≤ k ∧ a ≤ k ∧ -1 ≤ z ∧ z ≤ k ∧ Hid (mk m k = some (d, b, a))) (fun _ _ _ s12 => m.size - (intOf s12).toNat)
        case atStart => exact ⟨false, -1, 0, 0, 0, .inl ⟨rfl, rfl⟩, rfl, rfl, rfl, rfl, Nat.zero_le _, Nat.le_refl _, Nat.le_refl _, by omega, by omega, rfl⟩
        case round =>
          obtain ⟨d, z, b, a, k, HD, rfl, rfl, rfl, rfl, hk, hb, ha, hz1, hz2, HK⟩ := hrel
          by_cases hklt : k < m.size
          · cases h46 : ((m[k].toNat : Int) == 46)
            · by_cases hdg : (48 : Int) ≤ (m[k].toNat : Int) ∧ (m[k].toNat : Int) ≤ 57
              · obtain ⟨d1, d2⟩ := hdg
                rcases HD.out with ⟨rfl, hz⟩ | ⟨rfl, hz⟩
                · have HK2 : Hid (mk m (k + 1) = some (false, b + 1, a)) := mk_before m k b a hklt HK.out h46 d1 d2
                  have hz3 : z < 0 := by omega
                  clear hz
                  go_wp2
                  go_round
                  case rel => exact ⟨false, z, b + 1, a, k + 1, HD, rfl, by go_num, rfl, by go_num, by omega, by omega, by omega, hz1, by omega, HK2⟩
                  case measure => simp [intOf]; omega
                · have HK2 : Hid (mk m (k + 1) = some (true, b, a + 1)) := mk_after m k b a hklt HK.out h46 d1 d2
                  go_wp2
                  go_round
                  case rel => exact ⟨true, z, b, a + 1, k + 1, HD, rfl, rfl, by go_num, by go_num, by omega, by omega, by omega, hz1, by omega, HK2⟩
                  case measure => simp [intOf]; omega
              · have HR : Hid (Pl.numKindT (tl s) = 0) := nk_none HM.out (mk_bad m k b a d hklt HK.out h46 hdg)
                by_cases d1 : (48 : Int) ≤ (m[k].toNat : Int)
                · have d2 : ¬ (m[k].toNat : Int) ≤ 57 := fun h => hdg ⟨d1, h⟩
                  clear hdg
                  go_wp2
                  go_ret
                  exact ⟨ret_dt HR.out rfl, rfl⟩
                · clear hdg
                  go_wp2
                  go_ret
                  exact ⟨ret_dt HR.out rfl, rfl⟩
            · rcases HD.out with ⟨rfl, hz⟩ | ⟨rfl, hz⟩
              · have HK2 : Hid (mk m (k + 1) = some (true, b, a)) := mk_dot m k b a hklt HK.out h46
                have hz3 : z < 0 := by omega
                clear hz
                go_wp2
                go_round
                case rel => exact ⟨true, k, b, a, k + 1, .inr ⟨rfl, by omega⟩, rfl, rfl, rfl, by go_num, by omega, by omega, by omega, by omega, by omega, HK2⟩
                case measure => simp [intOf]; omega
              · have HR : Hid (Pl.numKindT (tl s) = 0) := nk_none HM.out (mk_dot2 m k b a hklt HK.out h46)
                go_wp2
                go_ret
                exact ⟨ret_dt HR.out rfl, rfl⟩
          · obtain rfl : k = m.size := by omega
            have HKE : Hid (Pl.mfold (txt m) = some (d, b, a)) := by show _ = _; rw [← mk_end]; exact HK.out
            clear HK
            have HK := HKE
            clear HKE
            rcases ex_sign ex with ⟨g1, g4⟩ | ⟨g1, g2, g3, g4⟩ | ⟨g1, g2, g4⟩ | ⟨g1, g2, g3, g4⟩
            · have HSG : Hid (Pl.sgn (txt ex) = 0) := g4
              clear g4
              have HR : Hid (Pl.numKindT (tl s) = 0) := by show _ = _; rw [nk_exp HM.out HK.out HRE.out, ex_none ex 0 HSG.out (by omega)]; rfl
              go_wp2
              go_ret
              exact ⟨ret_dt HR.out rfl, rfl⟩
            · have HSG : Hid (Pl.sgn (txt ex) = 0) := g4
              clear g4
              go_wp2
              go_loop [14] (fun s14 => ∃ q : Nat, 0 ≤ q ∧ q ≤ ex.size ∧ s14 = .int .i64 q ∧ Hid (∀ k (h : k < ex.size), 0 ≤ k → k < q → Pl.dig ex[k] = true)) (fun s14 => ex.size - (intOf s14).toNat)
              case atStart => exact ⟨0, by omega, by omega, rfl, fun k _ h1 h2 => by omega⟩
              case round =>
                obtain ⟨q, hq0, hql, rfl, HQ⟩ := hrel
                by_cases hqlt : q < ex.size
                · by_cases hdg : (48 : Int) ≤ (ex[q].toNat : Int) ∧ (ex[q].toNat : Int) ≤ 57
                  · obtain ⟨d1, d2⟩ := hdg
                    go_wp2
                    go_round
                    case rel =>
                      refine ⟨q + 1, by omega, by omega, by go_num, fun k h h1 h2 => ?_⟩
                      by_cases e : k = q
                      · subst e; exact dig_of d1 d2
                      · exact HQ.out k h h1 (by omega)
                    case measure => simp [intOf]; omega
                  · have HR : Hid (Pl.numKindT (tl s) = 0) := by show _ = _; rw [nk_exp HM.out HK.out HRE.out, ex_bad ex 0 q HSG.out hq0 hqlt (dig_not hdg)]; rfl
                    by_cases d1 : (48 : Int) ≤ (ex[q].toNat : Int)
                    · have d2 : ¬ (ex[q].toNat : Int) ≤ 57 := fun h => hdg ⟨d1, h⟩
                      clear hdg
                      go_wp2
                      go_ret
                      exact ⟨ret_dt HR.out rfl, rfl⟩
                    · clear hdg
                      go_wp2
                      go_ret
                      exact ⟨ret_dt HR.out rfl, rfl⟩
                · obtain rfl : q = ex.size := by omega
                  have HX : Hid (Pl.exOk (txt ex) = true) := ex_ok ex 0 HSG.out (by omega) (fun k h h1 => HQ.out k h h1 h)
                  by_cases hba : b + a = 0
                  · obtain rfl : b = 0 := by omega
                    obtain rfl : a = 0 := by omega
                    have HR : Hid (Pl.numKindT (tl s) = 0) := by show _ = _; rw [nk_exp HM.out HK.out HRE.out, HX.out]; rfl
                    go_wp2
                    go_ret
                    exact ⟨ret_dt HR.out rfl, rfl⟩
                  · have HR : Hid (Pl.numKindT (tl s) = 3) := by
                      have hz : (b + a == 0) = false := by rw [beq_eq_false_iff_ne]; exact hba
                      show _ = _; rw [nk_exp HM.out HK.out HRE.out, HX.out, hz]; rfl
                    go_wp2
                    go_ret
                    exact ⟨ret_dt HR.out rfl, rfl⟩
            · have HSG : Hid (Pl.sgn (txt ex) = 1) := g4
              clear g4
              by_cases h1 : ex.size = 1
              · have h1b : ex.size ≤ 1 := by omega
                clear h1
                have HR : Hid (Pl.numKindT (tl s) = 0) := by show _ = _; rw [nk_exp HM.out HK.out HRE.out, ex_none ex 1 HSG.out (by omega)]; rfl
                go_wp2
                go_ret
                exact ⟨ret_dt HR.out rfl, rfl⟩
              · have h1a : 1 < ex.size := by omega
                clear h1
                go_wp2
                go_loop [14] (fun s14 => ∃ q : Nat, 1 ≤ q ∧ q ≤ ex.size ∧ s14 = .int .i64 q ∧ Hid (∀ k (h : k < ex.size), 1 ≤ k → k < q → Pl.dig ex[k] = true)) (fun s14 => ex.size - (intOf s14).toNat)
                case atStart => exact ⟨1, by omega, by omega, rfl, fun k _ h1 h2 => by omega⟩
                case round =>
                  obtain ⟨q, hq0, hql, rfl, HQ⟩ := hrel
                  by_cases hqlt : q < ex.size
                  · by_cases hdg : (48 : Int) ≤ (ex[q].toNat : Int) ∧ (ex[q].toNat : Int) ≤ 57
                    · obtain ⟨d1, d2⟩ := hdg
                      go_wp2
                      go_round
                      case rel =>
                        refine ⟨q + 1, by omega, by omega, by go_num, fun k h h1 h2 => ?_⟩
                        by_cases e : k = q
                        · subst e; exact dig_of d1 d2
                        · exact HQ.out k h h1 (by omega)
                      case measure => simp [intOf]; omega
                    · have HR : Hid (Pl.numKindT (tl s) = 0) := by show _ = _; rw [nk_exp HM.out HK.out HRE.out, ex_bad ex 1 q HSG.out hq0 hqlt (dig_not hdg)]; rfl
                      by_cases d1 : (48 : Int) ≤ (ex[q].toNat : Int)
                      · have d2 : ¬ (ex[q].toNat : Int) ≤ 57 := fun h => hdg ⟨d1, h⟩
                        clear hdg
                        go_wp2
                        go_ret
                        exact ⟨ret_dt HR.out rfl, rfl⟩
                      · clear hdg
                        go_wp2
                        go_ret
                        exact ⟨ret_dt HR.out rfl, rfl⟩
                  · obtain rfl : q = ex.size := by omega
                    have HX : Hid (Pl.exOk (txt ex) = true) := ex_ok ex 1 HSG.out (by omega) (fun k h h1 => HQ.out k h h1 h)
                    by_cases hba : b + a = 0
                    · obtain rfl : b = 0 := by omega
                      obtain rfl : a = 0 := by omega
                      have HR : Hid (Pl.numKindT (tl s) = 0) := by show _ = _; rw [nk_exp HM.out HK.out HRE.out, HX.out]; rfl
                      go_wp2
                      go_ret
                      exact ⟨ret_dt HR.out rfl, rfl⟩
                    · have HR : Hid (Pl.numKindT (tl s) = 3) := by
                        have hz : (b + a == 0) = false := by rw [beq_eq_false_iff_ne]; exact hba
                        show _ = _; rw [nk_exp HM.out HK.out HRE.out, HX.out, hz]; rfl
                      go_wp2
                      go_ret
                      exact ⟨ret_dt HR.out rfl, rfl⟩
            · have HSG : Hid (Pl.sgn (txt ex) = 1) := g4
              clear g4
              by_cases h1 : ex.size = 1
              · have h1b : ex.size ≤ 1 := by omega
                clear h1
                have HR : Hid (Pl.numKindT (tl s) = 0) := by show _ = _; rw [nk_exp HM.out HK.out HRE.out, ex_none ex 1 HSG.out (by omega)]; rfl
                go_wp2
                go_ret
                exact ⟨ret_dt HR.out rfl, rfl⟩
              · have h1a : 1 < ex.size := by omega
                clear h1
                go_wp2
                go_loop [14] (fun s14 => ∃ q : Nat, 1 ≤ q ∧ q ≤ ex.size ∧ s14 = .int .i64 q ∧ Hid (∀ k (h : k < ex.size), 1 ≤ k → k < q → Pl.dig ex[k] = true)) (fun s14 => ex.size - (intOf s14).toNat)
                case atStart => exact ⟨1, by omega, by omega, rfl, fun k _ h1 h2 => by omega⟩
                case round =>
                  obtain ⟨q, hq0, hql, rfl, HQ⟩ := hrel
                  by_cases hqlt : q < ex.size
                  · by_cases hdg : (48 : Int) ≤ (ex[q].toNat : Int) ∧ (ex[q].toNat : Int) ≤ 57
                    · obtain ⟨d1, d2⟩ := hdg
                      go_wp2
                      go_round
                      case rel =>
                        refine ⟨q + 1, by omega, by omega, by go_num, fun k h h1 h2 => ?_⟩
                        by_cases e : k = q
                        · subst e; exact dig_of d1 d2
                        · exact HQ.out k h h1 (by omega)
                      case measure => simp [intOf]; omega
                    · have HR : Hid (Pl.numKindT (tl s) = 0) := by show _ = _; rw [nk_exp HM.out HK.out HRE.out, ex_bad ex 1 q HSG.out hq0 hqlt (dig_not hdg)]; rfl
                      by_cases d1 : (48 : Int) ≤ (ex[q].toNat : Int)
                      · have d2 : ¬ (ex[q].toNat : Int) ≤ 57 := fun h => hdg ⟨d1, h⟩
                        clear hdg
                        go_wp2
                        go_ret
                        exact ⟨ret_dt HR.out rfl, rfl⟩
                      · clear hdg
                        go_wp2
                        go_ret
                        exact ⟨ret_dt HR.out rfl, rfl⟩
                  · obtain rfl : q = ex.size := by omega
                    have HX : Hid (Pl.exOk (txt ex) = true) := ex_ok ex 1 HSG.out (by omega) (fun k h h1 => HQ.out k h h1 h)
                    by_cases hba : b + a = 0
                    · obtain rfl : b = 0 := by omega
                      obtain rfl : a = 0 := by omega
                      have HR : Hid (Pl.numKindT (tl s) = 0) := by show _ = _; rw [nk_exp HM.out HK.out HRE.out, HX.out]; rfl
                      go_wp2
                      go_ret
                      exact ⟨ret_dt HR.out rfl, rfl⟩
                    · have HR : Hid (Pl.numKindT (tl s) = 3) := by
                        have hz : (b + a == 0) = false := by rw [beq_eq_false_iff_ne]; exact hba
                        show _ = _; rw [nk_exp HM.out HK.out HRE.out, HX.out, hz]; rfl
                      go_wp2
                      go_ret
                      exact ⟨ret_dt HR.out rfl, rfl⟩
    · obtain rfl : j = s.size := by omega
      have HC : Hid (Cut s (s.extract 0 s.size) ⟨#[]⟩ false) := by
        have hx := mant_end s 0 h0.out HN.out
        exact ⟨hx.1, by rw [ByteArray.size_extract]; omega, Nat.zero_le _, .inl ⟨rfl, hx.2⟩⟩
      go_wp2
      have hex0 : s.extract 0 s.size = s := extract_all s
      rw [hex0] at HC
      have HM : Hid (Pl.mant (tl s) = txt s) := HC.out.1
      have hm : s.size ≤ 1048576 := hs
      clear hex0
      have HRE : Hid (Pl.rest (tl s) = []) := by
        rcases HC.out.2.2.2 with ⟨_, h⟩ | ⟨h, _⟩
        · exact h
        · cases h
      clear HC
      go_loop [9, 10, 11, 12] (fun s9 s10 s11 s12 => ∃ (d : Bool) (z : Int) (b a k : Nat), Hid (Dot d z) ∧ s9 = .int .i64 z ∧ s10 = .int .i64 b ∧ s11 = .int .i64 a ∧ s12 = .int .i64 k ∧ k ≤ s.size ∧ b ≤ k ∧ a ≤ k ∧ -1 ≤ z ∧ z ≤ k ∧ Hid (mk s k = some (d, b, a))) (fun _ _ _ s12 => s.size - (intOf s12).toNat)
      case atStart => exact ⟨false, -1, 0, 0, 0, .inl ⟨rfl, rfl⟩, rfl, rfl, rfl, rfl, Nat.zero_le _, Nat.le_refl _, Nat.le_refl _, by omega, by omega, rfl⟩
      case round =>
        obtain ⟨d, z, b, a, k, HD, rfl, rfl, rfl, rfl, hk, hb, ha, hz1, hz2, HK⟩ := hrel
        by_cases hklt : k < s.size
        · cases h46 : ((s[k].toNat : Int) == 46)
          · by_cases hdg : (48 : Int) ≤ (s[k].toNat : Int) ∧ (s[k].toNat : Int) ≤ 57
            · obtain ⟨d1, d2⟩ := hdg
              rcases HD.out with ⟨rfl, hz⟩ | ⟨rfl, hz⟩
              · have HK2 : Hid (mk s (k + 1) = some (false, b + 1, a)) := mk_before s k b a hklt HK.out h46 d1 d2
                have hz3 : z < 0 := by omega
                clear hz
                go_wp2
                go_round
                case rel => exact ⟨false, z, b + 1, a, k + 1, HD, rfl, by go_num, rfl, by go_num, by omega, by omega, by omega, hz1, by omega, HK2⟩
                case measure => simp [intOf]; omega
              · have HK2 : Hid (mk s (k + 1) = some (true, b, a + 1)) := mk_after s k b a hklt HK.out h46 d1 d2
                go_wp2
                go_round
                case rel => exact ⟨true, z, b, a + 1, k + 1, HD, rfl, rfl, by go_num, by go_num, by omega, by omega, by omega, hz1, by omega, HK2⟩
                case measure => simp [intOf]; omega
            · have HR : Hid (Pl.numKindT (tl s) = 0) := nk_none HM.out (mk_bad s k b a d hklt HK.out h46 hdg)
              by_cases d1 : (48 : Int) ≤ (s[k].toNat : Int)
              · have d2 : ¬ (s[k].toNat : Int) ≤ 57 := fun h => hdg ⟨d1, h⟩
                clear hdg
                go_wp2
                go_ret
                exact ⟨ret_dt HR.out rfl, rfl⟩
              · clear hdg
                go_wp2
                go_ret
                exact ⟨ret_dt HR.out rfl, rfl⟩
          · rcases HD.out with ⟨rfl, hz⟩ | ⟨rfl, hz⟩
            · have HK2 : Hid (mk s (k + 1) = some (true, b, a)) := mk_dot s k b a hklt HK.out h46
              have hz3 : z < 0 := by omega
              clear hz
              go_wp2
              go_round
              case rel => exact ⟨true, k, b, a, k + 1, .inr ⟨rfl, by omega⟩, rfl, rfl, rfl, by go_num, by omega, by omega, by omega, by omega, by omega, HK2⟩
              case measure => simp [intOf]; omega
            · have HR : Hid (Pl.numKindT (tl s) = 0) := nk_none HM.out (mk_dot2 s k b a hklt HK.out h46)
              go_wp2
              go_ret
              exact ⟨ret_dt HR.out rfl, rfl⟩
        · obtain rfl : k = s.size := by omega
          have HKE : Hid (Pl.mfold (txt s) = some (d, b, a)) := by show _ = _; rw [← mk_end]; exact HK.out
          clear HK
          have HK := HKE
          clear HKE
          rcases HD.out with ⟨rfl, hz⟩ | ⟨rfl, hz⟩
          · have hz3 : z < 0 := by omega
            clear hz
            by_cases hb0 : b = 0
            · subst hb0
              have HR : Hid (Pl.numKindT (tl s) = 0) := by show _ = _; rw [nk_plain HM.out HK.out HRE.out]; rfl
              go_wp2
              go_ret
              exact ⟨ret_dt HR.out rfl, rfl⟩
            · have HR : Hid (Pl.numKindT (tl s) = 1) := by
                have hz : (b == 0) = false := by rw [beq_eq_false_iff_ne]; exact hb0
                show _ = _; rw [nk_plain HM.out HK.out HRE.out, hz]; rfl
              go_wp2
              go_ret
              exact ⟨ret_dt HR.out rfl, rfl⟩
          · by_cases ha0 : a = 0
            · subst ha0
              have HR : Hid (Pl.numKindT (tl s) = 0) := by show _ = _; rw [nk_plain HM.out HK.out HRE.out]; rfl
              go_wp2
              go_ret
              exact ⟨ret_dt HR.out rfl, rfl⟩
            · have HR : Hid (Pl.numKindT (tl s) = 2) := by
                have hz : (a == 0) = false := by rw [beq_eq_false_iff_ne]; exact ha0
                show _ = _; rw [nk_plain HM.out HK.out HRE.out, hz]; rfl
              go_wp2
              go_ret
              exact ⟨ret_dt HR.out rfl, rfl⟩

end Go.Proofs.Qxb6609053a

/-
  'Rows.LawS1846CModelSaid': the frame by the kit's proof-skeleton tool; the walk filled.
-/
import Derived.Test.YbulkalfaRows
import Derived.Test.YbulkalfaGcd
import Derived.WalkKit
import Derived.ProofKit
import Derived.OpenShut
import Derived.ShutString
namespace Go.Proofs.Ybulkalfa.lawS1846CModel
open Go.ChangeShapes Go.WideShapes Go.ChangeAt Go.RowKit
open Go.ChangeMaps (open_string shut_string)
set_option linter.unusedVariables false      -- a walk need not use every 'w<i>' (that an integer argument fits its kind)

theorem own : ownKnob Yba.prog.godebug = none := by kernel_rfl

/-! ### THE PLAIN LAWS -/
theorem cd_eq (a b d : Int) (ha : 0 ≤ a) (hb : 0 ≤ b) (hn : ¬ (a = 0 ∧ b = 0)) (hd : 1 ≤ d) (h : gcdI a b ≤ d) (h1 : a % d = 0) (h2 : b % d = 0) : d = gcdI a b := by
  obtain ⟨m, rfl⟩ := Int.eq_ofNat_of_zero_le ha
  obtain ⟨n, rfl⟩ := Int.eq_ofNat_of_zero_le hb
  obtain ⟨k, rfl⟩ := Int.eq_ofNat_of_zero_le (show 0 ≤ d by omega)
  have hp := gcdI_ne (m : Int) (n : Int) ha hb hn
  unfold gcdI at *
  rw [Int.toNat_natCast, Int.toNat_natCast] at *
  have d1 : k ∣ m := Nat.dvd_of_mod_eq_zero (by omega)
  have d2 : k ∣ n := Nat.dvd_of_mod_eq_zero (by omega)
  have := Nat.le_of_dvd (by omega) (Nat.dvd_gcd d1 d2)
  omega

theorem cd_lt (a b d : Int) (ha : 0 ≤ a) (hb : 0 ≤ b) (h : gcdI a b ≤ d) (hc : ¬ (a % d = 0 ∧ b % d = 0)) : gcdI a b ≤ d - 1 := by
  have : gcdI a b ≠ d := by
    intro e
    exact hc ⟨by rw [← e]; exact gcdI_dvd_left a b ha, by rw [← e]; exact gcdI_dvd_right a b hb⟩
  omega

/-! ### THE CONTRACT OF 'zzs1846cmodel' (function 17) -/
set_option maxHeartbeats 1000000 in
theorem model_any (a b : Int) (w : World) (ha0 : 0 ≤ a) (ha1 : a ≤ 299) (hb0 : 0 ≤ b) (hb1 : b ≤ 299) :
    Calls Yba.prog 17 #[.int .u64 a, .int .u64 b] w fun e w' => e = .returned (.int .u64 (gcdI a b)) ∧ w' = w := by
  by_cases hz : a = 0 ∧ b = 0
  · obtain ⟨rfl, rfl⟩ := hz
    have HZ : Hid (gcdI 0 0 = 0) := gcdI_zero 0 (by omega)
    go_enter Yba.func17, Yba.ntmps17
    go_wp2
    go_ret
    exact ⟨ret_int HZ.out.symm, rfl⟩
  · have gp := gcdI_ne a b ha0 hb0 hz
    have HN : Hid (¬ (a = 0 ∧ b = 0)) := hz
    clear hz
    have key : ((a == 0) = true ∧ (b == 0) = false ∧ a < b) ∨ ((a == 0) = false ∧ a < b) ∨ ((a == 0) = false ∧ ¬ a < b) := by
      have := HN.out
      simp only [beq_iff_eq, beq_eq_false_iff_ne]
      omega
    have HM : Hid (gcdI a b ≤ a ∨ a < b) := by
      by_cases h : a < b
      · exact Or.inr h
      · exact Or.inl (gcdI_le_left a b (by have := HN.out; omega))
    have HM' : Hid (gcdI a b ≤ b ∨ ¬ a < b) := by
      by_cases h : a < b
      · exact Or.inl (by rw [gcdI_comm]; exact gcdI_le_left b a (by omega))
      · exact Or.inr h
    rcases key with ⟨k1, k2, k3⟩ | ⟨k1, k3⟩ | ⟨k1, k3⟩
    all_goals
      go_enter Yba.func17, Yba.ntmps17
      go_wp2
      go_loop [6] (fun d => ∃ k : Int, d = .int .u64 k ∧ 1 ≤ k ∧ k ≤ 299 ∧ gcdI a b ≤ k) (fun d => (intOf d).toNat)
      case atStart =>
        have := HM.out
        have := HM'.out
        exact ⟨_, rfl, by omega, by omega, by omega⟩
      case round =>
        obtain ⟨k, rfl, hk1, hk2, hk3⟩ := hrel
        by_cases c1 : a % k = 0
        · have t1 : (a % k == 0) = true := by rw [beq_iff_eq]; exact c1
          by_cases c2 : b % k = 0
          · have t2 : (b % k == 0) = true := by rw [beq_iff_eq]; exact c2
            have HE : Hid (k = gcdI a b) := cd_eq a b k ha0 hb0 HN.out hk1 hk3 c1 c2
            clear c1 c2
            go_wp2
            go_ret
            exact ⟨ret_int HE.out, rfl⟩
          · have t2 : (b % k == 0) = false := by rw [beq_eq_false_iff_ne]; exact c2
            have hl : gcdI a b ≤ k - 1 := cd_lt a b k ha0 hb0 hk3 (fun h => c2 h.2)
            clear c1 c2
            go_wp2
            go_round
            case rel => exact ⟨k - 1, rfl, by omega, by omega, hl⟩
            case measure => simp [intOf]; omega
        · have t1 : (a % k == 0) = false := by rw [beq_eq_false_iff_ne]; exact c1
          have hl : gcdI a b ≤ k - 1 := cd_lt a b k ha0 hb0 hk3 (fun h => c1 h.1)
          clear c1
          go_wp2
          go_round
          case rel => exact ⟨k - 1, rfl, by omega, by omega, hl⟩
          case measure => simp [intOf]; omega

/-! ### STEP 1: THE WALK: the Go text returns true. 'Grown w w'': the world has at most new blocks (Derived/RowKit3.lean). Part the cases AHEAD of 'go_enter' where a test parts the walk; take each callee by a contract of your own. -/
theorem walk (a0 : Int) (a1 : Int) (w0 : (Lit.int .u16 a0).wf = true) (w1 : (Lit.int .u16 a1).wf = true) (w : World) :
    Calls Yba.prog 7 #[.int .u16 a0, .int .u16 a1] w fun e w' => e = .returned (.bool true) ∧ Grown w w' := by
  obtain ⟨x0, x1⟩ := bounds_u16 w0
  obtain ⟨y0, y1⟩ := bounds_u16 w1
  have p0 : 0 ≤ a0 % 300 := by omega
  have p1 : a0 % 300 ≤ 299 := by omega
  have q0 : 0 ≤ a1 % 300 := by omega
  have q1 : a1 % 300 ≤ 299 := by omega
  go_enter Yba.func7, Yba.ntmps7
  go_wp2_with fail
  refine (gcd_any _ _ _ (by omega) (by omega) (by omega) (by omega)).mono ?_
  rintro e w' ⟨rfl, n, rfl⟩
  go_wp2_with fail
  refine (model_any _ _ _ (by omega) (by omega) (by omega) (by omega)).mono ?_
  rintro e w' ⟨rfl, rfl⟩
  go_wp2
  go_ret
  exact ⟨rfl, drewN_grown _ _⟩

/-! ### THE ROW's STEP: WRITTEN OUT: LEAVE IT -/
set_option maxRecDepth 100000 in
theorem lifted (os : Os) (started : os.Started) (H : Type) (enc : TypeId × Value → H) :
    ReturnsInHanded {} Yba.checked os 7 .any (Rows.lawS1846CModelSpec.pre6 enc Yba.prog Yba.f7 Rows.lawS1846CModelRow.domain false) (Rows.lawS1846CModelSpec.post enc Yba.prog Yba.f7 false true false false) := by
  refine returnsInHanded_of_change (C := Yba.checked) own started (by kernel_rfl) Yba.func7
    (ChangeSpec.witness6 (enc := enc) (C := Yba.checked) false ⟨#[], #[.int .u16 0, .int .u16 0], []⟩ 8 (by kernel_rfl) (by kernel_rfl) (by kernel_rfl) (by kernel_rfl)) ?_
  intro W base args ds gs before hval0 hW hcnd _
  have hval : ∀ (j : Nat) t v, Yba.f7.params[j]? = some t → args[j]? = some v → Value.okWide Yba.prog W .any base t v := hval0
  have hW' := hW
  obtain ⟨p, q, hA0, hV, rfl, hfz, hnd⟩ := hW
  have hA : DataW.TrodAll enc Yba.prog W 0 (fun _ => true) true Yba.f7.params.toList args.toList ds p := hA0
  rw [Yba.params7] at hA hval
  obtain ⟨v0, vs0, d0, ds0, p0, q0, hargs, rfl, rfl, h0, r0⟩ := trodAll_cons hA
  obtain ⟨v1, vs1, d1, ds1, p1, q1, rfl, rfl, rfl, h1, r1⟩ := trodAll_cons r0
  obtain ⟨rfl, rfl, rfl⟩ := trodAll_nil r1
  obtain rfl : args = #[v0, v1] := by cases args; simp_all
  obtain ⟨rfl, rfl⟩ := trodVars_none hV
  obtain ⟨a0, rfl, rfl, rfl, w0⟩ := open_int Yba.underlying30 (hval 0 30 v0 rfl rfl) h0
  obtain ⟨a1, rfl, rfl, rfl, w1⟩ := open_int Yba.underlying30 (hval 1 30 v1 rfl rfl) h1
  clear hA0 hval0
  simp only [List.append_nil] at hW'
  refine (walk a0 a1 w0 w1 W).mono fun e W' ⟨he, hg⟩ => ?_
  subst he
  exact ⟨_, rfl, post_of_same (pa := []) (pv := []) hW' (fun _ _ _ => (trodAll_cons_mk (shut_bool Yba.underlying4 _) trodAll_mk0)) (fun sp _ => (trodAll_cons_mk (shut_int Yba.underlying30 w0) (trodAll_cons_mk (shut_int Yba.underlying30 w1) trodAll_mk0))) (fun _ _ => rfl) rfl
    (hg.frame _) hg.2.1 (ok_one (by kernel_rfl) rfl (okWide_bool_mk Yba.underlying4 _))⟩

theorem over : Rows.lawS1846CModelRow.holds Yba.pinned (OpenSpec.ofChange Rows.lawS1846CModelSpec) :=
  OpenClaim.holds_of_wide 7 Yba.f7 rfl rfl rfl rfl rfl rfl rfl ⟨rfl, rfl, rfl, rfl, rfl⟩ rfl rfl rfl rfl rfl (by kernel_rfl) Yba.func7 (by kernel_rfl)
    (of_decide_eq_true (by kernel_rfl)) (by unfold Func.isWrapper; first | (rw [if_pos (by decide +kernel)]; kernel_rfl) | (rw [if_neg (by decide +kernel)]; exact ⟨rfl, rfl⟩))
    (fun os started H enc _ => lifted os started H enc)

/-- ████ THE STATEMENT ████ -/
theorem proved : Rows.LawS1846CModelSaid :=
  over
end Go.Proofs.Ybulkalfa.lawS1846CModel

/- Texts joined: ChU4, ChU5. -/
import Derived.Test.YtaajmfgplhfncaaB16
import Derived.Test.YtaajmfgplhfncaaB17
import Derived.Test.YtaajmfgplhfncaaB19
import Derived.Test.YtaajmfgplhfncaaB20
import Derived.Test.YtaajmfgplhfncaaB21
namespace Go.Proofs.Ytaajmfgplhfncaa
open Go.RowKit Go.Maps
set_option maxRecDepth 100000
section
variable {w0 w w' wr : World} {B m s sx mb g n gk : Nat} {v0 v4 : Value} {us : List Value} {t' M M1 : Ch} {L : List Ex} {xl : Nat} {a : Act} {k : UInt16} {ed x0 : List UInt8} {cs : Array Value} {K : Act → World → Prop} {Q : Exit → Act → World → Prop}
theorem swt_host (hF : FrA m sx mb g k a) (h1 : k = 0 → ∀ a', FrA m sx mb g k a' → Code.wp Try.prog (chC [true, true, true, true, true, true, true, true, true, true, true, true, true, true, false, false, false, true, false, true, true, true, true, true, true, false, true, false, true, false]) Q a' w) (h2 : k ≠ 0 → ∀ a', FrA m sx mb g k a' → Code.wp Try.prog (chC [true, true, true, true, true, true, true, true, true, true, true, true, true, true, false, false, false, true, false, true, true, true, true, true, true, false, true, false, true, true]) Q a' w) :
    Code.wp Try.prog (chC [true, true, true, true, true, true, true, true, true, true, true, true, true, true, false, false, false, true, false, true, true, true, true, true, true, false, true, false]) Q a w := by
  obtain ⟨f, rfl⟩ := hF.lit
  have d := u16_eq k 0
  rw [show ((0 : UInt16).toNat : Int) = 0 from rfl] at d
  conv => arg 2; whnf
  refine wp_seq_k fun K' hK' => ?_
  by_cases hk : k = 0
  · have H1 := hid (h1 hk)
    rw [decide_eq_true hk] at d
    have HK := hid hK'
    clear h1 h2 hK' hF hk
    go_wp2
    refine HK.out _ _ (wp_cond_true rfl (H1.out _ ⟨rfl, by kernel_rfl, by kernel_rfl, by kernel_rfl, by kernel_rfl, by kernel_rfl, by kernel_rfl, by kernel_rfl⟩))
  · have H2 := hid (h2 hk)
    rw [decide_eq_false hk] at d
    have HK := hid hK'
    clear h1 h2 hK' hF hk
    go_wp2
    refine HK.out _ _ (wp_cond_false rfl (H2.out _ ⟨rfl, by kernel_rfl, by kernel_rfl, by kernel_rfl, by kernel_rfl, by kernel_rfl, by kernel_rfl, by kernel_rfl⟩))
theorem swt_ocsp (hF : FrA m sx mb g k a) (h1 : k = 5 → ∀ a', FrA m sx mb g k a' → Code.wp Try.prog (chC [true, true, true, true, true, true, true, true, true, true, true, true, true, true, false, false, false, true, false, true, true, true, true, true, true, false, true, false, true, true, true, false]) Q a' w) (h2 : k ≠ 5 → ∀ a', FrA m sx mb g k a' → Code.wp Try.prog (chC [true, true, true, true, true, true, true, true, true, true, true, true, true, true, false, false, false, true, false, true, true, true, true, true, true, false, true, false, true, true, true, true]) Q a' w) :
    Code.wp Try.prog (chC [true, true, true, true, true, true, true, true, true, true, true, true, true, true, false, false, false, true, false, true, true, true, true, true, true, false, true, false, true, true]) Q a w := by
  obtain ⟨f, rfl⟩ := hF.lit
  have d := u16_eq k 5
  rw [show ((5 : UInt16).toNat : Int) = 5 from rfl] at d
  conv => arg 2; whnf
  refine wp_seq_k fun K' hK' => ?_
  by_cases hk : k = 5
  · have H1 := hid (h1 hk)
    rw [decide_eq_true hk] at d
    have HK := hid hK'
    clear h1 h2 hK' hF hk
    go_wp2
    refine HK.out _ _ (wp_cond_true rfl (H1.out _ ⟨rfl, by kernel_rfl, by kernel_rfl, by kernel_rfl, by kernel_rfl, by kernel_rfl, by kernel_rfl, by kernel_rfl⟩))
  · have H2 := hid (h2 hk)
    rw [decide_eq_false hk] at d
    have HK := hid hK'
    clear h1 h2 hK' hF hk
    go_wp2
    refine HK.out _ _ (wp_cond_false rfl (H2.out _ ⟨rfl, by kernel_rfl, by kernel_rfl, by kernel_rfl, by kernel_rfl, by kernel_rfl, by kernel_rfl, by kernel_rfl⟩))
theorem swt_curves (hF : FrA m sx mb g k a) (h1 : k = 10 → ∀ a', FrA m sx mb g k a' → Code.wp Try.prog (chC [true, true, true, true, true, true, true, true, true, true, true, true, true, true, false, false, false, true, false, true, true, true, true, true, true, false, true, false, true, true, true, true, true, false]) Q a' w) (h2 : k ≠ 10 → ∀ a', FrA m sx mb g k a' → Code.wp Try.prog (chC [true, true, true, true, true, true, true, true, true, true, true, true, true, true, false, false, false, true, false, true, true, true, true, true, true, false, true, false, true, true, true, true, true, true]) Q a' w) :
    Code.wp Try.prog (chC [true, true, true, true, true, true, true, true, true, true, true, true, true, true, false, false, false, true, false, true, true, true, true, true, true, false, true, false, true, true, true, true]) Q a w := by
  obtain ⟨f, rfl⟩ := hF.lit
  have d := u16_eq k 10
  rw [show ((10 : UInt16).toNat : Int) = 10 from rfl] at d
  conv => arg 2; whnf
  refine wp_seq_k fun K' hK' => ?_
  by_cases hk : k = 10
  · have H1 := hid (h1 hk)
    rw [decide_eq_true hk] at d
    have HK := hid hK'
    clear h1 h2 hK' hF hk
    go_wp2
    refine HK.out _ _ (wp_cond_true rfl (H1.out _ ⟨rfl, by kernel_rfl, by kernel_rfl, by kernel_rfl, by kernel_rfl, by kernel_rfl, by kernel_rfl, by kernel_rfl⟩))
  · have H2 := hid (h2 hk)
    rw [decide_eq_false hk] at d
    have HK := hid hK'
    clear h1 h2 hK' hF hk
    go_wp2
    refine HK.out _ _ (wp_cond_false rfl (H2.out _ ⟨rfl, by kernel_rfl, by kernel_rfl, by kernel_rfl, by kernel_rfl, by kernel_rfl, by kernel_rfl, by kernel_rfl⟩))
theorem swt_pts (hF : FrA m sx mb g k a) (h1 : k = 11 → ∀ a', FrA m sx mb g k a' → Code.wp Try.prog (chC [true, true, true, true, true, true, true, true, true, true, true, true, true, true, false, false, false, true, false, true, true, true, true, true, true, false, true, false, true, true, true, true, true, true, true, false]) Q a' w) (h2 : k ≠ 11 → ∀ a', FrA m sx mb g k a' → Code.wp Try.prog (chC [true, true, true, true, true, true, true, true, true, true, true, true, true, true, false, false, false, true, false, true, true, true, true, true, true, false, true, false, true, true, true, true, true, true, true, true]) Q a' w) :
    Code.wp Try.prog (chC [true, true, true, true, true, true, true, true, true, true, true, true, true, true, false, false, false, true, false, true, true, true, true, true, true, false, true, false, true, true, true, true, true, true]) Q a w := by
  obtain ⟨f, rfl⟩ := hF.lit
  have d := u16_eq k 11
  rw [show ((11 : UInt16).toNat : Int) = 11 from rfl] at d
  conv => arg 2; whnf
  refine wp_seq_k fun K' hK' => ?_
  by_cases hk : k = 11
  · have H1 := hid (h1 hk)
    rw [decide_eq_true hk] at d
    have HK := hid hK'
    clear h1 h2 hK' hF hk
    go_wp2
    refine HK.out _ _ (wp_cond_true rfl (H1.out _ ⟨rfl, by kernel_rfl, by kernel_rfl, by kernel_rfl, by kernel_rfl, by kernel_rfl, by kernel_rfl, by kernel_rfl⟩))
  · have H2 := hid (h2 hk)
    rw [decide_eq_false hk] at d
    have HK := hid hK'
    clear h1 h2 hK' hF hk
    go_wp2
    refine HK.out _ _ (wp_cond_false rfl (H2.out _ ⟨rfl, by kernel_rfl, by kernel_rfl, by kernel_rfl, by kernel_rfl, by kernel_rfl, by kernel_rfl, by kernel_rfl⟩))
theorem swt_ticket (hF : FrA m sx mb g k a) (h1 : k = 35 → ∀ a', FrA m sx mb g k a' → Code.wp Try.prog (chC [true, true, true, true, true, true, true, true, true, true, true, true, true, true, false, false, false, true, false, true, true, true, true, true, true, false, true, false, true, true, true, true, true, true, true, true, true, false]) Q a' w) (h2 : k ≠ 35 → ∀ a', FrA m sx mb g k a' → Code.wp Try.prog (chC [true, true, true, true, true, true, true, true, true, true, true, true, true, true, false, false, false, true, false, true, true, true, true, true, true, false, true, false, true, true, true, true, true, true, true, true, true, true]) Q a' w) :
    Code.wp Try.prog (chC [true, true, true, true, true, true, true, true, true, true, true, true, true, true, false, false, false, true, false, true, true, true, true, true, true, false, true, false, true, true, true, true, true, true, true, true]) Q a w := by
  obtain ⟨f, rfl⟩ := hF.lit
  have d := u16_eq k 35
  rw [show ((35 : UInt16).toNat : Int) = 35 from rfl] at d
  conv => arg 2; whnf
  refine wp_seq_k fun K' hK' => ?_
  by_cases hk : k = 35
  · have H1 := hid (h1 hk)
    rw [decide_eq_true hk] at d
    have HK := hid hK'
    clear h1 h2 hK' hF hk
    go_wp2
    refine HK.out _ _ (wp_cond_true rfl (H1.out _ ⟨rfl, by kernel_rfl, by kernel_rfl, by kernel_rfl, by kernel_rfl, by kernel_rfl, by kernel_rfl, by kernel_rfl⟩))
  · have H2 := hid (h2 hk)
    rw [decide_eq_false hk] at d
    have HK := hid hK'
    clear h1 h2 hK' hF hk
    go_wp2
    refine HK.out _ _ (wp_cond_false rfl (H2.out _ ⟨rfl, by kernel_rfl, by kernel_rfl, by kernel_rfl, by kernel_rfl, by kernel_rfl, by kernel_rfl, by kernel_rfl⟩))
theorem swt_sig (hF : FrA m sx mb g k a) (h1 : k = 13 → ∀ a', FrA m sx mb g k a' → Code.wp Try.prog (chC [true, true, true, true, true, true, true, true, true, true, true, true, true, true, false, false, false, true, false, true, true, true, true, true, true, false, true, false, true, true, true, true, true, true, true, true, true, true, true, false]) Q a' w) (h2 : k ≠ 13 → ∀ a', FrA m sx mb g k a' → Code.wp Try.prog (chC [true, true, true, true, true, true, true, true, true, true, true, true, true, true, false, false, false, true, false, true, true, true, true, true, true, false, true, false, true, true, true, true, true, true, true, true, true, true, true, true]) Q a' w) :
    Code.wp Try.prog (chC [true, true, true, true, true, true, true, true, true, true, true, true, true, true, false, false, false, true, false, true, true, true, true, true, true, false, true, false, true, true, true, true, true, true, true, true, true, true]) Q a w := by
  obtain ⟨f, rfl⟩ := hF.lit
  have d := u16_eq k 13
  rw [show ((13 : UInt16).toNat : Int) = 13 from rfl] at d
  conv => arg 2; whnf
  refine wp_seq_k fun K' hK' => ?_
  by_cases hk : k = 13
  · have H1 := hid (h1 hk)
    rw [decide_eq_true hk] at d
    have HK := hid hK'
    clear h1 h2 hK' hF hk
    go_wp2
    refine HK.out _ _ (wp_cond_true rfl (H1.out _ ⟨rfl, by kernel_rfl, by kernel_rfl, by kernel_rfl, by kernel_rfl, by kernel_rfl, by kernel_rfl, by kernel_rfl⟩))
  · have H2 := hid (h2 hk)
    rw [decide_eq_false hk] at d
    have HK := hid hK'
    clear h1 h2 hK' hF hk
    go_wp2
    refine HK.out _ _ (wp_cond_false rfl (H2.out _ ⟨rfl, by kernel_rfl, by kernel_rfl, by kernel_rfl, by kernel_rfl, by kernel_rfl, by kernel_rfl, by kernel_rfl⟩))
theorem swt_sigc (hF : FrA m sx mb g k a) (h1 : k = 50 → ∀ a', FrA m sx mb g k a' → Code.wp Try.prog (chC [true, true, true, true, true, true, true, true, true, true, true, true, true, true, false, false, false, true, false, true, true, true, true, true, true, false, true, false, true, true, true, true, true, true, true, true, true, true, true, true, true, false]) Q a' w) (h2 : k ≠ 50 → ∀ a', FrA m sx mb g k a' → Code.wp Try.prog (chC [true, true, true, true, true, true, true, true, true, true, true, true, true, true, false, false, false, true, false, true, true, true, true, true, true, false, true, false, true, true, true, true, true, true, true, true, true, true, true, true, true, true]) Q a' w) :
    Code.wp Try.prog (chC [true, true, true, true, true, true, true, true, true, true, true, true, true, true, false, false, false, true, false, true, true, true, true, true, true, false, true, false, true, true, true, true, true, true, true, true, true, true, true, true]) Q a w := by
  obtain ⟨f, rfl⟩ := hF.lit
  have d := u16_eq k 50
  rw [show ((50 : UInt16).toNat : Int) = 50 from rfl] at d
  conv => arg 2; whnf
  refine wp_seq_k fun K' hK' => ?_
  by_cases hk : k = 50
  · have H1 := hid (h1 hk)
    rw [decide_eq_true hk] at d
    have HK := hid hK'
    clear h1 h2 hK' hF hk
    go_wp2
    refine HK.out _ _ (wp_cond_true rfl (H1.out _ ⟨rfl, by kernel_rfl, by kernel_rfl, by kernel_rfl, by kernel_rfl, by kernel_rfl, by kernel_rfl, by kernel_rfl⟩))
  · have H2 := hid (h2 hk)
    rw [decide_eq_false hk] at d
    have HK := hid hK'
    clear h1 h2 hK' hF hk
    go_wp2
    refine HK.out _ _ (wp_cond_false rfl (H2.out _ ⟨rfl, by kernel_rfl, by kernel_rfl, by kernel_rfl, by kernel_rfl, by kernel_rfl, by kernel_rfl, by kernel_rfl⟩))
theorem swt_rn (hF : FrA m sx mb g k a) (h1 : k = 65281 → ∀ a', FrA m sx mb g k a' → Code.wp Try.prog (chC [true, true, true, true, true, true, true, true, true, true, true, true, true, true, false, false, false, true, false, true, true, true, true, true, true, false, true, false, true, true, true, true, true, true, true, true, true, true, true, true, true, true, true, false]) Q a' w) (h2 : k ≠ 65281 → ∀ a', FrA m sx mb g k a' → Code.wp Try.prog (chC [true, true, true, true, true, true, true, true, true, true, true, true, true, true, false, false, false, true, false, true, true, true, true, true, true, false, true, false, true, true, true, true, true, true, true, true, true, true, true, true, true, true, true, true]) Q a' w) :
    Code.wp Try.prog (chC [true, true, true, true, true, true, true, true, true, true, true, true, true, true, false, false, false, true, false, true, true, true, true, true, true, false, true, false, true, true, true, true, true, true, true, true, true, true, true, true, true, true]) Q a w := by
  obtain ⟨f, rfl⟩ := hF.lit
  have d := u16_eq k 65281
  rw [show ((65281 : UInt16).toNat : Int) = 65281 from rfl] at d
  conv => arg 2; whnf
  refine wp_seq_k fun K' hK' => ?_
  by_cases hk : k = 65281
  · have H1 := hid (h1 hk)
    rw [decide_eq_true hk] at d
    have HK := hid hK'
    clear h1 h2 hK' hF hk
    go_wp2
    refine HK.out _ _ (wp_cond_true rfl (H1.out _ ⟨rfl, by kernel_rfl, by kernel_rfl, by kernel_rfl, by kernel_rfl, by kernel_rfl, by kernel_rfl, by kernel_rfl⟩))
  · have H2 := hid (h2 hk)
    rw [decide_eq_false hk] at d
    have HK := hid hK'
    clear h1 h2 hK' hF hk
    go_wp2
    refine HK.out _ _ (wp_cond_false rfl (H2.out _ ⟨rfl, by kernel_rfl, by kernel_rfl, by kernel_rfl, by kernel_rfl, by kernel_rfl, by kernel_rfl, by kernel_rfl⟩))
theorem swt_ems (hF : FrA m sx mb g k a) (h1 : k = 23 → ∀ a', FrA m sx mb g k a' → Code.wp Try.prog (chC [true, true, true, true, true, true, true, true, true, true, true, true, true, true, false, false, false, true, false, true, true, true, true, true, true, false, true, false, true, true, true, true, true, true, true, true, true, true, true, true, true, true, true, true, true, false]) Q a' w) (h2 : k ≠ 23 → ∀ a', FrA m sx mb g k a' → Code.wp Try.prog (chC [true, true, true, true, true, true, true, true, true, true, true, true, true, true, false, false, false, true, false, true, true, true, true, true, true, false, true, false, true, true, true, true, true, true, true, true, true, true, true, true, true, true, true, true, true, true]) Q a' w) :
    Code.wp Try.prog (chC [true, true, true, true, true, true, true, true, true, true, true, true, true, true, false, false, false, true, false, true, true, true, true, true, true, false, true, false, true, true, true, true, true, true, true, true, true, true, true, true, true, true, true, true]) Q a w := by
  obtain ⟨f, rfl⟩ := hF.lit
  have d := u16_eq k 23
  rw [show ((23 : UInt16).toNat : Int) = 23 from rfl] at d
  conv => arg 2; whnf
  refine wp_seq_k fun K' hK' => ?_
  by_cases hk : k = 23
  · have H1 := hid (h1 hk)
    rw [decide_eq_true hk] at d
    have HK := hid hK'
    clear h1 h2 hK' hF hk
    go_wp2
    refine HK.out _ _ (wp_cond_true rfl (H1.out _ ⟨rfl, by kernel_rfl, by kernel_rfl, by kernel_rfl, by kernel_rfl, by kernel_rfl, by kernel_rfl, by kernel_rfl⟩))
  · have H2 := hid (h2 hk)
    rw [decide_eq_false hk] at d
    have HK := hid hK'
    clear h1 h2 hK' hF hk
    go_wp2
    refine HK.out _ _ (wp_cond_false rfl (H2.out _ ⟨rfl, by kernel_rfl, by kernel_rfl, by kernel_rfl, by kernel_rfl, by kernel_rfl, by kernel_rfl, by kernel_rfl⟩))
theorem swt_alpn (hF : FrA m sx mb g k a) (h1 : k = 16 → ∀ a', FrA m sx mb g k a' → Code.wp Try.prog (chC [true, true, true, true, true, true, true, true, true, true, true, true, true, true, false, false, false, true, false, true, true, true, true, true, true, false, true, false, true, true, true, true, true, true, true, true, true, true, true, true, true, true, true, true, true, true, true, false]) Q a' w) (h2 : k ≠ 16 → ∀ a', FrA m sx mb g k a' → Code.wp Try.prog (chC [true, true, true, true, true, true, true, true, true, true, true, true, true, true, false, false, false, true, false, true, true, true, true, true, true, false, true, false, true, true, true, true, true, true, true, true, true, true, true, true, true, true, true, true, true, true, true, true]) Q a' w) :
    Code.wp Try.prog (chC [true, true, true, true, true, true, true, true, true, true, true, true, true, true, false, false, false, true, false, true, true, true, true, true, true, false, true, false, true, true, true, true, true, true, true, true, true, true, true, true, true, true, true, true, true, true]) Q a w := by
  obtain ⟨f, rfl⟩ := hF.lit
  have d := u16_eq k 16
  rw [show ((16 : UInt16).toNat : Int) = 16 from rfl] at d
  conv => arg 2; whnf
  refine wp_seq_k fun K' hK' => ?_
  by_cases hk : k = 16
  · have H1 := hid (h1 hk)
    rw [decide_eq_true hk] at d
    have HK := hid hK'
    clear h1 h2 hK' hF hk
    go_wp2
    refine HK.out _ _ (wp_cond_true rfl (H1.out _ ⟨rfl, by kernel_rfl, by kernel_rfl, by kernel_rfl, by kernel_rfl, by kernel_rfl, by kernel_rfl, by kernel_rfl⟩))
  · have H2 := hid (h2 hk)
    rw [decide_eq_false hk] at d
    have HK := hid hK'
    clear h1 h2 hK' hF hk
    go_wp2
    refine HK.out _ _ (wp_cond_false rfl (H2.out _ ⟨rfl, by kernel_rfl, by kernel_rfl, by kernel_rfl, by kernel_rfl, by kernel_rfl, by kernel_rfl, by kernel_rfl⟩))
theorem swt_scts (hF : FrA m sx mb g k a) (h1 : k = 18 → ∀ a', FrA m sx mb g k a' → Code.wp Try.prog (chC [true, true, true, true, true, true, true, true, true, true, true, true, true, true, false, false, false, true, false, true, true, true, true, true, true, false, true, false, true, true, true, true, true, true, true, true, true, true, true, true, true, true, true, true, true, true, true, true, true, false]) Q a' w) (h2 : k ≠ 18 → ∀ a', FrA m sx mb g k a' → Code.wp Try.prog (chC [true, true, true, true, true, true, true, true, true, true, true, true, true, true, false, false, false, true, false, true, true, true, true, true, true, false, true, false, true, true, true, true, true, true, true, true, true, true, true, true, true, true, true, true, true, true, true, true, true, true]) Q a' w) :
    Code.wp Try.prog (chC [true, true, true, true, true, true, true, true, true, true, true, true, true, true, false, false, false, true, false, true, true, true, true, true, true, false, true, false, true, true, true, true, true, true, true, true, true, true, true, true, true, true, true, true, true, true, true, true]) Q a w := by
  obtain ⟨f, rfl⟩ := hF.lit
  have d := u16_eq k 18
  rw [show ((18 : UInt16).toNat : Int) = 18 from rfl] at d
  conv => arg 2; whnf
  refine wp_seq_k fun K' hK' => ?_
  by_cases hk : k = 18
  · have H1 := hid (h1 hk)
    rw [decide_eq_true hk] at d
    have HK := hid hK'
    clear h1 h2 hK' hF hk
    go_wp2
    refine HK.out _ _ (wp_cond_true rfl (H1.out _ ⟨rfl, by kernel_rfl, by kernel_rfl, by kernel_rfl, by kernel_rfl, by kernel_rfl, by kernel_rfl, by kernel_rfl⟩))
  · have H2 := hid (h2 hk)
    rw [decide_eq_false hk] at d
    have HK := hid hK'
    clear h1 h2 hK' hF hk
    go_wp2
    refine HK.out _ _ (wp_cond_false rfl (H2.out _ ⟨rfl, by kernel_rfl, by kernel_rfl, by kernel_rfl, by kernel_rfl, by kernel_rfl, by kernel_rfl, by kernel_rfl⟩))
theorem swt_sv (hF : FrA m sx mb g k a) (h1 : k = 43 → ∀ a', FrA m sx mb g k a' → Code.wp Try.prog (chC [true, true, true, true, true, true, true, true, true, true, true, true, true, true, false, false, false, true, false, true, true, true, true, true, true, false, true, false, true, true, true, true, true, true, true, true, true, true, true, true, true, true, true, true, true, true, true, true, true, true, true, false]) Q a' w) (h2 : k ≠ 43 → ∀ a', FrA m sx mb g k a' → Code.wp Try.prog (chC [true, true, true, true, true, true, true, true, true, true, true, true, true, true, false, false, false, true, false, true, true, true, true, true, true, false, true, false, true, true, true, true, true, true, true, true, true, true, true, true, true, true, true, true, true, true, true, true, true, true, true, true]) Q a' w) :
    Code.wp Try.prog (chC [true, true, true, true, true, true, true, true, true, true, true, true, true, true, false, false, false, true, false, true, true, true, true, true, true, false, true, false, true, true, true, true, true, true, true, true, true, true, true, true, true, true, true, true, true, true, true, true, true, true]) Q a w := by
  obtain ⟨f, rfl⟩ := hF.lit
  have d := u16_eq k 43
  rw [show ((43 : UInt16).toNat : Int) = 43 from rfl] at d
  conv => arg 2; whnf
  refine wp_seq_k fun K' hK' => ?_
  by_cases hk : k = 43
  · have H1 := hid (h1 hk)
    rw [decide_eq_true hk] at d
    have HK := hid hK'
    clear h1 h2 hK' hF hk
    go_wp2
    refine HK.out _ _ (wp_cond_true rfl (H1.out _ ⟨rfl, by kernel_rfl, by kernel_rfl, by kernel_rfl, by kernel_rfl, by kernel_rfl, by kernel_rfl, by kernel_rfl⟩))
  · have H2 := hid (h2 hk)
    rw [decide_eq_false hk] at d
    have HK := hid hK'
    clear h1 h2 hK' hF hk
    go_wp2
    refine HK.out _ _ (wp_cond_false rfl (H2.out _ ⟨rfl, by kernel_rfl, by kernel_rfl, by kernel_rfl, by kernel_rfl, by kernel_rfl, by kernel_rfl, by kernel_rfl⟩))
theorem swt_cookie (hF : FrA m sx mb g k a) (h1 : k = 44 → ∀ a', FrA m sx mb g k a' → Code.wp Try.prog (chC [true, true, true, true, true, true, true, true, true, true, true, true, true, true, false, false, false, true, false, true, true, true, true, true, true, false, true, false, true, true, true, true, true, true, true, true, true, true, true, true, true, true, true, true, true, true, true, true, true, true, true, true, true, false]) Q a' w) (h2 : k ≠ 44 → ∀ a', FrA m sx mb g k a' → Code.wp Try.prog (chC [true, true, true, true, true, true, true, true, true, true, true, true, true, true, false, false, false, true, false, true, true, true, true, true, true, false, true, false, true, true, true, true, true, true, true, true, true, true, true, true, true, true, true, true, true, true, true, true, true, true, true, true, true, true]) Q a' w) :
    Code.wp Try.prog (chC [true, true, true, true, true, true, true, true, true, true, true, true, true, true, false, false, false, true, false, true, true, true, true, true, true, false, true, false, true, true, true, true, true, true, true, true, true, true, true, true, true, true, true, true, true, true, true, true, true, true, true, true]) Q a w := by
  obtain ⟨f, rfl⟩ := hF.lit
  have d := u16_eq k 44
  rw [show ((44 : UInt16).toNat : Int) = 44 from rfl] at d
  conv => arg 2; whnf
  refine wp_seq_k fun K' hK' => ?_
  by_cases hk : k = 44
  · have H1 := hid (h1 hk)
    rw [decide_eq_true hk] at d
    have HK := hid hK'
    clear h1 h2 hK' hF hk
    go_wp2
    refine HK.out _ _ (wp_cond_true rfl (H1.out _ ⟨rfl, by kernel_rfl, by kernel_rfl, by kernel_rfl, by kernel_rfl, by kernel_rfl, by kernel_rfl, by kernel_rfl⟩))
  · have H2 := hid (h2 hk)
    rw [decide_eq_false hk] at d
    have HK := hid hK'
    clear h1 h2 hK' hF hk
    go_wp2
    refine HK.out _ _ (wp_cond_false rfl (H2.out _ ⟨rfl, by kernel_rfl, by kernel_rfl, by kernel_rfl, by kernel_rfl, by kernel_rfl, by kernel_rfl, by kernel_rfl⟩))
theorem swt_ks (hF : FrA m sx mb g k a) (h1 : k = 51 → ∀ a', FrA m sx mb g k a' → Code.wp Try.prog (chC [true, true, true, true, true, true, true, true, true, true, true, true, true, true, false, false, false, true, false, true, true, true, true, true, true, false, true, false, true, true, true, true, true, true, true, true, true, true, true, true, true, true, true, true, true, true, true, true, true, true, true, true, true, true, true, false]) Q a' w) (h2 : k ≠ 51 → ∀ a', FrA m sx mb g k a' → Code.wp Try.prog (chC [true, true, true, true, true, true, true, true, true, true, true, true, true, true, false, false, false, true, false, true, true, true, true, true, true, false, true, false, true, true, true, true, true, true, true, true, true, true, true, true, true, true, true, true, true, true, true, true, true, true, true, true, true, true, true, true]) Q a' w) :
    Code.wp Try.prog (chC [true, true, true, true, true, true, true, true, true, true, true, true, true, true, false, false, false, true, false, true, true, true, true, true, true, false, true, false, true, true, true, true, true, true, true, true, true, true, true, true, true, true, true, true, true, true, true, true, true, true, true, true, true, true]) Q a w := by
  obtain ⟨f, rfl⟩ := hF.lit
  have d := u16_eq k 51
  rw [show ((51 : UInt16).toNat : Int) = 51 from rfl] at d
  conv => arg 2; whnf
  refine wp_seq_k fun K' hK' => ?_
  by_cases hk : k = 51
  · have H1 := hid (h1 hk)
    rw [decide_eq_true hk] at d
    have HK := hid hK'
    clear h1 h2 hK' hF hk
    go_wp2
    refine HK.out _ _ (wp_cond_true rfl (H1.out _ ⟨rfl, by kernel_rfl, by kernel_rfl, by kernel_rfl, by kernel_rfl, by kernel_rfl, by kernel_rfl, by kernel_rfl⟩))
  · have H2 := hid (h2 hk)
    rw [decide_eq_false hk] at d
    have HK := hid hK'
    clear h1 h2 hK' hF hk
    go_wp2
    refine HK.out _ _ (wp_cond_false rfl (H2.out _ ⟨rfl, by kernel_rfl, by kernel_rfl, by kernel_rfl, by kernel_rfl, by kernel_rfl, by kernel_rfl, by kernel_rfl⟩))
theorem swt_early (hF : FrA m sx mb g k a) (h1 : k = 42 → ∀ a', FrA m sx mb g k a' → Code.wp Try.prog (chC [true, true, true, true, true, true, true, true, true, true, true, true, true, true, false, false, false, true, false, true, true, true, true, true, true, false, true, false, true, true, true, true, true, true, true, true, true, true, true, true, true, true, true, true, true, true, true, true, true, true, true, true, true, true, true, true, true, false]) Q a' w) (h2 : k ≠ 42 → ∀ a', FrA m sx mb g k a' → Code.wp Try.prog (chC [true, true, true, true, true, true, true, true, true, true, true, true, true, true, false, false, false, true, false, true, true, true, true, true, true, false, true, false, true, true, true, true, true, true, true, true, true, true, true, true, true, true, true, true, true, true, true, true, true, true, true, true, true, true, true, true, true, true]) Q a' w) :
    Code.wp Try.prog (chC [true, true, true, true, true, true, true, true, true, true, true, true, true, true, false, false, false, true, false, true, true, true, true, true, true, false, true, false, true, true, true, true, true, true, true, true, true, true, true, true, true, true, true, true, true, true, true, true, true, true, true, true, true, true, true, true]) Q a w := by
  obtain ⟨f, rfl⟩ := hF.lit
  have d := u16_eq k 42
  rw [show ((42 : UInt16).toNat : Int) = 42 from rfl] at d
  conv => arg 2; whnf
  refine wp_seq_k fun K' hK' => ?_
  by_cases hk : k = 42
  · have H1 := hid (h1 hk)
    rw [decide_eq_true hk] at d
    have HK := hid hK'
    clear h1 h2 hK' hF hk
    go_wp2
    refine HK.out _ _ (wp_cond_true rfl (H1.out _ ⟨rfl, by kernel_rfl, by kernel_rfl, by kernel_rfl, by kernel_rfl, by kernel_rfl, by kernel_rfl, by kernel_rfl⟩))
  · have H2 := hid (h2 hk)
    rw [decide_eq_false hk] at d
    have HK := hid hK'
    clear h1 h2 hK' hF hk
    go_wp2
    refine HK.out _ _ (wp_cond_false rfl (H2.out _ ⟨rfl, by kernel_rfl, by kernel_rfl, by kernel_rfl, by kernel_rfl, by kernel_rfl, by kernel_rfl, by kernel_rfl⟩))
theorem swt_modes (hF : FrA m sx mb g k a) (h1 : k = 45 → ∀ a', FrA m sx mb g k a' → Code.wp Try.prog (chC [true, true, true, true, true, true, true, true, true, true, true, true, true, true, false, false, false, true, false, true, true, true, true, true, true, false, true, false, true, true, true, true, true, true, true, true, true, true, true, true, true, true, true, true, true, true, true, true, true, true, true, true, true, true, true, true, true, true, true, false]) Q a' w) (h2 : k ≠ 45 → ∀ a', FrA m sx mb g k a' → Code.wp Try.prog (chC [true, true, true, true, true, true, true, true, true, true, true, true, true, true, false, false, false, true, false, true, true, true, true, true, true, false, true, false, true, true, true, true, true, true, true, true, true, true, true, true, true, true, true, true, true, true, true, true, true, true, true, true, true, true, true, true, true, true, true, true]) Q a' w) :
    Code.wp Try.prog (chC [true, true, true, true, true, true, true, true, true, true, true, true, true, true, false, false, false, true, false, true, true, true, true, true, true, false, true, false, true, true, true, true, true, true, true, true, true, true, true, true, true, true, true, true, true, true, true, true, true, true, true, true, true, true, true, true, true, true]) Q a w := by
  obtain ⟨f, rfl⟩ := hF.lit
  have d := u16_eq k 45
  rw [show ((45 : UInt16).toNat : Int) = 45 from rfl] at d
  conv => arg 2; whnf
  refine wp_seq_k fun K' hK' => ?_
  by_cases hk : k = 45
  · have H1 := hid (h1 hk)
    rw [decide_eq_true hk] at d
    have HK := hid hK'
    clear h1 h2 hK' hF hk
    go_wp2
    refine HK.out _ _ (wp_cond_true rfl (H1.out _ ⟨rfl, by kernel_rfl, by kernel_rfl, by kernel_rfl, by kernel_rfl, by kernel_rfl, by kernel_rfl, by kernel_rfl⟩))
  · have H2 := hid (h2 hk)
    rw [decide_eq_false hk] at d
    have HK := hid hK'
    clear h1 h2 hK' hF hk
    go_wp2
    refine HK.out _ _ (wp_cond_false rfl (H2.out _ ⟨rfl, by kernel_rfl, by kernel_rfl, by kernel_rfl, by kernel_rfl, by kernel_rfl, by kernel_rfl, by kernel_rfl⟩))
theorem swt_quic (hF : FrA m sx mb g k a) (h1 : k = 57 → ∀ a', FrA m sx mb g k a' → Code.wp Try.prog (chC [true, true, true, true, true, true, true, true, true, true, true, true, true, true, false, false, false, true, false, true, true, true, true, true, true, false, true, false, true, true, true, true, true, true, true, true, true, true, true, true, true, true, true, true, true, true, true, true, true, true, true, true, true, true, true, true, true, true, true, true, true, false]) Q a' w) (h2 : k ≠ 57 → ∀ a', FrA m sx mb g k a' → Code.wp Try.prog (chC [true, true, true, true, true, true, true, true, true, true, true, true, true, true, false, false, false, true, false, true, true, true, true, true, true, false, true, false, true, true, true, true, true, true, true, true, true, true, true, true, true, true, true, true, true, true, true, true, true, true, true, true, true, true, true, true, true, true, true, true, true, true]) Q a' w) :
    Code.wp Try.prog (chC [true, true, true, true, true, true, true, true, true, true, true, true, true, true, false, false, false, true, false, true, true, true, true, true, true, false, true, false, true, true, true, true, true, true, true, true, true, true, true, true, true, true, true, true, true, true, true, true, true, true, true, true, true, true, true, true, true, true, true, true]) Q a w := by
  obtain ⟨f, rfl⟩ := hF.lit
  have d := u16_eq k 57
  rw [show ((57 : UInt16).toNat : Int) = 57 from rfl] at d
  conv => arg 2; whnf
  refine wp_seq_k fun K' hK' => ?_
  by_cases hk : k = 57
  · have H1 := hid (h1 hk)
    rw [decide_eq_true hk] at d
    have HK := hid hK'
    clear h1 h2 hK' hF hk
    go_wp2
    refine HK.out _ _ (wp_cond_true rfl (H1.out _ ⟨rfl, by kernel_rfl, by kernel_rfl, by kernel_rfl, by kernel_rfl, by kernel_rfl, by kernel_rfl, by kernel_rfl⟩))
  · have H2 := hid (h2 hk)
    rw [decide_eq_false hk] at d
    have HK := hid hK'
    clear h1 h2 hK' hF hk
    go_wp2
    refine HK.out _ _ (wp_cond_false rfl (H2.out _ ⟨rfl, by kernel_rfl, by kernel_rfl, by kernel_rfl, by kernel_rfl, by kernel_rfl, by kernel_rfl, by kernel_rfl⟩))
theorem swt_psk (hF : FrA m sx mb g k a) (h1 : k = 41 → ∀ a', FrA m sx mb g k a' → Code.wp Try.prog (chC [true, true, true, true, true, true, true, true, true, true, true, true, true, true, false, false, false, true, false, true, true, true, true, true, true, false, true, false, true, true, true, true, true, true, true, true, true, true, true, true, true, true, true, true, true, true, true, true, true, true, true, true, true, true, true, true, true, true, true, true, true, true, true, false]) Q a' w) (h2 : k ≠ 41 → ∀ a', FrA m sx mb g k a' → Code.wp Try.prog (chC [true, true, true, true, true, true, true, true, true, true, true, true, true, true, false, false, false, true, false, true, true, true, true, true, true, false, true, false, true, true, true, true, true, true, true, true, true, true, true, true, true, true, true, true, true, true, true, true, true, true, true, true, true, true, true, true, true, true, true, true, true, true, true, true]) Q a' w) :
    Code.wp Try.prog (chC [true, true, true, true, true, true, true, true, true, true, true, true, true, true, false, false, false, true, false, true, true, true, true, true, true, false, true, false, true, true, true, true, true, true, true, true, true, true, true, true, true, true, true, true, true, true, true, true, true, true, true, true, true, true, true, true, true, true, true, true, true, true]) Q a w := by
  obtain ⟨f, rfl⟩ := hF.lit
  have d := u16_eq k 41
  rw [show ((41 : UInt16).toNat : Int) = 41 from rfl] at d
  conv => arg 2; whnf
  refine wp_seq_k fun K' hK' => ?_
  by_cases hk : k = 41
  · have H1 := hid (h1 hk)
    rw [decide_eq_true hk] at d
    have HK := hid hK'
    clear h1 h2 hK' hF hk
    go_wp2
    refine HK.out _ _ (wp_cond_true rfl (H1.out _ ⟨rfl, by kernel_rfl, by kernel_rfl, by kernel_rfl, by kernel_rfl, by kernel_rfl, by kernel_rfl, by kernel_rfl⟩))
  · have H2 := hid (h2 hk)
    rw [decide_eq_false hk] at d
    have HK := hid hK'
    clear h1 h2 hK' hF hk
    go_wp2
    refine HK.out _ _ (wp_cond_false rfl (H2.out _ ⟨rfl, by kernel_rfl, by kernel_rfl, by kernel_rfl, by kernel_rfl, by kernel_rfl, by kernel_rfl, by kernel_rfl⟩))
theorem swt_ech (hF : FrA m sx mb g k a) (h1 : k = 65037 → ∀ a', FrA m sx mb g k a' → Code.wp Try.prog (chC [true, true, true, true, true, true, true, true, true, true, true, true, true, true, false, false, false, true, false, true, true, true, true, true, true, false, true, false, true, true, true, true, true, true, true, true, true, true, true, true, true, true, true, true, true, true, true, true, true, true, true, true, true, true, true, true, true, true, true, true, true, true, true, true, true, false]) Q a' w) (h2 : k ≠ 65037 → ∀ a', FrA m sx mb g k a' → Code.wp Try.prog (chC [true, true, true, true, true, true, true, true, true, true, true, true, true, true, false, false, false, true, false, true, true, true, true, true, true, false, true, false, true, true, true, true, true, true, true, true, true, true, true, true, true, true, true, true, true, true, true, true, true, true, true, true, true, true, true, true, true, true, true, true, true, true, true, true, true, true]) Q a' w) :
    Code.wp Try.prog (chC [true, true, true, true, true, true, true, true, true, true, true, true, true, true, false, false, false, true, false, true, true, true, true, true, true, false, true, false, true, true, true, true, true, true, true, true, true, true, true, true, true, true, true, true, true, true, true, true, true, true, true, true, true, true, true, true, true, true, true, true, true, true, true, true]) Q a w := by
  obtain ⟨f, rfl⟩ := hF.lit
  have d := u16_eq k 65037
  rw [show ((65037 : UInt16).toNat : Int) = 65037 from rfl] at d
  conv => arg 2; whnf
  refine wp_seq_k fun K' hK' => ?_
  by_cases hk : k = 65037
  · have H1 := hid (h1 hk)
    rw [decide_eq_true hk] at d
    have HK := hid hK'
    clear h1 h2 hK' hF hk
    go_wp2
    refine HK.out _ _ (wp_cond_true rfl (H1.out _ ⟨rfl, by kernel_rfl, by kernel_rfl, by kernel_rfl, by kernel_rfl, by kernel_rfl, by kernel_rfl, by kernel_rfl⟩))
  · have H2 := hid (h2 hk)
    rw [decide_eq_false hk] at d
    have HK := hid hK'
    clear h1 h2 hK' hF hk
    go_wp2
    refine HK.out _ _ (wp_cond_false rfl (H2.out _ ⟨rfl, by kernel_rfl, by kernel_rfl, by kernel_rfl, by kernel_rfl, by kernel_rfl, by kernel_rfl, by kernel_rfl⟩))
theorem sw_Ch (hF : FrB m sx mb g a) (U : DSt w0 B m s sx mb (g + 1) w.heap.size 90 cs (chF0 v0 v4 M) (exsB L) M.exs.length M.exs.reverse v4 us w) (hd : Sv w B (g + 1) ed True) (hk : Blk w g 22 #[wv k])
    (hst : ChStep M k ed M1) (hrun : ChRun M1 L t') (hl : ed.length < 65536) (hn : M.exs.length + (exsB L).length ≤ xl) (hB : B ≤ m) (hkl : k = 41 → L = []) (hK : ∀ a' w', ChAft w0 B m s sx mb g v0 v4 us t' L xl a' w' → K a' w') :
    Code.wp Try.prog (chC [true, true, true, true, true, true, true, true, true, true, true, true, true, true, false, false, false, true, false, true, true, true, true, true, true, false]) (Exit.then K fun e a' w' => e = .exit 3 ∧ ChEnd w0 B m s sx mb v0 v4 us t' L xl a' w') a w := by
  obtain ⟨f, rfl⟩ := hF.lit
  have hn1 : M1.exs.length + (exsB L).length ≤ xl := by rw [hst.exs]; exact hn
  have hA : ∀ a' w', ChArm w0 B m s sx mb g v0 v4 us M1 L a' w' → K a' w' := fun a' w' ⟨h1, cs', h2, h3⟩ => hK _ _ ⟨h1, M1, cs', h2, h3, hn1, hrun⟩
  have c0 := hk.cell 0
  simp at c0
  have HH : ∀ a', FrA m sx mb g k a' → Code.wp Try.prog (chC [true, true, true, true, true, true, true, true, true, true, true, true, true, true, false, false, false, true, false, true, true, true, true, true, true, false, true, false]) (Exit.inBlock 4 (Exit.then K fun e a' w' => e = .exit 3 ∧ ChEnd w0 B m s sx mb v0 v4 us t' L xl a' w')) a' w := by
    intro a' h
    refine swt_host h (fun hk a' h => ?_) (fun hk0 a' h => ?_)
    · subst hk; exact wp_normal (R := ChArm w0 B m s sx mb g v0 v4 us M1 L) (fun K' hK' => arm_host h U hd hst hl hB hK') (fun a' w' h => hA _ _ h)
    refine swt_ocsp h (fun hk a' h => ?_) (fun hk5 a' h => ?_)
    · subst hk; exact wp_normal (R := ChArm w0 B m s sx mb g v0 v4 us M1 L) (fun K' hK' => arm_ocsp h U hd hst hl hB hK') (fun a' w' h => hA _ _ h)
    refine swt_curves h (fun hk a' h => ?_) (fun hk10 a' h => ?_)
    · subst hk; exact wp_normal (R := ChArm w0 B m s sx mb g v0 v4 us M1 L) (fun K' hK' => arm_curves h U hd hst hl hB hK') (fun a' w' h => hA _ _ h)
    refine swt_pts h (fun hk a' h => ?_) (fun hk11 a' h => ?_)
    · subst hk; exact wp_normal (R := ChArm w0 B m s sx mb g v0 v4 us M1 L) (fun K' hK' => arm_pts h U hd hst hl hB hK') (fun a' w' h => hA _ _ h)
    refine swt_ticket h (fun hk a' h => ?_) (fun hk35 a' h => ?_)
    · subst hk; exact wp_normal (R := ChArm w0 B m s sx mb g v0 v4 us M1 L) (fun K' hK' => arm_ticket h U hd hst hl hB hK') (fun a' w' h => hA _ _ h)
    refine swt_sig h (fun hk a' h => ?_) (fun hk13 a' h => ?_)
    · subst hk; exact wp_normal (R := ChArm w0 B m s sx mb g v0 v4 us M1 L) (fun K' hK' => arm_sig h U hd hst hl hB hK') (fun a' w' h => hA _ _ h)
    refine swt_sigc h (fun hk a' h => ?_) (fun hk50 a' h => ?_)
    · subst hk; exact wp_normal (R := ChArm w0 B m s sx mb g v0 v4 us M1 L) (fun K' hK' => arm_sigc h U hd hst hl hB hK') (fun a' w' h => hA _ _ h)
    refine swt_rn h (fun hk a' h => ?_) (fun hk65281 a' h => ?_)
    · subst hk; exact wp_normal (R := ChArm w0 B m s sx mb g v0 v4 us M1 L) (fun K' hK' => arm_rn h U hd hst hl hB hK') (fun a' w' h => hA _ _ h)
    refine swt_ems h (fun hk a' h => ?_) (fun hk23 a' h => ?_)
    · subst hk; exact wp_normal (R := ChArm w0 B m s sx mb g v0 v4 us M1 L) (fun K' hK' => arm_ems h U hd hst hl hB hK') (fun a' w' h => hA _ _ h)
    refine swt_alpn h (fun hk a' h => ?_) (fun hk16 a' h => ?_)
    · subst hk; exact wp_normal (R := ChArm w0 B m s sx mb g v0 v4 us M1 L) (fun K' hK' => arm_alpn h U hd hst hl hB hK') (fun a' w' h => hA _ _ h)
    refine swt_scts h (fun hk a' h => ?_) (fun hk18 a' h => ?_)
    · subst hk; exact wp_normal (R := ChArm w0 B m s sx mb g v0 v4 us M1 L) (fun K' hK' => arm_scts h U hd hst hl hB hK') (fun a' w' h => hA _ _ h)
    refine swt_sv h (fun hk a' h => ?_) (fun hk43 a' h => ?_)
    · subst hk; exact wp_normal (R := ChArm w0 B m s sx mb g v0 v4 us M1 L) (fun K' hK' => arm_sv h U hd hst hl hB hK') (fun a' w' h => hA _ _ h)
    refine swt_cookie h (fun hk a' h => ?_) (fun hk44 a' h => ?_)
    · subst hk; exact wp_normal (R := ChArm w0 B m s sx mb g v0 v4 us M1 L) (fun K' hK' => arm_cookie h U hd hst hl hB hK') (fun a' w' h => hA _ _ h)
    refine swt_ks h (fun hk a' h => ?_) (fun hk51 a' h => ?_)
    · subst hk; exact wp_normal (R := ChArm w0 B m s sx mb g v0 v4 us M1 L) (fun K' hK' => arm_ks h U hd hst hl hB hK') (fun a' w' h => hA _ _ h)
    refine swt_early h (fun hk a' h => ?_) (fun hk42 a' h => ?_)
    · subst hk; exact wp_normal (R := ChArm w0 B m s sx mb g v0 v4 us M1 L) (fun K' hK' => arm_early h U hd hst hl hB hK') (fun a' w' h => hA _ _ h)
    refine swt_modes h (fun hk a' h => ?_) (fun hk45 a' h => ?_)
    · subst hk; exact wp_normal (R := ChArm w0 B m s sx mb g v0 v4 us M1 L) (fun K' hK' => arm_modes h U hd hst hl hB hK') (fun a' w' h => hA _ _ h)
    refine swt_quic h (fun hk a' h => ?_) (fun hk57 a' h => ?_)
    · subst hk; exact wp_normal (R := ChArm w0 B m s sx mb g v0 v4 us M1 L) (fun K' hK' => arm_quic h U hd hst hl hB hK') (fun a' w' h => hA _ _ h)
    refine swt_psk h (fun hk a' h => ?_) (fun hk41 a' h => ?_)
    · subst hk; exact wp_normal (R := ChArm w0 B m s sx mb g v0 v4 us M1 L) (fun K' hK' => arm_psk h U hd hst hl hB (hkl rfl) hK') (fun a' w' h => hA _ _ h)
    refine swt_ech h (fun hk a' h => ?_) (fun hk65037 a' h => ?_)
    · subst hk; exact wp_normal (R := ChArm w0 B m s sx mb g v0 v4 us M1 L) (fun K' hK' => arm_ech h U hd hst hl hB hK') (fun a' w' h => hA _ _ h)
    have hM := hst.i_other ⟨hk0, hk5, hk10, hk11, hk35, hk13, hk50, hk65281, hk23, hk16, hk18, hk43, hk44, hk51, hk42, hk45, hk57, hk65037, hk41⟩
    subst hM
    obtain ⟨f, rfl⟩ := h.lit
    conv => arg 2; whnf
    refine wp_exit ?_
    exact ⟨rfl, ⟨rfl, by kernel_rfl, by kernel_rfl, by kernel_rfl, by kernel_rfl⟩, M1, cs, U.full, hn, hrun⟩
  have HH := hid HH
  clear hA hK hF
  conv => arg 2; whnf
  refine wp_seq_k fun K' hK' => ?_
  have HK := hid hK'
  clear hK' hst hrun hd U
  go_wp2
  exact HK.out _ _ (wp_block (HH.out _ ⟨rfl, by kernel_rfl, by kernel_rfl, by kernel_rfl, by kernel_rfl, by kernel_rfl, by kernel_rfl, by kernel_rfl⟩))
end
end Go.Proofs.Ytaajmfgplhfncaa
namespace Go.Proofs.Ytaajmfgplhfncaa
open Go.RowKit Go.Maps
set_option maxRecDepth 100000
section
variable {w0 w w' wr : World} {B m s sx mb g n gk : Nat} {v0 v4 : Value} {us : List Value} {t' M M1 : Ch} {L : List Ex} {xl : Nat} {a : Act} {k : UInt16} {ed : List UInt8} {cs : Array Value} {x0 : List UInt8} {K : Act → World → Prop}
set_option maxHeartbeats 16000000 in
theorem round_Ch (hF : FrR m sx mb a) (hR : ChRel w0 B m s sx mb v0 v4 us x0 t' gk wr) (hx : x0.length < 65536) (hus : t'.suites.map wv = us) (hws : w0.heap.size ≤ s)
    (hK : ∀ (a' : Act) (w' : World) (n' : Nat), n' < gk → FrR m sx mb a' → ChRel w0 B m s sx mb v0 v4 us x0 t' n' w' → K a' w') :
    Code.wp Try.prog (chC [true, true, true, true, true, true, true, true, true, true, true, true, true, true, false, false, false]) (Exit.then K fun e a' w' => e = .exit 2 ∧ FrR m sx mb a' ∧ ChUP w0 B m t' (.returned (.bool true)) w') a wr := by
  obtain ⟨f, rfl⟩ := hF.lit
  obtain ⟨L1, M, cs, rfl, hnl, U, hrun⟩ := hR
  have HK := hid hK
  generalize hxl : x0.length = xl at hnl hx
  have HXL := hid hxl
  clear hK hF hxl
  obtain ⟨A7, c7, e7, -, hy7, -⟩ := U.sv.open_
  have H7 := hid (Empty_any hy7)
  clear hy7
  conv => arg 2; whnf
  go_wp2_with fail
  refine H7.out.mono ?_
  rintro e w20 ⟨rfl, rfl⟩
  rcases L1 with _ | ⟨⟨k, ed⟩, L2⟩
  · cases hrun
    rw [← hus] at U
    have HE := hid (U.fin hws)
    go_wp2
    exact ⟨trivial, ⟨rfl, by kernel_rfl, by kernel_rfl, by kernel_rfl, by kernel_rfl⟩, HE.out⟩
  have hlen : (exsB ((k, ed) :: L2)).length = 4 + ed.length + (exsB L2).length := by rw [exsB_cons2]; simp [be_len]; omega
  rw [hlen] at hnl
  rw [exsB_cons2] at U e7
  rw [decide_eq_false (by rw [exsB_cons2]; simp [be])]
  obtain ⟨wA, hwA⟩ : ∃ wA, (wr.alloc (.cells #[.int .u16 0] 22)).alloc (.cells #[.slice none 0 0] 100) = wA := ⟨_, rfl⟩
  obtain ⟨g, hg⟩ : ∃ g, wr.heap.size = g := ⟨_, rfl⟩
  have huA : Upd [] wr wA := by rw [← hwA]; exact ((Upd.refl _ _).alloc _).alloc _
  have hbk : Blk wA g 22 #[.int .u16 0] := by rw [← hwA, ← hg]; exact (Blk.new _ _ _).alloc _
  have hbd : Blk wA (g + 1) 100 #[.slice none 0 0] := by
    rw [← hwA, ← hg]
    have := Blk.new (wr.alloc (.cells #[.int .u16 0] 22)) 100 #[.slice none 0 0]
    rwa [show (wr.alloc (.cells #[.int .u16 0] 22)).heap.size = wr.heap.size + 1 by simp] at this
  rw [hg] at U
  have hms := U.lt
  have hls := U.ls
  replace U := U.upd huA (by simp)
  have HWA := hid hwA
  clear hwA huA H7 e7
  have H := hid (ReadUint16_be U.sv (k := 0) hbk (by simp) (by omega) (by omega))
  go_wp2_with fail
  rw [HWA.out]
  refine H.out.mono ?_
  rintro e w9 ⟨rfl, hu9, hs9, hb9⟩
  have hb9 : Blk w9 g 22 #[wv k] := hb9
  have hd9 := hbd.upd hu9 (by simp; omega)
  replace U := U.next hu9 (by simp) hs9
  clear hbk hbd hu9 H hs9 HWA
  have hel : ed.length < 65536 := by omega
  have H := hid (ReadLP16_any U.sv (k := 0) hd9 (by simp) (by omega) (by omega))
  go_wp2_with fail
  refine H.out.mono ?_
  intro e w10 hp
  obtain ⟨u, rfl, hu10, hs10, hd10, hyd, hnn⟩ := hp.yes (lp_b2 ed _ hel)
  have hb10 := hb9.upd hu10 (by simp; omega)
  replace U := U.next hu10 (by simp) hs10
  have hsd : Sv w10 B (g + 1) ed True := ⟨by omega, u, hd10, hyd, fun _ => hnn⟩
  have hg10 : g + 1 < w10.heap.size := hd10.lt
  have k0 := hb10.cell 0
  simp at k0
  clear hd9 hb9 hu10 H hp hd10 hyd hnn hs10
  obtain ⟨M1, hks, hst, hkl, hrun2⟩ : ∃ M1, k ∉ M.exs ∧ ChStep { M with exs := M.exs ++ [k] } k ed M1 ∧ (k = 41 → L2 = []) ∧ ChRun M1 L2 t' := by
    cases hrun with
    | cons _ M1 _ _ _ _ h1 h2 h3 h4 => exact ⟨M1, h1, h2, h3, h4⟩
  have hr1 : M.exs.reverse.contains k = false := by simpa using hks
  have hnb : M.exs.length < 9223372036854775807 := by omega
  have HST := hid hst
  have HKL := hid hkl
  have HRUN := hid hrun2
  have HNL := hid hnl
  clear hks hrun hst hrun2 hnl hlen hkl
  go_upto_region 33 with (first
    | (at_lookup; refine wpList_seen rfl _ _ rfl rfl U.se k rfl hr1 ?_)
    | (at_mapUpdate; refine wpList_see rfl _ _ _ rfl rfl U.se hnb k rfl rfl ?_; intro w11 hse11 hu11; have U11 := U.see hu11 hse11; have hb11 := hb10.upd hu11 (by simp; omega); have hsd11 := hsd.upd hu11 (by simp; omega) (by simp; omega)))
  rename_i K33 hK33
  clear U hse11 hu11 hsd hb10 hg10 hr1 k0 hnb
  refine wp_normal (R := fun a' w' => ∃ cs', FrB m sx mb g a' ∧ DSt w0 B m s sx mb (g + 1) w'.heap.size 90 cs' (chF0 v0 v4 { M with exs := M.exs ++ [k] }) (exsB L2) (M.exs ++ [k]).length (M.exs ++ [k]).reverse v4 us w' ∧ Sv w' B (g + 1) ed True ∧ Blk w' g 22 #[wv k]) (fun K hK => app28_Ch ⟨rfl, by kernel_rfl, by kernel_rfl, by kernel_rfl, by kernel_rfl, by kernel_rfl, by kernel_rfl⟩ U11 hsd11 hb11 (by have := HNL.out; omega) (by omega) (fun a' w' cs' h1 h2 h3 h4 => hK _ _ ⟨cs', h1, h2, h3, h4⟩)) ?_
  rintro a' wz ⟨cs', hF', D, hdz, hkz⟩
  refine hK33 _ _ ?_
  clear U11 hsd11 hb11 hK33
  refine wp_seq_k fun K34 hK34 => ?_
  have hnz : (M.exs ++ [k]).length + (exsB L2).length ≤ xl := by have := HNL.out; simp; omega
  refine wp_mono (sw_Ch (M := { M with exs := M.exs ++ [k] }) hF' D hdz hkz HST.out HRUN.out hel hnz hms.1 HKL.out (fun a' w' h => h)) ?_
  intro e a2 w2 he
  cases e with
  | normal =>
    obtain ⟨hF2, M2, cs2, C2, hd2, hn2, hr2⟩ := he
    refine hK34 _ _ ?_
    refine wp_normal (R := fun a'' w'' => FrR m sx mb a'' ∧ w'' = w2) (fun K hK => tail_Ch hF2 hd2 (fun a' h => hK _ _ ⟨h, rfl⟩)) ?_
    rintro a3 w3 ⟨h3, rfl⟩
    exact HK.out _ _ L2.length (by simp) h3 ⟨L2, M2, cs2, rfl, by rw [HXL.out]; exact hn2, C2, hr2⟩
  | exit id =>
    obtain ⟨hid, hF2, M2, cs2, C2, hn2, hr2⟩ := he
    injection hid with hid
    subst hid
    exact HK.out _ _ L2.length (by simp) hF2 ⟨L2, M2, cs2, rfl, by rw [HXL.out]; exact hn2, C2, hr2⟩
  | goto l => exact absurd he.1 (by simp)
  | ret => exact absurd he.1 (by simp)
  | panic ch => exact absurd he.1 (by simp)
  | outgrown => exact absurd he.1 (by simp)
end
end Go.Proofs.Ytaajmfgplhfncaa

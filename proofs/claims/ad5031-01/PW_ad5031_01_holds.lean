import PyProof.Rows.All
import Wide.All
import OpenK.AllK
import Wide.FinOn
import PySem.Challenge.RW_ad5031_01
set_option Elab.async false
set_option maxRecDepth 100000
set_option rowWalk.seconds 0
section
open PySem PySem.W PyProof.Rows
namespace Mine
theorem seg_same : @PySem.W.segRunT = @PySem.W.segRunT := rfl
name_quick tw12767683915131110723 for PySem.W.segRunT by Mine.seg_same
name_quick tw11985326045990495214 for PySem.W.segRunT by Mine.seg_same
name_quick tw662354867322794072 for PySem.W.segRunT by Mine.seg_same
name_quick tw13789449189825218787 for PySem.W.segRunT by Mine.seg_same
name_quick tw16531745337717519161 for PySem.W.segRunT by Mine.seg_same
name_quick tw10938465397075749097 for PySem.W.segRunT by Mine.seg_same
name_quick tw8860024209350480642 for PySem.W.segRunT by Mine.seg_same
name_quick tw3577408171920636059 for PySem.W.segRunT by Mine.seg_same
name_quick tw17279654841073493023 for PySem.W.segRunT by Mine.seg_same
name_quick tw4636218855388986860 for PySem.W.segRunT by Mine.seg_same
name_quick tw17476080006546285661 for PySem.W.segRunT by Mine.seg_same
name_quick tw5529568453561195837 for PySem.W.segRunT by Mine.seg_same
name_quick tw8703263022893421829 for PySem.W.segRunT by Mine.seg_same
name_quick tw15980859228951719591 for PySem.W.segRunT by Mine.seg_same
name_quick tw4552823106982906706 for PySem.W.segRunT by Mine.seg_same
name_quick tw12268644228514654432 for PySem.W.segRunT by Mine.seg_same
name_quick tw17730448691065144110 for PySem.W.segRunT by Mine.seg_same
name_quick tw7745614565497352828 for PySem.W.segRunT by Mine.seg_same
name_quick tw4527066259768149269 for PySem.W.segRunT by Mine.seg_same
name_quick tw5706481520468235054 for PySem.W.segRunT by Mine.seg_same
name_quick tw8376441433122354887 for PySem.W.segRunT by Mine.seg_same
name_quick tw17964007177503468958 for PySem.W.segRunT by Mine.seg_same
name_quick tw14223099787259518943 for PySem.W.segRunT by Mine.seg_same
name_quick tw13145125596335152023 for PySem.W.segRunT by Mine.seg_same
name_quick tw7275051467321613617 for PySem.W.segRunT by Mine.seg_same
name_quick tw4090926877573551719 for PySem.W.segRunT by Mine.seg_same
name_quick tw5978237884098788730 for PySem.W.segRunT by Mine.seg_same
name_quick tw11566699232636054958 for PySem.W.segRunT by Mine.seg_same
name_quick tw8753696776887207221 for PySem.W.segRunT by Mine.seg_same
name_quick tw2283851925072248500 for PySem.W.segRunT by Mine.seg_same
name_quick tw1092655722715705105 for PySem.W.segRunT by Mine.seg_same
name_quick tw16414604833108395602 for PySem.W.segRunT by Mine.seg_same
name_quick tw951843321253372498 for PySem.W.segRunT by Mine.seg_same
name_quick tw8603108125212654177 for PySem.W.segRunT by Mine.seg_same
name_quick tw4658958612460137192 for PySem.W.segRunT by Mine.seg_same
name_quick tw6929956602132211858 for PySem.W.segRunT by Mine.seg_same
name_quick tw1414301608579184545 for PySem.W.segRunT by Mine.seg_same
name_quick tw16741492637210864865 for PySem.W.segRunT by Mine.seg_same
name_quick tw4011157648589011858 for PySem.W.segRunT by Mine.seg_same
name_quick tw4933834842325187142 for PySem.W.segRunT by Mine.seg_same
name_quick tw17888162413812561239 for PySem.W.segRunT by Mine.seg_same
name_quick tw15742981410569661332 for PySem.W.segRunT by Mine.seg_same
name_quick tw10227693086864044499 for PySem.W.segRunT by Mine.seg_same
name_quick tw3619232141914619222 for PySem.W.segRunT by Mine.seg_same
name_quick tw6654550962395885724 for PySem.W.segRunT by Mine.seg_same
name_quick tw9763268239775435451 for PySem.W.segRunT by Mine.seg_same
name_quick tw14834023430324568649 for PySem.W.segRunT by Mine.seg_same
name_quick tw18350330562280901221 for PySem.W.segRunT by Mine.seg_same
name_quick tw932993149863042379 for PySem.W.segRunT by Mine.seg_same
name_quick tw8537084889766193716 for PySem.W.segRunT by Mine.seg_same
name_quick tw282004115355043989 for PySem.W.segRunT by Mine.seg_same
name_quick tw17730428716208468724 for PySem.W.segRunT by Mine.seg_same
name_quick tw8693227569615203950 for PySem.W.segRunT by Mine.seg_same
name_quick tw10996506086634736982 for PySem.W.segRunT by Mine.seg_same
name_quick tw16349804527192203551 for PySem.W.segRunT by Mine.seg_same
name_quick tw15278061642289888581 for PySem.W.segRunT by Mine.seg_same
name_quick tw4292500188555128830 for PySem.W.segRunT by Mine.seg_same
name_quick tw1291980286583624508 for PySem.W.segRunT by Mine.seg_same
name_quick tw9407582987413476825 for PySem.W.segRunT by Mine.seg_same
name_quick tw15263041282635125899 for PySem.W.segRunT by Mine.seg_same
name_quick tw6589095468515690095 for PySem.W.segRunT by Mine.seg_same
name_quick tw16817318245366136608 for PySem.W.segRunT by Mine.seg_same
name_quick tw16916688483869632129 for PySem.W.segRunT by Mine.seg_same
name_quick tw11588390666370768167 for PySem.W.segRunT by Mine.seg_same
name_quick tw6004533443673955352 for PySem.W.segRunT by Mine.seg_same
name_quick tw4797165386629745026 for PySem.W.segRunT by Mine.seg_same
name_quick tw5268983451555188008 for PySem.W.segRunT by Mine.seg_same
name_quick tw13254397897704925713 for PySem.W.segRunT by Mine.seg_same
name_quick tw3152983702415266003 for PySem.W.segRunT by Mine.seg_same
name_quick tw3131671291697673992 for PySem.W.segRunT by Mine.seg_same
name_quick tw9862997608875712007 for PySem.W.segRunT by Mine.seg_same
name_quick tw151948405760981731 for PySem.W.segRunT by Mine.seg_same
name_quick tw10029231156530900338 for PySem.W.segRunT by Mine.seg_same
name_quick tw17954471519018878134 for PySem.W.segRunT by Mine.seg_same
name_quick tw18340240734955500558 for PySem.W.segRunT by Mine.seg_same
name_quick tw11788150170368784547 for PySem.W.segRunT by Mine.seg_same
name_quick tw13678640442995254988 for PySem.W.segRunT by Mine.seg_same
name_quick tw13236226663087606529 for PySem.W.segRunT by Mine.seg_same
name_quick tw3976722010076183465 for PySem.W.segRunT by Mine.seg_same
name_quick tw5349121933718820234 for PySem.W.segRunT by Mine.seg_same
name_quick tw14326252917377295143 for PySem.W.segRunT by Mine.seg_same
name_quick tw3362959441861295915 for PySem.W.segRunT by Mine.seg_same
name_quick tw1258717718454355964 for PySem.W.segRunT by Mine.seg_same
name_quick tw15894407043143930727 for PySem.W.segRunT by Mine.seg_same
set_option maxHeartbeats 8000000 in
open_top hd for PySem.Challenge.rw_ad5031_01
end Mine
end
namespace Mine
theorem off_Flo : True := by
  w_top off
  trivial
end Mine
namespace Mine
open PySem PySem.Float64 PySem.Flt

noncomputable def U : Nat := Classical.choose (⟨2 ^ 1054, rfl⟩ : ∃ n : Nat, n = 2 ^ 1054)
theorem U_eq : U = 2 ^ 1054 := Classical.choose_spec (⟨2 ^ 1054, rfl⟩ : ∃ n : Nat, n = 2 ^ 1054)
theorem U_pos : 0 < U := by rw [U_eq]; exact Nat.two_pow_pos _
theorem one_eq : (2 : Nat) ^ 1074 = U * 1048576 := by rw [U_eq]; exact Nat.pow_add 2 1054 20

/-- x is finite and lies between lo and hi, counted in 2 ^ -20 -/
def G (x : UInt64) (lo hi : Int) : Prop := isFinite x = true ∧ lo * (U : Int) ≤ val x ∧ val x ≤ hi * (U : Int)

theorem V_grid (h : Nat) (hh : h < 2 ^ 53) : ∃ t, V t = h * U := by
  by_cases h0 : h = 0
  · exact ⟨0, by rw [V_zero, h0, Nat.zero_mul]⟩
  · have hl : h.log2 < 53 := (Nat.log2_lt h0).2 hh
    have h1 := Nat.log2_self_le h0
    have h2 := @Nat.lt_log2_self h
    generalize h.log2 = l at *
    have e1 : (2 : Nat) ^ l * 2 ^ (52 - l) = 2 ^ 52 := by rw [← Nat.pow_add]; congr 1; omega
    have e2 : (2 : Nat) ^ (l + 1) * 2 ^ (52 - l) = 2 ^ 53 := by rw [← Nat.pow_add]; congr 1; omega
    have q1 : 2 ^ 52 ≤ h * 2 ^ (52 - l) := by rw [← e1]; exact Nat.mul_le_mul_right _ h1
    have q2 : h * 2 ^ (52 - l) ≤ 2 ^ 53 := by rw [← e2]; exact Nat.le_of_lt (Nat.mul_lt_mul_of_pos_right h2 (Nat.two_pow_pos _))
    refine ⟨(1054 - (52 - l)) * 2 ^ 52 + h * 2 ^ (52 - l), ?_⟩
    rw [V_at q2 (.inl q1), Nat.mul_assoc, ← Nat.pow_add, U_eq]
    congr 2
    omega

theorem right_mag {r : UInt64} {neg : Bool} {W D lo hi : Nat} (h : Right r neg W D) (hD : 0 < D) (hlo : lo * U * D ≤ W) (hhi : W ≤ hi * U * D) (bh : hi < 2 ^ 53) :
    ∃ t, r = pack neg t ∧ t < infMag ∧ lo * U ≤ V t ∧ V t ≤ hi * U := by
  obtain ⟨t, e, ht, hov, hn⟩ := h
  have hU := U_pos
  have hlt : t < infMag := by
    refine Nat.lt_of_le_of_ne ht fun q => ?_
    have h1 := hov.mp q
    have e1 : (2 : Nat) ^ 2045 = 2 ^ 991 * U := by rw [U_eq, ← Nat.pow_add]
    rw [e1] at h1
    have hJ : 4 ≤ (2 : Nat) ^ 991 := Nat.pow_le_pow_right (n := 2) (by decide) (show 2 ≤ 991 by decide)
    generalize (2 : Nat) ^ 991 = J at *
    have h2 : D * ((2 ^ 54 - 1) * (4 * U)) ≤ D * ((2 ^ 54 - 1) * (J * U)) := Nat.mul_le_mul_left _ (Nat.mul_le_mul_left _ (Nat.mul_le_mul_right _ hJ))
    have h3 : hi * U * D ≤ 2 ^ 53 * U * D := Nat.mul_le_mul_right _ (Nat.mul_le_mul_right _ (Nat.le_of_lt bh))
    have e2 : D * ((2 ^ 54 - 1) * (4 * U)) = ((2 ^ 54 - 1) * 4) * (U * D) := by ac_rfl
    have e3 : 2 ^ 53 * U * D = 2 ^ 53 * (U * D) := by ac_rfl
    have h4 : 0 < U * D := Nat.mul_pos hU hD
    generalize U * D = Z at *
    omega
  refine ⟨t, e, hlt, ?_, ?_⟩
  · obtain ⟨t', e'⟩ := V_grid lo (by
      have : lo * U * D ≤ hi * U * D := Nat.le_trans hlo hhi
      have := Nat.le_of_mul_le_mul_right (Nat.le_of_mul_le_mul_right this hD) hU
      omega)
    have := (hn hlt t').1
    rw [e'] at this
    refine Nat.le_of_not_lt fun q => ?_
    have q1 : D * V t < D * (lo * U) := Nat.mul_lt_mul_of_pos_left q hD
    have q2 : D * (lo * U) ≤ W := by rw [Nat.mul_comm]; exact hlo
    unfold dist at this
    generalize D * V t = a at *
    generalize D * (lo * U) = b at *
    omega
  · obtain ⟨t', e'⟩ := V_grid hi bh
    have := (hn hlt t').1
    rw [e'] at this
    refine Nat.le_of_not_lt fun q => ?_
    have q1 : D * (hi * U) < D * V t := Nat.mul_lt_mul_of_pos_left q hD
    have q2 : W ≤ D * (hi * U) := by rw [Nat.mul_comm D]; exact hhi
    unfold dist at this
    generalize D * V t = a at *
    generalize D * (hi * U) = b at *
    omega

theorem finite_pack (neg : Bool) {t : Nat} (h : t < infMag) : isFinite (pack neg t) = true := by
  obtain ⟨m, e, hd, _⟩ := decode_pack neg h
  unfold isFinite; rw [hd]

theorem cast_mul3 (a b c : Nat) : ((a * b * c : Nat) : Int) = (a : Int) * b * c := by rw [Int.natCast_mul, Int.natCast_mul]

theorem right_G {r : UInt64} {neg : Bool} {W D : Nat} {lo hi : Int} (h : Right r neg W D) (hD : 0 < D) (hlo : lo * U * D ≤ sgn neg W) (hhi : sgn neg W ≤ hi * U * D) (b1 : -2 ^ 53 < lo) (b2 : hi < 2 ^ 53) : G r lo hi := by
  have hU := U_pos
  have hUD : (0 : Int) < (U : Int) * (D : Int) := by exact_mod_cast Nat.mul_pos hU hD
  cases neg with
  | false =>
    have e0 : sgn false W = (W : Int) := rfl
    rw [e0] at hlo hhi
    have h0 : 0 ≤ hi := by
      refine Int.not_lt.mp fun q => ?_
      have : hi * U * D < 0 := by rw [Int.mul_assoc]; exact Int.mul_neg_of_neg_of_pos q hUD
      omega
    obtain ⟨H, rfl⟩ := Int.eq_ofNat_of_zero_le h0
    have hh : W ≤ H * U * D := by have := hhi; rw [← cast_mul3] at this; exact Int.ofNat_le.mp this
    have hl : lo.toNat * U * D ≤ W := by
      by_cases q : 0 ≤ lo
      · obtain ⟨l, rfl⟩ := Int.eq_ofNat_of_zero_le q
        rw [Int.toNat_natCast]
        have := hlo; rw [← cast_mul3] at this; exact Int.ofNat_le.mp this
      · have : lo.toNat = 0 := by omega
        rw [this, Nat.zero_mul, Nat.zero_mul]; exact Nat.zero_le _
    obtain ⟨t, rfl, ht, v1, v2⟩ := right_mag h hD hl hh (by omega)
    refine ⟨finite_pack _ ht, ?_, ?_⟩
    · rw [val_pack _ ht]
      have e1 : sgn false (V t) = (V t : Int) := rfl
      rw [e1]
      have v1' : ((lo.toNat : Nat) : Int) * (U : Int) ≤ (V t : Int) := by rw [← Int.natCast_mul]; exact Int.ofNat_le.mpr v1
      have : lo * (U : Int) ≤ ((lo.toNat : Nat) : Int) * (U : Int) := Int.mul_le_mul_of_nonneg_right (by omega) (by omega)
      omega
    · rw [val_pack _ ht]
      have e1 : sgn false (V t) = (V t : Int) := rfl
      rw [e1, ← Int.natCast_mul]; exact Int.ofNat_le.mpr v2
  | true =>
    have e0 : sgn true W = -(W : Int) := rfl
    rw [e0] at hlo hhi
    have h0 : lo ≤ 0 := by
      refine Int.not_lt.mp fun q => ?_
      have : 0 < lo * U * D := by rw [Int.mul_assoc]; exact Int.mul_pos q hUD
      omega
    obtain ⟨l, hl0⟩ := Int.eq_ofNat_of_zero_le (show 0 ≤ -lo by omega)
    have el : lo = -(l : Int) := by omega
    subst el
    have hh : W ≤ l * U * D := by
      have : (W : Int) ≤ (l : Int) * U * D := by rw [Int.neg_mul, Int.neg_mul] at hlo; omega
      rw [← cast_mul3] at this; exact Int.ofNat_le.mp this
    have hl : (-hi).toNat * U * D ≤ W := by
      by_cases q : 0 ≤ -hi
      · obtain ⟨k, hk⟩ := Int.eq_ofNat_of_zero_le q
        have ek : hi = -(k : Int) := by omega
        subst ek
        rw [show (-(-(k : Int))).toNat = k by omega]
        have : (k : Int) * U * D ≤ (W : Int) := by rw [Int.neg_mul, Int.neg_mul] at hhi; omega
        rw [← cast_mul3] at this; exact Int.ofNat_le.mp this
      · have : (-hi).toNat = 0 := by omega
        rw [this, Nat.zero_mul, Nat.zero_mul]; exact Nat.zero_le _
    obtain ⟨t, rfl, ht, v1, v2⟩ := right_mag h hD hl hh (by omega)
    have e1 : sgn true (V t) = -(V t : Int) := rfl
    refine ⟨finite_pack _ ht, ?_, ?_⟩
    · rw [val_pack _ ht, e1, Int.neg_mul, ← Int.natCast_mul]
      have := Int.ofNat_le.mpr v2
      omega
    · rw [val_pack _ ht, e1]
      have v1' : (((-hi).toNat : Nat) : Int) * (U : Int) ≤ (V t : Int) := by rw [← Int.natCast_mul]; exact Int.ofNat_le.mpr v1
      have : -hi * (U : Int) ≤ (((-hi).toNat : Nat) : Int) * (U : Int) := Int.mul_le_mul_of_nonneg_right (by omega) (by omega)
      rw [Int.neg_mul] at this
      omega

theorem finite_fin {x : UInt64} (h : isFinite x = true) : ∃ a m e, decode x = .fin a m e := by
  unfold isFinite at h
  split at h
  · exact ⟨_, _, _, by assumption⟩
  · cases h

theorem sgn_abs (z : Int) : sgn (decide (z < 0)) z.natAbs = z := by
  unfold sgn
  by_cases h : z < 0
  · simp only [h, decide_true, if_true]; omega
  · simp only [h, decide_false]; simp; omega

theorem val_zero (b : Bool) : val (zero b) = 0 ∧ isFinite (zero b) = true := by cases b <;> decide +kernel

theorem add_G {x y : UInt64} {l1 h1 l2 h2 lo hi : Int} (gx : G x l1 h1) (gy : G y l2 h2) (e1 : lo ≤ l1 + l2) (e2 : h1 + h2 ≤ hi) (b1 : -2 ^ 53 < lo) (b2 : hi < 2 ^ 53) : G (add x y) lo hi := by
  have hU := U_pos
  obtain ⟨fx, x1, x2⟩ := gx
  obtain ⟨fy, y1, y2⟩ := gy
  obtain ⟨a, m, e, hx⟩ := finite_fin fx
  obtain ⟨b, k, f, hy⟩ := finite_fin fy
  have hr := add_right hx hy
  have s1 : (l1 + l2) * (U : Int) ≤ val x + val y := by rw [Int.add_mul]; omega
  have s2 : val x + val y ≤ (h1 + h2) * (U : Int) := by rw [Int.add_mul]; omega
  have s3 : lo * (U : Int) ≤ (l1 + l2) * (U : Int) := Int.mul_le_mul_of_nonneg_right e1 (by omega)
  have s4 : (h1 + h2) * (U : Int) ≤ hi * (U : Int) := Int.mul_le_mul_of_nonneg_right e2 (by omega)
  by_cases hz : val x + val y = 0
  · rw [hr.1 hz]
    have hv := val_zero (a && b)
    exact ⟨hv.2, by rw [hv.1]; omega, by rw [hv.1]; omega⟩
  · refine right_G (hr.2 hz) (by decide) ?_ ?_ b1 b2
    · rw [sgn_abs]; simp; omega
    · rw [sgn_abs]; simp; omega

theorem neg_G {y : UInt64} {l h : Int} (g : G y l h) : G (neg y) (-h) (-l) := by
  obtain ⟨f, y1, y2⟩ := g
  obtain ⟨b, k, e, hy⟩ := finite_fin f
  refine ⟨by unfold isFinite; rw [neg_decode hy], ?_, ?_⟩
  · rw [neg_val hy, Int.neg_mul]; omega
  · rw [neg_val hy, Int.neg_mul]; omega
theorem sub_G {x y : UInt64} {l1 h1 l2 h2 lo hi : Int} (gx : G x l1 h1) (gy : G y l2 h2) (e1 : lo ≤ l1 - h2) (e2 : h1 - l2 ≤ hi) (b1 : -2 ^ 53 < lo) (b2 : hi < 2 ^ 53) : G (sub x y) lo hi := by
  unfold Float64.sub
  exact add_G gx (neg_G gy) (by omega) (by omega) b1 b2

theorem ofInt_G {n lo hi : Int} (e1 : lo ≤ n * 1048576) (e2 : n * 1048576 ≤ hi) (b1 : -2 ^ 53 < lo) (b2 : hi < 2 ^ 53) : G (ofInt n) lo hi := by
  have hU := U_pos
  have e0 : sgn (decide (n < 0)) (n.natAbs * 2 ^ 1074) = n * 1048576 * (U : Int) := by
    rw [sgn_mul, sgn_abs, one_eq, Int.natCast_mul]
    have : ((1048576 : Nat) : Int) = 1048576 := rfl
    rw [this]; ac_rfl
  have s3 : lo * (U : Int) ≤ (n * 1048576) * (U : Int) := Int.mul_le_mul_of_nonneg_right e1 (by omega)
  have s4 : (n * 1048576) * (U : Int) ≤ hi * (U : Int) := Int.mul_le_mul_of_nonneg_right e2 (by omega)
  refine right_G (ofInt_right n) (by decide) ?_ ?_ b1 b2
  · rw [e0]; simpa using s3
  · rw [e0]; simpa using s4

theorem val_ofInt {n : Int} (b1 : -2 ^ 33 < n) (b2 : n < 2 ^ 33) : isFinite (ofInt n) = true ∧ val (ofInt n) = n * 1048576 * (U : Int) := by
  obtain ⟨f, a, b⟩ := ofInt_G (n := n) (Int.le_refl _) (Int.le_refl _) (by omega) (by omega)
  exact ⟨f, by omega⟩

/-- a product by an int -/
theorem mul_G {x : UInt64} {l h k lo hi : Int} (gx : G x l h) (hk1 : -2 ^ 33 < k) (hk2 : k < 2 ^ 33) (hx : l = h ∨ 0 ≤ k) (e1 : lo ≤ l * k) (e2 : h * k ≤ hi) (b1 : -2 ^ 53 < lo) (b2 : hi < 2 ^ 53) : G (mul x (ofInt k)) lo hi := by
  have hU := U_pos
  obtain ⟨fx, x1, x2⟩ := gx
  obtain ⟨fy, vy⟩ := val_ofInt hk1 hk2
  obtain ⟨a, m, e, hx'⟩ := finite_fin fx
  obtain ⟨b, j, f, hy'⟩ := finite_fin fy
  have hr := mul_right hx' hy'
  have es : sgn (a != b) ((val x).natAbs * (val (ofInt k)).natAbs) = val x * val (ofInt k) := by
    rw [val_natAbs hx', val_natAbs hy', val_eq hx', val_eq hy']
    unfold sgn
    cases a <;> cases b <;> simp [Int.neg_mul, Int.mul_neg]
  have vx : l * k * (U : Int) ≤ val x * k ∧ val x * k ≤ h * k * (U : Int) := by
    have a1 : l * k * (U : Int) = l * (U : Int) * k := by ac_rfl
    have a2 : h * k * (U : Int) = h * (U : Int) * k := by ac_rfl
    rw [a1, a2]
    rcases hx with rfl | hk
    · have : val x = l * (U : Int) := by omega
      rw [this]; exact ⟨Int.le_refl _, Int.le_refl _⟩
    · exact ⟨Int.mul_le_mul_of_nonneg_right x1 hk, Int.mul_le_mul_of_nonneg_right x2 hk⟩
  have eD : ((2 ^ 1074 : Nat) : Int) = 1048576 * (U : Int) := by rw [one_eq, Int.natCast_mul]; exact Int.mul_comm _ _
  have s3 : lo * (U : Int) ≤ (l * k) * (U : Int) := Int.mul_le_mul_of_nonneg_right e1 (by omega)
  have s4 : (h * k) * (U : Int) ≤ hi * (U : Int) := Int.mul_le_mul_of_nonneg_right e2 (by omega)
  have hM : (0 : Int) ≤ 1048576 * (U : Int) := by omega
  refine right_G hr (Nat.two_pow_pos _) ?_ ?_ b1 b2
  · rw [es, vy, eD]
    have : val x * (k * 1048576 * (U : Int)) = val x * k * (1048576 * (U : Int)) := by ac_rfl
    rw [this]
    exact Int.mul_le_mul_of_nonneg_right (by omega) hM
  · rw [es, vy, eD]
    have : val x * (k * 1048576 * (U : Int)) = val x * k * (1048576 * (U : Int)) := by ac_rfl
    rw [this]
    exact Int.mul_le_mul_of_nonneg_right (by omega) hM

theorem floor_G {x : UInt64} {lo hi k : Int} (g : G x lo hi) (h1 : k * 1048576 ≤ lo) (h2 : hi < (k + 1) * 1048576) : toInt floorOf x = k := by
  have hU := U_pos
  obtain ⟨f, a1, a2⟩ := g
  obtain ⟨a, m, e, hx⟩ := finite_fin f
  unfold toInt
  rw [hx]
  dsimp only
  have he := decode_ge hx
  have hv : val x = sgn a m * ((2 ^ (e + 1074).toNat : Nat) : Int) := by rw [val_eq hx, sgn_mul]
  have l1 : k * (1048576 * (U : Int)) ≤ val x := by
    have : k * 1048576 * (U : Int) ≤ lo * (U : Int) := Int.mul_le_mul_of_nonneg_right h1 (by omega)
    rw [Int.mul_assoc] at this; omega
  have l2 : val x < (k + 1) * (1048576 * (U : Int)) := by
    have : hi * (U : Int) < (k + 1) * 1048576 * (U : Int) := Int.mul_lt_mul_of_pos_right h2 (by omega)
    rw [Int.mul_assoc] at this; omega
  have eD : ((2 ^ 1074 : Nat) : Int) = 1048576 * (U : Int) := by rw [one_eq, Int.natCast_mul]; exact Int.mul_comm _ _
  rw [← eD, hv] at l1 l2
  unfold floorOf
  split
  · rename_i h
    have e1 : (e + 1074).toNat = e.toNat + 1074 := by omega
    rw [e1, Nat.pow_add, Int.natCast_mul, ← Int.mul_assoc] at l1 l2
    have hK : (0 : Int) < ((2 ^ 1074 : Nat) : Int) := by exact_mod_cast Nat.two_pow_pos _
    have q1 := Int.le_of_mul_le_mul_right l1 hK
    have q2 := Int.lt_of_mul_lt_mul_right l2 (Int.le_of_lt hK)
    have e3 : (2 : Int) ^ e.toNat = ((2 ^ e.toNat : Nat) : Int) := by simp
    rw [e3]
    omega
  · rename_i h
    have e1 : 1074 = (-e).toNat + (e + 1074).toNat := by omega
    have e2 : (2 : Nat) ^ 1074 = 2 ^ (-e).toNat * 2 ^ (e + 1074).toNat := by rw [← Nat.pow_add, ← e1]
    rw [e2, Int.natCast_mul, ← Int.mul_assoc] at l1 l2
    have hK : (0 : Int) < ((2 ^ (e + 1074).toNat : Nat) : Int) := by exact_mod_cast Nat.two_pow_pos _
    have q1 := Int.le_of_mul_le_mul_right l1 hK
    have q2 := Int.lt_of_mul_lt_mul_right l2 (Int.le_of_lt hK)
    have e3 : (2 : Int) ^ (-e).toNat = ((2 ^ (-e).toNat : Nat) : Int) := by simp
    rw [e3]
    have hP : (0 : Int) < ((2 ^ (-e).toNat : Nat) : Int) := by exact_mod_cast Nat.two_pow_pos _
    generalize ((2 ^ (-e).toNat : Nat) : Int) = P at *
    rw [Int.fdiv_eq_ediv_of_nonneg _ (Int.le_of_lt hP)]
    have d1 := Int.le_ediv_of_mul_le hP q1
    have d2 := Int.ediv_lt_of_lt_mul hP q2
    omega

theorem val_pos_sign {y : UInt64} {b : Bool} {k : Nat} {f : Int} (hy : decode y = .fin b k f) (h : 0 < val y) : b = false ∧ k ≠ 0 := by
  rw [val_eq hy] at h
  cases b with
  | false =>
    refine ⟨rfl, fun q => ?_⟩
    subst q
    simp [sgn] at h
  | true =>
    exfalso
    have : sgn true (k * 2 ^ (f + 1074).toNat) = -((k * 2 ^ (f + 1074).toNat : Nat) : Int) := rfl
    rw [this] at h
    omega
theorem sgn_val {x : UInt64} {a : Bool} {m : Nat} {e : Int} (hx : decode x = .fin a m e) : sgn a (val x).natAbs = val x := by
  rw [val_natAbs hx, val_eq hx]
theorem one_int : ((2 ^ 1074 : Nat) : Int) = 1048576 * (U : Int) := by rw [one_eq, Int.natCast_mul]; exact Int.mul_comm _ _

theorem div_G {x y : UInt64} {lo hi : Int} (fx : isFinite x = true) (fy : isFinite y = true) (hp : 0 < val y) (e1 : lo * val y ≤ val x * 1048576) (e2 : val x * 1048576 ≤ hi * val y) (b1 : -2 ^ 53 < lo) (b2 : hi < 2 ^ 53) : G (div x y) lo hi := by
  have hU := U_pos
  obtain ⟨a, m, e, hx⟩ := finite_fin fx
  obtain ⟨b, k, f, hy⟩ := finite_fin fy
  obtain ⟨rfl, hk⟩ := val_pos_sign hy hp
  have hr := div_right hx hy hk
  have ea : (a != false) = a := by cases a <;> rfl
  rw [ea] at hr
  have es : sgn a ((val x).natAbs * 2 ^ 1074) = val x * (1048576 * (U : Int)) := by rw [sgn_mul, sgn_val hx, one_int]
  have eD : (((val y).natAbs : Nat) : Int) = val y := by omega
  refine right_G hr (by omega) ?_ ?_ b1 b2
  · rw [es, eD]
    have q := Int.mul_le_mul_of_nonneg_right e1 (show (0 : Int) ≤ (U : Int) by omega)
    calc lo * (U : Int) * val y = lo * val y * (U : Int) := by ac_rfl
      _ ≤ val x * 1048576 * (U : Int) := q
      _ = val x * (1048576 * (U : Int)) := by ac_rfl
  · rw [es, eD]
    have q := Int.mul_le_mul_of_nonneg_right e2 (show (0 : Int) ≤ (U : Int) by omega)
    calc val x * (1048576 * (U : Int)) = val x * 1048576 * (U : Int) := by ac_rfl
      _ ≤ hi * val y * (U : Int) := q
      _ = hi * (U : Int) * val y := by ac_rfl

/-- a quotient of two ints -/
theorem frac_G {a b lo hi : Int} (hb : 0 < b) (e1 : lo * b ≤ a * 1048576) (e2 : a * 1048576 ≤ hi * b) (b1 : -2 ^ 53 < lo) (b2 : hi < 2 ^ 53) : G (ofFrac (decide (a < 0) != decide (b < 0)) a.natAbs b.natAbs) lo hi := by
  have hU := U_pos
  have eb : decide (b < 0) = false := decide_eq_false (by omega)
  have ea : (decide (a < 0) != false) = decide (a < 0) := by cases decide (a < 0) <;> rfl
  rw [eb, ea]
  have eD : ((b.natAbs : Nat) : Int) = b := by omega
  have hr : Right (ofFrac (decide (a < 0)) a.natAbs b.natAbs) (decide (a < 0)) (a.natAbs * 2 ^ 1074) b.natAbs := ofFrac_right (by omega) rfl (by omega)
  have es : sgn (decide (a < 0)) (a.natAbs * 2 ^ 1074) = a * (1048576 * (U : Int)) := by rw [sgn_mul, sgn_abs, one_int]
  refine right_G hr (by omega) ?_ ?_ b1 b2
  · rw [es, eD]
    have q := Int.mul_le_mul_of_nonneg_right e1 (show (0 : Int) ≤ (U : Int) by omega)
    calc lo * (U : Int) * b = lo * b * (U : Int) := by ac_rfl
      _ ≤ a * 1048576 * (U : Int) := q
      _ = a * (1048576 * (U : Int)) := by ac_rfl
  · rw [es, eD]
    have q := Int.mul_le_mul_of_nonneg_right e2 (show (0 : Int) ≤ (U : Int) by omega)
    calc a * (1048576 * (U : Int)) = a * 1048576 * (U : Int) := by ac_rfl
      _ ≤ hi * b * (U : Int) := q
      _ = hi * (U : Int) * b := by ac_rfl

theorem trunc_pos {x : UInt64} {lo hi k : Int} (g : G x lo hi) (h0 : 0 ≤ k) (h1 : k * 1048576 ≤ lo) (h2 : hi < (k + 1) * 1048576) : toInt truncOf x = k := by
  have hU := U_pos
  obtain ⟨a, m, e, hx⟩ := finite_fin g.1
  have hf := floor_G g h1 h2
  unfold toInt at hf ⊢
  rw [hx] at hf ⊢
  dsimp only at hf ⊢
  cases a with
  | false => exact hf
  | true =>
    have hv := val_eq hx
    have e1 : sgn true (m * 2 ^ (e + 1074).toNat) = -((m * 2 ^ (e + 1074).toNat : Nat) : Int) := rfl
    have hlo : 0 ≤ lo * (U : Int) := Int.mul_nonneg (by omega) (by omega)
    have hz : m = 0 := by
      have := g.2.1
      rw [hv, e1] at this
      have h3 : m * 2 ^ (e + 1074).toNat = 0 := by omega
      rcases Nat.mul_eq_zero.mp h3 with h | h
      · exact h
      · exact absurd h (Nat.ne_of_gt (Nat.two_pow_pos _))
    subst hz
    have e3 : truncOf true 0 e = 0 := by
      unfold truncOf ceilOf floorOf sgn
      simp
    have e4 : floorOf true 0 e = 0 := by
      unfold floorOf sgn
      simp
    rw [e3]; rw [e4] at hf; exact hf

theorem trunc_exact {x : UInt64} {k : Int} (g : G x (k * 1048576) (k * 1048576)) : toInt truncOf x = k := by
  obtain ⟨a, m, e, hx⟩ := finite_fin g.1
  have hf := floor_G g (Int.le_refl _) (by omega)
  have hn := floor_G (k := -k) (neg_G g) (by omega) (by omega)
  unfold toInt at hf hn ⊢
  rw [neg_decode hx] at hn
  rw [hx] at hf ⊢
  dsimp only at hf hn ⊢
  cases a with
  | false => exact hf
  | true =>
    unfold truncOf ceilOf
    simp only [if_true]
    rw [hn]; omega

theorem cmp_G {x y : UInt64} {a b : Int} (gx : G x a a) (gy : G y b b) : cmp x y = some (compare a b) := by
  have hU := U_pos
  obtain ⟨_, m, e, hx⟩ := finite_fin gx.1
  obtain ⟨_, k, f, hy⟩ := finite_fin gy.1
  rw [cmp_right hx hy]
  have vx : val x = a * (U : Int) := by have := gx.2.1; have := gx.2.2; omega
  have vy : val y = b * (U : Int) := by have := gy.2.1; have := gy.2.2; omega
  rw [vx, vy]
  have hp : (0 : Int) < (U : Int) := by omega
  generalize (U : Int) = K at *
  congr 1
  rcases Int.lt_trichotomy a b with h | h | h
  · rw [Int.compare_eq_lt.mpr h, Int.compare_eq_lt.mpr (Int.mul_lt_mul_of_pos_right h hp)]
  · subst h; simp
  · rw [Int.compare_eq_gt.mpr h, Int.compare_eq_gt.mpr (Int.mul_lt_mul_of_pos_right h hp)]
theorem cmpInt_G {x : UInt64} {a i : Int} (gx : G x a a) : cmpInt x i = some (compare a (i * 1048576)) := by
  have hU := U_pos
  obtain ⟨_, m, e, hx⟩ := finite_fin gx.1
  rw [cmpInt_right hx]
  have vx : val x = a * (U : Int) := by have := gx.2.1; have := gx.2.2; omega
  have ei : i * (2 : Int) ^ 1074 = i * 1048576 * (U : Int) := by
    have : (2 : Int) ^ 1074 = ((2 ^ 1074 : Nat) : Int) := by rw [Int.natCast_pow]; rfl
    rw [this, one_int]; ac_rfl
  rw [vx, ei]
  have hp : (0 : Int) < (U : Int) := by omega
  generalize (U : Int) = K at *
  generalize i * 1048576 = b
  congr 1
  rcases Int.lt_trichotomy a b with h | h | h
  · rw [Int.compare_eq_lt.mpr h, Int.compare_eq_lt.mpr (Int.mul_lt_mul_of_pos_right h hp)]
  · subst h; simp
  · rw [Int.compare_eq_gt.mpr h, Int.compare_eq_gt.mpr (Int.mul_lt_mul_of_pos_right h hp)]
theorem compare_eq_dec (a b : Int) : (some (compare a b) == some Ordering.eq) = decide (a = b) := by
  rcases Int.lt_trichotomy a b with h | h | h
  · rw [Int.compare_eq_lt.mpr h, decide_eq_false (by omega)]; rfl
  · subst h; simp
  · rw [Int.compare_eq_gt.mpr h, decide_eq_false (by omega)]; rfl
theorem compare_lt_dec (a b : Int) : (some (compare a b) == some Ordering.lt) = decide (a < b) := by
  rcases Int.lt_trichotomy a b with h | h | h
  · rw [Int.compare_eq_lt.mpr h, decide_eq_true h]; rfl
  · subst h; simp
  · rw [Int.compare_eq_gt.mpr h, decide_eq_false (by omega)]; rfl

theorem ofBin_G {neg : Bool} {r : Nat} {g : Int} {lo hi : Int} (hg : -1074 ≤ g) (e1 : lo * (U : Int) ≤ sgn neg (r * 2 ^ (g + 1074).toNat)) (e2 : sgn neg (r * 2 ^ (g + 1074).toNat) ≤ hi * (U : Int)) (b1 : -2 ^ 53 < lo) (b2 : hi < 2 ^ 53) : G (ofBin neg r g) lo hi := by
  unfold ofBin
  have hr : Right (ofFrac neg (shift r 1 g).1 (shift r 1 g).2) neg (r * 2 ^ (g + 1074).toNat) 1 := by
    refine ofFrac_right (shift_pos _ _ _ (by decide)) ?_ (by decide)
    have := shift_one r g 1074 (by omega)
    rw [Nat.mul_one]
    exact this
  exact right_G hr (by decide) (by simpa using e1) (by simpa using e2) b1 b2

/-- the float remainder of a whole number by a whole positive one -/
theorem fmod_G {x : UInt64} {A n : Int} (gx : G x (A * 1048576) (A * 1048576)) (hn : 0 < n) (hn2 : n < 2 ^ 32) : G (fmod x (ofInt n)) (A.tmod n * 1048576) (A.tmod n * 1048576) := by
  have hU := U_pos
  obtain ⟨fy, vy⟩ := val_ofInt (n := n) (by omega) (by omega)
  obtain ⟨a, m, e, hx⟩ := finite_fin gx.1
  obtain ⟨b, k, f, hy⟩ := finite_fin fy
  have vx : val x = A * 1048576 * (U : Int) := by have := gx.2.1; have := gx.2.2; omega
  have hpy : 0 < val (ofInt n) := by rw [vy]; exact Int.mul_pos (by omega) (by omega)
  obtain ⟨rfl, hk⟩ := val_pos_sign hy hpy
  have hde := decode_ge hx
  have hdf := decode_ge hy
  unfold fmod
  rw [hx, hy]
  dsimp only
  rw [if_neg (by simpa using hk)]
  unfold align
  dsimp only
  have ep : ∀ z : Nat, (sgn false z).toNat = z := fun z => by unfold sgn; simp
  rw [ep, ep]
  have g0 : -1074 ≤ min e f := by omega
  have nx := val_natAbs hx
  have ny := val_natAbs hy
  have q1 : m * 2 ^ (e - min e f).toNat * 2 ^ (min e f + 1074).toNat = (val x).natAbs := by
    rw [nx, Nat.mul_assoc, ← Nat.pow_add]; congr 2; omega
  have q2 : k * 2 ^ (f - min e f).toNat * 2 ^ (min e f + 1074).toNat = (val (ofInt n)).natAbs := by
    rw [ny, Nat.mul_assoc, ← Nat.pow_add]; congr 2; omega
  have q3 : (m * 2 ^ (e - min e f).toNat % (k * 2 ^ (f - min e f).toNat)) * 2 ^ (min e f + 1074).toNat = (val x).natAbs % (val (ofInt n)).natAbs := by
    rw [← q1, ← q2, Nat.mul_mod_mul_right]
  have w1 : (val x).natAbs = A.natAbs * (1048576 * U) := by
    rw [vx, Int.natAbs_mul, Int.natAbs_mul, Int.natAbs_natCast, Nat.mul_assoc]; rfl
  have w2 : (val (ofInt n)).natAbs = n.natAbs * (1048576 * U) := by
    rw [vy, Int.natAbs_mul, Int.natAbs_mul, Int.natAbs_natCast, Nat.mul_assoc]; rfl
  have q4 : (val x).natAbs % (val (ofInt n)).natAbs = (A.natAbs % n.natAbs) * (1048576 * U) := by rw [w1, w2, Nat.mul_mod_mul_right]
  have hs : sgn a ((m * 2 ^ (e - min e f).toNat % (k * 2 ^ (f - min e f).toNat)) * 2 ^ (min e f + 1074).toNat) = A.tmod n * 1048576 * (U : Int) := by
    rw [q3, q4, sgn_mul]
    have hsg : sgn a (A.natAbs % n.natAbs) = A.tmod n := by
      have hsv := sgn_val hx
      by_cases hA : A = 0
      · subst hA; simp [sgn]
      · have hneg : a = decide (A < 0) := by
          cases a with
          | false =>
            have : (0 : Int) ≤ val x := by rw [← hsv]; unfold sgn; simp
            rw [vx] at this
            refine (decide_eq_false fun q => ?_).symm
            have : A * 1048576 * (U : Int) < 0 := Int.mul_neg_of_neg_of_pos (by omega) (by omega)
            omega
          | true =>
            have : val x ≤ 0 := by rw [← hsv]; unfold sgn; simp
            rw [vx] at this
            refine (decide_eq_true (Int.not_le.mp fun q => ?_)).symm
            have : 0 < A * 1048576 * (U : Int) := Int.mul_pos (by omega) (by omega)
            omega
        rw [hneg]
        unfold sgn
        by_cases hlt : A < 0
        · simp only [hlt, decide_true, if_true]
          have h1 : A = -((A.natAbs : Nat) : Int) := by omega
          have h2 : n = ((n.natAbs : Nat) : Int) := by omega
          rw [h1, h2, Int.neg_tmod, Int.natAbs_neg, Int.natAbs_natCast, Int.natAbs_natCast]
          rfl
        · simp only [hlt, decide_false, Bool.false_eq_true, if_false]
          have h1 : A = ((A.natAbs : Nat) : Int) := by omega
          have h2 : n = ((n.natAbs : Nat) : Int) := by omega
          rw [h1, h2, Int.natAbs_natCast, Int.natAbs_natCast]
          rfl
    rw [hsg, Int.natCast_mul]
    have : ((1048576 : Nat) : Int) = 1048576 := rfl
    rw [this, Int.mul_assoc]
  have bt := Int.tmod_lt_of_pos A hn
  have bt2 : -n < A.tmod n := by
    have := Int.tmod_lt_of_pos (-A) hn
    rw [Int.neg_tmod] at this
    omega
  exact ofBin_G g0 (by rw [hs]; exact Int.le_refl _) (by rw [hs]; exact Int.le_refl _) (by omega) (by omega)

theorem isZero_of_val {x : UInt64} {a : Bool} {m : Nat} {e : Int} (hx : decode x = .fin a m e) : isZero x = decide (val x = 0) := by
  unfold isZero
  rw [hx]
  rw [val_eq hx]
  cases m with
  | zero => simp [sgn]
  | succ k =>
    have h : sgn a ((k + 1) * 2 ^ (e + 1074).toNat) ≠ 0 := fun q => by
      have := congrArg Int.natAbs q
      rw [sgn_natAbs] at this
      rcases Nat.mul_eq_zero.mp this with h | h
      · omega
      · exact absurd h (Nat.ne_of_gt (Nat.two_pow_pos _))
    rw [decide_eq_false h]
    rfl
theorem zero_G : G (zero false) 0 0 := by
  have := val_zero false
  exact ⟨this.2, by rw [this.1]; simp, by rw [this.1]; simp⟩
theorem mod_G {x : UInt64} {A n : Int} (gx : G x (A * 1048576) (A * 1048576)) (hn : 0 < n) (hn2 : n < 2 ^ 32) : G (divmod x (ofInt n)).2 (A.fmod n * 1048576) (A.fmod n * 1048576) := by
  have hU := U_pos
  have gm := fmod_G gx hn hn2
  have gy := ofInt_G (n := n) (Int.le_refl _) (Int.le_refl _) (by omega) (by omega)
  have ez : lt (ofInt n) (zero false) = false := by
    unfold lt; rw [cmp_G gy zero_G, compare_lt_dec]; exact decide_eq_false (by omega)
  have em : lt (fmod x (ofInt n)) (zero false) = decide (A.tmod n < 0) := by
    unfold lt; rw [cmp_G gm zero_G, compare_lt_dec]
    by_cases h : A.tmod n < 0
    · rw [decide_eq_true h, decide_eq_true (by omega)]
    · rw [decide_eq_false h, decide_eq_false (by omega)]
  obtain ⟨a, m, e, hm⟩ := finite_fin gm.1
  have vm : val (fmod x (ofInt n)) = A.tmod n * 1048576 * (U : Int) := by have := gm.2.1; have := gm.2.2; omega
  have ei : isZero (fmod x (ofInt n)) = decide (A.tmod n = 0) := by
    rw [isZero_of_val hm, vm]
    by_cases h : A.tmod n = 0
    · rw [decide_eq_true h, h]; simp
    · rw [decide_eq_false h]
      refine decide_eq_false fun q => ?_
      rcases Int.mul_eq_zero.mp q with q | q <;> omega
  have hfm : A.fmod n = A % n := Int.fmod_eq_emod_of_nonneg A (by omega)
  have htm := Int.tmod_eq_emod (a := A) (b := n)
  have h3 := Int.emod_lt_of_pos A hn
  have h4 := Int.emod_nonneg A (show n ≠ 0 by omega)
  have bt := Int.tmod_lt_of_pos A hn
  unfold divmod
  dsimp only
  rw [ei, ez, em]
  by_cases h : A.tmod n = 0
  · simp only [h, decide_true, if_true]
    have hz : A.fmod n = 0 := by
      rw [hfm]
      have hd : n ∣ A := Int.dvd_of_tmod_eq_zero h
      exact Int.emod_eq_zero_of_dvd hd
    rw [hz]
    obtain ⟨b, k, f, hy⟩ := finite_fin gy.1
    have vy : val (ofInt n) = n * 1048576 * (U : Int) := by have := gy.2.1; have := gy.2.2; omega
    have hpy : 0 < val (ofInt n) := by rw [vy]; exact Int.mul_pos (by omega) (by omega)
    obtain ⟨rfl, hk⟩ := val_pos_sign hy hpy
    have hsb : signBit (ofInt n) = false := by
      unfold decode at hy
      dsimp only at hy
      unfold signBit
      split at hy
      · split at hy <;> cases hy
      · split at hy <;> (injection hy)
    have ec : copysign (zero false) (ofInt n) = zero false := by
      have : isNaN (zero false) = false := by decide +kernel
      unfold copysign
      rw [this, hsb]
      decide +kernel
    rw [ec]
    exact zero_G
  · simp only [h, decide_false, Bool.false_eq_true, if_false]
    by_cases hlt : A.tmod n < 0
    · simp only [hlt, decide_true, Bool.false_bne, if_true]
      have hv : A.fmod n = A.tmod n + n := by
        rw [hfm]
        rw [htm]
        split
        · rename_i q
          rw [htm, if_pos q] at hlt
          omega
        · omega
      refine add_G gm gy ?_ ?_ ?_ ?_ <;> (rw [hv]; omega)
    · simp only [hlt, decide_false, bne_self_eq_false, Bool.false_eq_true, if_false]
      have hv : A.fmod n = A.tmod n := by
        rw [hfm, htm]
        split
        · omega
        · rename_i q
          rw [htm, if_neg q] at hlt
          omega
      rw [hv]
      exact gm
end Mine

namespace Mine
theorem off_Rules : True := by
  w_top off
  trivial
end Mine
namespace Mine
open PySem PySem.W PySem.Spec PySem.Calls PyProof.Rows PySem.Flt

/-- x is the float nearest to a / b -/
def Dv (x : UInt64) (a b : Int) : Prop := G x (a * 1048576 / b) (a * 1048576 / b + 1) ∧ ∀ k, a * 1048576 = k * b → G x k k
theorem Dv.g {x : UInt64} {a b : Int} (h : Dv x a b) : G x (a * 1048576 / b) (a * 1048576 / b + 1) := h.1
theorem Dv.half {x : UInt64} {a : Int} (h : Dv x a 2) : G x (a * 524288) (a * 524288) := h.2 _ (by omega)
/-- q is v, said so that no arithmetic sees it -/
def Is (q v : Int) : Prop := q = v
theorem Is.eq {q v : Int} (h : Is q v) : q = v := h
theorem ediv_bounds {a b : Int} (hb : 0 < b) : a / b * b ≤ a ∧ a < (a / b + 1) * b := by
  have h1 := Int.mul_ediv_add_emod a b
  have h2 := Int.emod_nonneg a (show b ≠ 0 by omega)
  have h3 := Int.emod_lt_of_pos a hb
  rw [Int.add_mul, Int.one_mul, Int.mul_comm (a / b) b]
  omega
theorem ediv_small {a b c : Int} (hb : 0 < b) (hc : 0 < c) (h1 : -c < a) (h2 : a < c) : -c - 1 < a / b ∧ a / b < c + 1 := by
  obtain ⟨p, q⟩ := ediv_bounds (a := a) hb
  constructor
  · refine Int.not_le.mp fun h => ?_
    have e : (a / b + 1) * b ≤ (-c) * b := Int.mul_le_mul_of_nonneg_right (by omega) (by omega)
    have e2 : (-c) * b ≤ (-c) * 1 := Int.mul_le_mul_of_nonpos_left (by omega) (by omega)
    omega
  · refine Int.not_le.mp fun h => ?_
    have e : (c + 1) * b ≤ a / b * b := Int.mul_le_mul_of_nonneg_right h (by omega)
    have e2 : (c + 1) * 1 ≤ (c + 1) * b := Int.mul_le_mul_of_nonneg_left (by omega) (by omega)
    omega

section
variable {prog : Program} {w : World} {A : Around} {E : Value → Shared → Prop} {s : Shared} {Q : Value → Shared → Prop} {t u : Tok} {x y : UInt64} {a b n l h l2 h2 : Int}

theorem fin_notNaN (g : Float64.isFinite x = true) : ¬ Float64.isNaN x = true := by rw [not_nan_of_finite g]; exact Bool.false_ne_true
theorem fin_notInf (g : Float64.isFinite x = true) : ¬ Float64.isInf x = true := by rw [not_inf_of_finite g]; exact Bool.false_ne_true
theorem notOver (h1 : -2 ^ 40 < n) (h2 : n < 2 ^ 40) : n.natAbs < 2 ^ 1023 := by
  have : n.natAbs < 2 ^ 40 := by omega
  exact Nat.lt_of_lt_of_le this (Nat.pow_le_pow_right (by decide) (by decide))
theorem notOver' (h1 : -2 ^ 40 < n) (h2 : n < 2 ^ 40) : ¬ Over n := by
  unfold Over
  have h3 : n.natAbs < 2 ^ 40 := by omega
  have h4 : (2 : Nat) ^ 40 ≤ 2 ^ 1024 - 2 ^ 970 := by decide +kernel
  omega

theorem rf_div_ii (hA : A.handled = none) (hb : 0 < b) (h1 : -4294967296 < a) (h2 : a < 4294967296)
    (k : ∀ x, Dv x a b → Q (.float x s.toks) { s with toks := s.toks + 1 }) : wpAny (model prog w) A (binaryOp .Div (.int a t) (.int b u)) Q E s := by
  refine div_ii_fits hA (notOver (by omega) (by omega)) (fun q => by omega) (fun _ _ => k _ ⟨?_, ?_⟩)
  · obtain ⟨p, q⟩ := ediv_bounds (a := a * 1048576) hb
    obtain ⟨r1, r2⟩ := ediv_small (a := a * 1048576) (c := 4503599627370496) hb (by omega) (by omega) (by omega)
    exact frac_G hb p (Int.le_of_lt q) (by omega) (by omega)
  · intro k hk
    have q : k = a * 1048576 / b := by rw [hk, Int.mul_ediv_cancel _ (by omega)]
    obtain ⟨r1, r2⟩ := ediv_small (a := a * 1048576) (c := 4503599627370496) hb (by omega) (by omega) (by omega)
    rw [← q] at r1 r2
    exact frac_G hb (by omega) (by omega) (by omega) (by omega)

theorem rf_floor_g (hA : A.handled = none) (hx : G x l h) (hs : h < (l / 1048576 + 1) * 1048576) (k : Q (.int (l / 1048576) s.toks) { s with toks := s.toks + 1 }) : wpAny (model prog w) A (call (.builtin "math.floor") [.float x t]) Q E s := by
  refine call_floor_float hA (fun q => absurd q (fin_notNaN hx.1)) (fun q => absurd q (fin_notInf hx.1)) (fun _ => ?_)
  rw [floor_G hx (k := l / 1048576) (by omega) hs]
  exact k
theorem dv_room (hb : 0 < b) (hb2 : b ≤ 400000) : a * 1048576 / b + 1 < (a / b + 1) * 1048576 ∧ a / b * 1048576 ≤ a * 1048576 / b := by
  obtain ⟨p1, q1⟩ := ediv_bounds (a := a) hb
  obtain ⟨p2, q2⟩ := ediv_bounds (a := a * 1048576) hb
  constructor
  · refine Int.not_le.mp fun hc => ?_
    have e1 : ((a / b + 1) * 1048576 - 1) * b ≤ a * 1048576 / b * b := Int.mul_le_mul_of_nonneg_right (by omega) (by omega)
    have e2 : ((a / b + 1) * 1048576 - 1) * b = (a / b + 1) * b * 1048576 - b := by rw [Int.sub_mul, Int.one_mul, Int.mul_right_comm]
    omega
  · refine Int.not_lt.mp fun hc => ?_
    have e1 : (a * 1048576 / b + 1) * b ≤ a / b * 1048576 * b := Int.mul_le_mul_of_nonneg_right (by omega) (by omega)
    have e2 : a / b * 1048576 * b = a / b * b * 1048576 := Int.mul_right_comm _ _ _
    omega
theorem rf_floor_dv (hA : A.handled = none) (hx : Dv x a b) (hb : 0 < b) (hb2 : b ≤ 400000) (k : Q (.int (a / b) s.toks) { s with toks := s.toks + 1 }) : wpAny (model prog w) A (call (.builtin "math.floor") [.float x t]) Q E s := by
  have r := dv_room (a := a) hb hb2
  refine call_floor_float hA (fun q => absurd q (fin_notNaN hx.1.1)) (fun q => absurd q (fin_notInf hx.1.1)) (fun _ => ?_)
  rw [floor_G hx.1 (k := a / b) r.2 r.1]
  exact k
theorem ediv_in {c : Int} (hb : 0 < b) (hc : 0 < c) (h1 : -c < a) (h2 : a < c) : -c < a / b ∧ a / b < c := by
  obtain ⟨p, q⟩ := ediv_bounds (a := a) hb
  constructor
  · refine Int.not_le.mp fun h => ?_
    have e : (a / b + 1) * b ≤ (a / b + 1) * 1 := Int.mul_le_mul_of_nonpos_left (by omega) (by omega)
    omega
  · refine Int.not_le.mp fun h => ?_
    have e : a / b * 1 ≤ a / b * b := Int.mul_le_mul_of_nonneg_left (by omega) (by omega)
    omega
theorem rf_floor_is (hA : A.handled = none) (hx : Dv x a b) (hb : 0 < b) (hb2 : b ≤ 400000) (h1 : -268435458 < a) (h2 : a < 268435458) (k : ∀ q, Is q (a / b) → -268435458 < q → q < 268435458 → Q (.int q s.toks) { s with toks := s.toks + 1 }) : wpAny (model prog w) A (call (.builtin "math.floor") [.float x t]) Q E s := by
  have r := ediv_in (a := a) (b := b) (c := 268435458) hb (by omega) h1 h2
  exact rf_floor_dv hA hx hb hb2 (k _ rfl r.1 r.2)
theorem rf_floor_gis (hA : A.handled = none) (hx : G x l h) (hs : h < (l / 1048576 + 1) * 1048576) (h1 : -281474976710656 < l) (h2 : l < 281474976710656) (k : ∀ q, Is q (l / 1048576) → -268435458 < q → q < 268435458 → Q (.int q s.toks) { s with toks := s.toks + 1 }) : wpAny (model prog w) A (call (.builtin "math.floor") [.float x t]) Q E s :=
  rf_floor_g hA hx hs (k _ rfl (by omega) (by omega))
theorem rf_floor_30 {k : Int} (hA : A.handled = none) (hx : G x (32086530 * k) (32086531 * k)) (h1 : 4 ≤ k) (h2 : k ≤ 15) (c : ∀ q, Is q (306001 * k / 10000) → 0 ≤ q → q ≤ 459 → Q (.int q s.toks) { s with toks := s.toks + 1 }) : wpAny (model prog w) A (call (.builtin "math.floor") [.float x t]) Q E s := by
  have hc : k = 4 ∨ k = 5 ∨ k = 6 ∨ k = 7 ∨ k = 8 ∨ k = 9 ∨ k = 10 ∨ k = 11 ∨ k = 12 ∨ k = 13 ∨ k = 14 ∨ k = 15 := by omega
  have e : 32086530 * k / 1048576 = 306001 * k / 10000 ∧ 32086531 * k < (32086530 * k / 1048576 + 1) * 1048576 := by
    rcases hc with rfl | rfl | rfl | rfl | rfl | rfl | rfl | rfl | rfl | rfl | rfl | rfl <;> decide
  obtain ⟨e, e2⟩ := e
  refine rf_floor_g hA hx e2 ?_
  rw [e]
  exact c _ rfl (by omega) (by omega)
theorem rf_floor_d30 (hA : A.handled = none) (hx : G x (a * 1099511627776 / 32086531) (a * 1099511627776 / 32086530 + 1)) (h1 : 0 ≤ a) (h2 : a < 600) (c : ∀ q, Is q (10000 * a / 306001) → 0 ≤ q → q ≤ 20 → Q (.int q s.toks) { s with toks := s.toks + 1 }) : wpAny (model prog w) A (call (.builtin "math.floor") [.float x t]) Q E s := by
  obtain ⟨k, hk⟩ : ∃ k, k = 10000 * a / 306001 := ⟨_, rfl⟩
  have k1 : 306001 * k ≤ 10000 * a := by omega
  have k2 : 10000 * a < 306001 * (k + 1) := by omega
  have k3 : 0 ≤ k ∧ k ≤ 20 := by omega
  clear hk
  have m1 : 32086531 * k ≤ 1048576 * a := by
    by_cases h0 : 10000 * a = 306001 * k
    · have : k = 0 := by omega
      omega
    · omega
  have m2 : 1048576 * a + 31 ≤ 32086530 * (k + 1) := by omega
  have f1 : k * 1048576 ≤ a * 1099511627776 / 32086531 := by omega
  have f2 : a * 1099511627776 / 32086530 + 1 < (k + 1) * 1048576 := by omega
  refine call_floor_float hA (fun q => absurd q (fin_notNaN hx.1)) (fun q => absurd q (fin_notInf hx.1)) (fun _ => ?_)
  rw [floor_G hx f1 f2]
  exact c k (by unfold Is; omega) k3.1 k3.2
theorem rf_floor_jc (hA : A.handled = none) (hx : G x ((b * 1048576 - 128031130) * 1048576 / 382992384) ((b * 1048576 - 128031129) * 1048576 / 382992384 + 1)) (h1 : -210000000 < b) (h2 : b < 210000000) (c : ∀ q, Is q ((20 * b - 2442) / 7305) → -600000 < q → q < 600000 → Q (.int q s.toks) { s with toks := s.toks + 1 }) : wpAny (model prog w) A (call (.builtin "math.floor") [.float x t]) Q E s := by
  obtain ⟨k, hk⟩ : ∃ k, k = (20 * b - 2442) / 7305 := ⟨_, rfl⟩
  have k1 : 7305 * k ≤ 20 * b - 2442 := by omega
  have k2 : 20 * b - 2442 < 7305 * (k + 1) := by omega
  have k3 : -600000 < k ∧ k < 600000 := by omega
  clear hk
  have m1 : 489 ≤ 4 * b - 1461 * k := by omega
  have m2 : 4 * b - 1461 * (k + 1) ≤ 488 := by omega
  have n1 : 382992384 * k ≤ b * 1048576 - 128031130 := by omega
  have n2 : b * 1048576 - 128031129 + 104857 ≤ 382992384 * (k + 1) := by omega
  have f1 : k * 1048576 ≤ (b * 1048576 - 128031130) * 1048576 / 382992384 := by omega
  have f2 : (b * 1048576 - 128031129) * 1048576 / 382992384 + 1 < (k + 1) * 1048576 := by omega
  refine call_floor_float hA (fun q => absurd q (fin_notNaN hx.1)) (fun q => absurd q (fin_notInf hx.1)) (fun _ => ?_)
  rw [floor_G hx f1 f2]
  exact c k (by unfold Is; omega) k3.1 k3.2
theorem rf_trunc_dv (hA : A.handled = none) (hx : Dv x a b) (ha : 0 ≤ a) (hb : 0 < b) (hb2 : b ≤ 400000) (k : Q (.int (a / b) s.toks) { s with toks := s.toks + 1 }) : wpAny (model prog w) A (call (.builtin "math.trunc") [.float x t]) Q E s := by
  have r := dv_room (a := a) hb hb2
  refine call_trunc_float hA (fun q => absurd q (fin_notNaN hx.1.1)) (fun q => absurd q (fin_notInf hx.1.1)) (fun _ => ?_)
  rw [trunc_pos hx.1 (k := a / b) (Int.ediv_nonneg ha (by omega)) r.2 r.1]
  exact k
theorem rf_trunc_ex (hA : A.handled = none) (hx : G x l l) (hs : l % 1048576 = 0) (k : Q (.int (l / 1048576) s.toks) { s with toks := s.toks + 1 }) : wpAny (model prog w) A (call (.builtin "math.trunc") [.float x t]) Q E s := by
  refine call_trunc_float hA (fun q => absurd q (fin_notNaN hx.1)) (fun q => absurd q (fin_notInf hx.1)) (fun _ => ?_)
  rw [trunc_exact (k := l / 1048576) (by rw [show l / 1048576 * 1048576 = l by omega]; exact hx)]
  exact k
theorem rf_int_ex (hA : A.handled = none) (hx : G x l l) (hs : l % 1048576 = 0) (k : Q (.int (l / 1048576) s.toks) { s with toks := s.toks + 1 }) : wpAny (model prog w) A (call (.type "int") [.float x t]) Q E s := by
  refine call_int_float3 hA (fun q => absurd q (fin_notNaN hx.1)) (fun q => absurd q (fin_notInf hx.1)) (fun _ => ?_)
  rw [trunc_exact (k := l / 1048576) (by rw [show l / 1048576 * 1048576 = l by omega]; exact hx)]
  exact k

theorem rf_add_fi (hx : G x l h) (n1 : -4294967296 < n) (n2 : n < 4294967296) (b1 : -9007199254740992 < l + n * 1048576) (b2 : h + n * 1048576 < 9007199254740992) (k : ∀ z, G z (l + n * 1048576) (h + n * 1048576) → Q (.float z s.toks) { s with toks := s.toks + 1 }) : wpAny (model prog w) A (binaryOp .Add (.float x t) (.int n u)) Q E s :=
  add_fi_fits (notOver (by omega) (by omega)) (k _ (add_G hx (ofInt_G (Int.le_refl _) (Int.le_refl _) (by omega) (by omega)) (Int.le_refl _) (Int.le_refl _) b1 b2))
theorem rf_sub_fi (hx : G x l h) (n1 : -4294967296 < n) (n2 : n < 4294967296) (b1 : -9007199254740992 < l - n * 1048576) (b2 : h - n * 1048576 < 9007199254740992) (k : ∀ z, G z (l - n * 1048576) (h - n * 1048576) → Q (.float z s.toks) { s with toks := s.toks + 1 }) : wpAny (model prog w) A (binaryOp .Sub (.float x t) (.int n u)) Q E s :=
  sub_fi_fits (notOver (by omega) (by omega)) (k _ (sub_G hx (ofInt_G (Int.le_refl _) (Int.le_refl _) (by omega) (by omega)) (Int.le_refl _) (Int.le_refl _) b1 b2))
theorem rf_add_if (hx : G x l h) (n1 : -4294967296 < n) (n2 : n < 4294967296) (b1 : -9007199254740992 < n * 1048576 + l) (b2 : n * 1048576 + h < 9007199254740992) (k : ∀ z, G z (n * 1048576 + l) (n * 1048576 + h) → Q (.float z s.toks) { s with toks := s.toks + 1 }) : wpAny (model prog w) A (binaryOp .Add (.int n u) (.float x t)) Q E s :=
  add_if_fits (notOver (by omega) (by omega)) (k _ (add_G (ofInt_G (Int.le_refl _) (Int.le_refl _) (by omega) (by omega)) hx (Int.le_refl _) (Int.le_refl _) b1 b2))
theorem rf_sub_if (hx : G x l h) (n1 : -4294967296 < n) (n2 : n < 4294967296) (b1 : -9007199254740992 < n * 1048576 - h) (b2 : n * 1048576 - l < 9007199254740992) (k : ∀ z, G z (n * 1048576 - h) (n * 1048576 - l) → Q (.float z s.toks) { s with toks := s.toks + 1 }) : wpAny (model prog w) A (binaryOp .Sub (.int n u) (.float x t)) Q E s :=
  sub_if_fits (notOver (by omega) (by omega)) (k _ (sub_G (ofInt_G (Int.le_refl _) (Int.le_refl _) (by omega) (by omega)) hx (Int.le_refl _) (Int.le_refl _) b1 b2))
theorem rf_add_ff (hx : G x l h) (hy : G y l2 h2) (b1 : -9007199254740992 < l + l2) (b2 : h + h2 < 9007199254740992) (k : ∀ z, G z (l + l2) (h + h2) → Q (.float z s.toks) { s with toks := s.toks + 1 }) : wpAny (model prog w) A (binaryOp .Add (.float x t) (.float y u)) Q E s :=
  add_float (k _ (add_G hx hy (Int.le_refl _) (Int.le_refl _) b1 b2))
theorem rf_iadd_ff (hx : G x l h) (hy : G y l2 h2) (b1 : -9007199254740992 < l + l2) (b2 : h + h2 < 9007199254740992) (k : ∀ z, G z (l + l2) (h + h2) → Q (.float z s.toks) { s with toks := s.toks + 1 }) : wpAny (model prog w) A (inplaceOp .Add (.float x t) (.float y u)) Q E s :=
  iadd_float (k _ (add_G hx hy (Int.le_refl _) (Int.le_refl _) b1 b2))
theorem rf_sub_ff (hx : G x l h) (hy : G y l2 h2) (b1 : -9007199254740992 < l - h2) (b2 : h - l2 < 9007199254740992) (k : ∀ z, G z (l - h2) (h - l2) → Q (.float z s.toks) { s with toks := s.toks + 1 }) : wpAny (model prog w) A (binaryOp .Sub (.float x t) (.float y u)) Q E s :=
  sub_float (k _ (sub_G hx hy (Int.le_refl _) (Int.le_refl _) b1 b2))
theorem rf_mul_fi (hx : G x l h) (n1 : -4294967296 < n) (n2 : n < 4294967296) (hc : l = h ∨ 0 ≤ n) (b1 : -9007199254740992 < l * n) (b2 : h * n < 9007199254740992) (k : ∀ z, G z (l * n) (h * n) → Q (.float z s.toks) { s with toks := s.toks + 1 }) : wpAny (model prog w) A (binaryOp .Mult (.float x t) (.int n u)) Q E s :=
  mul_fi_fits (notOver (by omega) (by omega)) (k _ (mul_G hx (by omega) (by omega) hc (Int.le_refl _) (Int.le_refl _) b1 b2))

theorem rf_div_fi (hA : A.handled = none) (hx : G x l l) (hn : 0 < n) (n2 : n < 4294967296) (b1 : -4503599627370496 < l) (b2 : l < 4503599627370496) (k : ∀ z, G z (l / n) (l / n + 1) → Q (.float z s.toks) { s with toks := s.toks + 1 }) : wpAny (model prog w) A (binaryOp .Div (.float x t) (.int n u)) Q E s := by
  have hU := U_pos
  refine truediv_fi hA (fun q => absurd q (notOver' (by omega) (by omega))) (fun q => by omega) (fun _ _ => k _ ?_)
  obtain ⟨fy, vy⟩ := val_ofInt (n := n) (by omega) (by omega)
  obtain ⟨p, q⟩ := ediv_bounds (a := l) hn
  obtain ⟨r1, r2⟩ := ediv_small (a := l) (c := 4503599627370496) hn (by omega) b1 b2
  have vx : Float64.val x = l * (U : Int) := by have := hx.2.1; have := hx.2.2; omega
  have hM : (0 : Int) ≤ 1048576 * (U : Int) := by omega
  refine div_G hx.1 fy (by rw [vy]; exact Int.mul_pos (by omega) (by omega)) ?_ ?_ (by omega) (by omega)
  · rw [vx, vy]
    calc l / n * (n * 1048576 * (U : Int)) = l / n * n * (1048576 * (U : Int)) := by ac_rfl
      _ ≤ l * (1048576 * (U : Int)) := Int.mul_le_mul_of_nonneg_right p hM
      _ = l * (U : Int) * 1048576 := by ac_rfl
  · rw [vx, vy]
    calc l * (U : Int) * 1048576 = l * (1048576 * (U : Int)) := by ac_rfl
      _ ≤ (l / n + 1) * n * (1048576 * (U : Int)) := Int.mul_le_mul_of_nonneg_right (Int.le_of_lt q) hM
      _ = (l / n + 1) * (n * 1048576 * (U : Int)) := by ac_rfl

theorem rf_div_ff (hA : A.handled = none) (hx : G x l h) (hy : G y n n) (hn : 0 < n) (b1 : -9007199254740992 < l * 1048576 / n) (b2 : h * 1048576 / n + 1 < 9007199254740992) (k : ∀ z, G z (l * 1048576 / n) (h * 1048576 / n + 1) → Q (.float z s.toks) { s with toks := s.toks + 1 }) : wpAny (model prog w) A (binaryOp .Div (.float x t) (.float y u)) Q E s := by
  have hU := U_pos
  obtain ⟨sy, my, ey, dy⟩ := finite_fin hy.1
  have vy : Float64.val y = n * (U : Int) := by have := hy.2.1; have := hy.2.2; omega
  have py : 0 < Float64.val y := by rw [vy]; exact Int.mul_pos hn (by omega)
  refine truediv_float_or hA (fun q => ?_) (fun _ => k _ ?_)
  · rw [isZero_of_val dy] at q
    have := of_decide_eq_true q
    omega
  obtain ⟨p, _⟩ := ediv_bounds (a := l * 1048576) hn
  obtain ⟨_, q⟩ := ediv_bounds (a := h * 1048576) hn
  refine div_G hx.1 hy.1 py ?_ ?_ b1 b2
  · rw [vy]
    have e1 := Int.mul_le_mul_of_nonneg_right p (show (0 : Int) ≤ (U : Int) by omega)
    have e2 := Int.mul_le_mul_of_nonneg_right hx.2.1 (show (0 : Int) ≤ 1048576 by omega)
    calc l * 1048576 / n * (n * (U : Int)) = l * 1048576 / n * n * (U : Int) := by ac_rfl
      _ ≤ l * 1048576 * (U : Int) := e1
      _ = l * (U : Int) * 1048576 := by ac_rfl
      _ ≤ Float64.val x * 1048576 := e2
  · rw [vy]
    have e1 := Int.mul_le_mul_of_nonneg_right (Int.le_of_lt q) (show (0 : Int) ≤ (U : Int) by omega)
    have e2 := Int.mul_le_mul_of_nonneg_right hx.2.2 (show (0 : Int) ≤ 1048576 by omega)
    calc Float64.val x * 1048576 ≤ h * (U : Int) * 1048576 := e2
      _ = h * 1048576 * (U : Int) := by ac_rfl
      _ ≤ (h * 1048576 / n + 1) * n * (U : Int) := e1
      _ = (h * 1048576 / n + 1) * (n * (U : Int)) := by ac_rfl

/-- a natural number by a positive float that lies between l and h -/
theorem rf_div_if (hA : A.handled = none) (hy : G y l h) (hl : 0 < l) (ha : 0 ≤ a) (ha2 : a < 4096) (k : ∀ z, G z (a * 1099511627776 / h) (a * 1099511627776 / l + 1) → Q (.float z s.toks) { s with toks := s.toks + 1 }) : wpAny (model prog w) A (binaryOp .Div (.int a u) (.float y t)) Q E s := by
  have hU := U_pos
  have hlU : 0 < l * (U : Int) := Int.mul_pos hl (by omega)
  have py : 0 < Float64.val y := by have := hy.2.1; omega
  have hh : 0 < h := by
    refine Int.not_le.mp fun q => ?_
    have : h * (U : Int) ≤ 0 * (U : Int) := Int.mul_le_mul_of_nonneg_right q (by omega)
    have := hy.2.2
    omega
  obtain ⟨sy, my, ey, dy⟩ := finite_fin hy.1
  refine truediv_if hA (fun q => absurd q (notOver' (by omega) (by omega))) (fun _ q => ?_) (fun _ _ => k _ ?_)
  · rw [isZero_of_val dy] at q
    have := of_decide_eq_true q
    omega
  obtain ⟨fx, vx⟩ := val_ofInt (n := a) (by omega) (by omega)
  obtain ⟨p, _⟩ := ediv_bounds (a := a * 1099511627776) hh
  obtain ⟨_, q⟩ := ediv_bounds (a := a * 1099511627776) hl
  obtain ⟨r1, r2⟩ := ediv_small (a := a * 1099511627776) (c := 4503599627370496) hh (by omega) (by omega) (by omega)
  obtain ⟨r3, r4⟩ := ediv_small (a := a * 1099511627776) (c := 4503599627370496) hl (by omega) (by omega) (by omega)
  have s1 : 0 ≤ a * 1099511627776 / h := Int.ediv_nonneg (by omega) (by omega)
  have s2 : 0 ≤ a * 1099511627776 / l := Int.ediv_nonneg (by omega) (by omega)
  refine div_G fx hy.1 py ?_ ?_ (by omega) (by omega)
  · rw [vx]
    have e1 := Int.mul_le_mul_of_nonneg_right p (show (0 : Int) ≤ (U : Int) by omega)
    have e2 := Int.mul_le_mul_of_nonneg_left hy.2.2 s1
    calc a * 1099511627776 / h * Float64.val y ≤ a * 1099511627776 / h * (h * (U : Int)) := e2
      _ = a * 1099511627776 / h * h * (U : Int) := by ac_rfl
      _ ≤ a * 1099511627776 * (U : Int) := e1
      _ = a * 1048576 * (U : Int) * 1048576 := by rw [show (1099511627776 : Int) = 1048576 * 1048576 from rfl]; ac_rfl
  · rw [vx]
    have e1 := Int.mul_le_mul_of_nonneg_right (Int.le_of_lt q) (show (0 : Int) ≤ (U : Int) by omega)
    have e2 := Int.mul_le_mul_of_nonneg_left hy.2.1 (show 0 ≤ a * 1099511627776 / l + 1 by omega)
    calc a * 1048576 * (U : Int) * 1048576 = a * 1099511627776 * (U : Int) := by rw [show (1099511627776 : Int) = 1048576 * 1048576 from rfl]; ac_rfl
      _ ≤ (a * 1099511627776 / l + 1) * l * (U : Int) := e1
      _ = (a * 1099511627776 / l + 1) * (l * (U : Int)) := by ac_rfl
      _ ≤ (a * 1099511627776 / l + 1) * Float64.val y := e2

theorem rf_mod_fi (hA : A.handled = none) (hx : G x l l) (hs : l % 1048576 = 0) (hn : 0 < n) (n2 : n < 4294967296) (k : ∀ z, G z (l / 1048576 % n * 1048576) (l / 1048576 % n * 1048576) → Q (.float z s.toks) { s with toks := s.toks + 1 }) : wpAny (model prog w) A (binaryOp .Mod (.float x t) (.int n u)) Q E s := by
  refine mod_fi hA (fun q => absurd q (notOver' (by omega) (by omega))) (fun q => by omega) (fun _ _ => k _ ?_)
  have g : G x (l / 1048576 * 1048576) (l / 1048576 * 1048576) := by rw [show l / 1048576 * 1048576 = l by omega]; exact hx
  have := mod_G g hn (by omega)
  rw [Int.fmod_eq_emod_of_nonneg _ (by omega)] at this
  exact this

theorem rf_mod_is (hA : A.handled = none) (hx : G x l l) (hs : l % 1048576 = 0) (hn : 0 < n) (n2 : n < 4294967296) (k : ∀ z r, Is r (l / 1048576 % n) → 0 ≤ r → r < n → G z (r * 1048576) (r * 1048576) → Q (.float z s.toks) { s with toks := s.toks + 1 }) : wpAny (model prog w) A (binaryOp .Mod (.float x t) (.int n u)) Q E s :=
  rf_mod_fi hA hx hs hn n2 fun z gz => k z _ rfl (Int.emod_nonneg _ (by omega)) (Int.emod_lt_of_pos _ hn) gz
theorem rf_lt_fi (hx : G x l l) (k : Q (.bool (decide (l < n * 1048576))) s) : wpAny (model prog w) A (compareOp .Lt (.float x t) (.int n u)) Q E s := by
  refine lt_fi ?_
  rw [cmpInt_G hx, compare_lt_dec]
  exact k
theorem rf_eq_ff (hx : G x l l) (hy : G y n n) (k : Q (.bool (decide (l = n))) s) : wpAny (model prog w) A (compareOp .Eq (.float x t) (.float y u)) Q E s := by
  refine AutoFloatOps.eq_0 ?_
  rw [cmp_G hx hy, compare_eq_dec]
  exact k
theorem rf_ne_ff (hx : G x l l) (hy : G y n n) (k : Q (.bool (!decide (l = n))) s) : wpAny (model prog w) A (compareOp .NotEq (.float x t) (.float y u)) Q E s := by
  refine AutoFloatOps.ne_0 ?_
  rw [bne, cmp_G hx hy, compare_eq_dec]
  exact k
end

/-- z is the float 30.6 times m -/
def T306 (z : UInt64) (m : Int) : Prop := Float64.isFinite z = true ∧ toInt Float64.truncOf z = 306 * m / 10
theorem t306_of {m : Int} (h1 : 4 ≤ m) (h2 : m ≤ 15) : T306 (Float64.mul 0x403e99999999999a (Float64.ofInt m)) m := by
  have hc : m = 4 ∨ m = 5 ∨ m = 6 ∨ m = 7 ∨ m = 8 ∨ m = 9 ∨ m = 10 ∨ m = 11 ∨ m = 12 ∨ m = 13 ∨ m = 14 ∨ m = 15 := by omega
  unfold T306
  rcases hc with rfl | rfl | rfl | rfl | rfl | rfl | rfl | rfl | rfl | rfl | rfl | rfl <;> decide +kernel
section
variable {prog : Program} {w : World} {A : Around} {E : Value → Shared → Prop} {s : Shared} {Q : Value → Shared → Prop} {t u : Tok} {x : UInt64} {n : Int}
theorem rf_mul_306 (h1 : 4 ≤ n) (h2 : n ≤ 15) (k : ∀ z, T306 z n → Q (.float z s.toks) { s with toks := s.toks + 1 }) : wpAny (model prog w) A (binaryOp .Mult (.float 0x403e99999999999a t) (.int n u)) Q E s :=
  mul_fi_fits (notOver (by omega) (by omega)) (k _ (t306_of h1 h2))
theorem rf_trunc_306 (hA : A.handled = none) (hx : T306 x n) (k : Q (.int (306 * n / 10) s.toks) { s with toks := s.toks + 1 }) : wpAny (model prog w) A (call (.builtin "math.trunc") [.float x t]) Q E s := by
  refine call_trunc_float hA (fun q => absurd q (fin_notNaN hx.1)) (fun q => absurd q (fin_notInf hx.1)) (fun _ => ?_)
  rw [hx.2]
  exact k
end
/-- x is n less a half -/
def J (x : UInt64) (n : Int) : Prop := G x (n * 1048576 - 524288) (n * 1048576 - 524288)
theorem J.g {x : UInt64} {n : Int} (h : J x n) : G x (n * 1048576 - 524288) (n * 1048576 - 524288) := h
theorem J.of {x : UInt64} {n l : Int} (h : G x l l) (e : l = n * 1048576 - 524288) : J x n := by unfold J; rw [← e]; exact h
theorem gc_half : G 0x3fe0000000000000 524288 524288 := by unfold G; rw [U_eq]; decide +kernel
theorem gc_122 : G 0x405e866666666666 128031129 128031130 := by unfold G; rw [U_eq]; decide +kernel
theorem gc_30 : G 0x403e99a027525461 32086530 32086531 := by unfold G; rw [U_eq]; decide +kernel
theorem gc_36525 : G 0x4076d40000000000 382992384 382992384 := by unfold G; rw [U_eq]; decide +kernel
theorem gc_15245 : G 0x4097d20000000000 1598554112 1598554112 := by unfold G; rw [U_eq]; decide +kernel
theorem gc_epoch : G 0x413a445180000000 1805045465088 1805045465088 := by unfold G; rw [U_eq]; decide +kernel
end Mine

namespace Mine
theorem off_Loop : True := by
  w_top off
  trivial
end Mine
namespace Mine
open PySem PySem.W PySem.Spec PySem.Calls PyProof.Rows PyProof.V
section
variable {prog : Program} {w : World} {A : Around} {E : Value → Shared → Prop} {s : Shared} {env : Env} {h₀ : Heap} {x : Str} {body : List Stmt} {Q : Flow → Shared → Prop}
/-- a loop over a range by an invariant over the turn's number, the frame's map and the ledger -/
theorem iter_rangeI {r : Addr} {a₀ b₀ : Int} {t₀ u₀ v₀ : Tok} {n : Nat} {m₀ : Str → Option Value} {news : List (Addr × Obj)} (J : Nat → (Str → Option Value) → List (Addr × Obj) → Prop)
    (hh : A.handled = none) (hr : IsRange s.heap r a₀ b₀ 1 t₀ u₀ v₀) (hsmall : Builtin.Range.small a₀ b₀ 1 = true) (hn : Builtin.Range.rangeSize a₀ b₀ 1 = (n : Int)) (F : Fr h₀ env.locals s.heap m₀) (N : News h₀ env.locals s.heap news) (hj : J 0 m₀ news)
    (turn : ∀ (i : Nat) t m₁ news₁ h tk own, i < n → news₁.map (·.1) = news.map (·.1) → OwnOff own (news.map (·.1)) → J i m₁ news₁ → Fr h₀ env.locals h (fun y => if y = x then some (.int (a₀ + i) t) else m₁ y) → News h₀ env.locals h (news₁ ++ own) →
      wpAny (model prog w) A (execs body env) (InvPostN h₀ env.locals (J (i + 1)) own (news.map (·.1)) { s with heap := h, toks := tk } Q) E { s with heap := h, toks := tk })
    (done : ∀ m₁ news₁ h tk, J n m₁ news₁ → Fr h₀ env.locals h m₁ → News h₀ env.locals h news₁ → Q .next { s with heap := h, toks := tk }) :
    wpAny (model prog w) A (pyIter (.ref r)) (fun it s₂ => LoopAtV prog w A h₀ env x body Q E it s₂) E s := by
  refine wpAny_pyIter_range hr hsmall ?_
  have W : Walks prog w A s.heap.objs.size [s.heap.objs.size] [s.heap.objs.size] n (fun i v => i < n ∧ ∃ t, v = .int (a₀ + i * 1) t)
      (fun i h => IsRangeIter h s.heap.objs.size (a₀ + (i : Nat) * 1) ((n : Int) - (i : Nat)) 1) := (Walks.range hh _ a₀ 1 n).bound
  let J' : Nat → (Str → Option Value) → List (Addr × Obj) → Prop := fun i m₁ news₁ => news₁.map (·.1) = news.map (·.1) ∧ J i m₁ news₁
  refine ⟨_, _, _, n, _, _, m₀, news, J', rfl, W, ?_, ?_, ?_, (by show IsRangeIter _ _ _ _ _; rw [hn]; simpa using Heap.get?_push_size _ rfl), F.push _, (fun p hp => ⟨Heap.get?_push_of_some _ (N p hp).1, (N p hp).2⟩), ⟨rfl, hj⟩, ?_, ?_⟩
  · intro hm
    exact absurd F.ns.lt ((List.mem_singleton.mp hm) ▸ Nat.lt_irrefl _)
  · intro b hb
    rw [List.mem_singleton.mp hb]
    exact next_is_new F
  · intro p hp hI
    exact absurd (Heap.lt_size (N p hp).1) ((List.mem_singleton.mp hI) ▸ Nat.lt_irrefl _)
  · rintro i v m₁ news₁ s₁ own ⟨hh', tk', rfl⟩ hin ⟨_, t, rfl⟩ ⟨hadr, hJ⟩ hoff hown _ _ _ F₁ N₁
    have hsep : OwnOff own (news.map (·.1)) := by
      intro p hp b hb e
      obtain ⟨q, hq, rfl⟩ := List.mem_map.mp hb
      have h1 := List.mem_singleton.mp (hown p hp)
      exact absurd (Heap.lt_size (N q hq).1) (by rw [← e, h1]; exact Nat.lt_irrefl _)
    have N₂ : News h₀ env.locals hh' (news₁ ++ own) := fun p hp => N₁ p ((List.mem_append.mp hp).elim (fun h => List.mem_append.mpr (.inr h)) fun h => List.mem_append.mpr (.inl h))
    rw [show a₀ + (i : Int) * 1 = a₀ + (i : Int) by omega] at F₁
    refine wpAny_mono (turn i t m₁ news₁ hh' tk' own hin hadr hsep hJ F₁ N₂) (fun f s₂ p => ?_) fun _ _ e => e
    have fin : InvEndN h₀ env.locals (J (i + 1)) own (news.map (·.1)) { s with heap := hh', toks := tk' } s₂ → LoopStepU h₀ env.locals [s.heap.objs.size] own (J' (i + 1)) { s with heap := hh', toks := tk' } .next s₂ := by
      rintro ⟨h', tk, m', news', nx, e, F', N', hn', ho, ha, hm⟩
      refine ⟨rfl, h', tk, m', nx, e, F', fun p hp => N' p ((List.mem_append.mp hp).elim (ho p) (hn' p)), fun p hp hq => ?_, ha, hm⟩
      have h1 : p.1 ∈ nx.map (·.1) := List.mem_map.mpr ⟨p, hp, rfl⟩
      rw [ha, ← hadr] at h1
      obtain ⟨q, hq1, hq2⟩ := List.mem_map.mp h1
      exact hoff q hq1 (by rw [hq2]; exact hq)
    cases f with
    | ret v => exact .ret p
    | brk => exact .brk p
    | next => exact .next (fin p)
    | cont => exact .cont (fin p)
  · rintro h' tk m' news' F' N' _ ⟨_, hJ⟩
    exact done m' news' h' tk hJ F' N'
/-- what a turn of a loop that stores one int comes to -/
def R1 (h₀ : Heap) (L : Addr) (all : List (Addr × Obj)) (s : Shared) (x y : Str) (m₀ : Str → Option Value) (P : Int → Prop) (f : Flow) (s₂ : Shared) : Prop :=
  f = .next ∧ ∃ (a : Int) (ta : Tok) (h : Heap) (tk : Nat) (m' : Str → Option Value), s₂ = { s with heap := h, toks := tk } ∧ Fr h₀ L h m' ∧ m' y = some (.int a ta) ∧ (∀ z, z ≠ x → z ≠ y → m' z = m₀ z) ∧ News h₀ L h all ∧ P a
theorem R1.intro {L : Addr} {all : List (Addr × Obj)} {s : Shared} {x y : Str} {m₀ m' : Str → Option Value} {P : Int → Prop} {a : Int} {ta : Tok} {h : Heap} {tk : Nat} (F : Fr h₀ L h m') (N : News h₀ L h all) (e1 : m' y = some (.int a ta)) (eo : ∀ z, z ≠ x → z ≠ y → m' z = m₀ z) (hp : P a) :
    R1 h₀ L all s x y m₀ P .next { s with heap := h, toks := tk } := ⟨rfl, a, ta, h, tk, m', rfl, F, e1, eo, N, hp⟩
theorem iter_range1 {r : Addr} {a₀ b₀ : Int} {t₀ u₀ v₀ : Tok} {n : Nat} {m₀ : Str → Option Value} {news : List (Addr × Obj)} (y : Str) (P : Nat → Int → Prop) {c₀ : Int} {tc : Tok}
    (hr : IsRange s.heap r a₀ b₀ 1 t₀ u₀ v₀) (hsmall : Builtin.Range.small a₀ b₀ 1 = true) (hn : Builtin.Range.rangeSize a₀ b₀ 1 = (n : Int)) (F : Fr h₀ env.locals s.heap m₀) (N : News h₀ env.locals s.heap news) (hh : A.handled = none) (hyx : y ≠ x) (hy : m₀ y = some (.int c₀ tc)) (h0 : P 0 c₀)
    (turn : ∀ (i : Nat) (t : Tok) (a : Int) (ta : Tok) (h : Heap) (tk : Nat) own, i < n → P i a → OwnOff own (news.map (·.1)) → Fr h₀ env.locals h (fun z => if z = x then some (.int (a₀ + i) t) else if z = y then some (.int a ta) else m₀ z) → News h₀ env.locals h (news ++ own) →
      wpAny (model prog w) A (execs body env) (R1 h₀ env.locals (news ++ own) s x y m₀ (P (i + 1))) E { s with heap := h, toks := tk })
    (done : ∀ (u : Str → Option Value) (a : Int) (ta : Tok) (h : Heap) (tk : Nat), P n a → Fr h₀ env.locals h (fun z => if z = x then u z else if z = y then some (.int a ta) else m₀ z) → News h₀ env.locals h news → Q .next { s with heap := h, toks := tk }) :
    wpAny (model prog w) A (pyIter (.ref r)) (fun it s₂ => LoopAtV prog w A h₀ env x body Q E it s₂) E s := by
  refine iter_rangeI (fun i m nx => nx = news ∧ (∃ a t, m y = some (.int a t) ∧ P i a) ∧ ∀ z, z ≠ x → z ≠ y → m z = m₀ z) hh hr hsmall hn F N ⟨rfl, ⟨c₀, tc, hy, h0⟩, fun _ _ _ => rfl⟩ ?_ ?_
  · rintro i t m₁ nx h tk own hi _ hoff ⟨rfl, ⟨a, ta, ha, hp⟩, ho⟩ F₁ N₁
    have e : (fun z => if z = x then some (Value.int (a₀ + i) t) else m₁ z) = fun z => if z = x then some (Value.int (a₀ + i) t) else if z = y then some (.int a ta) else m₀ z := by
      funext z
      by_cases h1 : z = x
      · simp [h1]
      · simp only [if_neg h1]
        by_cases h2 : z = y
        · subst h2; simp [ha]
        · simp only [if_neg h2]; exact ho z h1 h2
    rw [e] at F₁
    refine wpAny_mono (turn i t a ta h tk own hi hp hoff F₁ N₁) (fun f s₂ q => ?_) fun _ _ e => e
    obtain ⟨rfl, a', ta', h', tk', m', rfl, F', e1, eo, N', hp'⟩ := q
    exact ⟨h', tk', m', _, nx, rfl, F', N', fun p hp => List.mem_append_left _ hp, fun p hp => List.mem_append_right _ hp, rfl, rfl, ⟨a', ta', e1, hp'⟩, eo⟩
  · rintro m₁ nx h tk ⟨rfl, ⟨a, ta, ha, hp⟩, ho⟩ F₁ N₁
    refine done m₁ a ta h tk hp ?_ N₁
    have e : m₁ = fun z => if z = x then m₁ z else if z = y then some (.int a ta) else m₀ z := by
      funext z
      by_cases h1 : z = x
      · simp [h1]
      · simp only [if_neg h1]
        by_cases h2 : z = y
        · subst h2; simp [ha]
        · simp only [if_neg h2]; exact ho z h1 h2
    rw [← e]; exact F₁
end
end Mine

namespace Mine
theorem off_Base : True := by
  w_top off
  trivial
end Mine
namespace Mine
open PySem PySem.W PySem.Spec PySem.Calls PyProof.Rows

theorem raisedS_toSN {base G : Heap} {l : List Env} {e : Addr} {cls : Value} {t : Addr} {vs : List Value} {news : List (Addr × Obj)} {h : Heap} (R : RaisedS base G l e cls t vs news h) : RaisedSN base G l e cls news h := by
  obtain ⟨⟨B, hB, hG, hl, hfl, _⟩, _⟩ := R
  exact ⟨B, _, hB, hG, hl, hfl⟩
theorem raisedSN_nil {base G : Heap} {l : List Env} {e : Addr} {cls : Value} {news : List (Addr × Obj)} {h : Heap} (R : RaisedSN base G l e cls news h) : RaisedSN base G l e cls [] h := by
  obtain ⟨B, a0, hB, hG, _, hfl⟩ := R
  exact ⟨B, a0, hB, hG, fun _ q => (nomatch q), hfl⟩
theorem raised_drop {base G : Heap} {l : List Env} {e : Addr} {cls : Value} {x : Addr × Obj} {news : List (Addr × Obj)} {h : Heap} (R : RaisedSN base G l e cls (x :: news) h) : RaisedSN base G l e cls news h := by
  obtain ⟨B, a0, hB, hG, hl, hfl⟩ := R
  exact ⟨B, a0, hB, hG, fun q hq => hl q (.tail _ hq), hfl⟩
section
variable {M : Model} {A : Around} {E : Value → Shared → Prop} {s' : Shared} {base g g₂ h : Heap} {outer : List Env} {L a e : Addr} {m : Str → Option Value} {name : Str} {scope : Scope} {cd : Value} {Q : Unit → Shared → Prop} {news : List (Addr × Obj)}
theorem leave_raiseM {cls : Value} {vs : List Value} (K : Below A base outer g) (hx : Heap.MadeExcOf h s'.heap e cls vs) (F : Fr g L h m) (N : News g L h news)
    (hQ : ∀ h', RaisedSN base g outer e cls news h' → g.UpToSlots h' → Q () { s' with heap := h' }) (hk : scope.kind = .function := by rfl) :
    wpAny M (A.deeper (envOf name scope L a cd)) (leaving (envOf name scope L a cd) (.ref e)) Q E s' :=
  leave_raiseS K hx F N (fun h' _ R _ U => hQ h' (raisedS_toSN R) U) hk
theorem leave_newM {cls : String} (K : Below A base outer g) (hx : Heap.NewExc h s'.heap e cls) (F : Fr g L h m) (N : News g L h news)
    (hQ : ∀ h', RaisedSN base g outer e (.type cls) news h' → g.UpToSlots h' → Q () { s' with heap := h' }) (hk : scope.kind = .function := by rfl) :
    wpAny M (A.deeper (envOf name scope L a cd)) (leaving (envOf name scope L a cd) (.ref e)) Q E s' :=
  leave_newS K hx F N (fun h' R _ U => hQ h' R U) hk
theorem leave_onM {cls : Value} (K : Below A base outer g) (F : Fr g L g₂ m) (R : RaisedSN base g₂ (envOf name scope L a cd :: outer) e cls news s'.heap) (hsm : g₂.UpToSlots s'.heap)
    (hQ : ∀ h', RaisedSN base g outer e cls news h' → g.UpToSlots h' → Q () { s' with heap := h' }) :
    wpAny M (A.deeper (envOf name scope L a cd)) (leaving (envOf name scope L a cd) (.ref e)) Q E s' :=
  leave_onSN K F R hsm (fun h' R _ U => hQ h' R U)
end

/-- a call of f with vs comes back with a value of R (tl: what it made and left behind), or raises an exception whose class is in X -/
def Calls (prog : Program) (w : World) (p : Program) (loose : List Str) (mean : ExcName → Option Value) (mg mb : Str → Option Value) (D : Nat) (f : Addr) (vs : List Value) (R : Value → List (Addr × Obj) → Prop) (X : Value → Prop) : Prop :=
  ∀ (dp un : Nat) (gd : Option (List Code)) (cn : Str) (cs : Scope) (a : Addr) (ccd : Value) (cl : List (Str × Addr)) (outer : List Env) (A₀ : Around) (base h₀ : Heap) (L : Addr) (m : Str → Option Value) (news : List (Addr × Obj)) (s : Shared) (Q E : Value → Shared → Prop),
    Below A₀ base outer h₀ → Fr h₀ L s.heap m → (hd.heap_39 w.params).In h₀ → News h₀ L s.heap news → Top p loose mean mg mb h₀ → cs.kind = .function →
    dp + D < recursionLimit → un + 8 * D < cLine →
    (∀ (v : Value) (tl : List (Addr × Obj)) (h' : Heap) (tk' : Nat), R v tl → (∀ q ∈ news, ∀ p ∈ tl, q.1 < p.1) → Fr h₀ L h' m → News h₀ L h' (tl ++ news) → Q v { s with heap := h', toks := tk' }) →
    (∀ (e : Addr) (cls : Value) (g h' : Heap) (tk' : Nat), X cls → Fr h₀ L g m → RaisedSN base g (envX cn cs L a ccd cl :: outer) e cls news h' → g.UpToSlots h' → E (.ref e) { s with heap := h', toks := tk' }) →
      wpAny (model prog w) (ktrTop dp un gd cn cs L a ccd cl outer) (call (.ref f) vs) Q E s

section
variable {prog : Program} {w : World} {p : Program} {loose : List Str} {mean : ExcName → Option Value} {mg mb : Str → Option Value} {D : Nat} {f : Addr} {vs : List Value} {R : Value → List (Addr × Obj) → Prop} {X : Value → Prop}
theorem calls_use {A : Around} {dp un : Nat} {gd : Option (List Code)} {cn : Str} {cs : Scope} {a : Addr} {ccd : Value} {cl : List (Str × Addr)} {outer : List Env} {A₀ : Around} {base h₀ : Heap} {L : Addr} {m : Str → Option Value} {news : List (Addr × Obj)} {s : Shared} {Q E : Value → Shared → Prop}
    (C : Calls prog w p loose mean mg mb D f vs R X) (hA : A = ktrTop dp un gd cn cs L a ccd cl outer) (B : Below A₀ base outer h₀) (F : Fr h₀ L s.heap m) (K : (hd.heap_39 w.params).In h₀) (N : News h₀ L s.heap news) (T : Top p loose mean mg mb h₀) (hk : cs.kind = .function)
    (hd : dp + D < recursionLimit) (hu : un + 8 * D < cLine)
    (ret : ∀ (v : Value) (tl : List (Addr × Obj)) (h' : Heap) (tk' : Nat), R v tl → (∀ q ∈ news, ∀ p ∈ tl, q.1 < p.1) → Fr h₀ L h' m → News h₀ L h' (tl ++ news) → Q v { s with heap := h', toks := tk' })
    (exc : ∀ (e : Addr) (cls : Value) (g h' : Heap) (tk' : Nat), X cls → Fr h₀ L g m → RaisedSN base g (envX cn cs L a ccd cl :: outer) e cls news h' → g.UpToSlots h' → E (.ref e) { s with heap := h', toks := tk' }) :
      wpAny (model prog w) A (call (.ref f) vs) Q E s := by
  subst hA
  exact C _ _ _ _ _ _ _ _ _ _ _ _ _ _ _ _ _ _ B F K N T hk hd hu ret exc
end
section
variable {prog : Program} {w : World} {A : Around} {s : Shared} {t t1 t2 : Tok} {m d : Int}
theorem fmt_month {Q : Value → Shared → Prop} {E : Value → Shared → Prop} (hm1 : -1000 ≤ m) (hm2 : m ≤ 1000) (hd1 : -1000 ≤ d) (hd2 : d ≤ 1000)
    (h : ∀ x t' k, Q (.str x t') { s with toks := k }) : wpAny (model prog w) A (call (.builtin "str.format") [.str (PySem.Str.ofString "Month {} doesn't have a day {}") t, .int m t1, .int d t2]) Q E s := by
  have hlm : (PySem.Str.ofString (toString m)).length ≤ 12 := by
    rw [PySem.ofString_length]; exact int_text_length_le10 (k := 11) (by decide) (by omega)
  have hld : (PySem.Str.ofString (toString d)).length ≤ 12 := by
    rw [PySem.ofString_length]; exact int_text_length_le10 (k := 11) (by decide) (by omega)
  refine' KFm.call_k ?kfmF (KFm.args_3 _ _ _) ?kfmm ?_
  case kfmF => kfm_eq
  case kfmm =>
    apply KPc.meets_of
    intro _ _ _ _ _ _ _
    unfold Builtin.«str.format»
    refine wpAny_bind (wpAny_of_eq (a := (_, _, _)) rfl ?_)
    refine wpAny_bind ?_
    unfold Builtin.Str.buildString
    refine wpAny_bind ?_
    rw [KPc.range_list]
    refine KFm.start ?_
    intro _ _
    refine KPc.turn ?_
    kpc_if
    kpc_check
    refine wpAny_bind (KFm.field_auto (by kfm_num) (by rfl) ?_)
    refine wpAny_bind (wpAny_holding (wpAny_of_eq (a := _) rfl ?_))
    kpc_if
    refine wpAny_bind (wpAny_pure ?_)
    kfm_val
    refine wpAny_bind (wpAny_of_eq (a := some _) rfl ?_)
    refine wpAny_pure ?_
    refine' KFm.after_field (by kpc_g) (by kpc_text) (by kpc_obj) (hlm) (by kpc_obj) (by kfm_cat2) (by kfm_rest) ?_
    intro _ _
    refine KPc.turn ?_
    kpc_if
    kpc_check
    refine wpAny_bind (KFm.field_auto (by kfm_num) (by rfl) ?_)
    refine wpAny_bind (wpAny_holding (wpAny_of_eq (a := _) rfl ?_))
    kpc_if
    refine wpAny_bind (wpAny_pure ?_)
    kfm_val
    refine wpAny_bind (wpAny_of_eq (a := some _) rfl ?_)
    refine wpAny_pure ?_
    refine' KFm.after_field (by kpc_g) (by kpc_text) (by kpc_obj) (hld) (by kpc_obj) (by kfm_cat2) (by kfm_rest) ?_
    intro _ _
    refine KPc.turn ?_
    kpc_if
    kfm_close
  intro t' k
  exact h _ _ _
end
section
variable {prog : Program} {w : World} {A : Around} {s : Shared}
theorem in_tupleK {K : Frag} {h₀ : Heap} {L a : Addr} {m : Str → Option Value} {l : List Value} {n : Nat} {dd : Option Addr} {sl : Array (Option Value)} {ns : List Int} {x : Int} {u : Tok} {Q E : Value → Shared → Prop} (F : Fr h₀ L s.heap m) (X : K.In h₀)
    (hl : K.lookup a = some ⟨.type "tuple", dd, .seq l.toArray n, sl⟩) (hi : IntsAre l ns) (h : Q (.bool (ns.any (· == x))) s) : wpAny (model prog w) A (compareOp .In (.int x u) (.ref a)) Q E s :=
  in_tuple_ints (tupK (X.keeps F.keep) hl) (by simpa using hi) h
end
theorem allLt_mem {d : Addr} : ∀ {l : List (Addr × Obj)}, AllLt d l → ∀ q ∈ l, q.1 < d
  | [], _, _, h => nomatch h
  | _ :: _, ⟨h, _⟩, _, .head _ => h
  | _ :: _, ⟨_, r⟩, q, .tail _ m => allLt_mem r q m
theorem fresh_of {news : List (Addr × Obj)} {d : Addr} {o : Obj} (h : ∀ q ∈ news, q.1 < d) : ∀ q ∈ news, ∀ p ∈ [(d, o)], q.1 < p.1 := fun q hq p hp => by
  cases hp with
  | head => exact h q hq
  | tail _ h => cases h
theorem news_drop2 {h₀ h : Heap} {L : Addr} {x y : Addr × Obj} {news : List (Addr × Obj)} (N : News h₀ L h (x :: y :: news)) : News h₀ L h ([x] ++ news) := fun p hp => by
  cases hp with
  | head => exact N _ (.head _)
  | tail _ h => exact N _ (.tail _ (.tail _ h))
theorem fillK : PySem.Challenge.rw_ad5031_01 = PySem.Challenge.rw_ad5031_01 ∧ hd.heap_39 = hd.heap_39 := by
  k_fill
  exact ⟨rfl, rfl⟩
end Mine

namespace Mine
theorem off_Dat : True := by
  w_top off
  trivial
end Mine
namespace Mine
open PySem PySem.W PySem.Spec PySem.Calls PyProof.Rows
open PySem.Builtin._datetime
theorem dt_mro : mroOf (.type "datetime.date") = pure [.type "datetime.date", .type "object"] := by rw [mroOf_type]; kernel_rfl
theorem dt_new : typeLookup (.type "datetime.date") "__new__" = pure (some (.builtin "datetime.date.__new__")) := by rw [typeLookup_type, builtinLookup_eq_fast]; kernel_rfl
theorem dt_init : Slot "datetime.date" "__init__" "object.__init__" := .of (owner := "object") (n := "__init__") (by rw [typeLookup_type, builtinLookup_eq_fast]; kernel_rfl) (by decide +kernel) (by decide +kernel) (by decide +kernel)
  (by first | exact .inl (by decide +kernel) | exact .inr (by decide +kernel)) (by rw [isSubtype_type]; kernel_rfl)
theorem dt_called : TypeCalled "datetime.date" "datetime.date.__new__" "object.__init__" :=
  ⟨by decide +kernel, by decide +kernel, ⟨_, _, dt_mro⟩, madeBy_type dt_mro dt_new (by decide +kernel), by decide +kernel, by rw [isSubtype_type]; kernel_rfl, dt_init⟩
theorem dt_typeCall (a b c : Value) : checkTypeCall "datetime.date" ⟨[a, b, c], []⟩ = pure () := by kernel_rfl
theorem dt_newCall (a b c : Value) : checkBuiltinCall "datetime.date.__new__" ⟨[.type "datetime.date", a, b, c], []⟩ = pure () := by kernel_rfl
theorem dt_initArgs (obj a b c : Value) : argsOk "object.__init__" ⟨[obj, a, b, c], []⟩ := F.initArgs_range_3 obj a b c
theorem dt_entry : entryFor table "datetime.date.__new__" = some Builtin.«datetime.date.__new__» := entryFor_of_tree (by kernel_rfl)
theorem dt_subdt : isSubtype (.type "datetime.date") (.type "datetime.datetime") = pure false := by rw [isSubtype_type]; kernel_rfl
/-- the days that a date may bear -/
def dateOk (y m d : Int) : Bool := decide (1 ≤ y) && decide (y ≤ 9999) && decide (1 ≤ m) && decide (m ≤ 12) && decide (1 ≤ d) && decide (d ≤ daysInMonth y m)
section
variable {prog : Program} {w : World} {A : Around} {E : Value → Shared → Prop} {s : Shared}
theorem dt_cint {M : Model} {n : Int} {t : Tok} {Q : Int → Shared → Prop} (h : Q n s) (h1 : -1000000000 ≤ n) (h2 : n ≤ 1000000000) : wpAny M A (dtCInt (.int n t)) Q E s := by
  unfold dtCInt
  refine wpAny_bind (wpAny_of_eq (a := n) rfl ?_)
  rw [if_neg (by simp; omega)]
  (try dsimp only)
  rw [if_neg (by omega)]
  (try dsimp only)
  rw [if_neg (by omega)]
  exact wpAny_pure h
theorem dt_check {M : Model} {y m d : Int} {Q : Unit → Shared → Prop} (hok : dateOk y m d = true → Q () s) (hh : A.handled = none) (hy1 : -1000000000 ≤ y) (hy2 : y ≤ 1000000000)
    (hbad : dateOk y m d = false → ∀ h' tk e, Heap.NewExc s.heap h' e "ValueError" → E (.ref e) { s with heap := h', toks := tk }) : wpAny M A (checkDate y m d) Q E s := by
  unfold checkDate
  by_cases h : (decide (y < 1) || decide (y > 9999)) = true
  · rw [if_pos h]
    refine wpAny_bind (wpAny_rule ?_); refine wpAny_bind ?_; refine wpAny_raiseErrorMade plainExc_ValueError hh (hbad ?_) ?_
    · simp at h; simp only [dateOk, Bool.and_eq_false_iff, decide_eq_false_iff_not]; omega
    · have e : (PySem.Str.ofString (toString y)).length ≤ 12 := by
        rw [PySem.ofString_length]; exact int_text_length_le10 (k := 11) (by decide) (by omega)
      rw [PySem.ofString_length] at e ⊢
      simp only [String.length_append]
      have : sizeLine > 1000 := by decide
      have e2 : (toString "year ").length = 5 := by decide
      have e3 : (toString " is out of range").length = 16 := by decide
      omega
  rw [if_neg h]
  (try dsimp only)
  by_cases h2 : (decide (m < 1) || decide (m > 12)) = true
  · rw [if_pos h2]
    refine wpAny_bind (wpAny_rule ?_); refine wpAny_bind ?_; refine wpAny_raiseErrorWords plainExc_ValueError hh (hbad ?_)
    simp at h2; simp only [dateOk, Bool.and_eq_false_iff, decide_eq_false_iff_not]; omega
  rw [if_neg h2]
  (try dsimp only)
  by_cases h3 : (decide (d < 1) || decide (d > daysInMonth y m)) = true
  · rw [if_pos h3]
    refine wpAny_bind (wpAny_rule ?_); refine wpAny_raiseErrorWords plainExc_ValueError hh (hbad ?_)
    simp at h3; simp only [dateOk, Bool.and_eq_false_iff, decide_eq_false_iff_not]; omega
  rw [if_neg h3]
  refine wpAny_pure (hok ?_)
  simp at h h2 h3
  simp only [dateOk, Bool.and_eq_true, decide_eq_true_eq]; omega
set_option maxHeartbeats 8000000 in
theorem dt_meets (y m d : Int) (t u v : Tok) (hy1 : -1000000000 ≤ y) (hy2 : y ≤ 1000000000) (hm1 : -1000000000 ≤ m) (hm2 : m ≤ 1000000000) (hd1 : -1000000000 ≤ d) (hd2 : d ≤ 1000000000) :
    MeetsIn prog w (Builtin.«datetime.date.__new__» ⟨[.type "datetime.date", .int y t, .int m u, .int d v], []⟩) (fun A R s => A.handled = none ∧
      (dateOk y m d = true → ∀ tk t1 t2 t3, R (.ok (.ret (Value.ref s.heap.objs.size))) { s with heap := s.heap.push { cls := Value.type "datetime.date", data := Data.fields #[.int y t1, .int m t2, .int d t3] }, toks := tk }) ∧
      (dateOk y m d = false → ∀ h' tk e, Heap.NewExc s.heap h' e "ValueError" → R (.error (.ref e)) { s with heap := h', toks := tk })) :=
  .of_wp fun A R s h => by
    have hsub := dt_called.sub
    have hsub2 := dt_subdt
    obtain ⟨hp, g, dr, tk, os⟩ := s
    obtain ⟨hh, hok, hbad⟩ := h
    unfold Builtin.«datetime.date.__new__» dtNewClass newDateRaw
    wp_walk using (dt_cint), (dt_check)
    all_goals first | assumption | skip
    · intro ho
      wp_walk
      all_goals exact ⟨_, rfl, hok ho _ _ _ _⟩
def dateObj (y m d : Int) (t1 t2 t3 : Tok) : Obj := { cls := Value.type "datetime.date", data := Data.fields #[.int y t1, .int m t2, .int d t3] }
theorem dt_call {y m d : Int} {t u v : Tok} {Q : Value → Shared → Prop} (hh : A.in1.handled = none) (hy1 : -1000000000 ≤ y) (hy2 : y ≤ 1000000000) (hm1 : -1000000000 ≤ m) (hm2 : m ≤ 1000000000) (hd1 : -1000000000 ≤ d) (hd2 : d ≤ 1000000000)
    (hok : dateOk y m d = true → ∀ tk t1 t2 t3, Q (.ref s.heap.objs.size) { s with heap := s.heap.push (dateObj y m d t1 t2 t3), toks := tk })
    (hbad : dateOk y m d = false → ∀ h' tk e, Heap.NewExc s.heap h' e "ValueError" → E (.ref e) { s with heap := h', toks := tk }) :
    wpAny (model prog w) A (call (.type "datetime.date") [.int y t, .int m u, .int d v]) Q E s :=
  callType_newIn dt_called (by decide) (dt_typeCall _ _ _) (dt_newCall _ _ _) (fun obj => dt_initArgs obj _ _ _) dt_entry
    (dt_meets y m d t u v hy1 hy2 hm1 hm2 hd1 hd2) ⟨hh, fun ho tk t1 t2 t3 => ⟨⟨_, Heap.get?_push_size _ rfl, rfl⟩, hok ho tk t1 t2 t3⟩, hbad⟩
theorem dt_K {h₀ : Heap} {L : Addr} {mp : Str → Option Value} {news : List (Addr × Obj)} {y m d : Int} {t u v : Tok} {Q : Value → Shared → Prop} (F : Fr h₀ L s.heap mp) (N : News h₀ L s.heap news) (hh : A.in1.handled = none) (hy1 : -1000000000 ≤ y) (hy2 : y ≤ 1000000000) (hm1 : -1000000000 ≤ m) (hm2 : m ≤ 1000000000) (hd1 : -1000000000 ≤ d) (hd2 : d ≤ 1000000000)
    (hok : dateOk y m d = true → ∀ d₁ h' tk t1 t2 t3, Fr h₀ L h' mp → News h₀ L h' ((d₁, dateObj y m d t1 t2 t3) :: news) → (∀ q ∈ news, q.1 < d₁) → Q (.ref d₁) { s with heap := h', toks := tk })
    (hbad : dateOk y m d = false → ∀ h' tk e, Heap.NewExc s.heap h' e "ValueError" → E (.ref e) { s with heap := h', toks := tk }) :
    wpAny (model prog w) A (call (.type "datetime.date") [.int y t, .int m u, .int d v]) Q E s :=
  dt_call hh hy1 hy2 hm1 hm2 hd1 hd2 (fun ho tk t1 t2 t3 => hok ho _ _ tk t1 t2 t3 (F.push _) (N.push F _) fun q hq => Heap.lt_size (N q hq).1) hbad
theorem dt_attrs : PlainAttrs "datetime.date" := ⟨⟨"object.__getattribute__", by rw [typeLookup_type, builtinLookup_eq_fast]; kernel_rfl, by decide +kernel⟩, by rw [typeLookup_type, builtinLookup_eq_fast]; kernel_rfl⟩
theorem dt_slot_wd : Slot "datetime.date" "weekday" "datetime.date.weekday" :=
  .of (owner := "datetime.date") (n := "weekday") (by rw [typeLookup_type, builtinLookup_eq_fast]; kernel_rfl) (by decide +kernel) (by decide +kernel) (by decide +kernel)
    (by first | exact .inl (by decide +kernel) | exact .inr (by decide +kernel)) (by rw [isSubtype_type]; kernel_rfl)
theorem dt_slot_ic : Slot "datetime.date" "isocalendar" "datetime.date.isocalendar" :=
  .of (owner := "datetime.date") (n := "isocalendar") (by rw [typeLookup_type, builtinLookup_eq_fast]; kernel_rfl) (by decide +kernel) (by decide +kernel) (by decide +kernel)
    (by first | exact .inl (by decide +kernel) | exact .inr (by decide +kernel)) (by rw [isSubtype_type]; kernel_rfl)
theorem dt_type_wd : typeOf (.builtin "datetime.date.weekday") = pure (.type "method_descriptor") := by show builtinType _ = _; rw [builtinType_eq_fast]; kernel_rfl
theorem dt_type_ic : typeOf (.builtin "datetime.date.isocalendar") = pure (.type "method_descriptor") := by show builtinType _ = _; rw [builtinType_eq_fast]; kernel_rfl
theorem dt_entry_wd : entryFor table "datetime.date.weekday" = some Builtin.«datetime.date.weekday» := entryFor_of_tree (by kernel_rfl)
theorem dt_entry_ic : entryFor table "datetime.date.isocalendar" = some Builtin.«datetime.date.isocalendar» := entryFor_of_tree (by kernel_rfl)
theorem dt_args_wd (a : Value) : argsOk "datetime.date.weekday" ⟨[a], []⟩ := by unfold argsOk; kernel_rfl
theorem dt_args_ic (a : Value) : argsOk "datetime.date.isocalendar" ⟨[a], []⟩ := by unfold argsOk; kernel_rfl
theorem dt_get {h₀ : Heap} {L D : Addr} {news : List (Addr × Obj)} {o : Obj} {name : Str} {id : String} {pl : Sem Bool} {Q : Value × List Value → Shared → Prop} (N : News h₀ L s.heap news) (hm : (D, o) ∈ news) (slot : Slot "datetime.date" name id) (hty : typeOf (.builtin id) = pure (.type "method_descriptor"))
    (hc : o.cls = .type "datetime.date") (hd : o.dict = none) (h : Q (.builtin id, [.ref D]) s) : wpAny (model prog w) A (getMethod (.ref D) name pl) Q E s :=
  getMethod_builtin ⟨o, N.get hm, hc⟩ dt_attrs slot hty (fun a e => by cases e; exact ⟨o, N.get hm, hd⟩) h
theorem dt_wd_meets (D : Addr) (y m d : Int) (t1 t2 t3 : Tok) : Meets (Builtin.«datetime.date.weekday» ⟨[.ref D], []⟩) (fun _ R s => s.heap.get? D = some (dateObj y m d t1 t2 t3) ∧ R (.ok (.ret (.int (weekdayOf (toOrdinal y m d)) s.toks))) { s with toks := s.toks + 1 }) :=
  .of_wp fun prog w A R s h => by
    have hsub := dt_called.sub
    obtain ⟨hp, g, dr, tk, os⟩ := s
    obtain ⟨ho, h⟩ := h
    have hT : Shared.TypeIs ⟨hp, g, dr, tk, os⟩ (.ref D) "datetime.date" := ⟨_, ho, rfl⟩
    unfold dateObj at ho
    dsimp only at ho
    show wpAny _ _ (do let (y, m, d) ← dateParts (← selfOnly "date.weekday" ⟨[.ref D], []⟩); retInt (weekdayOf (toOrdinal y m d))) _ _ _
    unfold dateParts dateParts?
    wp_walk
    all_goals exact ⟨_, rfl, h⟩
def isoObj (a b c : Int) (t1 t2 t3 : Tok) : Obj := { cls := .type "datetime.IsoCalendarDate", data := .seq #[.int a t1, .int b t2, .int c t3] }
theorem dt_ic_meets (D : Addr) (y m d : Int) (t1 t2 t3 : Tok) : Meets (Builtin.«datetime.date.isocalendar» ⟨[.ref D], []⟩) (fun _ R s => s.heap.get? D = some (dateObj y m d t1 t2 t3) ∧ ∀ a b c t1 t2 t3 tk, R (.ok (.ret (.ref s.heap.objs.size))) { s with heap := s.heap.push (isoObj a b c t1 t2 t3), toks := tk }) :=
  .of_wp fun prog w A R s h => by
    have hsub := dt_called.sub
    obtain ⟨hp, g, dr, tk, os⟩ := s
    obtain ⟨ho, h⟩ := h
    have hT : Shared.TypeIs ⟨hp, g, dr, tk, os⟩ (.ref D) "datetime.date" := ⟨_, ho, rfl⟩
    unfold dateObj at ho
    dsimp only at ho
    show wpAny _ _ (do let (y, m, d) ← dateParts (← selfOnly "date.isocalendar" ⟨[.ref D], []⟩)
                       let (isoYear, isoWeek, isoDay) := isoCalendarOf y m d
                       ret (← newObj (.type "datetime.IsoCalendarDate") (.seq #[← mkInt isoYear, ← mkInt isoWeek, ← mkInt isoDay]))) _ _ _
    unfold dateParts dateParts?
    generalize hg : isoCalendarOf y m d = ic
    obtain ⟨a, b, c⟩ := ic
    wp_walk
    all_goals exact ⟨_, rfl, h _ _ _ _ _ _ _⟩
theorem wd_K {h₀ : Heap} {L D : Addr} {news : List (Addr × Obj)} {y m d : Int} {t1 t2 t3 : Tok} {Q : Value → Shared → Prop} (N : News h₀ L s.heap news) (hm : (D, dateObj y m d t1 t2 t3) ∈ news)
    (h : ∀ k t tk, 0 ≤ k → k < 7 → Q (.int k t) { s with toks := tk }) : wpAny (model prog w) A (call (.builtin "datetime.date.weekday") [.ref D]) Q E s :=
  call_meets dt_slot_wd ⟨_, N.get hm, rfl⟩ dt_entry_wd (dt_args_wd _) (dt_wd_meets D y m d t1 t2 t3) ⟨N.get hm, h _ _ _ (by unfold weekdayOf; omega) (by unfold weekdayOf; omega)⟩
theorem ic_K {h₀ : Heap} {L D : Addr} {mp : Str → Option Value} {news : List (Addr × Obj)} {y m d : Int} {t1 t2 t3 : Tok} {Q : Value → Shared → Prop} (F : Fr h₀ L s.heap mp) (N : News h₀ L s.heap news) (hm : (D, dateObj y m d t1 t2 t3) ∈ news)
    (h : ∀ d₁ h' tk o, Fr h₀ L h' mp → News h₀ L h' ((d₁, o) :: news) → (∀ q ∈ news, q.1 < d₁) → Q (.ref d₁) { s with heap := h', toks := tk }) : wpAny (model prog w) A (call (.builtin "datetime.date.isocalendar") [.ref D]) Q E s :=
  call_meets dt_slot_ic ⟨_, N.get hm, rfl⟩ dt_entry_ic (dt_args_ic _) (dt_ic_meets D y m d t1 t2 t3) ⟨N.get hm, fun a b c u1 u2 u3 tk => h _ _ _ _ (F.push _) (N.push F _) fun q hq => Heap.lt_size (N q hq).1⟩
theorem dim_ge {y m : Int} (h1 : 1 ≤ m) (h2 : m ≤ 12) : 28 ≤ daysInMonth y m := by
  have : m = 1 ∨ m = 2 ∨ m = 3 ∨ m = 4 ∨ m = 5 ∨ m = 6 ∨ m = 7 ∨ m = 8 ∨ m = 9 ∨ m = 10 ∨ m = 11 ∨ m = 12 := by omega
  unfold daysInMonth
  split
  · decide
  · rcases this with rfl | rfl | rfl | rfl | rfl | rfl | rfl | rfl | rfl | rfl | rfl | rfl <;> decide
theorem dateOk_first {y m : Int} (hy1 : 1 ≤ y) (hy2 : y ≤ 9999) (hm1 : 1 ≤ m) (hm2 : m ≤ 12) : dateOk y m 1 = true := by
  have := dim_ge (y := y) hm1 hm2
  simp only [dateOk, Bool.and_eq_true, decide_eq_true_eq]; omega
theorem dt_KG {h₀ : Heap} {L : Addr} {mp : Str → Option Value} {news : List (Addr × Obj)} {y m : Int} {t u v : Tok} {Q : Value → Shared → Prop} (F : Fr h₀ L s.heap mp) (N : News h₀ L s.heap news) (hh : A.in1.handled = none) (hy1 : 1 ≤ y) (hy2 : y ≤ 9999) (hm1 : 1 ≤ m) (hm2 : m ≤ 12)
    (hok : ∀ d₁ h' tk t1 t2 t3, Fr h₀ L h' mp → News h₀ L h' ((d₁, dateObj y m 1 t1 t2 t3) :: news) → (∀ q ∈ news, q.1 < d₁) → Q (.ref d₁) { s with heap := h', toks := tk }) :
    wpAny (model prog w) A (call (.type "datetime.date") [.int y t, .int m u, .int 1 v]) Q E s :=
  dt_K F N hh (by omega) (by omega) (by omega) (by omega) (by omega) (by omega) (fun _ => hok) fun hb => by rw [dateOk_first hy1 hy2 hm1 hm2] at hb; cases hb
end
end Mine

namespace Mine
theorem off_OwnX : True := by
  w_top off
  trivial
end Mine
namespace Mine
open PySem PySem.W PySem.Spec PySem.Calls PyProof.Rows
section
variable {prog : Program} {w : World} {A : Around} {E : Value → Shared → Prop} {h : Heap} {g : Array GenState} {d : Drawn} {t : Nat} {os : OsState}
variable {nm q : Str} {C N : Addr} {bs bm bmB : List Value} {hdct : Bool} {sn : List Str} {sub : List Value} {ab : Bool} {col : Option Bool} {dd : Option Addr} {k0 k1 k2 k3 k5 : Option Value} {B newId initId : String}
theorem ox_check_new (F : ExcBaseFacts B newId initId bmB) (hb : bm.contains (.type B) = true) {M : Model} {rest : List Value} {Q : Unit → Shared → Prop} (hC : h.get? C = some (excClassObj nm q C N bs bm hdct sn sub ab col dd k0 k1 k2 k3 k5 newId))
    (hq : Q () ⟨h, g, d, t, os⟩) : wpAny M A (checkBuiltinCall newId ⟨.ref C :: rest, []⟩) Q E ⟨h, g, d, t, os⟩ := by
  have hcont : (Value.ref C :: bm).contains (.type B) = true := by rw [List.contains_cons, hb, Bool.or_true]
  have hstar := F.noStar
  simp only [checkBuiltinCall, F.newKind, F.newSplit, F.newRow]
  repeat (first | refine wpAny_loadPart_at hC ?_ | (refine wpAny_isSubtype_exc hC ?_; rw [hcont]) | refine wpAny_staticBase_exc hC ?_ | refine wpAny_madeBy_exc hC ?_ | simp only [bne_self_eq_false, Bool.false_eq_true, if_false] | wp_step)
  exact hq
theorem ox_new {R : Result → Shared → Prop} (F : ExcBaseFacts B newId initId bmB) (hb : bm.contains (.type B) = true) (hA : bm.contains (.type "AttributeError") = false) (hN : bm.contains (.type "NameError") = false) {rest : List Value} (hC : h.get? C = some (excClassObj nm q C N bs bm hdct sn sub ab col dd k0 k1 k2 k3 k5 newId))
    (hq : R (.ok (.ret (.ref (h.objs.size + 1)))) ⟨(h.push { cls := .type "tuple", data := .seq rest.toArray }).push
      { cls := .ref C, data := .fields #[.ref h.objs.size, .none, .none, .none, .bool false, .none] }, g, d, t, os⟩) (hrest : rest.length ≤ sizeLine := by size_fits) :
    codeAny (model prog w) A (.builtin newId ⟨.ref C :: rest, []⟩) R ⟨h, g, d, t, os⟩ := by
  have hends := F.ends
  have hcB : (Value.ref C :: bm).contains (.type B) = true := by rw [List.contains_cons, hb, Bool.or_true]
  have hcA : (Value.ref C :: bm).contains (.type "AttributeError") = false := by rw [List.contains_cons, hA]; rfl
  have hcN : (Value.ref C :: bm).contains (.type "NameError") = false := by rw [List.contains_cons, hN]; rfl
  refine codeAny_builtinAt F.entry ?_
  unfold Builtin.«BaseException.__new__»
  refine PySem.wpAt_bind ?_
  show PySem.wpAt _ _ _ (stack >>= _) _ _ _
  refine PySem.wpAt_bind (PySem.wpAt_stack fun p below => PySem.wpAt_of_wpAny ?_)
  wp_walk
  refine PySem.wpAt_of_wpAny ?_
  rw [F.owner]
  repeat (first | with_reducible refine wpAny_madeHere_exc F.canon hC ?_ | with_reducible refine wpAny_loadPart_at hC ?_ | (with_reducible refine wpAny_isSubtype_exc hC ?_; first | rw [hcB] | rw [hcA] | rw [hcN]) | wp_step)
  show R _ _
  rw [Heap.size_push]
  exact hq
theorem ox_lookup {M : Model} {name : Str} {mN : Str → Option Value} {y : Value} {Q : Option Value → Shared → Prop}
    (hC : h.get? C = some (excClassObj nm q C N bs bm hdct sn sub ab col dd k0 k1 k2 k3 k5 newId)) (hn : h.Ns N mN) (hy : mN name = some y)
    (hq : Q (some y) ⟨h, g, d, t, os⟩) : wpAny M A (typeLookup (.ref C) name) Q E ⟨h, g, d, t, os⟩ := by
  rw [typeLookup_eq]
  refine wpAny_bind (wpAny_mroOf_exc hC ?_)
  rw [lookupAlong_cons]
  refine wpAny_bind (wpAny_classOwn_exc hC hn ?_)
  rw [hy]
  exact wpAny_pure hq
theorem ox_type_call (F : ExcBaseFacts B newId initId bmB) (hb : bm.contains (.type B) = true) (hA : bm.contains (.type "AttributeError") = false) (hN : bm.contains (.type "NameError") = false) {mN : Str → Option Value} {rest : List Value} {fI : Addr} {oI : Obj} {Q : Fin → Shared → Prop}
    (hC : h.get? C = some (excClassObj nm q C N bs bm hdct sn sub ab col dd k0 k1 k2 k3 k5 newId)) (hn : h.Ns N mN) (hi : mN "__init__" = some (.ref fI))
    (hfI : h.get? fI = some oI) (hfc : oI.cls = .type "function")
    (hq : ∀ tp, wpAny (model prog w) A (call (.ref fI) (.ref (h.objs.size + 1) :: rest)) (fun r s' => r = .none ∧ Q (.done (.ret (.ref (h.objs.size + 1)))) s') E ⟨(h.push { cls := .type "tuple", data := .seq rest.toArray }).push { cls := .ref C, data := .fields #[.ref tp, .none, .none, .none, .bool false, .none] }, g, d, t, os⟩) (hrest : rest.length ≤ sizeLine := by size_fits) :
    wpAny (model prog w) A (Builtin.«type.__call__» ⟨.ref C :: rest, []⟩) Q E ⟨h, g, d, t, os⟩ := by
  repeat (first | with_reducible refine wpAny_loadPart_at hC ?_ | with_reducible refine wpAny_madeBy_exc hC ?_ | wp_step)
  refine codeAny_call_builtin_code (Code.quiet_builtin _ F.quiet) (ox_check_new F hb hC ?_)
  refine ox_new F hb hA hN hC ?_ hrest
  show wpAny _ _ _ _ _ _
  have hC₁ := Heap.get?_push_of_some { cls := .ref C, data := .fields #[.ref h.objs.size, .none, .none, .none, .bool false, .none] }
    (Heap.get?_push_of_some { cls := .type "tuple", data := .seq rest.toArray } hC)
  have hfI₁ := Heap.get?_push_of_some { cls := .ref C, data := .fields #[.ref h.objs.size, .none, .none, .none, .bool false, .none] }
    (Heap.get?_push_of_some { cls := .type "tuple", data := .seq rest.toArray } hfI)
  have hn₁ : ((h.push { cls := .type "tuple", data := .seq rest.toArray }).push { cls := .ref C, data := .fields #[.ref h.objs.size, .none, .none, .none, .bool false, .none] }).Ns N mN :=
    let ⟨o, es, ep, e, r⟩ := hn; ⟨o, es, ep, Heap.get?_push_of_some _ (Heap.get?_push_of_some _ e), r⟩
  have hget : ((h.push { cls := .type "tuple", data := .seq rest.toArray }).push
      { cls := .ref C, data := .fields #[.ref h.objs.size, .none, .none, .none, .bool false, .none] }).get? (h.objs.size + 1) = some
      { cls := .ref C, data := .fields #[.ref h.objs.size, .none, .none, .none, .bool false, .none] } := by heap_get
  have hcC : (Value.ref C :: bm).contains (.ref C) = true := by simp
  unfold isInstance
  repeat (first | with_reducible refine wpAny_loadPart_at hget ?_ | (with_reducible refine wpAny_isSubtype_exc hC₁ ?_; rw [hcC]) | wp_step)
  show wpAny _ _ (typeLookup (.ref C) _) _ _ _
  refine ox_lookup hC₁ hn₁ hi ?_
  refine wpAny_holding (wpAny_bind ?_)
  unfold bindSpecial
  refine wpAny_bind (wpAny_typeOf (T := "function") ⟨_, hfI₁, hfc⟩ ?_)
  rw [if_pos (by decide)]
  refine wpAny_pure (wpAny_bind (wpAny_mono (hq _) (fun r s' hr => ?_) fun _ _ x => x))
  · obtain ⟨rfl, hQ⟩ := hr
    wp_walk
    exact hQ
theorem ox_call (F : ExcBaseFacts B newId initId bmB) (hb : bm.contains (.type B) = true) (hA : bm.contains (.type "AttributeError") = false) (hN : bm.contains (.type "NameError") = false) {mN : Str → Option Value} {rest : List Value} {fI : Addr} {oI : Obj} {Q : Value → Shared → Prop}
    (hC : h.get? C = some (excClassObj nm q C N bs bm hdct sn sub ab col dd k0 k1 k2 k3 k5 newId)) (hn : h.Ns N mN) (hi : mN "__init__" = some (.ref fI))
    (hfI : h.get? fI = some oI) (hfc : oI.cls = .type "function")
    (hq : ∀ tp, wpAny (model prog w) (A.under (.builtin "type.__call__" ⟨.ref C :: rest, []⟩)) (call (.ref fI) (.ref (h.objs.size + 1) :: rest)) (fun r s' => r = .none ∧ Q (.ref (h.objs.size + 1)) s') E ⟨(h.push { cls := .type "tuple", data := .seq rest.toArray }).push { cls := .ref C, data := .fields #[.ref tp, .none, .none, .none, .bool false, .none] }, g, d, t, os⟩) (hrest : rest.length ≤ sizeLine := by size_fits) :
    wpAny (model prog w) A (call (.ref C) rest) Q E ⟨h, g, d, t, os⟩ := by
  have f1 := tc_lookup
  have f2 := tc_bind (.ref C)
  have hT : (⟨h, g, d, t, os⟩ : Shared).TypeIs (.ref C) "type" := ⟨_, hC, rfl⟩
  refine wpAny_call (codeAny_of_tree ?_)
  show wpAny _ _ (callAny (.ref C) _) _ _ _
  repeat (any_goals (first | assumption | with_reducible refine wpAny_loadPart_at hC ?_ | wp_step))
  refine ⟨rfl, ?_⟩
  refine codeAny_call_builtin_at (Code.quiet_builtin _ (by decide +kernel)) entry_typeCall (wpAny_check_type_call_sub hC (ox_type_call (hrest := hrest) F hb hA hN hC hn hi hfI hfc fun tp => ?_))
  exact hq tp
end
end Mine

namespace Mine
theorem off_OwnY : True := by
  w_top off
  trivial
end Mine
namespace Mine
open PySem PySem.W PySem.Spec PySem.Calls PyProof.Rows
open Builtin Builtin.ObjectAttr
def imeTail : List Value := [.type "ValueError", .type "IndexError", .type "LookupError", .type "Exception", .type "BaseException", .type "object"]
theorem ime_sa : lookupAlong imeTail "__setattr__" = pure (some (.builtin "object.__setattr__")) := by kernel_rfl
theorem ime_month : lookupAlong imeTail "month" = pure none := by kernel_rfl
theorem ime_passes (self : Value) : refuseLoop self "__setattr__" imeTail = pure () := by kernel_rfl
section
variable {prog : Program} {w : World} {A : Around} {E : Value → Shared → Prop} {h : Heap} {g : Array GenState} {d : Drawn} {t : Nat} {os : OsState}
variable {nm q : Str} {C N x : Addr} {bs : List Value} {sn : List Str} {sub : List Value} {ab : Bool} {col : Option Bool} {dd : Option Addr} {k0 k1 k2 k3 k5 : Option Value} {newId : String} {mN : Str → Option Value} {v : Value}
theorem oy_lookup {M : Model} {bm : List Value} {name : Str} {y : Option Value} {Q : Option Value → Shared → Prop}
    (hC : h.get? C = some (excClassObj nm q C N bs bm true sn sub ab col dd k0 k1 k2 k3 k5 newId)) (hn : h.Ns N mN) (hy : mN name = none) (hl : lookupAlong bm name = pure y)
    (hq : Q y ⟨h, g, d, t, os⟩) : wpAny M A (typeLookup (.ref C) name) Q E ⟨h, g, d, t, os⟩ := by
  rw [typeLookup_eq]
  refine wpAny_bind (wpAny_mroOf_exc hC ?_)
  rw [lookupAlong_cons]
  refine wpAny_bind (wpAny_classOwn_exc hC hn ?_)
  rw [hy]
  dsimp only
  rw [hl]
  exact wpAny_pure hq
theorem oy_check_sa {M : Model} {o : Obj} {nameV : Value} {Q : Unit → Shared → Prop}
    (hC : h.get? C = some (excClassObj nm q C N bs imeTail true sn sub ab col dd k0 k1 k2 k3 k5 newId)) (hx : h.get? x = some o) (hc : o.cls = .ref C) (hq : Q () ⟨h, g, d, t, os⟩) :
    wpAny M A (checkBuiltinCall "object.__setattr__" ⟨[.ref x, nameV, v], []⟩) Q E ⟨h, g, d, t, os⟩ := by
  have hcB : (Value.ref C :: imeTail).contains (.type "object") = true := by rw [List.contains_cons, show imeTail.contains (.type "object") = true by decide +kernel, Bool.or_true]
  have ha := PySem.F.store_object.args (.ref x) nameV v
  simp only [checkBuiltinCall, PySem.F.store_object.kind, PySem.F.store_object.split]
  refine wpAny_bind ?_
  · unfold isInstance
    repeat (first | (with_reducible refine wpAny_loadPart_at hx ?_; rw [hc]) | (with_reducible refine wpAny_isSubtype_exc hC ?_; rw [hcB]) | wp_step)
    all_goals exact hq
theorem oy_entry {tk : Tok} {Q : Fin → Shared → Prop} {o : Obj}
    (hC : h.get? C = some (excClassObj nm q C N bs imeTail true sn sub ab col dd k0 k1 k2 k3 k5 newId)) (hn : h.Ns N mN) (hna : mN "month" = none)
    (hx : h.get? x = some o) (hc : o.cls = .ref C) (hdn : o.dict = none) (hnc : ∀ c, o.data ≠ .cls c)
    (hq : ∀ h' tk' dx, h'.get? x = some { cls := o.cls, dict := some dx, data := o.data, slots := o.slots } → (∀ b o, b ≠ x → h.get? b = some o → h'.get? b = some o) → Q (.done (.ret .none)) ⟨h', g, d, tk', os⟩) :
    wpAny (model prog w) A (Builtin.«object.__setattr__» ⟨[.ref x, .str "month" tk, v], []⟩) Q E ⟨h, g, d, t, os⟩ := by
  have hpass := ime_passes (.ref x)
  unfold Builtin.«object.__setattr__»
  repeat (first | rw [refuse_eq] | (rw [refuseLoop_ref, hpass]) | (with_reducible refine wpAny_loadPart_at hx ?_; rw [hc]) | with_reducible refine wpAny_mroOf_exc hC ?_ | (with_reducible refine oy_lookup hC hn hna ime_month ?_) | wp_step)
  rw [hdn, if_neg (by simp [typeHasDict])]
  split
  · rename_i hcd
    cases hcd
  split
  · rename_i c hcd
    exact absurd hcd (hnc c)
  · have hx₁ : (h.push { cls := .type "dict", data := .dict #[] }).get? x = some o := Heap.get?_push_of_some _ hx
    have hxs : x ≠ h.objs.size := Nat.ne_of_lt (Heap.lt_size hx)
    refine wpAny_bind (wpAny_alloc' ?_)
    refine wpAny_bind (wpAny_update' hx₁ ?_)
    refine wpAny_pure ?_
    have hgd : ((h.push { cls := .type "dict", data := .dict #[] }).update x fun o => { cls := o.cls, dict := some h.objs.size, data := o.data, slots := o.slots }).get? h.objs.size
        = some { cls := .type "dict", data := .dict #[] } :=
      (Heap.get?_update_ne _ _ _ _ hxs.symm).trans (Heap.get?_push_at rfl rfl)
    have hnd : ((h.push { cls := .type "dict", data := .dict #[] }).update x fun o => { cls := o.cls, dict := some h.objs.size, data := o.data, slots := o.slots }).Ns h.objs.size (fun _ => none) :=
      ⟨_, #[], _, hgd, rfl, fun e he => absurd he (by simp), fun _ => rfl⟩
    show wpAny _ _ (storeInDict h.objs.size (.str "month" tk) "month" v) _ _ _
    unfold storeInDict newKeyGuard
    refine wpAny_bind (wpAny_pure (wpAny_bind (wpAny_nsSet1EFk (Heap.Ns1.of_empty hnd) fun h' hn' hs hkeepD => ?_)))
    obtain ⟨oD, esD, epD, hoD, hdD, hcD⟩ := hn'.count (Within.cons "month" v Within.nil)
    refine wpAny_bind (wpAny_lookBehind hoD (by rw [hdD]; exact pastItsLine_dict (Nat.le_trans hcD (by rw [List.length_cons, List.length_nil, sizeLine_eq]; omega))) ?_)
    wp_walk
    refine hq h' _ h.objs.size ?_ (fun b ob hbx hb => ?_)
    · refine (hs.2 x hxs).trans (Heap.get?_update_self _ hx₁ ?_)
      have hfr := (Heap.get?_some_iff.mp hx).2
      obtain ⟨oc, od, odt, osl⟩ := o
      cases odt <;> first | rfl | exact hfr
    · exact (hs.2 b (Nat.ne_of_lt (Heap.lt_size hb))).trans ((Heap.get?_update_ne _ _ _ _ hbx).trans (Heap.get?_push_of_some _ hb))
theorem oy_setAttr {Q : Unit → Shared → Prop} {o : Obj}
    (hC : h.get? C = some (excClassObj nm q C N bs imeTail true sn sub ab col dd k0 k1 k2 k3 k5 newId)) (hn : h.Ns N mN) (hns : mN "__setattr__" = none) (hna : mN "month" = none)
    (hx : h.get? x = some o) (hc : o.cls = .ref C) (hdn : o.dict = none) (hnc : ∀ c, o.data ≠ .cls c)
    (hq : ∀ h' tk' dx, h'.get? x = some { cls := o.cls, dict := some dx, data := o.data, slots := o.slots } → (∀ b o, b ≠ x → h.get? b = some o → h'.get? b = some o) → Q () ⟨h', g, d, tk', os⟩) :
    wpAny (model prog w) A (setAttr (.ref x) "month" v) Q E ⟨h, g, d, t, os⟩ := by
  have f3 := PySem.F.store_object.slot.bind (.ref x)
  unfold setAttr callSpecial? specialOf
  repeat (any_goals (first | assumption | (with_reducible refine wpAny_loadPart_at hx ?_; rw [hc]) | (with_reducible refine oy_lookup hC hn hns ime_sa ?_) | wp_step))
  refine codeAny_call_builtin PySem.F.store_object.slot.plain PySem.F.store_object.entry (oy_check_sa hC hx hc (oy_entry hC hn hna hx hc hdn hnc (fun h' tk' dx hx' hk => ?_)))
  repeat (any_goals (first | assumption | wp_step))
  exact hq h' tk' dx hx' hk
end
end Mine

namespace Mine
theorem off_OwnZ : True := by
  w_top off
  trivial
end Mine
namespace Mine
open PySem PySem.W PySem.Spec PySem.Calls PyProof.Rows
section
variable {M : Model} {A : Around} {E : Value → Shared → Prop} {s' : Shared} {base g : Heap} {outer : List Env} {L a e : Addr} {m : Str → Option Value} {name : Str} {scope : Scope} {cd : Value} {Q : Unit → Shared → Prop} {news : List (Addr × Obj)}
theorem leave_fresh {cls tp : Value} {ob : Obj} (K : Below A base outer g) (F : Fr g L s'.heap m) (N : News g L s'.heap ((e, ob) :: news)) (hcls : ob.cls = cls) (hd : ob.data = .fields #[tp, .none, .none, .none, .bool false, .none]) (hlt : ∀ q ∈ news, q.1 < e)
    (hQ : ∀ h', RaisedSN base g outer e cls news h' → g.UpToSlots h' → Q () { s' with heap := h' }) (hk : scope.kind = .function := by rfl) :
    wpAny M (A.deeper (envOf name scope L a cd)) (leaving (envOf name scope L a cd) (.ref e)) Q E s' := by
  obtain ⟨he, heL, hen0⟩ := N _ (.head _)
  dsimp only at he heL hen0
  have K' := K.push (name := name) (a := a) (cd := cd) F hk
  have hin : ∀ env ∈ (envOf name scope L a cd :: outer), ∀ b, env.frame = some b → b ∈ e :: (envOf name scope L a cd :: outer).filterMap (·.frame) := fun env he b hb => .tail _ (List.mem_filterMap.mpr ⟨env, he, hb⟩)
  have st : base.StaysIn (hideAll s'.heap (e :: (envOf name scope L a cd :: outer).filterMap (·.frame))) := fun b o q => hideAll_get _ (K'.stays b o q) fun hm => by
    rcases List.mem_cons.mp hm with rfl | hm
    · rw [fresh_of_stays K.stays hen0] at q; cases q
    · rw [(K'.frames.mem hm).1] at q; cases q
  have sg : ∀ b o, g.get? b = some o → b ∉ outer.filterMap (·.frame) → (hideAll s'.heap (e :: (envOf name scope L a cd :: outer).filterMap (·.frame))).get? b = some o := fun b o q nm => hideAll_get _ (F.keep b o q) fun hm => by
    rcases List.mem_cons.mp hm with rfl | hm
    · rw [hen0] at q; cases q
    · rcases kts_mem hm with z | z
      · rw [z, kts_self F] at q
        cases q
      · exact nm z
  have hl : ∀ q ∈ news, (hideAll s'.heap (e :: (envOf name scope L a cd :: outer).filterMap (·.frame))).get? q.1 = some q.2 ∧ g.get? q.1 = none ∧ base.get? q.1 = none := fun q hq => by
    have Nq := N q (.tail _ hq)
    refine ⟨hideAll_get _ Nq.1 fun hm => ?_, Nq.2.2, fresh_of_stays K.stays Nq.2.2⟩
    rcases List.mem_cons.mp hm with z | hm
    · exact absurd (hlt q hq) (by rw [z]; exact Nat.lt_irrefl _)
    obtain ⟨env, he, hf⟩ := List.mem_filterMap.mp hm
    rcases List.mem_cons.mp he with rfl | he
    · exact Nq.2.1 (Option.some.inj hf).symm
    · obtain ⟨o, ho, _⟩ := (K'.frames.mem (List.mem_filterMap.mpr ⟨env, .tail _ he, hf⟩)).2
      obtain ⟨o', ho', _⟩ := (K.frames.mem (List.mem_filterMap.mpr ⟨env, he, hf⟩)).2
      rw [Nq.2.2] at ho'; cases ho'
  have hen := hideAll_none (h := s'.heap) (e :: (envOf name scope L a cd :: outer).filterMap (·.frame)) (b := e) (.head _)
  refine wpAny_leaving_firstW (a0 := tp) K'.stack (funFrames_hide K'.frames hin) rfl he (fun b o hb => of_hideAll _ hb) hen hd rfl rfl fun h' hL => ?_
  obtain ⟨k1, ⟨_, _, k2⟩, k3, k4⟩ := hL
  exact hQ h' ⟨_, tp, st, sg, hl, k1, hen, k2, by rw [← hcls]; exact k3⟩ ((Heap.UpToSlots.of_keeps F.keep).trans k4)
end
end Mine
namespace Mine
open PySem PySem.W PySem.Spec PySem.Calls PyProof.Rows
section
variable {M : Model} {A : Around} {E : Value → Shared → Prop} {s : Shared} {env : Env}
variable {nm q : Str} {C N : Addr} {bs bm : List Value} {hdct : Bool} {sn : List Str} {sub : List Value} {ab : Bool} {col : Option Bool} {dd : Option Addr} {k0 k1 k2 k3 k5 : Option Value} {newId : String}
theorem Raise_own {e : Expr} {pos : Pos} {Q : Flow → Shared → Prop} (hbase : bm.contains (.type "BaseException") = true) (hh : A.handled = none)
    (h : wpAny M A (eval e env) (fun v s₁ => ∃ a ob tp, v = .ref a ∧ s₁.heap.get? C = some (excClassObj nm q C N bs bm hdct sn sub ab col dd k0 k1 k2 k3 k5 newId) ∧ s₁.heap.get? a = some ob ∧ ob.cls = .ref C ∧
      ob.data = .fields #[tp, .none, .none, .none, .bool false, .none] ∧ E (.ref a) s₁) E s) : wpAny M A (exec (.Raise (some e) none pos) env) Q E s := by
  have hcB : (Value.ref C :: bm).contains (.type "BaseException") = true := by rw [List.contains_cons, hbase, Bool.or_true]
  show wpAny M A (do standAt pos; raiseStmt env (some (do let v ← eval e env; standAt pos; pure v)) none) Q E s
  refine wpAny_bind (wpAny_standAt ?_)
  unfold raiseStmt
  dsimp only
  refine wpAny_bind (wpAny_bind (wpAny_mono h (fun v s₁ h₁ => wpAny_bind (wpAny_standAt (wpAny_pure ?_))) fun _ _ x => x))
  obtain ⟨a, ob, tp, rfl, hC, he, hcls, hd, hE⟩ := h₁
  obtain ⟨hp, g, d, tk, os⟩ := s₁
  obtain ⟨oc, od, odt, osl⟩ := ob
  dsimp only at hcls hd
  subst hcls hd
  repeat (first | with_reducible refine wpAny_loadPart_at he ?_ | with_reducible refine wpAny_loadPart_at hC ?_ | (with_reducible refine wpAny_isSubtype_exc hC ?_; rw [hcB]) | wp_step)
  exact wpAny_raiseNew_none hh hE
end
end Mine

namespace Mine
theorem off_Enu : True := by
  w_top off
  trivial
end Mine
namespace Mine
open PySem PySem.W PySem.Spec PySem.Calls PyProof.Rows
theorem en_mro : mroOf (.type "int") = pure [.type "int", .type "object"] := by rw [mroOf_type]; kernel_rfl
theorem en_slot_eq : Slot "int" "__eq__" "int.__eq__" := .of (owner := "int") (n := "__eq__") (by rw [typeLookup_type, builtinLookup_eq_fast]; kernel_rfl) (by decide +kernel) (by decide +kernel) (by decide +kernel)
  (by first | exact .inl (by decide +kernel) | exact .inr (by decide +kernel)) (by rw [isSubtype_type]; kernel_rfl)
theorem en_entry_eq : entryFor table "int.__eq__" = some Builtin.«int.__eq__» := entryFor_of_tree (by kernel_rfl)
theorem en_kind_eq : builtinKind "int.__eq__" = some .slot := by decide +kernel
theorem en_split_eq : splitId "int.__eq__" = some ("int", "__eq__") := by decide +kernel
theorem en_args_eq (a b : Value) : argsOk "int.__eq__" ⟨[a, b], []⟩ := by unfold argsOk; kernel_rfl
/-- a class under int -/
abbrev mcObj (C N : Addr) (cd : ClassData) (dd : Option Addr) (sl : Array (Option Value)) : Obj := { cls := .type "type", dict := dd, data := .cls { cd with mro := [.ref C, .type "int", .type "object"], ns := N }, slots := sl }
section
variable {M : Model} {A : Around} {E : Value → Shared → Prop} {h : Heap} {g : Array GenState} {d : Drawn} {t : Nat} {os : OsState}
variable {C N x : Addr} {cd : ClassData} {dd : Option Addr} {sl : Array (Option Value)} {mN : Str → Option Value} {o : Obj}
theorem mc_mro {Q : List Value → Shared → Prop} (hC : h.get? C = some (mcObj C N cd dd sl)) (hq : Q [.ref C, .type "int", .type "object"] ⟨h, g, d, t, os⟩) : wpAny M A (mroOf (.ref C)) Q E ⟨h, g, d, t, os⟩ := by
  unfold mroOf
  repeat (any_goals (first | assumption | wp_step))
theorem mc_sub {b : Value} {Q : Bool → Shared → Prop} (hC : h.get? C = some (mcObj C N cd dd sl)) (hq : Q ([Value.ref C, .type "int", .type "object"].contains b) ⟨h, g, d, t, os⟩) : wpAny M A (isSubtype (.ref C) b) Q E ⟨h, g, d, t, os⟩ := by
  unfold isSubtype
  repeat (any_goals (first | assumption | wp_step))
theorem mc_lookup {name : Str} {y : Option Value} {Q : Option Value → Shared → Prop} (hC : h.get? C = some (mcObj C N cd dd sl)) (hn : h.Ns N mN) (hno : mN name = none) (hB : typeLookup (.type "int") name = pure y)
    (hq : Q y ⟨h, g, d, t, os⟩) : wpAny M A (typeLookup (.ref C) name) Q E ⟨h, g, d, t, os⟩ := by
  have hl : lookupAlong [.type "int", .type "object"] name = pure y := by rw [typeLookup_eq, en_mro] at hB; exact hB
  rw [typeLookup_eq]
  refine wpAny_bind (mc_mro hC ?_)
  rw [lookupAlong_cons, hl]
  refine wpAny_bind ?_
  unfold classOwn classData
  refine wpAny_bind (wpAny_bind (wpAny_load hC (wpAny_pure (wpAny_nsGet hn ?_))))
  rw [hno]
  exact wpAny_pure hq
theorem mc_specialOf {name : Str} {y : Option Value} {Q : Option Value → Shared → Prop} (hx : h.get? x = some o) (hc : o.cls = .ref C) (hC : h.get? C = some (mcObj C N cd dd sl)) (hn : h.Ns N mN) (hno : mN name = none) (hB : typeLookup (.type "int") name = pure y)
    (hq : Q y ⟨h, g, d, t, os⟩) : wpAny M A (specialOf (.ref x) name) Q E ⟨h, g, d, t, os⟩ := by
  unfold specialOf
  repeat (first | (with_reducible refine wpAny_loadPart_at hx ?_; rw [hc]) | (with_reducible refine mc_lookup hC hn hno hB ?_) | wp_step)
  exact hq
theorem mc_special {name : Str} {id : String} {args : List Value} {Q : Option Value → Shared → Prop} (hx : h.get? x = some o) (hc : o.cls = .ref C) (hC : h.get? C = some (mcObj C N cd dd sl)) (hn : h.Ns N mN) (hno : mN name = none) (S : Slot "int" name id)
    (hcall : wpAny M A (call (.builtin id) (.ref x :: args)) (fun v => Q (some v)) E ⟨h, g, d, t, os⟩) : wpAny M A (callSpecialIfBound? (.ref x) name args) Q E ⟨h, g, d, t, os⟩ := by
  have fin : wpAny M A (call (.builtin id) ([.ref x] ++ args) >>= fun v => pure (some v)) Q E ⟨h, g, d, t, os⟩ := wpAny_bind (wpAny_mono hcall (fun _ _ r => wpAny_pure r) fun _ _ r => r)
  simp only [callSpecialIfBound?, bindSpecialIfBound?]
  refine wpAny_holding (wpAny_bind (wpAny_bind (mc_specialOf hx hc hC hn hno S.lookup ?_)))
  simp only [S.bind]
  refine wpAny_bind (wpAny_askSetting (wpAny_ite ?_))
  split
  · exact wpAny_bind (wpAny_pure (wpAny_pure fin))
  · exact wpAny_tryCatch (wpAny_bind (wpAny_pure (wpAny_pure fin)))
theorem mc_check {id n : String} {rest : List Value} {Q : Unit → Shared → Prop} (hk : builtinKind id = some .slot) (hs : splitId id = some ("int", n)) (ha : argsOk id ⟨.ref x :: rest, []⟩) (hx : h.get? x = some o) (hc : o.cls = .ref C)
    (hC : h.get? C = some (mcObj C N cd dd sl)) (hq : Q () ⟨h, g, d, t, os⟩) : wpAny M A (checkBuiltinCall id ⟨.ref x :: rest, []⟩) Q E ⟨h, g, d, t, os⟩ := by
  have hcB : [Value.ref C, .type "int", .type "object"].contains (.type "int") = true := by rw [List.contains_cons]; rfl
  simp only [checkBuiltinCall, hk, hs]
  refine wpAny_bind ?_
  unfold isInstance
  repeat (first | (with_reducible refine wpAny_loadPart_at hx ?_; rw [hc]) | (with_reducible refine mc_sub hC ?_; rw [hcB]) | wp_step)
  unfold argsOk at ha
  split at ha <;> rename_i hsig <;> (try rw [hsig]) <;> dsimp only at ha ⊢ <;> (first | exact wpAny_pure hq | exact wpAny_of_eq ha hq)
end
section
variable {prog : Program} {w : World} {A : Around} {E : Value → Shared → Prop} {h : Heap} {g : Array GenState} {d : Drawn} {t : Nat} {os : OsState}
variable {C N x : Addr} {cd : ClassData} {dd : Option Addr} {sl : Array (Option Value)} {mN : Str → Option Value} {o : Obj} {v m : Int} {tv tm : Tok}
theorem en_eq_entry {M : Model} {Q : Fin → Shared → Prop} (hx : h.get? x = some o) (hd : o.data = .prim (.int v tv)) (hq : Q (.done (.ret (.bool (v == m)))) ⟨h, g, d, t, os⟩) :
    wpAny M A (Builtin.«int.__eq__» ⟨[.ref x, .int m tm], []⟩) Q E ⟨h, g, d, t, os⟩ := by
  obtain ⟨oc, od, odt, osl⟩ := o
  dsimp only at hd
  subst hd
  show wpAny M A (Builtin.Int.intBinary "__eq__" (fun x y => ret (.bool (x == y))) false ⟨[.ref x, .int m tm], []⟩) Q E ⟨h, g, d, t, os⟩
  unfold Builtin.Int.intBinary Builtin.Int.intOfSelf asInt?
  wp_walk
  all_goals exact hq
theorem en_eq (hx : h.get? x = some o) (hc : o.cls = .ref C) (hd : o.data = .prim (.int v tv)) (hC : h.get? C = some (mcObj C N cd dd sl)) (hn : h.Ns N mN) (hno : mN "__eq__" = none)
    (hu : A.units < cLine) {Q : Value → Shared → Prop} (hq : Q (.bool (v == m)) ⟨h, g, d, t, os⟩) : wpAny (model prog w) A (compareOp .Eq (.int m tm) (.ref x)) Q E ⟨h, g, d, t, os⟩ := by
  have hsp : ∀ {Q : Option Value → Shared → Prop}, Q (some (.bool (v == m))) ⟨h, g, d, t, os⟩ → wpAny (model prog w) A (callSpecialIfBound? (.ref x) "__eq__" [.int m tm]) Q E ⟨h, g, d, t, os⟩ := fun hq =>
    mc_special hx hc hC hn hno en_slot_eq (wpAny_call (codeAny_call_builtin en_slot_eq.plain en_entry_eq (mc_check en_kind_eq en_split_eq (en_args_eq _ _) hx hc hC (en_eq_entry hx hd hq))))
  have htc : ∀ {Q : Option Value → Shared → Prop}, Q (some (.bool (v == m))) ⟨h, g, d, t, os⟩ → wpAny (model prog w) A (tryCompare (.ref x) "__eq__" (.int m tm)) Q E ⟨h, g, d, t, os⟩ := fun hq => by
    simp only [tryCompare]
    exact wpAny_bind (hsp (wpAny_pure hq))
  have hsub : (Value.ref C :: [Value.type "int", Value.type "object"]).contains (.type "int") = true := by rw [List.contains_cons]; rfl
  show wpAny (model prog w) A (richCompare .Eq (.int m tm) (.ref x)) Q E _
  simp only [richCompare, cmpInfo_Eq]
  repeat (first | with_reducible refine wpAny_cRoomFor hu ?_ | (with_reducible refine wpAny_loadPart_at hx ?_; rw [hc]) | (with_reducible refine mc_sub hC ?_; rw [hsub]) | with_reducible refine htc ?_ | wp_step)
  all_goals exact hq
end
end Mine

namespace Mine
theorem off_Enu2 : True := by
  w_top off
  trivial
end Mine
namespace Mine
open PySem PySem.W PySem.Spec PySem.Calls PyProof.Rows
theorem en_lk_sub : typeLookup (.type "int") (dunder "sub") = pure (some (.builtin "int.__sub__")) := by rw [typeLookup_type, builtinLookup_eq_fast]; kernel_rfl
theorem en_lk_rsub : typeLookup (.type "int") (dunderR "sub") = pure (some (.builtin "int.__rsub__")) := by rw [typeLookup_type, builtinLookup_eq_fast]; kernel_rfl
section
variable {prog : Program} {w : World} {A : Around} {E : Value → Shared → Prop} {h : Heap} {g : Array GenState} {d : Drawn} {t : Nat} {os : OsState}
variable {C N x : Addr} {cd : ClassData} {dd : Option Addr} {sl : Array (Option Value)} {mN : Str → Option Value} {o : Obj} {v m : Int} {tv tm : Tok}
theorem en_sub_entry {M : Model} {Q : Fin → Shared → Prop} (hx : h.get? x = some o) (hd : o.data = .prim (.int v tv)) (hq : Q (.done (.ret (.int (m - v) t))) ⟨h, g, d, t + 1, os⟩) :
    wpAny M A (Builtin.«int.__sub__» ⟨[.int m tm, .ref x], []⟩) Q E ⟨h, g, d, t, os⟩ := by
  obtain ⟨oc, od, odt, osl⟩ := o
  dsimp only at hd
  subst hd
  unfold Builtin.«int.__sub__» Builtin.Int.intBinary asInt?
  wp_walk
  all_goals exact hq
theorem en_lko_sub : typeLookup (.type "object") (dunder "sub") = pure none := by rw [typeLookup_type, builtinLookup_eq_fast]; kernel_rfl
theorem en_ownw : ownNameWrapper (.builtin "int.__sub__") (dunder "sub") = true := by decide +kernel
theorem en_seqs : isSeqSlot (some (.builtin "int.__sub__")) = false := by decide +kernel
theorem en_fills {M : Model} {Q : Bool → Shared → Prop} (hC : h.get? C = some (mcObj C N cd dd sl)) (hn : h.Ns N mN) (hno : mN (dunder "sub") = none)
    (hq : Q true ⟨h, g, d, t, os⟩) : wpAny M A (fillsNumberSlot (.ref C) "sub") Q E ⟨h, g, d, t, os⟩ := by
  have hl : ∀ {Q : Option Value → Shared → Prop}, Q (some (.builtin "int.__sub__")) ⟨h, g, d, t, os⟩ → wpAny M A (typeLookup (.ref C) (dunder "sub")) Q E ⟨h, g, d, t, os⟩ := fun hq => mc_lookup hC hn hno en_lk_sub hq
  have hi : ∀ {Q : Bool → Shared → Prop}, Q false ⟨h, g, d, t, os⟩ → wpAny M A (inheritsSeqSlot (.ref C) (dunder "sub")) Q E ⟨h, g, d, t, os⟩ := fun hq => by
    simp only [inheritsSeqSlot]
    refine wpAny_bind (mc_mro hC ?_)
    simp only [List.anyM, en_lk_sub, en_lko_sub, pure_bind, en_seqs]
    exact wpAny_pure hq
  unfold fillsNumberSlot
  dsimp only
  refine wpAny_bind (mc_mro hC ?_)
  simp only [List.anyM]
  refine wpAny_bind (wpAny_bind (wpAny_bind (hl ?_)))
  dsimp only
  rw [en_ownw]
  refine wpAny_bind (hi ?_)
  exact wpAny_pure (wpAny_pure (wpAny_pure hq))
theorem en_sub (hx : h.get? x = some o) (hc : o.cls = .ref C) (hd : o.data = .prim (.int v tv)) (hC : h.get? C = some (mcObj C N cd dd sl)) (hn : h.Ns N mN) (hno : mN (dunder "sub") = none) (hnr : mN (dunderR "sub") = none)
    {Q : Value → Shared → Prop} (hq : Q (.int (m - v) t) ⟨h, g, d, t + 1, os⟩) : wpAny (model prog w) A (binaryOp .Sub (.int m tm) (.ref x)) Q E ⟨h, g, d, t, os⟩ := by
  have hsub : (Value.ref C :: [Value.type "int", Value.type "object"]).contains (.type "int") = true := by rw [List.contains_cons]; rfl
  have htm : ∀ {Q : Option Value → Shared → Prop}, Q (some (.int (m - v) t)) ⟨h, g, d, t + 1, os⟩ → wpAny (model prog w) A (tryMethod (.int m tm) (dunder "sub") (.ref x)) Q E ⟨h, g, d, t, os⟩ := fun hq => by
    simp only [tryMethod]
    refine wpAny_bind ?_
    with_reducible refine wpAny_callSpecial?_slot (typeIs_int _ m tm) F.slot_int_sub ?_
    with_reducible refine wpAny_call_entry F.slot_int_sub (typeIs_int _ m tm) F.entry_int_sub ?_ (F.args_int_sub_2 _ _)
    with_reducible refine en_sub_entry hx hd ?_
    exact ⟨_, rfl, wpAny_pure hq⟩
  have hlr : ∀ {Q : Option Value → Shared → Prop}, Q (some (.builtin "int.__rsub__")) ⟨h, g, d, t, os⟩ → wpAny (model prog w) A (typeLookup (.ref C) (dunderR "sub")) Q E ⟨h, g, d, t, os⟩ := fun hq => mc_lookup hC hn hnr en_lk_rsub hq
  have hrd : ∀ {Q : Bool → Shared → Prop}, Q false ⟨h, g, d, t, os⟩ → wpAny (model prog w) A (reflectedDiffers (.type "int") (.ref C) "sub") Q E ⟨h, g, d, t, os⟩ := fun hq => by
    simp only [reflectedDiffers, numberSlotInPython, en_lk_rsub, pure_bind]
    simp only [Bool.not_false, if_true]
    refine wpAny_bind (hlr ?_)
    exact wpAny_pure hq
  simp only [binaryOp, Operator.info]
  try with_reducible refine wpAny_holding ?_
  refine wpAny_bind ?_
  unfold binaryOp1
  refine wpAny_bind (wpAny_typeOf (typeIs_int _ m tm) ?_)
  refine wpAny_bind ?_
  unfold typeOf
  dsimp only
  refine wpAny_bind (wpAny_loadPart_at hx ?_)
  rw [hc]
  refine wpAny_pure ?_
  refine wpAny_bind (wpAny_of_eq F.fills_int_sub ?_)
  rw [if_neg (by simp)]
  refine wpAny_bind (en_fills hC hn hno ?_)
  simp only [Bool.and_self, if_true]
  refine wpAny_bind (mc_sub hC ?_)
  rw [hsub]
  simp only [if_true]
  refine wpAny_bind (hrd ?_)
  simp only [if_false, Bool.and_true, Bool.and_self, Bool.not_false, if_true, numberSlotInPython, pure_bind, Bool.false_eq_true]
  refine wpAny_bind (htm ?_)
  dsimp only
  refine wpAny_pure (wpAny_pure hq)
end
end Mine

namespace Mine
theorem off_LoopT : True := by
  w_top off
  trivial
end Mine
namespace Mine
open PySem PySem.W PySem.Spec PySem.Calls PyProof.Rows PyProof.V
section
variable {prog : Program} {w : World} {A : Around} {E : Value → Shared → Prop} {s : Shared} {env : Env} {x : Str} {body : List Stmt} {Q : Flow → Shared → Prop}
/-- a loop whose turns may catch: the ground moves -/
def LoopT (prog : Program) (w : World) (A : Around) (env : Env) (x : Str) (px : Pos) (body : List Stmt) (Q : Flow → Shared → Prop) (E : Value → Shared → Prop) (it : Value) (s₂ : Shared) : Prop :=
  codeAny (model prog w) A (.forLoop (.Name x px) it body [] env) (fun r s' => match r with | .ok f => Q f s' | .error e => cameBackBy (model prog w) A env E e s') s₂
theorem For_T {px pos : Pos} {iter : Expr}
    (h : wpAny (model prog w) A (eval iter env) (fun xv s₁ => wpAny (model prog w) A (pyIter xv) (fun it s₂ => LoopT prog w A env x px body Q E it s₂) E s₁) E s)
    (hs : ∀ x, foldedSetIterable iter env x = pure x := by intro _; rfl) :
    wpAny (model prog w) A (exec (.For (.Name x px) iter body [] pos) env) Q E s := wpAny_For h hs
def TurnT (Gd : Heap → Prop) (L : Addr) (own : List (Addr × Obj)) (J : (Str → Option Value) → List (Addr × Obj) → Prop) (s₁ : Shared) (f : Flow) (s₂ : Shared) : Prop :=
  f = .next ∧ ∃ g' h' tk' m' news', s₂ = { s₁ with heap := h', toks := tk' } ∧ Gd g' ∧ Fr g' L h' m' ∧ News g' L h' (news' ++ own) ∧ J m' news'
theorem TurnT.intro {Gd : Heap → Prop} {L : Addr} {own : List (Addr × Obj)} {J : (Str → Option Value) → List (Addr × Obj) → Prop} {s₁ : Shared} {g' h' : Heap} {tk' : Nat} {m' : Str → Option Value} {news' : List (Addr × Obj)}
    (G : Gd g') (F : Fr g' L h' m') (N : News g' L h' (news' ++ own)) (j : J m' news') : TurnT Gd L own J s₁ .next { s₁ with heap := h', toks := tk' } := ⟨rfl, _, _, _, _, _, rfl, G, F, N, j⟩
theorem iter_T0 {r : Addr} {a₀ b₀ : Int} {t₀ u₀ v₀ : Tok} {n : Nat} {g : Heap} {px : Pos} {m₀ : Str → Option Value} {news : List (Addr × Obj)} (Gd : Heap → Prop) (J : Nat → (Str → Option Value) → List (Addr × Obj) → Prop)
    (hh : A.handled = none) (hr : IsRange s.heap r a₀ b₀ 1 t₀ u₀ v₀) (hsmall : Builtin.Range.small a₀ b₀ 1 = true) (hn : Builtin.Range.rangeSize a₀ b₀ 1 = (n : Int)) (G : Gd g) (F : Fr g env.locals s.heap m₀) (N : News g env.locals s.heap news) (hj : J 0 m₀ news)
    (hJ : ∀ i m nx (h : Heap) (o : Obj), J i m nx → (∀ p ∈ nx, h.get? p.1 = some p.2) → h.get? s.heap.objs.size = some o → o.cls = .type "range_iterator" → ∀ p ∈ nx, p.1 ≠ s.heap.objs.size) (hx : env.kindOf x = some .local) (hp : (env.scope.kind == .class || (env.scope.kind == .module && env.locals != env.globals)) = false)
    (turn : ∀ (i : Nat) t g m₁ news₁ h tk own, i < n → OwnOff own (news.map (·.1)) → Gd g → J i m₁ news₁ → Fr g env.locals h (fun y => if y = x then some (.int (a₀ + i) t) else m₁ y) → News g env.locals h (news₁ ++ own) →
      wpAny (model prog w) A (execs body env) (TurnT Gd env.locals own (J (i + 1)) s) E { s with heap := h, toks := tk })
    (done : ∀ g m₁ news₁ h tk, Gd g → J n m₁ news₁ → Fr g env.locals h m₁ → News g env.locals h news₁ → Q .next { s with heap := h, toks := tk })
    (hE : PassesOwn (model prog w) A env E := by passes_own) :
    wpAny (model prog w) A (pyIter (.ref r)) (fun it s₂ => LoopT prog w A env x px body Q E it s₂) E s := by
  refine wpAny_pyIter_range hr hsmall ?_
  have hI0 : ∀ b ∈ news.map (·.1), b ≠ s.heap.objs.size := fun b hb e => by
    obtain ⟨q, hq, rfl⟩ := List.mem_map.mp hb
    exact absurd (Heap.lt_size (N q hq).1) (by rw [e]; exact Nat.lt_irrefl _)
  have hL0 : env.locals ≠ s.heap.objs.size := fun e => absurd F.ns.lt (by rw [e]; exact Nat.lt_irrefl _)
  have W : Walks prog w A s.heap.objs.size [s.heap.objs.size] [s.heap.objs.size] n (fun i v => ∃ t, v = .int (a₀ + i * 1) t)
      (fun i h => IsRangeIter h s.heap.objs.size (a₀ + (i : Nat) * 1) ((n : Int) - (i : Nat)) 1) := Walks.range hh _ a₀ 1 n
  refine codeAny_forLoop (fun k s' => ∃ (i : Nat) (g : Heap) (m₁ : Str → Option Value) (news₁ : List (Addr × Obj)) (h : Heap) (tk : Nat), s' = { s with heap := h, toks := tk } ∧ IsRangeIter h s.heap.objs.size (a₀ + (i : Nat) * 1) ((n : Int) - (i : Nat)) 1 ∧ g.get? s.heap.objs.size = none ∧
    Gd g ∧ Fr g env.locals h m₁ ∧ News g env.locals h news₁ ∧ J i m₁ news₁ ∧ i ≤ n ∧ k = n + 1 - i) ?_ (n + 1)
    ⟨0, g, m₀, news, _, _, rfl, (by show IsRangeIter _ _ _ _ _; rw [hn]; simpa using Heap.get?_push_size _ rfl), next_is_new F, G, F.push _, (fun p hp => ⟨Heap.get?_push_of_some _ (N p hp).1, (N p hp).2⟩), hj, Nat.zero_le _, rfl⟩
  rintro k s' ⟨i, g₁, m₁, news₁, h, tk, rfl, hst, hgI, G₁, F₁, N₁, hJ₁, hi, rfl⟩
  have nI : ∀ p ∈ news₁, p.1 ≠ s.heap.objs.size := hJ _ _ _ _ _ hJ₁ (fun p hp => (N₁ p hp).1) hst rfl
  have next : ∀ h₁ : Heap, (∀ b o, b ∉ [s.heap.objs.size] → h.get? b = some o → h₁.get? b = some o) → Fr g₁ env.locals h₁ m₁ ∧ News g₁ env.locals h₁ news₁ := fun h₁ hk₁ =>
    ⟨⟨F₁.ns.at' fun o e => hk₁ _ o (by simpa using hL0) e, fun b o e => hk₁ b o (fun hb => by rw [List.mem_singleton.mp hb, hgI] at e; cases e) (F₁.keep b o e), F₁.above⟩, fun p hp => ⟨hk₁ _ _ (by simpa using nI p hp) (N₁ p hp).1, (N₁ p hp).2⟩⟩
  by_cases hlt : i < n
  · refine W.item i _ _ _ hlt hst fun v h₁ tk₁ hP hst₁ hk₁ => ?_
    obtain ⟨t, rfl⟩ := hP
    obtain ⟨F₂, N₂⟩ := next h₁ hk₁
    refine wpAny_assign_Name (wpAny_storeName_local hx F₂.ns (fun h₂ hn₂ hs₂ => ?_) hp)
    have F₃ := F₂.set hn₂ hs₂
    have N₃ := N₂.set hs₂
    rw [show a₀ + (i : Int) * 1 = a₀ + (i : Int) by omega] at F₃
    obtain ⟨o, hgo⟩ : ∃ o, h₁.get? s.heap.objs.size = some o := ⟨_, hst₁⟩
    have hgo₂ : h₂.get? s.heap.objs.size = some o := (hs₂.2 _ (Ne.symm hL0)).trans hgo
    have N₄ : News g₁ env.locals h₂ (news₁ ++ [(s.heap.objs.size, o)]) := fun p hp => by
      rcases List.mem_append.mp hp with h | h
      · exact N₃ p h
      · rw [List.mem_singleton.mp h]; exact ⟨hgo₂, Ne.symm hL0, hgI⟩
    refine wpAny_mono (turn i t g₁ m₁ news₁ h₂ _ [(s.heap.objs.size, o)] hlt (fun p hp b hb => by rw [List.mem_singleton.mp hp]; exact (hI0 b hb).symm) G₁ hJ₁ F₃ N₄) (fun f s₂ q => ?_) ?_
    · obtain ⟨rfl, g', h', tk', m', news', rfl, G', F', N', j'⟩ := q
      refine ⟨n + 1 - (i + 1), by omega, i + 1, g', m', news', h', tk', rfl, ?_, ?_, G', F', fun p hp => N' p (List.mem_append_left _ hp), j', hlt, rfl⟩
      · have e := (N' _ (List.mem_append_right _ (.head _))).1
        have hst₂ : h₁.get? s.heap.objs.size = some _ := hst₁
        rw [hgo] at hst₂
        cases hst₂
        exact e
      · exact (N' _ (List.mem_append_right _ (.head _))).2.2
    · exact hE
  · have hin : i = n := by omega
    subst hin
    refine W.done _ _ _ hst fun h₁ tk₁ hk₁ => wpAny_execs_nil ?_
    obtain ⟨F₂, N₂⟩ := next h₁ hk₁
    exact done g₁ m₁ news₁ h₁ tk₁ G₁ hJ₁ F₂ N₂
theorem iter_T {r : Addr} {a₀ b₀ : Int} {t₀ u₀ v₀ : Tok} {n : Nat} {g : Heap} {px : Pos} {m₀ : Str → Option Value} {news : List (Addr × Obj)} (Gd : Heap → Prop) (J : Nat → (Str → Option Value) → List (Addr × Obj) → Prop)
    (hh : A.handled = none) (hr : IsRange s.heap r a₀ b₀ 1 t₀ u₀ v₀) (hsmall : Builtin.Range.small a₀ b₀ 1 = true) (hn : Builtin.Range.rangeSize a₀ b₀ 1 = (n : Int)) (G : Gd g) (F : Fr g env.locals s.heap m₀) (N : News g env.locals s.heap news) (hj : J 0 m₀ news)
    (hJ : ∀ i m nx, J i m nx → nx.map (·.1) = news.map (·.1)) (hx : env.kindOf x = some .local) (hp : (env.scope.kind == .class || (env.scope.kind == .module && env.locals != env.globals)) = false)
    (turn : ∀ (i : Nat) t g m₁ news₁ h tk own, i < n → OwnOff own (news.map (·.1)) → Gd g → J i m₁ news₁ → Fr g env.locals h (fun y => if y = x then some (.int (a₀ + i) t) else m₁ y) → News g env.locals h (news₁ ++ own) →
      wpAny (model prog w) A (execs body env) (TurnT Gd env.locals own (J (i + 1)) s) E { s with heap := h, toks := tk })
    (done : ∀ g m₁ news₁ h tk, Gd g → J n m₁ news₁ → Fr g env.locals h m₁ → News g env.locals h news₁ → Q .next { s with heap := h, toks := tk })
    (hE : PassesOwn (model prog w) A env E := by passes_own) :
    wpAny (model prog w) A (pyIter (.ref r)) (fun it s₂ => LoopT prog w A env x px body Q E it s₂) E s :=
  iter_T0 Gd J hh hr hsmall hn G F N hj (fun i m nx h o j _ _ _ p hp e => by
    have h1 : p.1 ∈ news.map (·.1) := by rw [← hJ _ _ _ j]; exact List.mem_map.mpr ⟨p, hp, rfl⟩
    obtain ⟨q, hq, hqe⟩ := List.mem_map.mp h1
    exact absurd (Heap.lt_size (N q hq).1) (by rw [hqe, e]; exact Nat.lt_irrefl _)) hx hp turn done hE
/-- the loop whose turns make lists -/
theorem iter_L {r : Addr} {a₀ b₀ : Int} {t₀ u₀ v₀ : Tok} {n : Nat} {g : Heap} {px : Pos} {m₀ : Str → Option Value} {news : List (Addr × Obj)} (Gd : Heap → Prop) (J : Nat → (Str → Option Value) → List (Addr × Obj) → Prop)
    (hh : A.handled = none) (hr : IsRange s.heap r a₀ b₀ 1 t₀ u₀ v₀) (hsmall : Builtin.Range.small a₀ b₀ 1 = true) (hn : Builtin.Range.rangeSize a₀ b₀ 1 = (n : Int)) (G : Gd g) (F : Fr g env.locals s.heap m₀) (N : News g env.locals s.heap news) (hj : J 0 m₀ news)
    (hJ : ∀ i m nx, J i m nx → ∀ p ∈ nx, p ∈ news ∨ p.2.cls = .type "list") (hx : env.kindOf x = some .local) (hp : (env.scope.kind == .class || (env.scope.kind == .module && env.locals != env.globals)) = false)
    (turn : ∀ (i : Nat) t g m₁ news₁ h tk own, i < n → OwnOff own (news.map (·.1)) → Gd g → J i m₁ news₁ → Fr g env.locals h (fun y => if y = x then some (.int (a₀ + i) t) else m₁ y) → News g env.locals h (news₁ ++ own) →
      wpAny (model prog w) A (execs body env) (TurnT Gd env.locals own (J (i + 1)) s) E { s with heap := h, toks := tk })
    (done : ∀ g m₁ news₁ h tk, Gd g → J n m₁ news₁ → Fr g env.locals h m₁ → News g env.locals h news₁ → Q .next { s with heap := h, toks := tk })
    (hE : PassesOwn (model prog w) A env E := by passes_own) :
    wpAny (model prog w) A (pyIter (.ref r)) (fun it s₂ => LoopT prog w A env x px body Q E it s₂) E s :=
  iter_T0 Gd J hh hr hsmall hn G F N hj (fun i m nx h o j hg ho hc p hp e => by
    rcases hJ _ _ _ j p hp with hq | hq
    · exact absurd (Heap.lt_size (N p hq).1) (by rw [e]; exact Nat.lt_irrefl _)
    · have := hg p hp
      rw [e, ho] at this
      cases this
      rw [hc] at hq
      exact absurd (Value.type.inj hq) (by decide)) hx hp turn done hE
end
end Mine

namespace Mine
theorem off_Leaf : True := by
  w_top off
  trivial
end Mine
namespace Mine
open PySem PySem.W PySem.Spec PySem.Calls PyProof.Rows PyProof.V
/-- the ledger own bears, at v, a list of lists of ints and None -/
def LeafIs (own : List (Addr × Obj)) (v : Value) (ds : List Dat) : Prop := ∀ (h₀ h : Heap) (L : Addr), News h₀ L h own → ∃ as, Reads h v (.list (kqdPs ds)) as
def plainD : Dat → Bool
  | .none => true
  | .int _ => true
  | _ => false
theorem kqdPs_map : ∀ ds : List Dat, kqdPs ds = ds.map kqdP
  | [] => rfl
  | d :: ds => by rw [kqdPs, kqdPs_map ds]; rfl
theorem plain_reads {h h' : Heap} : ∀ {vs : List Value} {ds : List Dat} {as : List Addr}, (∀ d ∈ ds, plainD d = true) → ReadsAll h vs (kqdPs ds) as → ReadsAll h' vs (kqdPs ds) as
  | _, [], _, _, r => by
    rw [kqdPs] at r ⊢
    cases r
    exact .nil
  | _, d :: ds, _, hp, r => by
    rw [kqdPs] at r ⊢
    cases r with
    | cons a b =>
      refine .cons ?_ (plain_reads (fun d hd => hp d (.tail _ hd)) b)
      have hd := hp d (.head _)
      cases d with
      | none => cases a; exact .none
      | int i => cases a; exact .int _ _
      | _ => cases hd
theorem rows_own {h₀ h : Heap} {L : Addr} {m : Str → Option Value} (F : Fr h₀ L h m) : ∀ {ys : List Value} {rows : List (List Dat)} {Ts : List Addr}, (∀ r ∈ rows, ∀ d ∈ r, plainD d = true) → ReadsAll h ys (rows.map fun r => .list (kqdPs r)) Ts → (∀ T ∈ Ts, h₀.get? T = none) →
    ∃ own, News h₀ L h own ∧ ∀ (h₀' h' : Heap) (L' : Addr), News h₀' L' h' own → ∃ as, ReadsAll h' ys (rows.map fun r => .list (kqdPs r)) as
  | _, [], _, _, r, _ => by
    cases r
    exact ⟨[], News.nil, fun _ _ _ _ => ⟨_, .nil⟩⟩
  | _, x :: rows, _, hp, r, hf => by
    cases r with
    | cons a b =>
      obtain ⟨own, N, k⟩ := rows_own F (fun r hr => hp r (.tail _ hr)) b (fun T hT => hf T (List.mem_append.mpr (.inr hT)))
      cases a with
      | list ho hc hd hr =>
        rename_i T o vs n as
        refine ⟨(T, o) :: own, News.more F N ho (fun es n q => by rw [hd] at q; cases q) (hf T (.head _)), fun h₀' h' L' N' => ?_⟩
        obtain ⟨bs, rb⟩ := k h₀' h' L' fun p hp => N' p (.tail _ hp)
        exact ⟨_, .cons (.list (N' (T, o) (.head _)).1 hc hd (plain_reads (hp x (.head _)) hr)) rb⟩
theorem list_own {h₀ h : Heap} {L D : Addr} {m : Str → Option Value} {news : List (Addr × Obj)} {ys : List Value} {rows : List (List Dat)} {Ts : List Addr} (F : Fr h₀ L h m) (N : News h₀ L h news) (hl : h.IsList D ys.toArray)
    (hp : ∀ r ∈ rows, ∀ d ∈ r, plainD d = true) (R : ReadsAll h ys (rows.map fun r => .list (kqdPs r)) Ts) (hf : ∀ T ∈ D :: Ts, h₀.get? T = none) :
    ∃ own, News h₀ L h (own ++ news) ∧ LeafIs own (.ref D) (rows.map .list) := by
  obtain ⟨own, No, k⟩ := rows_own F hp R (fun T hT => hf T (.tail _ hT))
  obtain ⟨o, ho, hc, n, hd⟩ := hl
  refine ⟨(D, o) :: own, ?_, ?_⟩
  · have N1 := News.more F No ho (fun es n q => by rw [hd] at q; cases q) (hf D (.head _))
    exact fun p hp => (List.mem_append.mp hp).elim (N1 p) (N p)
  · intro h₀' h' L' N'
    obtain ⟨as, ra⟩ := k h₀' h' L' fun p hp => N' p (.tail _ hp)
    refine ⟨D :: as, .list (N' (D, o) (.head _)).1 hc hd ?_⟩
    have e : kqdPs (rows.map .list) = rows.map fun r => .list (kqdPs r) := by
      rw [kqdPs_map, List.map_map]
      apply List.map_congr_left
      intro r _
      show kqdP (.list r) = _
      rw [kqdP]
    rw [e]
    exact ra
section
variable {prog : Program} {w : World} {A : Around} {E : Value → Shared → Prop} {s : Shared} {h₀ : Heap} {L : Addr} {n₁ n₂ : List (Addr × Obj)} {u v : Value} {ds : List Dat} {Q : Value → Shared → Prop}
theorem leaf_ne (N1 : News h₀ L s.heap n₁) (N2 : News h₀ L s.heap n₂) (h1 : LeafIs n₁ u ds) (h2 : LeafIs n₂ v ds) (ha : ∀ d ∈ ds, kqdOk 8 d = true) (hu : A.units + 64 < cLine) (h : Q (.bool false) s) :
    wpAny (model prog w) A (compareOp .NotEq u v) Q E s := by
  obtain ⟨as, ra⟩ := h1 _ _ _ N1
  obtain ⟨bs, rb⟩ := h2 _ _ _ N2
  have la := kqd_lay 9 (.list ds) (by simpa [kqdOk] using ha)
  rw [kqdP] at la
  have sh : SeqAt.shaped (.list (kqdPs ds)) = true := by unfold SeqAt.shaped; rw [la.1, Bool.true_and]; exact decide_eq_true (Nat.le_trans la.2 (by decide))
  have e : PyData.eqv (.list (kqdPs ds)) (.list (kqdPs ds)) = true := by
    have q := kqd_eqv 9 (.list ds) (.list ds) 9 (by simpa [kqdOk] using ha) (by simpa [kqdOk] using ha)
    rw [kqdP] at q
    exact q.mpr rfl
  exact ne_dataH ra rb sh sh hu (by rw [e]; exact h)
end
/-- the days of a leaf, those of the week before the first and behind the last as None -/
def daysD (q n : Nat) : List Dat := List.replicate q .none ++ (rangeKs 1 n).map .int ++ List.replicate 7 .none
theorem carried_none : ∀ k : Nat, CarriedAll (List.replicate k [Value.none]).flatten (kqdPs (List.replicate k .none))
  | 0 => .nil
  | k + 1 => by
    rw [List.replicate_succ, List.replicate_succ, List.flatten_cons, kqdPs]
    exact .cons .none (carried_none k)
theorem carried_ints : ∀ {vs : List Value} {ns : List Int}, IntsAre vs ns → CarriedAll vs (kqdPs (ns.map .int))
  | _, _, .nil => .nil
  | _, _, .cons _ _ r => .cons (.int _ _) (carried_ints r)
theorem carried_app : ∀ {vs ws : List Value} {ds es : List PyData}, CarriedAll vs ds → CarriedAll ws es → CarriedAll (vs ++ ws) (ds ++ es)
  | _, _, _, _, .nil, k => k
  | _, _, _, _, .cons a r, k => .cons a (carried_app r k)
theorem carried_drop : ∀ {vs : List Value} {ds : List PyData} (k : Nat), CarriedAll vs ds → CarriedAll (vs.drop k) (ds.drop k)
  | _, _, 0, h => h
  | _, _, _ + 1, .nil => .nil
  | _, _, k + 1, .cons _ r => carried_drop k r
theorem carried_take : ∀ {vs : List Value} {ds : List PyData} (k : Nat), CarriedAll vs ds → CarriedAll (vs.take k) (ds.take k)
  | _, _, 0, _ => .nil
  | _, _, _ + 1, .nil => .nil
  | _, _, k + 1, .cons a r => .cons a (carried_take k r)
theorem kqdPs_drop (ds : List Dat) (k : Nat) : kqdPs (ds.drop k) = (kqdPs ds).drop k := by rw [kqdPs_map, kqdPs_map, List.map_drop]
theorem kqdPs_take (ds : List Dat) (k : Nat) : kqdPs (ds.take k) = (kqdPs ds).take k := by rw [kqdPs_map, kqdPs_map, List.map_take]
theorem kqdPs_append (ds es : List Dat) : kqdPs (ds ++ es) = kqdPs ds ++ kqdPs es := by rw [kqdPs_map, kqdPs_map, kqdPs_map, List.map_append]
theorem carried_days {us : List Value} {q n : Nat} (h : IntsAre us (rangeKs 1 n)) : CarriedAll ((List.replicate q [Value.none]).flatten ++ us ++ (List.replicate (Int.toNat 7) [Value.none]).flatten) (kqdPs (daysD q n)) := by
  unfold daysD
  rw [kqdPs_append, kqdPs_append]
  exact carried_app (carried_app (carried_none q) (carried_ints h)) (carried_none 7)
def rowD (q n : Nat) (k : Int) : List Dat := ((daysD q n).drop k.toNat).take 7
def calD (q n : Nat) : List (List Dat) := (rangeInts 0 7 ((q + n + 6) / 7)).map (rowD q n)
theorem daysD_plain {q n : Nat} : ∀ d ∈ daysD q n, plainD d = true := by
  intro d hd
  unfold daysD at hd
  rcases List.mem_append.mp hd with hd | hd
  · rcases List.mem_append.mp hd with hd | hd
    · rw [List.eq_of_mem_replicate hd]; rfl
    · obtain ⟨_, _, rfl⟩ := List.mem_map.mp hd; rfl
  · rw [List.eq_of_mem_replicate hd]; rfl
theorem calD_plain {q n : Nat} : ∀ r ∈ calD q n, ∀ d ∈ r, plainD d = true := by
  intro r hr d hd
  obtain ⟨k, _, rfl⟩ := List.mem_map.mp hr
  exact daysD_plain d (List.mem_of_mem_drop (List.mem_of_mem_take hd))
theorem plain_ok {d : Dat} (h : plainD d = true) : kqdOk 7 d = true := by cases d <;> first | rfl | cases h
theorem calD_ok {q n : Nat} : ∀ d ∈ (calD q n).map Dat.list, kqdOk 8 d = true := by
  intro d hd
  obtain ⟨r, hr, rfl⟩ := List.mem_map.mp hd
  simp only [kqdOk, List.all_eq_true]
  exact fun e he => plain_ok (calD_plain r hr e he)
section
variable {prog : Program} {w : World} {A : Around} {env : Env} {s₂ : Shared} {E : Value → Shared → Prop}
theorem row_elt {m₂ : Str → Option Value} {c D : Addr} {zs : List Value} {k : Int} {t : Tok} {p1 p2 p3 p4 p5 p6 p7 : Pos} {kd : Nat} (hn : s₂.heap.Ns env.locals m₂) (hi : m₂ (PySem.Str.ofString "i") = some (.int k t)) (hk : env.scope.kind = .function) (ki : env.kindOf (PySem.Str.ofString "i") = some .local) (kc : env.kindOf (PySem.Str.ofString "days") = some .cell)
    (hc : env.cells.lookup (PySem.Str.ofString "days") = some c) (hcell : s₂.heap.IsCell c (some (.ref D))) (hl : s₂.heap.IsList D zs.toArray) (h0 : 0 ≤ k) (h1 : k + 7 ≤ zs.length) (hz : zs.length ≤ 1000) :
    wpAny (model prog w) A (eval (.Subscript (.Name (PySem.Str.ofString "days") p1) (.Slice (some (.Name (PySem.Str.ofString "i") p2)) (some (.BinOp (.Name (PySem.Str.ofString "i") p3) .Add (.Constant (.int 7) kd p4) p5)) none p6) p7) env)
      (fun y s₃ => (∃ T its, y = .ref T ∧ s₂.heap.get? T = none ∧ s₃.heap.IsList T its ∧ its.toList = (zs.drop k.toNat).take 7) ∧ Keeps s₂ s₃) E s₂ := by
  refine wpAny_Subscript_list_slice (wpAny_Name (wpAny_loadName_cell hk kc hc hcell ?_)) (by intro _ _; with_unfolding_all rfl)
  rw [evalPart_some, evalPart_some]
  refine wpAny_Name (wpAny_loadName_local hk ki hn hi ?_)
  refine wpAny_BinOp (wpAny_Name (wpAny_loadName_local hk ki hn hi (wpAny_Constant_int (add_int ?_))))
  refine ⟨D, zs.toArray, some k, some (k + 7), rfl, hl, ?_, .int _ _, .int _ _, ⟨_, _, rfl, ?_, ⟨_, Heap.get?_push_at (by rw [Heap.size_push]) rfl, rfl, _, rfl⟩, ?_⟩, ⟨_, _, rfl, fun b o e => Heap.get?_push_of_some _ (Heap.get?_push_of_some _ e)⟩⟩
  · rw [sizeLine_eq]; simp; omega
  · exact Heap.get?_none_of_le (Nat.le_succ _)
  · have e1 : k = (k.toNat : Int) := by omega
    have e2 : k + 7 = ((k.toNat + 7 : Nat) : Int) := by omega
    rw [e2, show (some k : Option Int) = some (k.toNat : Int) by rw [← e1], slicePick_run zs.toArray k.toNat (k.toNat + 7) (by simp; omega) (by omega)]
    simp
end
section
variable {prog : Program} {w : World} {A : Around} {E : Value → Shared → Prop} {s : Shared} {h₀ : Heap} {L : Addr} {m : Str → Option Value} {env : Env}
def RowsAt (prog : Program) (w : World) (A : Around) (h₀ : Heap) (L : Addr) (m : Str → Option Value) (env : Env) (elt : Expr) (x : Str) (scope : Scope) (cl : List (Str × Addr)) (d : Int → List Dat) (Q : Value → Shared → Prop) (xv : Value) (s₁ : Shared) : Prop :=
  ∃ news : List (Addr × Obj), ∃ r b₀ t₀ u₀ v₀, ∃ n : Nat, xv = .ref r ∧ IsRange s₁.heap r 0 b₀ 7 t₀ u₀ v₀ ∧ Builtin.Range.rangeSize 0 b₀ 7 = (n : Int) ∧ n ≤ sizeLine ∧ Fr h₀ L s₁.heap m ∧ News h₀ L s₁.heap news ∧
      (∀ C k t s₂ m₂ E', k ∈ rangeInts 0 7 n → s₂.heap.Ns (compEnvC scope cl C env).locals m₂ → m₂ x = some (.int k t) → (∀ b o, s₁.heap.get? b = some o → s₂.heap.get? b = some o) →
        wpAny (model prog w) A (eval elt (compEnvC scope cl C env)) (fun y s₃ => (∃ T its, y = .ref T ∧ s₂.heap.get? T = none ∧ s₃.heap.IsList T its ∧ CarriedAll its.toList (kqdPs (d k))) ∧ Keeps s₂ s₃) E' s₂) ∧
      (∀ D own h' tk, Fr h₀ L h' m → News h₀ L h' (own ++ news) → LeafIs own (.ref D) (((rangeInts 0 7 n).map d).map .list) → Q (.ref D) { s₁ with heap := h', toks := tk })
theorem comp_rows {elt iter : Expr} {x : Str} {px : Pos} {scope : Scope} {cl : List (Str × Addr)} {pos : Pos} {Q : Value → Shared → Prop} (_F : Fr h₀ L s.heap m) (d : Int → List Dat) (hd : ∀ k, ∀ e ∈ d k, plainD e = true)
    (hh : A.handled = none) (hclos : closureFor scope env = pure cl) (hcell : ∀ y ∈ scope.names, y.2 ≠ .cell) (hkind : scope.kind = .function)
    (hnames : ∀ y ∈ scope.names, y.2 = .local → scope.names.lookup y.1 = some .local) (hx : scope.names.lookup x = some .local)
    (h : wpAny (model prog w) A (eval iter env) (RowsAt prog w A h₀ L m env elt x scope cl d Q) E s)
    (hs : ∀ x, foldedSetIterable iter env x = pure x) :
    wpAny (model prog w) A (eval (.ListComp elt [⟨.Name x px, iter, [], 0⟩] scope pos) env) Q E s := by
  refine ListComp_DCrO (h₀ := h₀) (L := L) (m := m) (pz := fun _ => true) (d := fun k => kqdPs (d k)) hh hclos hcell hkind hnames hx (wpAny_mono h (fun xv s₁ h₁ => ?_) fun _ _ e => e) hs
  obtain ⟨news, r, b₀, t₀, u₀, v₀, n, rfl, hr, hn, hz, F, N, he, hQ⟩ := h₁
  refine ⟨news, r, 0, b₀, 7, t₀, u₀, v₀, n, rfl, hr, hn, hz, F, N, ?_, ?_, ?_⟩
  · intro C k v s₂ m₂ E' _ _ _ _ _ _
    exact wpAny_pure ⟨rfl, ⟨_, _, rfl, fun _ _ e => e⟩⟩
  · intro C k v s₂ m₂ E' _ hk hv _ hn' hm hk'
    obtain ⟨t, rfl⟩ : ∃ t, v = .int k t := hv
    exact he C k t s₂ m₂ E' hk hn' hm hk'
  · intro D ys Ts h' tk F' N' hl R _ hf
    rw [List.filter_eq_self.mpr (fun _ _ => rfl)] at R
    have R' : ReadsAll h' ys (((rangeInts 0 7 n).map d).map fun r => .list (kqdPs r)) Ts := by rw [List.map_map]; exact R
    obtain ⟨own, No, hL⟩ := list_own F' N' hl (fun r hr e he => by obtain ⟨k, _, rfl⟩ := List.mem_map.mp hr; exact hd k e he) R' hf
    exact hQ D own h' tk F' No hL
end
end Mine

namespace Mine
open PySem PySem.W PySem.Spec PySem.Calls PyProof.Rows
section
local macro_rules | `(tactic| walk_at "M room") => `(tactic| first | omega | ((try dsimp only [ktrTop, Around.deeper]); omega))
local macro_rules | `(tactic| walk_at "M om") => `(tactic| first | omega | ((try dsimp only); omega))
local macro_rules | `(tactic| walk_at "M fresh") => `(tactic| first | with_reducible assumption | exact allLt_mem (by with_reducible assumption) | exact allLt_mem (And.right (by with_reducible assumption)))
local macro_rules | `(tactic| walk_at "M news") => `(tactic| first | k_asm | exact news_drop2 (by k_asm) | exact cb_drop (by k_asm) (fun _ hp => .tail _ hp) | exact cb_drop (by k_asm) (fun _ hp => .tail _ (.tail _ hp)) | exact cb_drop (by k_asm) (fun _ hp => .tail _ (.tail _ (.tail _ hp))))
local macro_rules | `(tactic| walk_at "M rs") => `(tactic| first | with_reducible assumption | exact raised_drop (by with_reducible assumption) | exact raised_drop (raised_drop (by with_reducible assumption)) | exact raised_drop (raised_drop (raised_drop (by with_reducible assumption))))
local macro_rules | `(tactic| walk_at "M ints") => `(tactic| exact IntsAre.cons _ _ (IntsAre.cons _ _ (IntsAre.cons _ _ (IntsAre.cons _ _ IntsAre.nil))))
local macro_rules | `(tactic| walk_at "M g") => `(tactic| first | with_reducible assumption | exact Dv.g (by with_reducible assumption) | exact gc_half | exact gc_122 | exact gc_30 | exact gc_36525 | exact gc_15245 | exact gc_epoch | exact J.g (by with_reducible assumption) | exact Dv.half (by with_reducible assumption))
local macro_rules | `(tactic| walk_at "call builtin:str.format") => `(tactic| (k_here; refine fmt_month (by assumption) (by assumption) (by assumption) (by assumption) ?_; intro _ _ _))
local macro_rules | `(tactic| walk_at "compareOp In int ref") => `(tactic| (k_here; (with_reducible refine' in_tupleK ?F ?X ?l ?i ?_); k_dflt ((case F => k_asm); (case X => k_asm); (case l => k_is); (case i => walk_at "M ints"); k_whole)))
local macro_rules | `(tactic| walk_at "leaving ref") => `(tactic| (k_here; first
  | (refine' leave_raiseM ?k1 ?k0 ?k2 ?k3 ?_; (case k0 => first | assumption | exact Heap.MadeExc.of (by assumption)); (case k2 => assumption); (case k1 => assumption); (case k3 => k_asm); k_whole; intro h' R' U'; (try dsimp only at R' U' ⊢))
  | (refine' leave_onM ?k1 ?k2 ?k3 ?k4 ?_; (case k3 => assumption); (case k2 => assumption); (case k1 => assumption); (case k4 => assumption); k_whole; intro h' R' U'; (try dsimp only at R' U' ⊢))
  | (refine' leave_newM ?k1 ?k0 ?k2 ?k3 ?_; (case k0 => assumption); (case k2 => assumption); (case k1 => assumption); (case k3 => k_asm); k_whole; intro h' R' U'; (try dsimp only at R' U' ⊢))))
local macro_rules | `(tactic| walk_at "exec Raise some none") => `(tactic| (k_here; refine Raise_new rfl ?_))
local macro_rules | `(tactic| walk_at "binaryOp Div int int") => `(tactic| (k_here; (with_reducible refine' rf_div_ii ?hA ?q1 ?q2 ?q3 ?_); k_dflt ((case hA => exact rfl); (case q1 => walk_at "M om"); (case q2 => walk_at "M om"); (case q3 => walk_at "M om")); intro x' g'; (try dsimp only)))
local macro_rules | `(tactic| walk_at "call builtin:math.floor") => `(tactic| (k_here; (with_reducible show wpAny _ _ (call _ [Value.float _ _]) _ _ _); (first
  | ((with_reducible refine' rf_floor_is ?hA ?g ?q1 ?q2 ?q3 ?q4 ?_); (case g => with_reducible assumption); k_dflt ((case hA => exact rfl); (case q1 => decide); (case q2 => decide); (case q3 => walk_at "M om"); (case q4 => walk_at "M om")))
  | ((with_reducible refine' rf_floor_30 ?hA ?g ?q1 ?q2 ?_); (case g => with_reducible assumption); k_dflt ((case hA => exact rfl); (case q1 => walk_at "M om"); (case q2 => walk_at "M om")))
  | ((with_reducible refine' rf_floor_d30 ?hA ?g ?q1 ?q2 ?_); (case g => with_reducible assumption); k_dflt ((case hA => exact rfl); (case q1 => walk_at "M om"); (case q2 => walk_at "M om")))
  | ((with_reducible refine' rf_floor_jc ?hA ?g ?q1 ?q2 ?_); (case g => with_reducible assumption); k_dflt ((case hA => exact rfl); (case q1 => walk_at "M om"); (case q2 => walk_at "M om")))
  | ((with_reducible refine' rf_floor_gis ?hA ?g ?q1 ?q2 ?q3 ?_); k_dflt ((case hA => exact rfl); (case g => walk_at "M g"); (case q1 => walk_at "M om"); (case q2 => walk_at "M om"); (case q3 => walk_at "M om")))); intro q' iq' b1' b2'; (try dsimp only)))
local macro_rules | `(tactic| walk_at "call builtin:math.trunc") => `(tactic| (k_here; (with_reducible show wpAny _ _ (call _ [Value.float _ _]) _ _ _); (first
  | ((with_reducible refine' rf_trunc_dv ?hA ?g ?q0 ?q1 ?q2 ?_); (case g => with_reducible assumption); k_dflt ((case hA => exact rfl); (case q0 => walk_at "M om"); (case q1 => decide); (case q2 => decide)))
  | ((with_reducible refine' rf_trunc_306 ?hA ?g ?_); (case g => with_reducible assumption); (case hA => k_dflt (exact rfl)))
  | ((with_reducible refine' rf_trunc_ex ?hA ?g ?q1 ?_); k_dflt ((case hA => exact rfl); (case g => walk_at "M g"); (case q1 => walk_at "M om")))); (try dsimp only)))
local macro_rules | `(tactic| walk_at "call type:int") => `(tactic| (k_here; (with_reducible show wpAny _ _ (call _ [Value.float _ _]) _ _ _); (with_reducible refine' rf_int_ex ?hA ?g ?q1 ?_); k_dflt ((case hA => exact rfl); (case g => walk_at "M g"); (case q1 => walk_at "M om")); (try dsimp only)))
local macro_rules | `(tactic| walk_at "binaryOp Add float int") => `(tactic| (k_here; (with_reducible refine' rf_add_fi ?g ?q1 ?q2 ?q3 ?q4 ?_); k_dflt ((case g => walk_at "M g"); (case q1 => walk_at "M om"); (case q2 => walk_at "M om"); (case q3 => walk_at "M om"); (case q4 => walk_at "M om")); intro x' g'; (try dsimp only)))
local macro_rules | `(tactic| walk_at "binaryOp Sub float int") => `(tactic| (k_here; (with_reducible refine' rf_sub_fi ?g ?q1 ?q2 ?q3 ?q4 ?_); k_dflt ((case g => walk_at "M g"); (case q1 => walk_at "M om"); (case q2 => walk_at "M om"); (case q3 => walk_at "M om"); (case q4 => walk_at "M om")); intro x' g'; (try dsimp only)))
local macro_rules | `(tactic| walk_at "binaryOp Add int float") => `(tactic| (k_here; (with_reducible refine' rf_add_if ?g ?q1 ?q2 ?q3 ?q4 ?_); k_dflt ((case g => walk_at "M g"); (case q1 => walk_at "M om"); (case q2 => walk_at "M om"); (case q3 => walk_at "M om"); (case q4 => walk_at "M om")); intro x' g'; (try dsimp only)))
local macro_rules | `(tactic| walk_at "binaryOp Sub int float") => `(tactic| (k_here; (with_reducible refine' rf_sub_if ?g ?q1 ?q2 ?q3 ?q4 ?_); k_dflt ((case g => walk_at "M g"); (case q1 => walk_at "M om"); (case q2 => walk_at "M om"); (case q3 => walk_at "M om"); (case q4 => walk_at "M om")); intro x' g'; (try dsimp only)))
local macro_rules | `(tactic| walk_at "binaryOp Add float float") => `(tactic| (k_here; (with_reducible refine' rf_add_ff ?g ?g2 ?q3 ?q4 ?_); k_dflt ((case g => walk_at "M g"); (case g2 => walk_at "M g"); (case q3 => walk_at "M om"); (case q4 => walk_at "M om")); intro x' g'; (try dsimp only)))
local macro_rules | `(tactic| walk_at "inplaceOp Add float float") => `(tactic| (k_here; (with_reducible refine' rf_iadd_ff ?g ?g2 ?q3 ?q4 ?_); k_dflt ((case g => walk_at "M g"); (case g2 => walk_at "M g"); (case q3 => walk_at "M om"); (case q4 => walk_at "M om")); intro x' g'; (try dsimp only)))
local macro_rules | `(tactic| walk_at "binaryOp Sub float float") => `(tactic| (k_here; (with_reducible refine' rf_sub_ff ?g ?g2 ?q3 ?q4 ?_); k_dflt ((case g => walk_at "M g"); (case g2 => walk_at "M g"); (case q3 => walk_at "M om"); (case q4 => walk_at "M om")); intro x' g'; (try dsimp only)))
local macro_rules | `(tactic| walk_at "binaryOp Mult float int") => `(tactic| (k_here; (with_reducible refine' rf_mul_fi ?g ?q1 ?q2 ?qc ?q3 ?q4 ?_); k_dflt ((case g => walk_at "M g"); (case q1 => walk_at "M om"); (case q2 => walk_at "M om"); (case qc => first | exact Or.inl rfl | exact Or.inr (by walk_at "M om")); (case q3 => walk_at "M om"); (case q4 => walk_at "M om")); intro x' g'; (try dsimp only)))
local macro_rules | `(tactic| walk_at "binaryOp Mult float int") => `(tactic| (k_here; (with_reducible refine' rf_mul_306 ?q1 ?q2 ?_); k_dflt ((case q1 => walk_at "M om"); (case q2 => walk_at "M om")); intro x' g'; (try dsimp only)))
local macro_rules | `(tactic| walk_at "binaryOp Div float int") => `(tactic| (k_here; (with_reducible refine' rf_div_fi ?hA ?g ?q1 ?q2 ?q3 ?q4 ?_); k_dflt ((case hA => exact rfl); (case g => walk_at "M g"); (case q1 => walk_at "M om"); (case q2 => walk_at "M om"); (case q3 => walk_at "M om"); (case q4 => walk_at "M om")); intro x' g'; (try dsimp only)))
local macro_rules | `(tactic| walk_at "binaryOp Div float float") => `(tactic| (k_here; (with_reducible refine' rf_div_ff ?hA ?g ?g2 ?q0 ?q1 ?q2 ?_); k_dflt ((case hA => exact rfl); (case g => walk_at "M g"); (case g2 => walk_at "M g"); (case q0 => decide); (case q1 => walk_at "M om"); (case q2 => walk_at "M om")); intro x' g'; (try dsimp only)))
local macro_rules | `(tactic| walk_at "binaryOp Div int float") => `(tactic| (k_here; (with_reducible refine' rf_div_if ?hA ?g ?q1 ?q2 ?q3 ?_); k_dflt ((case hA => exact rfl); (case g => walk_at "M g"); (case q1 => decide); (case q2 => walk_at "M om"); (case q3 => walk_at "M om")); intro x' g'; (try dsimp only)))
local macro_rules | `(tactic| walk_at "binaryOp Mod float int") => `(tactic| (k_here; (with_reducible refine' rf_mod_is ?hA ?g ?q1 ?q2 ?q3 ?_); k_dflt ((case hA => exact rfl); (case g => walk_at "M g"); (case q1 => walk_at "M om"); (case q2 => walk_at "M om"); (case q3 => walk_at "M om")); intro x' r' ir' b1' b2' g'; (try dsimp only)))
local macro_rules | `(tactic| walk_at "M step") => `(tactic| first | walk1 | (dsimp only; walk1))
local macro_rules | `(tactic| walk_at "compareOp Lt float int") => `(tactic| (k_here; (with_reducible refine' rf_lt_fi ?g ?_); k_dflt ((case g => walk_at "M g")); (try dsimp only)))
local macro_rules | `(tactic| walk_at "compareOp Eq float float") => `(tactic| (k_here; (with_reducible refine' rf_eq_ff ?g ?g2 ?_); k_dflt ((case g => walk_at "M g"); (case g2 => walk_at "M g")); (try dsimp only)))
local macro_rules | `(tactic| walk_at "compareOp NotEq float float") => `(tactic| (k_here; (with_reducible refine' rf_ne_ff ?g ?g2 ?_); k_dflt ((case g => walk_at "M g"); (case g2 => walk_at "M g")); (try dsimp only)))
local macro_rules | `(tactic| walk_at "eval Name") => `(tactic| (k_here; (with_reducible rename Fr _ _ _ _ => kF); (first
  | ((with_reducible refine' ld kF ?v ?_ ?k ?l ?d); (case l => kernel_rfl); (case k => k_dflt (exact rfl)); (case d => decide); (case v => k_dflt (exact rfl)); k_whole)
  | ((with_reducible refine' name_K kF ?k1 (topRead_of ?k2) ?k3 ?_ ?k ?l ?d); (case l => kernel_rfl); (case k1 => with_reducible assumption); (case k3 => k_is); (case k => k_dflt (exact rfl)); (case d => decide); (case k2 => with_reducible assumption); k_whole))))
local macro_rules | `(tactic| walk_at "binaryOp Add int int") => `(tactic| (k_here; (with_reducible refine add_int ?_); (try dsimp only)))
local macro_rules | `(tactic| walk_at "binaryOp Sub int int") => `(tactic| (k_here; (with_reducible refine sub_int ?_); (try dsimp only)))
local macro_rules | `(tactic| walk_at "binaryOp Add int bool") => `(tactic| (k_here; (with_reducible refine add_int_bool ?_); (try dsimp only)))
local macro_rules | `(tactic| walk_at "unaryOp USub int") => `(tactic| (k_here; (with_reducible refine neg_int ?_); (try dsimp only)))

section
theorem off_C1 : True := by
  w_top off
  trivial
end
section
def wide (y : Int) : Bool := y.fmod 4 == 0 && (y.fmod 100 != 0 || y.fmod 400 == 0)
def glen (y m : Int) : Int := if m = 2 then (if wide y then 29 else 28) else if m = 4 ∨ m = 6 ∨ m = 9 ∨ m = 11 then 30 else 31
section
variable {prog : Program} {w : World} {p : Program} {loose : List Str} {mean : ExcName → Option Value} {mg mb : Str → Option Value}
set_option maxHeartbeats 8000000 in
theorem isleap_calls (y : Int) (t : Tok) : Calls prog w p loose mean mg mb 1 391 [.int y t] (fun v tl => v = .bool (wide y) ∧ tl = []) (fun _ => False) := by
  unfold Calls; intro dp un gd cn cs a ccd cl outer A₀ base h₀ L fm news s Q E hB hF hK hN hT hk hd hu hret hexc
  refine wpAny_call ?_
  k_dflt (refine' code_def (binds := [(PySem.Str.ofString "year", .int y t)]) ?k1 ?k2 ?k3 ?k4 ?k5 ?kA ?kF ?kK ?k6 ?k7 ?k8 ?k9 ?kB ?_ ?c2 ?c3 ?c4 ?c5; (case kA => exact rfl); (case kF => exact rfl); (case kK => exact hk); (case k1 => exact hB); (case k2 => exact hF); (case k3 => exact hK); (case k4 => exact hN); (case k5 => exact hT); (case k6 => k_is); (case k7 => k_is); (case k8 => ktr_room); (case k9 => exact BindsTo.of_eq rfl); (case c5 => decide); (case kB => exact locs rfl); (case c2 => exact rfl); (case c3 => exact rfl); (case c4 => exact rfl); k_whole)
  intro g₁ L₁ h₁ FG F₁ N₁ B₁ X₁ T₁
  clear hB hF hN hT
  (try dsimp only)
  dsimp only [List.reverse, List.reverseAux] at F₁
  (try k_fold)
  k_steps
  all_goals (refine hret _ [] _ _ ⟨?_, rfl⟩ (fun _ _ _ h => nomatch h) (by k_asm) (by k_asm))
  all_goals (unfold wide; simp_all)
local macro_rules | `(tactic| walk_at "call ref") => `(tactic| (k_here; (with_reducible show wpAny _ _ (call (Value.ref 391) _) _ _ _); (with_reducible refine' calls_use (isleap_calls _ _) ?kA ?k1 ?k2 ?k3 ?k4 ?k5 ?kK ?kd ?ku ?_ ?kx); k_dflt ((case kA => exact rfl); (case k1 => k_asm); (case k2 => k_asm); (case k3 => k_asm); (case k4 => k_asm); (case k5 => k_asm); (case kK => first | exact rfl | assumption); (case kd => walk_at "M room"); (case ku => walk_at "M room"); (case kx => intro _ _ _ _ _ hX; exact hX.elim)); intro v' tl' h' tk' hR' l' F' N'; obtain ⟨e1, e2⟩ := hR'; subst e1; subst e2; (try dsimp only [List.nil_append] at N' ⊢); (try k_sweep)))

theorem legal_arith {y m d : Int} : (m = 2 → wide y = true → 0 < d → d ≤ 29 → 1 ≤ d ∧ d ≤ glen y m) := by
  intro h1 h2 h3 h4; unfold glen; simp_all; omega
set_option maxHeartbeats 8000000 in
theorem legal_calls (y m d : Int) (t t1 t2 : Tok) (hm1 : -1000 ≤ m) (hm2 : m ≤ 1000) (hd1 : -1000 ≤ d) (hd2 : d ≤ 1000) : Calls prog w p loose mean mg mb 2 427 [.int y t, .int m t1, .int d t2] (fun v tl => (1 ≤ d ∧ d ≤ glen y m) ∧ v = .bool true ∧ tl = []) (fun c => ¬ (1 ≤ d ∧ d ≤ glen y m) ∧ c = .type "ValueError") := by
  unfold Calls; intro dp un gd cn cs a ccd cl outer A₀ base h₀ L fm news s Q E hB hF hK hN hT hk hd hu hret hexc
  refine wpAny_call ?_
  k_dflt (refine' code_def (binds := [(PySem.Str.ofString "year", .int y t), (PySem.Str.ofString "month", .int m t1), (PySem.Str.ofString "day", .int d t2)]) ?k1 ?k2 ?k3 ?k4 ?k5 ?kA ?kF ?kK ?k6 ?k7 ?k8 ?k9 ?kB ?_ ?c2 ?c3 ?c4 ?c5; (case kA => exact rfl); (case kF => exact rfl); (case kK => exact hk); (case k1 => exact hB); (case k2 => exact hF); (case k3 => exact hK); (case k4 => exact hN); (case k5 => exact hT); (case k6 => k_is); (case k7 => k_is); (case k8 => ktr_room); (case k9 => exact BindsTo.of_eq rfl); (case c5 => decide); (case kB => exact locs rfl); (case c2 => exact rfl); (case c3 => exact rfl); (case c4 => exact rfl); k_whole)
  intro g₁ L₁ h₁ FG F₁ N₁ B₁ X₁ T₁
  clear hB hF hN hT
  (try dsimp only)
  dsimp only [List.reverse, List.reverseAux] at F₁
  (try k_fold)
  k_steps
  all_goals first
    | refine hret _ [] _ _ ⟨?_, rfl, rfl⟩ (fun _ _ _ h => nomatch h) (by k_asm) (by k_asm)
    | refine hexc _ _ _ _ _ ⟨?_, rfl⟩ (by assumption) (by walk_at "M rs") (by assumption)
  (all_goals (clear hret hexc; unfold glen; simp_all))
  all_goals omega
end


end
section
theorem off_C2 : True := by
  w_top off
  trivial
end
section
def gday (y m d : Int) : Int := 1721425 + 365 * (y - 1) + (y - 1) / 4 - (y - 1) / 100 + (y - 1) / 400 + (367 * m - 362) / 12 + (if m ≤ 2 then 0 else if wide y then -1 else -2) + d
section
variable {prog : Program} {w : World} {p : Program} {loose : List Str} {mean : ExcName → Option Value} {mg mb : Str → Option Value}
local macro_rules | `(tactic| walk_at "call ref") => `(tactic| (k_here; (with_reducible show wpAny _ _ (call (Value.ref 391) _) _ _ _); (with_reducible refine' calls_use (isleap_calls _ _) ?kA ?k1 ?k2 ?k3 ?k4 ?k5 ?kK ?kd ?ku ?_ ?kx); k_dflt ((case kA => exact rfl); (case k1 => k_asm); (case k2 => k_asm); (case k3 => k_asm); (case k4 => k_asm); (case k5 => k_asm); (case kK => first | exact rfl | assumption); (case kd => walk_at "M room"); (case ku => walk_at "M room"); (case kx => intro _ _ _ _ _ hX; exact hX.elim)); intro v' tl' h' tk' hR' l' F' N'; obtain ⟨e1, e2⟩ := hR'; subst e1; subst e2; (try dsimp only [List.nil_append] at N' ⊢); (try k_sweep)))
local macro_rules | `(tactic| walk_at "call ref") => `(tactic| (k_here; (with_reducible show wpAny _ _ (call (Value.ref 427) _) _ _ _); (with_reducible refine' calls_use (legal_calls _ _ _ _ _ _ (by assumption) (by assumption) (by assumption) (by assumption)) ?kA ?k1 ?k2 ?k3 ?k4 ?k5 ?kK ?kd ?ku ?_ ?_); k_dflt ((case kA => exact rfl); (case k1 => k_asm); (case k2 => k_asm); (case k3 => k_asm); (case k4 => k_asm); (case k5 => k_asm); (case kK => first | exact rfl | assumption); (case kd => walk_at "M room"); (case ku => walk_at "M room"); skip); ((intro v' tl' h' tk' hR' l' F' N'; obtain ⟨hp, e1, e2⟩ := hR'; subst e1; subst e2; (try dsimp only [List.nil_append] at N' ⊢); (try k_sweep))); rotate_left; ((intro e' cls' g' h' tk' hX' F' R' U'; obtain ⟨hp, e1⟩ := hX'; subst e1; (try dsimp only))); rotate_right))
set_option maxHeartbeats 8000000 in
theorem to_jd_calls (y m d : Int) (t t1 t2 : Tok) (hy1 : -600000 ≤ y) (hy2 : y ≤ 600000) (hm1 : -1000 ≤ m) (hm2 : m ≤ 1000) (hd1 : -1000 ≤ d) (hd2 : d ≤ 1000) : Calls prog w p loose mean mg mb 3 441 [.int y t, .int m t1, .int d t2] (fun v tl => (1 ≤ d ∧ d ≤ glen y m) ∧ (∃ x t, v = .float x t ∧ J x (gday y m d)) ∧ tl = []) (fun c => ¬ (1 ≤ d ∧ d ≤ glen y m) ∧ c = .type "ValueError") := by
  unfold Calls; intro dp un gd cn cs a ccd cl outer A₀ base h₀ L fm news s Q E hB hF hK hN hT hk hd hu hret hexc
  refine wpAny_call ?_
  k_dflt (refine' code_def (binds := [(PySem.Str.ofString "year", .int y t), (PySem.Str.ofString "month", .int m t1), (PySem.Str.ofString "day", .int d t2)]) ?k1 ?k2 ?k3 ?k4 ?k5 ?kA ?kF ?kK ?k6 ?k7 ?k8 ?k9 ?kB ?_ ?c2 ?c3 ?c4 ?c5; (case kA => exact rfl); (case kF => exact rfl); (case kK => exact hk); (case k1 => exact hB); (case k2 => exact hF); (case k3 => exact hK); (case k4 => exact hN); (case k5 => exact hT); (case k6 => k_is); (case k7 => k_is); (case k8 => ktr_room); (case k9 => exact BindsTo.of_eq rfl); (case c5 => decide); (case kB => exact locs rfl); (case c2 => exact rfl); (case c3 => exact rfl); (case c4 => exact rfl); k_whole)
  intro g₁ L₁ h₁ FG F₁ N₁ B₁ X₁ T₁
  clear hB hF hN hT
  (try dsimp only)
  dsimp only [List.reverse, List.reverseAux] at F₁
  (try k_fold)
  k_steps
  all_goals first
    | refine hret _ [] _ _ ⟨by assumption, ⟨_, _, rfl, ?_⟩, rfl⟩ (fun _ _ _ h => nomatch h) (by k_asm) (by k_asm)
    | refine hexc _ _ _ _ _ ⟨by assumption, rfl⟩ (by assumption) (by walk_at "M rs") (by assumption)
    | skip
  (all_goals (refine J.of (by assumption) ?_; clear hret hexc; (repeat (with_reducible rename Is _ _ => hq; have hq' := Is.eq hq; clear hq)); unfold gday; (repeat' split) <;> first | omega | (exfalso; simp_all; done) | skip))
end

end
section
theorem off_C3 : True := by
  w_top off
  trivial
end
section
abbrev tupleOf (vs : List Value) : Obj := { cls := .type "tuple", data := .seq vs.toArray }
theorem calls_weaken {prog : Program} {w : World} {p : Program} {loose : List Str} {mean : ExcName → Option Value} {mg mb : Str → Option Value} {D : Nat} {f : Addr} {vs : List Value} {R R' : Value → List (Addr × Obj) → Prop} {X X' : Value → Prop}
    (C : Calls prog w p loose mean mg mb D f vs R X) (hR : ∀ v tl, R v tl → R' v tl) (hX : ∀ c, X c → X' c) : Calls prog w p loose mean mg mb D f vs R' X' := by
  unfold Calls at *
  intro dp un gd cn cs a ccd cl outer A₀ base h₀ L fm news s Q E hB hF hK hN hT hk hd hu hret hexc
  exact C dp un gd cn cs a ccd cl outer A₀ base h₀ L fm news s Q E hB hF hK hN hT hk hd hu (fun v tl h' tk' r => hret v tl h' tk' (hR _ _ r)) (fun e cls g h' tk' x => hexc e cls g h' tk' (hX _ x))
theorem glen_ge (y m : Int) : 28 ≤ glen y m := by unfold glen; (repeat' split) <;> omega
theorem glen_le (y m : Int) : glen y m ≤ 31 := by unfold glen; (repeat' split) <;> omega
theorem fin_day {q n g : Int} (hq : q = n - 1) : (q * 1048576 + 524288 - (g * 1048576 - 524288)) / 1048576 + 1 = n - g + 1 := by omega
def JoinPost (x : Str) (P : Int → Prop) (h₀ : Heap) (L : Addr) (m : Str → Option Value) (news : List (Addr × Obj)) (s : Shared) (fl : Flow) (s' : Shared) : Prop :=
  fl = .next ∧ ∃ (v : Int) (h' : Heap) (tk : Nat) (t : Tok) (m' : Str → Option Value), P v ∧ s' = { s with heap := h', toks := tk } ∧ Fr h₀ L h' m' ∧ (∀ z, m' z = if z = x then some (.int v t) else m z) ∧ News h₀ L h' news
theorem join_int {M : Model} {A : Around} {E : Value → Shared → Prop} {s : Shared} {env : Env} {st : Stmt} {h₀ : Heap} {L : Addr} {m : Str → Option Value} {news : List (Addr × Obj)} {Q : Flow → Shared → Prop} (x : Str) (P : Int → Prop) (_F : Fr h₀ L s.heap m) (_N : News h₀ L s.heap news)
    (h1 : wpAny M A (exec st env) (JoinPost x P h₀ L m news s) E s)
    (h2 : ∀ (v : Int) (h' : Heap) (tk : Nat) (t : Tok), P v → Fr h₀ L h' (fun z => if z = x then some (.int v t) else m z) → News h₀ L h' news → Q .next { s with heap := h', toks := tk }) : wpAny M A (exec st env) Q E s := by
  refine wpAny_mono h1 (fun fl s' hp => ?_) fun _ _ e => e
  obtain ⟨rfl, v, h', tk, t, m', hv, rfl, F, e, N⟩ := hp
  have : m' = fun z => if z = x then some (.int v t) else m z := funext e
  subst this
  exact h2 v h' tk t hv F N
theorem join_end {x : Str} {P : Int → Prop} {h₀ h' : Heap} {L : Addr} {m m' : Str → Option Value} {news : List (Addr × Obj)} {s : Shared} {tk : Nat} {v : Int} {t : Tok} (F : Fr h₀ L h' m') (N : News h₀ L h' news) (e : ∀ z, m' z = if z = x then some (.int v t) else m z) (hv : P v) :
    JoinPost x P h₀ L m news s .next { s with heap := h', toks := tk } := ⟨rfl, v, h', tk, t, m', hv, rfl, F, e, N⟩

theorem wide_iff (y : Int) : wide y = true ↔ (y % 4 = 0 ∧ (y % 100 ≠ 0 ∨ y % 400 = 0)) := by
  unfold wide
  rw [Int.fmod_eq_emod_of_nonneg _ (by decide), Int.fmod_eq_emod_of_nonneg _ (by decide), Int.fmod_eq_emod_of_nonneg _ (by decide)]
  simp
def wideI (y : Int) : Int := if wide y then 1 else 0
theorem wideI_spec (y : Int) : (wideI y = 1 ∧ wide y = true ∧ y % 4 = 0 ∧ (y % 100 ≠ 0 ∨ y % 400 = 0)) ∨ (wideI y = 0 ∧ wide y = false ∧ ¬ (y % 4 = 0 ∧ (y % 100 ≠ 0 ∨ y % 400 = 0))) := by
  have h := wide_iff y
  unfold wideI
  cases hw : wide y with
  | true => left; rw [hw] at h; exact ⟨rfl, rfl, (h.mp rfl).1, (h.mp rfl).2⟩
  | false => right; rw [hw] at h; exact ⟨rfl, rfl, fun q => by have := h.mpr q; cases this⟩
/-- the days ahead of year y, counted from the first of year 1 -/
def yday (y : Int) : Int := 365 * (y - 1) + (y - 1) / 4 - (y - 1) / 100 + (y - 1) / 400
theorem gday_eq (y m d : Int) : gday y m d = 1721425 + yday y + (367 * m - 362) / 12 + (if m ≤ 2 then 0 else wideI y - 2) + d := by
  have h := wideI_spec y
  unfold gday yday
  rcases h with ⟨h1, h2, _⟩ | ⟨h1, h2, _⟩
  · rw [h1, h2]; split <;> simp <;> omega
  · rw [h1, h2]; split <;> simp <;> omega
theorem gday_first (y : Int) : gday y 1 1 = 1721426 + yday y := by rw [gday_eq]; simp; omega
theorem yday_succ (y : Int) : yday (y + 1) = yday y + 365 + wideI y := by
  have h := wideI_spec y
  unfold yday
  rcases h with ⟨h1, _, h3⟩ | ⟨h1, _, h3⟩ <;> rw [h1] <;> omega
/-- day n lies in year y -/
def InYear (n y : Int) : Prop := 1721426 + yday y ≤ n ∧ n ≤ 1721426 + yday y + 364 + wideI y
def FJ (n Y M D : Int) : Prop := 1 ≤ M ∧ M ≤ 12 ∧ (1 ≤ D ∧ D ≤ glen Y M) ∧ gday Y M D = n ∧ InYear n Y ∧ (gday Y 1 1 ≤ n ∧ n ≤ gday Y 1 1 + 365) ∧ -600000 ≤ Y ∧ Y ≤ 600000
theorem year_core {N q3 q2 q1 q0 r1 r2 r3 : Int} (a1 : q3 = N / 146097) (a2 : r1 = N % 146097) (a3 : q2 = r1 / 36524) (a4 : r2 = r1 % 36524) (a5 : q1 = r2 / 1461) (a6 : r3 = r2 % 1461) (a7 : q0 = r3 / 365) :
    ((q2 = 4 ∨ q0 = 4) → InYear (N + 1721426) (q3 * 400 + q2 * 100 + q1 * 4 + q0)) ∧ (¬ (q2 = 4 ∨ q0 = 4) → InYear (N + 1721426) (q3 * 400 + q2 * 100 + q1 * 4 + q0 + 1)) := by
  have h1 : N = 146097 * q3 + r1 ∧ 0 ≤ r1 ∧ r1 < 146097 := by omega
  have h2 : r1 = 36524 * q2 + r2 ∧ 0 ≤ r2 ∧ r2 < 36524 ∧ 0 ≤ q2 ∧ q2 ≤ 4 := by omega
  have h3 : r2 = 1461 * q1 + r3 ∧ 0 ≤ r3 ∧ r3 < 1461 ∧ 0 ≤ q1 ∧ q1 ≤ 24 := by omega
  have h4 : 365 * q0 ≤ r3 ∧ r3 < 365 * q0 + 365 ∧ 0 ≤ q0 ∧ q0 ≤ 4 := by omega
  clear a1 a2 a3 a4 a5 a6 a7
  constructor
  · intro hc
    have hw := wideI_spec (q3 * 400 + q2 * 100 + q1 * 4 + q0)
    unfold InYear yday
    by_cases e2 : q2 = 4
    · have e1 : r2 = 0 := by omega
      have e3 : q1 = 0 := by omega
      have e4 : q0 = 0 := by omega
      subst e2; subst e3; subst e4
      rcases hw with ⟨w1, _, w2⟩ | ⟨w1, _, w2⟩ <;> rw [w1] <;> omega
    · have e4 : q0 = 4 := by omega
      have e5 : q1 ≤ 23 := by omega
      subst e4
      have d4 : (q3 * 400 + q2 * 100 + q1 * 4 + 4 - 1) / 4 = 100 * q3 + 25 * q2 + q1 := by omega
      have d100 : (q3 * 400 + q2 * 100 + q1 * 4 + 4 - 1) / 100 = 4 * q3 + q2 := by omega
      have d400 : (q3 * 400 + q2 * 100 + q1 * 4 + 4 - 1) / 400 = q3 := by omega
      rw [d4, d100, d400]
      rcases hw with ⟨w1, _, w2⟩ | ⟨w1, _, w2⟩ <;> rw [w1] <;> omega
  · intro hc
    have hw := wideI_spec (q3 * 400 + q2 * 100 + q1 * 4 + q0 + 1)
    unfold InYear yday
    have e2 : q2 ≤ 3 := by omega
    have e4 : q0 ≤ 3 := by omega
    have d4 : (q3 * 400 + q2 * 100 + q1 * 4 + q0 + 1 - 1) / 4 = 100 * q3 + 25 * q2 + q1 := by omega
    have d100 : (q3 * 400 + q2 * 100 + q1 * 4 + q0 + 1 - 1) / 100 = 4 * q3 + q2 := by omega
    have d400 : (q3 * 400 + q2 * 100 + q1 * 4 + q0 + 1 - 1) / 400 = q3 := by omega
    rw [d4, d100, d400]
    rcases hw with ⟨w1, _, w2⟩ | ⟨w1, _, w2⟩ <;> rw [w1] <;> omega
theorem year_bound {n y : Int} (h : InYear n y) (h1 : -200000000 ≤ n) (h2 : n ≤ 200000000) : -600000 ≤ y ∧ y ≤ 600000 := by
  have hw := wideI_spec y
  unfold InYear yday at h
  omega
/-- the month of the year's day yd (from 0), as from_jd reckons it -/
def madj (y yd : Int) : Int := if yd < 58 + wideI y then 0 else 2 - wideI y
theorem glen_at (y m : Int) : glen y m = if m = 2 then 28 + wideI y else if m = 4 ∨ m = 6 ∨ m = 9 ∨ m = 11 then 30 else 31 := by
  unfold glen wideI
  cases wide y <;> simp
theorem month_core {n y yd M : Int} (h : InYear n y) (hyd : yd = n - (1721426 + yday y)) (hM : M = ((yd + madj y yd) * 12 + 373) / 367) :
    1 ≤ M ∧ M ≤ 12 ∧ 1 ≤ n - gday y M 1 + 1 ∧ n - gday y M 1 + 1 ≤ glen y M ∧ gday y M (n - gday y M 1 + 1) = n := by
  have hw := wideI_spec y
  have hwb : wideI y = 0 ∨ wideI y = 1 := by omega
  clear hw
  unfold InYear at h
  rw [glen_at, gday_eq, gday_eq]
  unfold madj at hM
  generalize wideI y = L at *
  generalize yday y = Y at *
  have hb : 1 ≤ M ∧ M ≤ 12 := by
    split at hM <;> omega
  refine ⟨hb.1, hb.2, ?_⟩
  have hc : M = 1 ∨ M = 2 ∨ M = 3 ∨ M = 4 ∨ M = 5 ∨ M = 6 ∨ M = 7 ∨ M = 8 ∨ M = 9 ∨ M = 10 ∨ M = 11 ∨ M = 12 := by omega
  clear hb
  split at hM <;> (rcases hc with rfl | rfl | rfl | rfl | rfl | rfl | rfl | rfl | rfl | rfl | rfl | rfl <;> simp <;> omega)
theorem year_raw {n q4 q3 r1 q2 r2 q1 r3 q0 : Int} (i4 : Is q4 ((n * 1048576 - 524288 - 524288) / 1048576)) (i3 : Is q3 ((q4 * 1048576 + 524288 - 1805045465088) / 146097 / 1048576)) (j1 : Is r1 ((q4 * 1048576 + 524288 - 1805045465088) / 1048576 % 146097))
    (i2 : Is q2 (r1 * 1048576 / 36524 / 1048576)) (j2 : Is r2 (r1 * 1048576 / 1048576 % 36524)) (i1 : Is q1 (r2 * 1048576 / 1461 / 1048576)) (j3 : Is r3 (r2 * 1048576 / 1048576 % 1461)) (i0 : Is q0 (r3 * 1048576 / 365 / 1048576)) :
    q4 = n - 1 ∧ ((q2 = 4 ∨ q0 = 4) → InYear n (q3 * 400 + q2 * 100 + q1 * 4 + q0)) ∧ (¬ (q2 = 4 ∨ q0 = 4) → InYear n (q3 * 400 + q2 * 100 + q1 * 4 + q0 + 1)) := by
  unfold Is at *
  have e4 : q4 = n - 1 := by omega
  subst e4
  have h := year_core (N := n - 1721426) (q3 := q3) (q2 := q2) (q1 := q1) (q0 := q0) (r1 := r1) (r2 := r2) (r3 := r3) (by omega) (by omega) (by omega) (by omega) (by omega) (by omega) (by omega)
  rw [show n - 1721426 + 1721426 = n by omega] at h
  exact ⟨rfl, h⟩
theorem year_gday {n y : Int} (h : InYear n y) : gday y 1 1 ≤ n ∧ n ≤ gday y 1 1 + 365 := by
  have hw := wideI_spec y
  rw [gday_first]; unfold InYear at h
  omega
theorem adj0 {Y n q : Int} (hq : q = n - 1) (h : q * 1048576 + 524288 - (gday Y 1 1 * 1048576 - 524288) < (58 + if wide Y = true then 1 else 0) * 1048576) : Is 0 (madj Y (n - gday Y 1 1)) ∧ (0 : Int) ≤ 0 ∧ (0 : Int) ≤ 2 := by
  refine ⟨?_, by decide, by decide⟩
  unfold Is madj wideI
  rw [if_pos (by omega)]
theorem adj1 {Y n q : Int} (hq : q = n - 1) (h : ¬ q * 1048576 + 524288 - (gday Y 1 1 * 1048576 - 524288) < (58 + if wide Y = true then 1 else 0) * 1048576) (hw : wide Y = true) : Is 1 (madj Y (n - gday Y 1 1)) ∧ (0 : Int) ≤ 1 ∧ (1 : Int) ≤ 2 := by
  refine ⟨?_, by decide, by decide⟩
  unfold Is madj wideI
  rw [if_neg (by omega), if_pos hw]; rfl
theorem adj2 {Y n q : Int} (hq : q = n - 1) (h : ¬ q * 1048576 + 524288 - (gday Y 1 1 * 1048576 - 524288) < (58 + if wide Y = true then 1 else 0) * 1048576) (hw : wide Y = false) : Is 2 (madj Y (n - gday Y 1 1)) ∧ (0 : Int) ≤ 2 ∧ (2 : Int) ≤ 2 := by
  refine ⟨?_, by decide, by decide⟩
  unfold Is madj wideI
  rw [if_neg (by omega), hw]; rfl
theorem month_raw {n y q ad M : Int} (h : InYear n y) (hq : q = n - 1) (ha : Is ad (madj y (n - gday y 1 1))) (hM : Is M (((q * 1048576 + 524288 - (gday y 1 1 * 1048576 - 524288) + ad * 1048576) * 12 + 373 * 1048576) / 367 / 1048576)) :
    1 ≤ M ∧ M ≤ 12 ∧ 1 ≤ n - gday y M 1 + 1 ∧ n - gday y M 1 + 1 ≤ glen y M ∧ gday y M (n - gday y M 1 + 1) = n := by
  rw [gday_first] at ha hM
  unfold Is at ha hM
  subst hq
  refine month_core h rfl ?_
  rw [← ha]
  omega
section
local macro_rules | `(tactic| walk_at "M pad") => `(tactic| skip)
variable {prog : Program} {w : World} {p : Program} {loose : List Str} {mean : ExcName → Option Value} {mg mb : Str → Option Value}
theorem to_jd1_calls (y m : Int) (t t1 t2 : Tok) (hy1 : -600000 ≤ y) (hy2 : y ≤ 600000) (hm1 : -1000 ≤ m) (hm2 : m ≤ 1000) : Calls prog w p loose mean mg mb 3 441 [.int y t, .int m t1, .int 1 t2] (fun v tl => (∃ x t, v = .float x t ∧ J x (gday y m 1)) ∧ tl = []) (fun _ => False) :=
  calls_weaken (to_jd_calls y m 1 t t1 t2 hy1 hy2 hm1 hm2 (by decide) (by decide)) (fun _ _ h => h.2) (fun _ h => h.1 ⟨by decide, by have := glen_ge y m; omega⟩)
local macro_rules | `(tactic| walk_at "call ref") => `(tactic| (k_here; (with_reducible show wpAny _ _ (call (Value.ref 391) _) _ _ _); (with_reducible refine' calls_use (isleap_calls _ _) ?kA ?k1 ?k2 ?k3 ?k4 ?k5 ?kK ?kd ?ku ?_ ?kx); k_dflt ((case kA => exact rfl); (case k1 => k_asm); (case k2 => k_asm); (case k3 => k_asm); (case k4 => k_asm); (case k5 => k_asm); (case kK => first | exact rfl | assumption); (case kd => walk_at "M room"); (case ku => walk_at "M room"); (case kx => intro _ _ _ _ _ hX; exact hX.elim)); intro v' tl' h' tk' hR' l' F' N'; obtain ⟨e1, e2⟩ := hR'; subst e1; subst e2; (try dsimp only [List.nil_append] at N' ⊢); (try k_sweep)))
local macro_rules | `(tactic| walk_at "call ref") => `(tactic| (k_here; (with_reducible show wpAny _ _ (call (Value.ref 441) _) _ _ _); (with_reducible refine' calls_use (to_jd1_calls _ _ _ _ _ (by walk_at "M om") (by walk_at "M om") (by walk_at "M om") (by walk_at "M om")) ?kA ?k1 ?k2 ?k3 ?k4 ?k5 ?kK ?kd ?ku ?_ ?kx); k_dflt ((case kA => exact rfl); (case k1 => k_asm); (case k2 => k_asm); (case k3 => k_asm); (case k4 => k_asm); (case k5 => k_asm); (case kK => first | exact rfl | assumption); (case kd => walk_at "M room"); (case ku => walk_at "M room"); (case kx => intro _ _ _ _ _ hX; exact hX.elim)); intro v' tl' h' tk' hR' l' F' N'; obtain ⟨⟨x', t', e1, gx'⟩, e2⟩ := hR'; subst e1; subst e2; (try dsimp only [List.nil_append] at N' ⊢); (try k_sweep)))
set_option maxHeartbeats 8000000 in
theorem from_jd_calls (n : Int) (x : UInt64) (t : Tok) (hn1 : -200000000 ≤ n) (hn2 : n ≤ 200000000) (hx : J x n) : Calls prog w p loose mean mg mb 4 448 [.float x t] (fun v tl => ∃ a Y M D ta tb tc, FJ n Y M D ∧ v = .ref a ∧ tl = [(a, tupleOf [.int Y ta, .int M tb, .int D tc])]) (fun _ => False) := by
  unfold Calls; intro dp un gd cn cs a ccd cl outer A₀ base h₀ L fm news s Q E hB hF hK hN hT hk hd hu hret hexc
  refine wpAny_call ?_
  k_dflt (refine' code_def (binds := [(PySem.Str.ofString "jd", .float x t)]) ?k1 ?k2 ?k3 ?k4 ?k5 ?kA ?kF ?kK ?k6 ?k7 ?k8 ?k9 ?kB ?_ ?c2 ?c3 ?c4 ?c5; (case kA => exact rfl); (case kF => exact rfl); (case kK => exact hk); (case k1 => exact hB); (case k2 => exact hF); (case k3 => exact hK); (case k4 => exact hN); (case k5 => exact hT); (case k6 => k_is); (case k7 => k_is); (case k8 => ktr_room); (case k9 => exact BindsTo.of_eq rfl); (case c5 => decide); (case kB => exact locs rfl); (case c2 => exact rfl); (case c3 => exact rfl); (case c4 => exact rfl); k_whole)
  intro g₁ L₁ h₁ FG F₁ N₁ B₁ X₁ T₁
  clear hB hF hN hT
  (try dsimp only)
  dsimp only [List.reverse, List.reverseAux] at F₁
  (try k_fold)
  repeat ((fail_if_success (with_reducible show wpAny _ _ (exec (Stmt.If _ _ _ _) _) _ _ _)); walk_at "M step")
  have hc := year_raw (by with_reducible assumption) (by with_reducible assumption) (by with_reducible assumption) (by with_reducible assumption) (by with_reducible assumption) (by with_reducible assumption) (by with_reducible assumption) (by with_reducible assumption)
  refine join_int (PySem.Str.ofString "year") (fun Y => InYear n Y) (by assumption) (by assumption) ?h1 ?h2
  case h1 =>
    k_steps
    all_goals (refine join_end (by assumption) (by assumption) (fun z => by by_cases hz : z = PySem.Str.ofString "year" <;> first | ((repeat rw [if_pos hz]); done) | ((repeat rw [if_neg hz]); done)) ?_)
    all_goals first | with_reducible exact hc.2.1 (Or.inl (by with_reducible assumption)) | with_reducible exact hc.2.1 (Or.inr (by with_reducible assumption)) | exact hc.2.2 (by omega)
  case h2 =>
    intro Y h₂ tk₂ t₂ hY F₂ N₂
    obtain ⟨hY1, hY2⟩ := year_bound hY hn1 hn2
    obtain ⟨hq4, _, _⟩ := hc
    obtain ⟨hg1, hg2⟩ := year_gday hY
    repeat ((fail_if_success (with_reducible show wpAny _ _ (exec (Stmt.If _ _ _ _) _) _ _ _)); walk_at "M step")
    refine join_int (PySem.Str.ofString "leap_adj") (fun v => Is v (madj Y (n - gday Y 1 1)) ∧ 0 ≤ v ∧ v ≤ 2) (by assumption) (by assumption) ?h1 ?h2
    case h1 =>
      k_steps
      all_goals (refine join_end (by assumption) (by assumption) (fun z => by by_cases hz : z = PySem.Str.ofString "leap_adj" <;> first | ((repeat rw [if_pos hz]); done) | ((repeat rw [if_neg hz]); done)) ?_)
      all_goals first | with_reducible exact adj0 hq4 (by with_reducible assumption) | with_reducible exact adj1 hq4 (by with_reducible assumption) (by with_reducible assumption) | with_reducible exact adj2 hq4 (by with_reducible assumption) (by with_reducible assumption)
    case h2 =>
      intro ad h₃ tk₃ t₃ had F₃ N₃
      obtain ⟨had, had1, had2⟩ := had
      repeat ((fail_if_success (with_reducible show wpAny _ _ (storeName _ _ _) _ _ _)); walk_at "M step")
      have hm := month_raw hY hq4 had (by with_reducible assumption)
      rename_i M iM _ _
      obtain ⟨hM1, hM2, hD1, hD2, hD3⟩ := hm
      have hgl := glen_le Y M
      k_steps
      refine hret _ [_] _ _ ⟨_, Y, M, _, _, _, _, ⟨hM1, hM2, ?_⟩, rfl, rfl⟩ (fun q hq p hp => ?_) (by k_asm) (by k_asm)
      · rw [fin_day hq4]; exact ⟨⟨hD1, hD2⟩, hD3, hY, ⟨hg1, hg2⟩, hY1, hY2⟩
      · cases hp with
        | head => exact (by with_reducible assumption : ∀ p ∈ news, p.1 < _) q hq
        | tail _ h => cases h
end

end
section
theorem off_C4 : True := by
  w_top off
  trivial
end
section
/-- Julian leap years, lengths, day numbers -/
def jw (y : Int) : Bool := y.fmod 4 == 0
def jlen (y m : Int) : Int := if m = 2 then (if jw y then 29 else 28) else if m = 4 ∨ m = 6 ∨ m = 9 ∨ m = 11 then 30 else 31
theorem jlen_ge (y m : Int) : 28 ≤ jlen y m := by unfold jlen; (repeat' split) <;> omega
theorem jlen_le (y m : Int) : jlen y m ≤ 31 := by unfold jlen; (repeat' split) <;> omega
theorem jl1 {y m : Int} (h : m = 2) (h2 : jw y = true) : 29 = jlen y m := by unfold jlen; simp [h, h2]
theorem jl2 {y m : Int} (h : m = 2) (h2 : jw y = false) : 28 = jlen y m := by unfold jlen; simp [h, h2]
theorem jl3 {y m : Int} (h : m ≠ 2) (h2 : ([4, 6, 9, 11].any fun x => x == m) = true) : 30 = jlen y m := by unfold jlen; simp at h2; rw [if_neg h, if_pos (by omega)]
theorem jl4 {y m : Int} (h : m ≠ 2) (h2 : ([4, 6, 9, 11].any fun x => x == m) = false) : 31 = jlen y m := by unfold jlen; simp at h2; rw [if_neg h, if_neg (by omega)]
def jday (y m d : Int) : Int := (if m ≤ 2 then (1461 * (y - 1 + 4716)) / 4 + 306001 * (m + 12 + 1) / 10000 else (1461 * (y + 4716)) / 4 + 306001 * (m + 1) / 10000) + d - 1524
section
variable {prog : Program} {w : World} {p : Program} {loose : List Str} {mean : ExcName → Option Value} {mg mb : Str → Option Value}
local macro_rules | `(tactic| walk_at "call ref") => `(tactic| (k_here; (with_reducible show wpAny _ _ (call (Value.ref 391) _) _ _ _); (with_reducible refine' calls_use (isleap_calls _ _) ?kA ?k1 ?k2 ?k3 ?k4 ?k5 ?kK ?kd ?ku ?_ ?kx); k_dflt ((case kA => exact rfl); (case k1 => k_asm); (case k2 => k_asm); (case k3 => k_asm); (case k4 => k_asm); (case k5 => k_asm); (case kK => first | exact rfl | assumption); (case kd => walk_at "M room"); (case ku => walk_at "M room"); (case kx => intro _ _ _ _ _ hX; exact hX.elim)); intro v' tl' h' tk' hR' l' F' N'; obtain ⟨e1, e2⟩ := hR'; subst e1; subst e2; (try dsimp only [List.nil_append] at N' ⊢); (try k_sweep)))
set_option maxHeartbeats 8000000 in
theorem leap_calls (y : Int) (t : Tok) : Calls prog w p loose mean mg mb 1 470 [.int y t] (fun v tl => v = .bool (jw y) ∧ tl = []) (fun _ => False) := by
  unfold Calls; intro dp un gd cn cs a ccd cl outer A₀ base h₀ L fm news s Q E hB hF hK hN hT hk hd hu hret hexc
  refine wpAny_call ?_
  k_dflt (refine' code_def (binds := [(PySem.Str.ofString "year", .int y t)]) ?k1 ?k2 ?k3 ?k4 ?k5 ?kA ?kF ?kK ?k6 ?k7 ?k8 ?k9 ?kB ?_ ?c2 ?c3 ?c4 ?c5; (case kA => exact rfl); (case kF => exact rfl); (case kK => exact hk); (case k1 => exact hB); (case k2 => exact hF); (case k3 => exact hK); (case k4 => exact hN); (case k5 => exact hT); (case k6 => k_is); (case k7 => k_is); (case k8 => ktr_room); (case k9 => exact BindsTo.of_eq rfl); (case c5 => decide); (case kB => exact locs rfl); (case c2 => exact rfl); (case c3 => exact rfl); (case c4 => exact rfl); k_whole)
  intro g₁ L₁ h₁ FG F₁ N₁ B₁ X₁ T₁
  clear hB hF hN hT
  (try dsimp only)
  dsimp only [List.reverse, List.reverseAux] at F₁
  (try k_fold)
  k_steps
  all_goals (refine hret _ [] _ _ ⟨?_, rfl⟩ (fun _ _ _ h => nomatch h) (by k_asm) (by k_asm))
  all_goals rfl
local macro_rules | `(tactic| walk_at "call ref") => `(tactic| (k_here; (with_reducible show wpAny _ _ (call (Value.ref 470) _) _ _ _); (with_reducible refine' calls_use (leap_calls _ _) ?kA ?k1 ?k2 ?k3 ?k4 ?k5 ?kK ?kd ?ku ?_ ?kx); k_dflt ((case kA => exact rfl); (case k1 => k_asm); (case k2 => k_asm); (case k3 => k_asm); (case k4 => k_asm); (case k5 => k_asm); (case kK => first | exact rfl | assumption); (case kd => walk_at "M room"); (case ku => walk_at "M room"); (case kx => intro _ _ _ _ _ hX; exact hX.elim)); intro v' tl' h' tk' hR' l' F' N'; obtain ⟨e1, e2⟩ := hR'; subst e1; subst e2; (try dsimp only [List.nil_append] at N' ⊢); (try k_sweep)))
set_option maxHeartbeats 8000000 in
theorem jlen_calls (y m : Int) (t t1 : Tok) : Calls prog w p loose mean mg mb 2 477 [.int y t, .int m t1] (fun v tl => (∃ t', v = .int (jlen y m) t') ∧ tl = []) (fun _ => False) := by
  unfold Calls; intro dp un gd cn cs a ccd cl outer A₀ base h₀ L fm news s Q E hB hF hK hN hT hk hd hu hret hexc
  refine wpAny_call ?_
  k_dflt (refine' code_def (binds := [(PySem.Str.ofString "year", .int y t), (PySem.Str.ofString "month", .int m t1)]) ?k1 ?k2 ?k3 ?k4 ?k5 ?kA ?kF ?kK ?k6 ?k7 ?k8 ?k9 ?kB ?_ ?c2 ?c3 ?c4 ?c5; (case kA => exact rfl); (case kF => exact rfl); (case kK => exact hk); (case k1 => exact hB); (case k2 => exact hF); (case k3 => exact hK); (case k4 => exact hN); (case k5 => exact hT); (case k6 => k_is); (case k7 => k_is); (case k8 => ktr_room); (case k9 => exact BindsTo.of_eq rfl); (case c5 => decide); (case kB => exact locs rfl); (case c2 => exact rfl); (case c3 => exact rfl); (case c4 => exact rfl); k_whole)
  intro g₁ L₁ h₁ FG F₁ N₁ B₁ X₁ T₁
  clear hB hF hN hT
  (try dsimp only)
  dsimp only [List.reverse, List.reverseAux] at F₁
  (try k_fold)
  k_steps
  all_goals (refine hret _ [] _ _ ⟨⟨_, congrArg (fun z => Value.int z _) ?_⟩, rfl⟩ (fun _ _ _ h => nomatch h) (by k_asm) (by k_asm))
  all_goals first | with_reducible exact jl1 (by with_reducible assumption) (by with_reducible assumption) | with_reducible exact jl2 (by with_reducible assumption) (by with_reducible assumption) | with_reducible exact jl3 (by with_reducible assumption) (by with_reducible assumption) | with_reducible exact jl4 (by with_reducible assumption) (by with_reducible assumption)
local macro_rules | `(tactic| walk_at "call ref") => `(tactic| (k_here; (with_reducible show wpAny _ _ (call (Value.ref 477) _) _ _ _); (with_reducible refine' calls_use (jlen_calls _ _ _ _) ?kA ?k1 ?k2 ?k3 ?k4 ?k5 ?kK ?kd ?ku ?_ ?kx); k_dflt ((case kA => exact rfl); (case k1 => k_asm); (case k2 => k_asm); (case k3 => k_asm); (case k4 => k_asm); (case k5 => k_asm); (case kK => first | exact rfl | assumption); (case kd => walk_at "M room"); (case ku => walk_at "M room"); (case kx => intro _ _ _ _ _ hX; exact hX.elim)); intro v' tl' h' tk' hR' l' F' N'; obtain ⟨⟨t', e1⟩, e2⟩ := hR'; subst e1; subst e2; (try dsimp only [List.nil_append] at N' ⊢); (try k_sweep)))
set_option maxHeartbeats 8000000 in
theorem jlegal_calls (y m d : Int) (t t1 t2 : Tok) (hm1 : -1000 ≤ m) (hm2 : m ≤ 1000) (hd1 : -1000 ≤ d) (hd2 : d ≤ 1000) : Calls prog w p loose mean mg mb 3 484 [.int y t, .int m t1, .int d t2] (fun v tl => (1 ≤ d ∧ d ≤ jlen y m) ∧ v = .bool true ∧ tl = []) (fun c => ¬ (1 ≤ d ∧ d ≤ jlen y m) ∧ c = .type "ValueError") := by
  unfold Calls; intro dp un gd cn cs a ccd cl outer A₀ base h₀ L fm news s Q E hB hF hK hN hT hk hd hu hret hexc
  refine wpAny_call ?_
  k_dflt (refine' code_def (binds := [(PySem.Str.ofString "year", .int y t), (PySem.Str.ofString "month", .int m t1), (PySem.Str.ofString "day", .int d t2)]) ?k1 ?k2 ?k3 ?k4 ?k5 ?kA ?kF ?kK ?k6 ?k7 ?k8 ?k9 ?kB ?_ ?c2 ?c3 ?c4 ?c5; (case kA => exact rfl); (case kF => exact rfl); (case kK => exact hk); (case k1 => exact hB); (case k2 => exact hF); (case k3 => exact hK); (case k4 => exact hN); (case k5 => exact hT); (case k6 => k_is); (case k7 => k_is); (case k8 => ktr_room); (case k9 => exact BindsTo.of_eq rfl); (case c5 => decide); (case kB => exact locs rfl); (case c2 => exact rfl); (case c3 => exact rfl); (case c4 => exact rfl); k_whole)
  intro g₁ L₁ h₁ FG F₁ N₁ B₁ X₁ T₁
  clear hB hF hN hT
  (try dsimp only)
  dsimp only [List.reverse, List.reverseAux] at F₁
  (try k_fold)
  k_steps
  all_goals first
    | refine hret _ [] _ _ ⟨?_, rfl, rfl⟩ (fun _ _ _ h => nomatch h) (by k_asm) (by k_asm)
    | refine hexc _ _ _ _ _ ⟨?_, rfl⟩ (by assumption) (by walk_at "M rs") (by assumption)
  all_goals (clear hret hexc; omega)
local macro_rules | `(tactic| walk_at "call ref") => `(tactic| (k_here; (with_reducible show wpAny _ _ (call (Value.ref 484) _) _ _ _); (with_reducible refine' calls_use (jlegal_calls _ _ _ _ _ _ (by assumption) (by assumption) (by assumption) (by assumption)) ?kA ?k1 ?k2 ?k3 ?k4 ?k5 ?kK ?kd ?ku ?_ ?_); k_dflt ((case kA => exact rfl); (case k1 => k_asm); (case k2 => k_asm); (case k3 => k_asm); (case k4 => k_asm); (case k5 => k_asm); (case kK => first | exact rfl | assumption); (case kd => walk_at "M room"); (case ku => walk_at "M room"); skip); ((intro v' tl' h' tk' hR' l' F' N'; obtain ⟨hp, e1, e2⟩ := hR'; subst e1; subst e2; (try dsimp only [List.nil_append] at N' ⊢); (try k_sweep))); rotate_left; ((intro e' cls' g' h' tk' hX' F' R' U'; obtain ⟨hp, e1⟩ := hX'; subst e1; (try dsimp only))); rotate_right))
set_option maxHeartbeats 8000000 in
theorem jto_jd_calls (y m d : Int) (t t1 t2 : Tok) (hy1 : -600000 ≤ y) (hy2 : y ≤ 600000) (hm1 : 1 ≤ m) (hm2 : m ≤ 12) (hd1 : -1000 ≤ d) (hd2 : d ≤ 1000) : Calls prog w p loose mean mg mb 4 498 [.int y t, .int m t1, .int d t2] (fun v tl => (1 ≤ d ∧ d ≤ jlen y m) ∧ (∃ x t, v = .float x t ∧ J x (jday y m d)) ∧ tl = []) (fun c => ¬ (1 ≤ d ∧ d ≤ jlen y m) ∧ c = .type "ValueError") := by
  have hm3 : -1000 ≤ m := by omega
  have hm4 : m ≤ 1000 := by omega
  unfold Calls; intro dp un gd cn cs a ccd cl outer A₀ base h₀ L fm news s Q E hB hF hK hN hT hk hd hu hret hexc
  refine wpAny_call ?_
  k_dflt (refine' code_def (binds := [(PySem.Str.ofString "year", .int y t), (PySem.Str.ofString "month", .int m t1), (PySem.Str.ofString "day", .int d t2)]) ?k1 ?k2 ?k3 ?k4 ?k5 ?kA ?kF ?kK ?k6 ?k7 ?k8 ?k9 ?kB ?_ ?c2 ?c3 ?c4 ?c5; (case kA => exact rfl); (case kF => exact rfl); (case kK => exact hk); (case k1 => exact hB); (case k2 => exact hF); (case k3 => exact hK); (case k4 => exact hN); (case k5 => exact hT); (case k6 => k_is); (case k7 => k_is); (case k8 => ktr_room); (case k9 => exact BindsTo.of_eq rfl); (case c5 => decide); (case kB => exact locs rfl); (case c2 => exact rfl); (case c3 => exact rfl); (case c4 => exact rfl); k_whole)
  intro g₁ L₁ h₁ FG F₁ N₁ B₁ X₁ T₁
  clear hB hF hN hT
  (try dsimp only)
  dsimp only [List.reverse, List.reverseAux] at F₁
  (try k_fold)
  k_steps
  all_goals first
    | refine hret _ [] _ _ ⟨by assumption, ⟨_, _, rfl, ?_⟩, rfl⟩ (fun _ _ _ h => nomatch h) (by k_asm) (by k_asm)
    | refine hexc _ _ _ _ _ ⟨by assumption, rfl⟩ (by assumption) (by walk_at "M rs") (by assumption)
    | skip
  (all_goals (refine J.of (by assumption) ?_; clear hret hexc; (repeat (with_reducible rename Is _ _ => hq; have hq' := Is.eq hq; clear hq)); unfold jday; (repeat' split) <;> first | omega | (exfalso; omega) | skip))
end

end
section
theorem off_C5 : True := by
  w_top off
  trivial
end
section
def jwI (y : Int) : Int := if jw y then 1 else 0
theorem jwI_spec (y : Int) : (jwI y = 1 ∧ jw y = true ∧ y % 4 = 0) ∨ (jwI y = 0 ∧ jw y = false ∧ ¬ y % 4 = 0) := by
  have h : jw y = true ↔ y % 4 = 0 := by unfold jw; rw [Int.fmod_eq_emod_of_nonneg _ (by decide)]; simp
  unfold jwI
  cases hw : jw y with
  | true => left; rw [hw] at h; exact ⟨rfl, rfl, h.mp rfl⟩
  | false => right; rw [hw] at h; exact ⟨rfl, rfl, fun q => by have := h.mpr q; cases this⟩
/-- the number of the Julian year's first day -/
def jfirst (y : Int) : Int := 1721424 + 365 * (y - 1) + (y - 1) / 4
theorem jfirst_succ (y : Int) : jfirst (y + 1) = jfirst y + 365 + jwI y := by
  have h := jwI_spec y
  unfold jfirst
  rcases h with ⟨h1, _, h3⟩ | ⟨h1, _, h3⟩ <;> rw [h1] <;> omega
theorem jday_first (y : Int) : jday y 1 1 = jfirst y := by unfold jday jfirst; simp; omega
def InYearJ (n y : Int) : Prop := jfirst y ≤ n ∧ n ≤ jfirst y + 364 + jwI y
theorem jul_a {n a : Int} (ia : Is a ((n * 1048576 - 524288 + 524288) / 1048576)) : a = n := by unfold Is at ia; omega
theorem jul_d {n a c d : Int} (ia : Is a ((n * 1048576 - 524288 + 524288) / 1048576)) (ic : Is c ((20 * (a + 1524) - 2442) / 7305)) (id : Is d (382992384 * c / 1048576)) :
    a = n ∧ 123 ≤ a + 1524 - d ∧ a + 1524 - d ≤ 488 := by
  unfold Is at *; omega
theorem jul_z {n a c d : Int} (ha : a = n) (ic : Is c ((20 * (a + 1524) - 2442) / 7305)) (id : Is d (382992384 * c / 1048576)) :
    123 ≤ a + 1524 - d ∧ a + 1524 - d ≤ 488 ∧ ∃ k r : Int, (r = 0 ∨ r = 1 ∨ r = 2 ∨ r = 3) ∧ c = 4 * k + r ∧ d = 1461 * k + 365 * r := by
  unfold Is at *
  refine ⟨by omega, by omega, c / 4, c % 4, by omega, by omega, ?_⟩
  omega
theorem jul_e {z e : Int} (h1 : 123 ≤ z) (h2 : z ≤ 488) (ie : Is e (10000 * z / 306001)) : 4 ≤ e ∧ e ≤ 15 := by
  unfold Is at *; omega
theorem jul_y1 {n a c d e : Int} (ha : a = n) (ic : Is c ((20 * (a + 1524) - 2442) / 7305)) (id : Is d (382992384 * c / 1048576)) (ie : Is e (10000 * (a + 1524 - d) / 306001)) (h : e < 14) : InYearJ n (c - 4716) := by
  have hz := jul_z ha ic id
  unfold Is at ie
  have h5 : a + 1524 - d ≤ 428 := by omega
  have h6 : 123 ≤ a + 1524 - d := hz.1
  obtain ⟨k, r, hr, hk, hd⟩ := hz.2.2
  have hw := jwI_spec (c - 4716)
  unfold InYearJ jfirst
  clear ic id ie h hz
  rcases hr with rfl | rfl | rfl | rfl <;> rcases hw with ⟨w1, _, w2⟩ | ⟨w1, _, w2⟩ <;> rw [w1] <;> omega
theorem jul_y2 {n a c d e : Int} (ha : a = n) (ic : Is c ((20 * (a + 1524) - 2442) / 7305)) (id : Is d (382992384 * c / 1048576)) (ie : Is e (10000 * (a + 1524 - d) / 306001)) (h : ¬ e < 14) : InYearJ n (c - 4715) := by
  have hz := jul_z ha ic id
  unfold Is at ie
  have h5 : 429 ≤ a + 1524 - d := by omega
  have h6 : a + 1524 - d ≤ 488 := hz.2.1
  obtain ⟨k, r, hr, hk, hd⟩ := hz.2.2
  have hw := jwI_spec (c - 4715)
  unfold InYearJ jfirst
  clear ic id ie h hz
  rcases hr with rfl | rfl | rfl | rfl <;> rcases hw with ⟨w1, _, w2⟩ | ⟨w1, _, w2⟩ <;> rw [w1] <;> omega
section
variable {prog : Program} {w : World} {p : Program} {loose : List Str} {mean : ExcName → Option Value} {mg mb : Str → Option Value}
set_option maxHeartbeats 8000000 in
theorem jfrom_jd_calls (n : Int) (x : UInt64) (t : Tok) (hn1 : -200000000 ≤ n) (hn2 : n ≤ 200000000) (hx : J x n) : Calls prog w p loose mean mg mb 1 491 [.float x t] (fun v tl => ∃ a Y M D ta tb tc, InYearJ n Y ∧ v = .ref a ∧ tl = [(a, tupleOf [.int Y ta, .int M tb, .int D tc])]) (fun _ => False) := by
  unfold Calls; intro dp un gd cn cs a ccd cl outer A₀ base h₀ L fm news s Q E hB hF hK hN hT hk hd hu hret hexc
  refine wpAny_call ?_
  k_dflt (refine' code_def (binds := [(PySem.Str.ofString "jd", .float x t)]) ?k1 ?k2 ?k3 ?k4 ?k5 ?kA ?kF ?kK ?k6 ?k7 ?k8 ?k9 ?kB ?_ ?c2 ?c3 ?c4 ?c5; (case kA => exact rfl); (case kF => exact rfl); (case kK => exact hk); (case k1 => exact hB); (case k2 => exact hF); (case k3 => exact hK); (case k4 => exact hN); (case k5 => exact hT); (case k6 => k_is); (case k7 => k_is); (case k8 => ktr_room); (case k9 => exact BindsTo.of_eq rfl); (case c5 => decide); (case kB => exact locs rfl); (case c2 => exact rfl); (case c3 => exact rfl); (case c4 => exact rfl); k_whole)
  intro g₁ L₁ h₁ FG F₁ N₁ B₁ X₁ T₁
  clear hB hF hN hT
  (try dsimp only)
  dsimp only [List.reverse, List.reverseAux] at F₁
  (try k_fold)
  repeat ((fail_if_success (with_reducible show wpAny _ _ (storeName _ _ _) _ _ _)); walk_at "M step")
  iterate 1 (walk_at "M step")
  repeat ((fail_if_success (with_reducible show wpAny _ _ (storeName _ _ _) _ _ _)); walk_at "M step")
  have ha := jul_a (by with_reducible assumption)
  repeat ((fail_if_success (with_reducible show wpAny _ _ (exec (Stmt.Assign _ _ _) _) _ _ _)); walk_at "M step")
  iterate 1 (walk_at "M step")
  repeat ((fail_if_success (with_reducible show wpAny _ _ (exec (Stmt.Assign _ _ _) _) _ _ _)); walk_at "M step")
  iterate 1 (walk_at "M step")
  repeat ((fail_if_success (with_reducible show wpAny _ _ (exec (Stmt.Assign _ _ _) _) _ _ _)); walk_at "M step")
  iterate 1 (walk_at "M step")
  repeat ((fail_if_success (with_reducible show wpAny _ _ (exec (Stmt.Assign _ _ _) _) _ _ _)); walk_at "M step")
  obtain ⟨_, hz1, hz2⟩ := jul_d (by with_reducible assumption) (by with_reducible assumption) (by with_reducible assumption)
  repeat ((fail_if_success (with_reducible show wpAny _ _ (storeName _ _ _) _ _ _)); walk_at "M step")
  obtain ⟨he1, he2⟩ := jul_e hz1 hz2 (by with_reducible assumption)
  k_steps
  all_goals (refine hret _ [_] _ _ ⟨_, _, _, _, _, _, _, ?_, rfl, rfl⟩ (fresh_of (by walk_at "M fresh")) (by k_asm) (by walk_at "M news"))
  all_goals first | with_reducible exact jul_y1 ha (by with_reducible assumption) (by with_reducible assumption) (by with_reducible assumption) (by with_reducible assumption) | with_reducible exact jul_y2 ha (by with_reducible assumption) (by with_reducible assumption) (by with_reducible assumption) (by with_reducible assumption)
end

end
section
theorem off_C6 : True := by
  w_top off
  trivial
end
section
theorem gday_year {y m d : Int} (h1 : 1 ≤ m) (h2 : m ≤ 12) (h3 : 1 ≤ d) (h4 : d ≤ glen y m) : InYear (gday y m d) y := by
  have hw := wideI_spec y
  have hwb : wideI y = 0 ∨ wideI y = 1 := by omega
  clear hw
  rw [glen_at] at h4
  unfold InYear; rw [gday_eq]
  generalize wideI y = L at *
  generalize yday y = Y at *
  have hc : m = 1 ∨ m = 2 ∨ m = 3 ∨ m = 4 ∨ m = 5 ∨ m = 6 ∨ m = 7 ∨ m = 8 ∨ m = 9 ∨ m = 10 ∨ m = 11 ∨ m = 12 := by omega
  rcases hc with rfl | rfl | rfl | rfl | rfl | rfl | rfl | rfl | rfl | rfl | rfl | rfl <;> simp at h4 ⊢ <;> omega
theorem gday_bound {y m d : Int} (hy1 : -600000 ≤ y) (hy2 : y ≤ 600000) (h1 : 1 ≤ m) (h2 : m ≤ 12) (hd1 : -1000 ≤ d) (hd2 : d ≤ 1000) : -250000000 ≤ gday y m d ∧ gday y m d ≤ 250000000 := by
  unfold gday
  constructor <;> (repeat' split) <;> omega
def g2day (y m d : Int) : Int := (if m ≤ 2 then 2 - (y - 1) / 100 + (y - 1) / 100 / 4 + (1461 * (y - 1 + 4716)) / 4 + 306001 * (m + 12 + 1) / 10000 else 2 - y / 100 + y / 100 / 4 + (1461 * (y + 4716)) / 4 + 306001 * (m + 1) / 10000) + d - 1524
theorem g2day_eq {y m d : Int} (h1 : 1 ≤ m) (h2 : m ≤ 12) : g2day y m d = gday y m d := by
  have hw := wideI_spec y
  rw [gday_eq]
  have j1 : (y - 1) / 100 / 4 = (y - 1) / 400 := by omega
  have j2 : 1461 * (y - 1 + 4716) / 4 = 365 * (y + 4715) + (y - 1) / 4 + 1179 := by omega
  have j3 : y / 100 / 4 = y / 400 := by omega
  have j4 : 1461 * (y + 4716) / 4 = 365 * (y + 4716) + y / 4 + 1179 := by omega
  have j5 : y / 4 - y / 100 + y / 400 = (y - 1) / 4 - (y - 1) / 100 + (y - 1) / 400 + wideI y := by
    rcases hw with ⟨w1, _, w2⟩ | ⟨w1, _, w2⟩ <;> rw [w1] <;> omega
  have hwb : wideI y = 0 ∨ wideI y = 1 := by omega
  clear hw
  unfold g2day yday
  rw [j1, j2, j3, j4]
  generalize wideI y = L at *
  generalize (y - 1) / 100 = p1 at *
  generalize (y - 1) / 400 = p2 at *
  generalize (y - 1) / 4 = p3 at *
  generalize y / 100 = p4 at *
  generalize y / 400 = p5 at *
  generalize y / 4 = p6 at *
  have hc : m = 1 ∨ m = 2 ∨ m = 3 ∨ m = 4 ∨ m = 5 ∨ m = 6 ∨ m = 7 ∨ m = 8 ∨ m = 9 ∨ m = 10 ∨ m = 11 ∨ m = 12 := by omega
  rcases hc with rfl | rfl | rfl | rfl | rfl | rfl | rfl | rfl | rfl | rfl | rfl | rfl <;> simp <;> omega
theorem e365 (k : Int) : 382992384 * k / 1048576 = 1461 * k / 4 := by omega
theorem g2_end1 {y m d q3 q2 q1 q0 : Int} (i0 : Is q0 (306001 * (m + 12 + 1) / 10000)) (i1 : Is q1 (382992384 * (y - 1 + 4716) / 1048576)) (i2 : Is q2 (q3 / 4)) (i3 : Is q3 ((y - 1) / 100)) (hm : m ≤ 2) : (2 - q3 + q2 + d + q1 + q0) * 1048576 - 1598554112 = g2day y m d * 1048576 - 524288 := by
  unfold Is at *
  rw [e365] at i1
  unfold g2day
  rw [if_pos hm, i0, i1, i2, i3]
  generalize (y - 1) / 100 / 4 = a1
  generalize (y - 1) / 100 = a2
  generalize 1461 * (y - 1 + 4716) / 4 = a3
  generalize 306001 * (m + 12 + 1) / 10000 = a4
  omega
theorem g2_end2 {y m d q3 q2 q1 q0 : Int} (i0 : Is q0 (306001 * (m + 1) / 10000)) (i1 : Is q1 (382992384 * (y + 4716) / 1048576)) (i2 : Is q2 (q3 / 4)) (i3 : Is q3 (y / 100)) (hm : ¬ m ≤ 2) : (2 - q3 + q2 + d + q1 + q0) * 1048576 - 1598554112 = g2day y m d * 1048576 - 524288 := by
  unfold Is at *
  rw [e365] at i1
  unfold g2day
  rw [if_neg hm, i0, i1, i2, i3]
  generalize y / 100 / 4 = a1
  generalize y / 100 = a2
  generalize 1461 * (y + 4716) / 4 = a3
  generalize 306001 * (m + 1) / 10000 = a4
  omega
theorem oadj0 {y d : Int} (h : d < 59 + if wide y = true then 1 else 0) : Is 0 (madj y (d - 1)) ∧ (0 : Int) ≤ 0 ∧ (0 : Int) ≤ 2 := by
  refine ⟨?_, by decide, by decide⟩
  unfold Is madj wideI
  rw [if_pos (by omega)]
theorem oadj1 {y d : Int} (h : ¬ d < 59 + if wide y = true then 1 else 0) (hw : wide y = true) : Is 1 (madj y (d - 1)) ∧ (0 : Int) ≤ 1 ∧ (1 : Int) ≤ 2 := by
  refine ⟨?_, by decide, by decide⟩
  unfold Is madj wideI
  rw [if_neg (by omega), if_pos hw]; rfl
theorem oadj2 {y d : Int} (h : ¬ d < 59 + if wide y = true then 1 else 0) (hw : wide y = false) : Is 2 (madj y (d - 1)) ∧ (0 : Int) ≤ 2 ∧ (2 : Int) ≤ 2 := by
  refine ⟨?_, by decide, by decide⟩
  unfold Is madj wideI
  rw [if_neg (by omega), hw]; rfl
theorem wideI_le (y : Int) : 0 ≤ wideI y ∧ wideI y ≤ 1 := by unfold wideI; split <;> omega
theorem omonth {y d ad : Int} (h1 : 1 ≤ d) (h2 : d ≤ 365 + wideI y) (ha : Is ad (madj y (d - 1))) :
    1 ≤ ((d - 1 + ad) * 12 + 373) / 367 ∧ ((d - 1 + ad) * 12 + 373) / 367 ≤ 12 ∧ 1 ≤ d - (gday y (((d - 1 + ad) * 12 + 373) / 367) 1 - gday y 1 1 + 1) + 1 ∧ d - (gday y (((d - 1 + ad) * 12 + 373) / 367) 1 - gday y 1 1 + 1) + 1 ≤ glen y (((d - 1 + ad) * 12 + 373) / 367) ∧
      gday y (((d - 1 + ad) * 12 + 373) / 367) (d - (gday y (((d - 1 + ad) * 12 + 373) / 367) 1 - gday y 1 1 + 1) + 1) = gday y 1 1 + d - 1 := by
  have hy : InYear (gday y 1 1 + d - 1) y := by rw [gday_first]; unfold InYear; omega
  have h := month_core (M := ((d - 1 + ad) * 12 + 373) / 367) hy (yd := d - 1) (by rw [gday_first]; omega) (by rw [show ad = madj y (d - 1) from ha])
  generalize ((d - 1 + ad) * 12 + 373) / 367 = M at *
  have e : gday y 1 1 + d - 1 - gday y M 1 + 1 = d - (gday y M 1 - gday y 1 1 + 1) + 1 := by omega
  rw [e] at h
  exact h
theorem fgo1 {y m : Int} (h1 : 1 ≤ m) (h : m + 1 ≤ 3) : ((306 * (m + 1 + 12) / 10 + 1 - 122 + 59 + if wide y = true then 1 else 0) - 365 - if wide y = true then 1 else 0) = gday y m 1 - gday y 1 1 + 1 := by
  rw [gday_eq, gday_first]
  have hc : m = 1 ∨ m = 2 := by omega
  generalize (if wide y = true then (1 : Int) else 0) = L
  rcases hc with rfl | rfl <;> simp <;> omega
theorem fgo2 {y m : Int} (h2 : m ≤ 12) (h : ¬ m + 1 ≤ 3) : (306 * (m + 1) / 10 + 1 - 122 + 59 + if wide y = true then 1 else 0) = gday y m 1 - gday y 1 1 + 1 := by
  rw [gday_eq, gday_first]
  unfold wideI
  generalize (if wide y = true then (1 : Int) else 0) = L
  have hc : m = 3 ∨ m = 4 ∨ m = 5 ∨ m = 6 ∨ m = 7 ∨ m = 8 ∨ m = 9 ∨ m = 10 ∨ m = 11 ∨ m = 12 := by omega
  rcases hc with rfl | rfl | rfl | rfl | rfl | rfl | rfl | rfl | rfl | rfl <;> simp <;> omega
section
variable {prog : Program} {w : World} {p : Program} {loose : List Str} {mean : ExcName → Option Value} {mg mb : Str → Option Value}
theorem to_jdL_calls (y m d : Int) (t t1 t2 : Tok) (hy1 : -600000 ≤ y) (hy2 : y ≤ 600000) (hm1 : -1000 ≤ m) (hm2 : m ≤ 1000) (hd : 1 ≤ d ∧ d ≤ glen y m) : Calls prog w p loose mean mg mb 3 441 [.int y t, .int m t1, .int d t2] (fun v tl => (∃ x t, v = .float x t ∧ J x (gday y m d)) ∧ tl = []) (fun _ => False) :=
  calls_weaken (to_jd_calls y m d t t1 t2 hy1 hy2 hm1 hm2 (by omega) (by have := glen_le y m; omega)) (fun _ _ h => h.2) (fun _ h => h.1 hd)
local macro_rules | `(tactic| walk_at "call ref") => `(tactic| (k_here; (with_reducible show wpAny _ _ (call (Value.ref 391) _) _ _ _); (with_reducible refine' calls_use (isleap_calls _ _) ?kA ?k1 ?k2 ?k3 ?k4 ?k5 ?kK ?kd ?ku ?_ ?kx); k_dflt ((case kA => exact rfl); (case k1 => k_asm); (case k2 => k_asm); (case k3 => k_asm); (case k4 => k_asm); (case k5 => k_asm); (case kK => first | exact rfl | assumption); (case kd => walk_at "M room"); (case ku => walk_at "M room"); (case kx => intro _ _ _ _ _ hX; exact hX.elim)); intro v' tl' h' tk' hR' l' F' N'; obtain ⟨e1, e2⟩ := hR'; subst e1; subst e2; (try dsimp only [List.nil_append] at N' ⊢); (try k_sweep)))
local macro_rules | `(tactic| walk_at "call ref") => `(tactic| (k_here; (with_reducible show wpAny _ _ (call (Value.ref 441) _) _ _ _); (with_reducible refine' calls_use (to_jdL_calls _ _ _ _ _ _ (by walk_at "M om") (by walk_at "M om") (by walk_at "M om") (by walk_at "M om") (by assumption)) ?kA ?k1 ?k2 ?k3 ?k4 ?k5 ?kK ?kd ?ku ?_ ?kx); k_dflt ((case kA => exact rfl); (case k1 => k_asm); (case k2 => k_asm); (case k3 => k_asm); (case k4 => k_asm); (case k5 => k_asm); (case kK => first | exact rfl | assumption); (case kd => walk_at "M room"); (case ku => walk_at "M room"); (case kx => intro _ _ _ _ _ hX; exact hX.elim)); intro v' tl' h' tk' hR' l' F' N'; obtain ⟨⟨x', t', e1, gx'⟩, e2⟩ := hR'; subst e1; subst e2; (try dsimp only [List.nil_append] at N' ⊢); (try k_sweep)))
local macro_rules | `(tactic| walk_at "call ref") => `(tactic| (k_here; (with_reducible show wpAny _ _ (call (Value.ref 441) _) _ _ _); (with_reducible refine' calls_use (to_jd1_calls _ _ _ _ _ (by walk_at "M om") (by walk_at "M om") (by walk_at "M om") (by walk_at "M om")) ?kA ?k1 ?k2 ?k3 ?k4 ?k5 ?kK ?kd ?ku ?_ ?kx); k_dflt ((case kA => exact rfl); (case k1 => k_asm); (case k2 => k_asm); (case k3 => k_asm); (case k4 => k_asm); (case k5 => k_asm); (case kK => first | exact rfl | assumption); (case kd => walk_at "M room"); (case ku => walk_at "M room"); (case kx => intro _ _ _ _ _ hX; exact hX.elim)); intro v' tl' h' tk' hR' l' F' N'; obtain ⟨⟨x', t', e1, gx'⟩, e2⟩ := hR'; subst e1; subst e2; (try dsimp only [List.nil_append] at N' ⊢); (try k_sweep)))
local macro_rules | `(tactic| walk_at "call ref") => `(tactic| (k_here; (with_reducible show wpAny _ _ (call (Value.ref 448) _) _ _ _); (with_reducible refine' calls_use (from_jd_calls _ _ _ (by walk_at "M om") (by walk_at "M om") (by with_reducible assumption)) ?kA ?k1 ?k2 ?k3 ?k4 ?k5 ?kK ?kd ?ku ?_ ?kx); k_dflt ((case kA => exact rfl); (case k1 => k_asm); (case k2 => k_asm); (case k3 => k_asm); (case k4 => k_asm); (case k5 => k_asm); (case kK => first | exact rfl | assumption); (case kd => walk_at "M room"); (case ku => walk_at "M room"); (case kx => intro _ _ _ _ _ hX; exact hX.elim)); intro v' tl' h' tk' hR' l' F' N'; obtain ⟨a', Y', M', D', ta', tb', tc', ⟨p1', p2', p3', p4', p5', ⟨p6', p7'⟩, p8', p9'⟩, e1, e2⟩ := hR'; subst e1; subst e2; (try dsimp only [List.nil_append, List.cons_append] at N' ⊢); (try k_sweep)))
local macro_rules | `(tactic| walk_at "call ref") => `(tactic| (k_here; (with_reducible show wpAny _ _ (call (Value.ref 427) _) _ _ _); (with_reducible refine' calls_use (legal_calls _ _ _ _ _ _ (by assumption) (by assumption) (by assumption) (by assumption)) ?kA ?k1 ?k2 ?k3 ?k4 ?k5 ?kK ?kd ?ku ?_ ?_); k_dflt ((case kA => exact rfl); (case k1 => k_asm); (case k2 => k_asm); (case k3 => k_asm); (case k4 => k_asm); (case k5 => k_asm); (case kK => first | exact rfl | assumption); (case kd => walk_at "M room"); (case ku => walk_at "M room"); skip); ((intro v' tl' h' tk' hR' l' F' N'; obtain ⟨hp, e1, e2⟩ := hR'; subst e1; subst e2; (try dsimp only [List.nil_append] at N' ⊢); (try k_sweep))); rotate_left; ((intro e' cls' g' h' tk' hX' F' R' U'; obtain ⟨hp, e1⟩ := hX'; subst e1; (try dsimp only))); rotate_right))
set_option maxHeartbeats 8000000 in
theorem to_jd_ordinal_calls (y d : Int) (t t1 : Tok) (hy1 : -600000 ≤ y) (hy2 : y ≤ 600000) (hd1 : -1000 ≤ d) (hd2 : d ≤ 1000) : Calls prog w p loose mean mg mb 4 603 [.int y t, .int d t1] (fun v tl => (∃ x t, v = .float x t ∧ J x (gday y 1 1 + d - 1)) ∧ tl = []) (fun _ => False) := by
  unfold Calls; intro dp un gd cn cs a ccd cl outer A₀ base h₀ L fm news s Q E hB hF hK hN hT hk hd hu hret hexc
  refine wpAny_call ?_
  k_dflt (refine' code_def (binds := [(PySem.Str.ofString "year", .int y t), (PySem.Str.ofString "dayofyear", .int d t1)]) ?k1 ?k2 ?k3 ?k4 ?k5 ?kA ?kF ?kK ?k6 ?k7 ?k8 ?k9 ?kB ?_ ?c2 ?c3 ?c4 ?c5; (case kA => exact rfl); (case kF => exact rfl); (case kK => exact hk); (case k1 => exact hB); (case k2 => exact hF); (case k3 => exact hK); (case k4 => exact hN); (case k5 => exact hT); (case k6 => k_is); (case k7 => k_is); (case k8 => ktr_room); (case k9 => exact BindsTo.of_eq rfl); (case c5 => decide); (case kB => exact locs rfl); (case c2 => exact rfl); (case c3 => exact rfl); (case c4 => exact rfl); k_whole)
  intro g₁ L₁ h₁ FG F₁ N₁ B₁ X₁ T₁
  clear hB hF hN hT
  (try dsimp only)
  dsimp only [List.reverse, List.reverseAux] at F₁
  (try k_fold)
  have hgb := gday_bound (m := 1) (d := 1) hy1 hy2 (by decide) (by decide) (by decide) (by decide)
  k_steps
  all_goals (refine hret _ [] _ _ ⟨⟨_, _, rfl, J.of (by with_reducible assumption) ?_⟩, rfl⟩ (fun _ _ _ h => nomatch h) (by k_asm) (by k_asm))
  all_goals (clear hret hexc; omega)
set_option maxHeartbeats 8000000 in
theorem from_jd_ordinal_calls (n : Int) (x : UInt64) (t : Tok) (hn1 : -200000000 ≤ n) (hn2 : n ≤ 200000000) (hx : J x n) : Calls prog w p loose mean mg mb 5 610 [.float x t] (fun v tl => ∃ a Y M ta tb, InYear n Y ∧ v = .ref a ∧ tl = [(a, tupleOf [.int Y ta, .int M tb])]) (fun _ => False) := by
  unfold Calls; intro dp un gd cn cs a ccd cl outer A₀ base h₀ L fm news s Q E hB hF hK hN hT hk hd hu hret hexc
  refine wpAny_call ?_
  k_dflt (refine' code_def (binds := [(PySem.Str.ofString "jd", .float x t)]) ?k1 ?k2 ?k3 ?k4 ?k5 ?kA ?kF ?kK ?k6 ?k7 ?k8 ?k9 ?kB ?_ ?c2 ?c3 ?c4 ?c5; (case kA => exact rfl); (case kF => exact rfl); (case kK => exact hk); (case k1 => exact hB); (case k2 => exact hF); (case k3 => exact hK); (case k4 => exact hN); (case k5 => exact hT); (case k6 => k_is); (case k7 => k_is); (case k8 => ktr_room); (case k9 => exact BindsTo.of_eq rfl); (case c5 => decide); (case kB => exact locs rfl); (case c2 => exact rfl); (case c3 => exact rfl); (case c4 => exact rfl); k_whole)
  intro g₁ L₁ h₁ FG F₁ N₁ B₁ X₁ T₁
  clear hB hF hN hT
  (try dsimp only)
  dsimp only [List.reverse, List.reverseAux] at F₁
  (try k_fold)
  k_steps
  all_goals (refine hret _ [_] _ _ ⟨_, _, _, _, _, by with_reducible assumption, rfl, rfl⟩ (fresh_of (by walk_at "M fresh")) (by k_asm) (by walk_at "M news"))
set_option maxHeartbeats 8000000 in
theorem from_greg_ordinal_calls (y m : Int) (t t1 t2 : Tok) (hm1 : 1 ≤ m) (hm2 : m ≤ 12) : Calls prog w p loose mean mg mb 2 617 [.int y t, .int m t1, .int 1 t2] (fun v tl => ∃ a ta tb, v = .ref a ∧ tl = [(a, tupleOf [.int y ta, .int (gday y m 1 - gday y 1 1 + 1) tb])]) (fun _ => False) := by
  unfold Calls; intro dp un gd cn cs a ccd cl outer A₀ base h₀ L fm news s Q E hB hF hK hN hT hk hd hu hret hexc
  refine wpAny_call ?_
  k_dflt (refine' code_def (binds := [(PySem.Str.ofString "year", .int y t), (PySem.Str.ofString "month", .int m t1), (PySem.Str.ofString "day", .int 1 t2)]) ?k1 ?k2 ?k3 ?k4 ?k5 ?kA ?kF ?kK ?k6 ?k7 ?k8 ?k9 ?kB ?_ ?c2 ?c3 ?c4 ?c5; (case kA => exact rfl); (case kF => exact rfl); (case kK => exact hk); (case k1 => exact hB); (case k2 => exact hF); (case k3 => exact hK); (case k4 => exact hN); (case k5 => exact hT); (case k6 => k_is); (case k7 => k_is); (case k8 => ktr_room); (case k9 => exact BindsTo.of_eq rfl); (case c5 => decide); (case kB => exact locs rfl); (case c2 => exact rfl); (case c3 => exact rfl); (case c4 => exact rfl); k_whole)
  intro g₁ L₁ h₁ FG F₁ N₁ B₁ X₁ T₁
  clear hB hF hN hT
  (try dsimp only)
  dsimp only [List.reverse, List.reverseAux] at F₁
  (try k_fold)
  k_steps
  all_goals (refine hret _ [_] _ _ ⟨_, _, _, rfl, congrArg (fun z => [((_ : Addr), tupleOf [Value.int y _, Value.int z _])]) ?_⟩ (fresh_of (by walk_at "M fresh")) (by k_asm) (by walk_at "M news"))
  all_goals first | with_reducible exact fgo1 hm1 (by with_reducible assumption) | with_reducible exact fgo2 hm2 (by with_reducible assumption)
set_option maxHeartbeats 8000000 in
theorem to_jd2_calls (y m d : Int) (t t1 t2 : Tok) (hy1 : -600000 ≤ y) (hy2 : y ≤ 600000) (hm1 : 1 ≤ m) (hm2 : m ≤ 12) (hd1 : -1000 ≤ d) (hd2 : d ≤ 1000) : Calls prog w p loose mean mg mb 3 434 [.int y t, .int m t1, .int d t2] (fun v tl => (1 ≤ d ∧ d ≤ glen y m) ∧ (∃ x t, v = .float x t ∧ J x (gday y m d)) ∧ tl = []) (fun c => ¬ (1 ≤ d ∧ d ≤ glen y m) ∧ c = .type "ValueError") := by
  have hm3 : -1000 ≤ m := by omega
  have hm4 : m ≤ 1000 := by omega
  unfold Calls; intro dp un gd cn cs a ccd cl outer A₀ base h₀ L fm news s Q E hB hF hK hN hT hk hd hu hret hexc
  refine wpAny_call ?_
  k_dflt (refine' code_def (binds := [(PySem.Str.ofString "year", .int y t), (PySem.Str.ofString "month", .int m t1), (PySem.Str.ofString "day", .int d t2)]) ?k1 ?k2 ?k3 ?k4 ?k5 ?kA ?kF ?kK ?k6 ?k7 ?k8 ?k9 ?kB ?_ ?c2 ?c3 ?c4 ?c5; (case kA => exact rfl); (case kF => exact rfl); (case kK => exact hk); (case k1 => exact hB); (case k2 => exact hF); (case k3 => exact hK); (case k4 => exact hN); (case k5 => exact hT); (case k6 => k_is); (case k7 => k_is); (case k8 => ktr_room); (case k9 => exact BindsTo.of_eq rfl); (case c5 => decide); (case kB => exact locs rfl); (case c2 => exact rfl); (case c3 => exact rfl); (case c4 => exact rfl); k_whole)
  intro g₁ L₁ h₁ FG F₁ N₁ B₁ X₁ T₁
  clear hB hF hN hT
  (try dsimp only)
  dsimp only [List.reverse, List.reverseAux] at F₁
  (try k_fold)
  k_steps
  all_goals first
    | refine hret _ [] _ _ ⟨by with_reducible assumption, ⟨_, _, rfl, ?_⟩, rfl⟩ (fun _ _ _ h => nomatch h) (by k_asm) (by k_asm)
    | refine hexc _ _ _ _ _ ⟨by with_reducible assumption, rfl⟩ (by assumption) (by walk_at "M rs") (by assumption)
    | skip
  all_goals (refine J.of (by with_reducible assumption) ?_; rw [← g2day_eq hm1 hm2])
  all_goals first | with_reducible exact g2_end1 (by with_reducible assumption) (by with_reducible assumption) (by with_reducible assumption) (by with_reducible assumption) (by with_reducible assumption) | with_reducible exact g2_end2 (by with_reducible assumption) (by with_reducible assumption) (by with_reducible assumption) (by with_reducible assumption) (by with_reducible assumption)
local macro_rules | `(tactic| walk_at "call ref") => `(tactic| (k_here; (with_reducible show wpAny _ _ (call (Value.ref 617) _) _ _ _); (with_reducible refine' calls_use (from_greg_ordinal_calls _ _ _ _ _ (by walk_at "M om") (by walk_at "M om")) ?kA ?k1 ?k2 ?k3 ?k4 ?k5 ?kK ?kd ?ku ?_ ?kx); k_dflt ((case kA => exact rfl); (case k1 => k_asm); (case k2 => k_asm); (case k3 => k_asm); (case k4 => k_asm); (case k5 => k_asm); (case kK => first | exact rfl | assumption); (case kd => walk_at "M room"); (case ku => walk_at "M room"); (case kx => intro _ _ _ _ _ hX; exact hX.elim)); intro v' tl' h' tk' hR' l' F' N'; obtain ⟨a', ta', tb', e1, e2⟩ := hR'; subst e1; subst e2; (try dsimp only [List.nil_append, List.cons_append] at N' ⊢); (try k_sweep)))
set_option maxHeartbeats 8000000 in
theorem to_greg_ordinal_calls (y d : Int) (t t1 : Tok) (hd1 : 1 ≤ d) (hd2 : d ≤ 365 + wideI y) : Calls prog w p loose mean mg mb 3 624 [.int y t, .int d t1] (fun v tl => ∃ a M D ta tb tc, (1 ≤ M ∧ M ≤ 12 ∧ (1 ≤ D ∧ D ≤ glen y M) ∧ gday y M D = gday y 1 1 + d - 1) ∧ v = .ref a ∧ tl = [(a, tupleOf [.int y ta, .int M tb, .int D tc])]) (fun _ => False) := by
  unfold Calls; intro dp un gd cn cs a ccd cl outer A₀ base h₀ L fm news s Q E hB hF hK hN hT hk hd hu hret hexc
  refine wpAny_call ?_
  k_dflt (refine' code_def (binds := [(PySem.Str.ofString "year", .int y t), (PySem.Str.ofString "dayofyear", .int d t1)]) ?k1 ?k2 ?k3 ?k4 ?k5 ?kA ?kF ?kK ?k6 ?k7 ?k8 ?k9 ?kB ?_ ?c2 ?c3 ?c4 ?c5; (case kA => exact rfl); (case kF => exact rfl); (case kK => exact hk); (case k1 => exact hB); (case k2 => exact hF); (case k3 => exact hK); (case k4 => exact hN); (case k5 => exact hT); (case k6 => k_is); (case k7 => k_is); (case k8 => ktr_room); (case k9 => exact BindsTo.of_eq rfl); (case c5 => decide); (case kB => exact locs rfl); (case c2 => exact rfl); (case c3 => exact rfl); (case c4 => exact rfl); k_whole)
  intro g₁ L₁ h₁ FG F₁ N₁ B₁ X₁ T₁
  clear hB hF hN hT
  (try dsimp only)
  dsimp only [List.reverse, List.reverseAux] at F₁
  (try k_fold)
  repeat ((fail_if_success (with_reducible show wpAny _ _ (exec (Stmt.If _ _ _ _) _) _ _ _)); walk_at "M step")
  refine join_int (PySem.Str.ofString "leap_adj") (fun v => Is v (madj y (d - 1)) ∧ 0 ≤ v ∧ v ≤ 2) (by assumption) (by assumption) ?h1 ?h2
  case h1 =>
    k_steps
    all_goals (refine join_end (by assumption) (by assumption) (fun z => by by_cases hz : z = PySem.Str.ofString "leap_adj" <;> first | ((repeat rw [if_pos hz]); done) | ((repeat rw [if_neg hz]); done)) ?_)
    all_goals first | with_reducible exact oadj0 (by with_reducible assumption) | with_reducible exact oadj1 (by with_reducible assumption) (by with_reducible assumption) | with_reducible exact oadj2 (by with_reducible assumption) (by with_reducible assumption)
  case h2 =>
    intro ad h₃ tk₃ t₃ had F₃ N₃
    obtain ⟨had, had1, had2⟩ := had
    have hdw := wideI_le y
    obtain ⟨hM1, hM2, hD1, hD2, hD3⟩ := omonth hd1 hd2 had
    k_steps
    all_goals (refine hret _ [_] _ _ ⟨_, _, _, _, _, _, ⟨hM1, hM2, ⟨hD1, hD2⟩, hD3⟩, rfl, rfl⟩ (fresh_of (by walk_at "M fresh")) (by k_asm) (by walk_at "M news"))
end

end
section
theorem off_C7 : True := by
  w_top off
  trivial
end
section
section
variable {prog : Program} {w : World} {A : Around} {E : Value → Shared → Prop} {Q : Flow → Shared → Prop} {s : Shared} {env : Env} {h₀ : Heap} {L : Addr} {news : List (Addr × Obj)}
/-- what a turn of a loop over two ints comes to -/
def W2 (h₀ : Heap) (L : Addr) (news : List (Addr × Obj)) (s : Shared) (x1 x2 : Str) (m₀ : Str → Option Value) (P : Int → Int → Prop) (μ : Int → Int → Nat) (k : Nat) (f : Flow) (s₂ : Shared) : Prop :=
  f = .next ∧ ∃ (a b : Int) (ta tb : Tok) (h : Heap) (tk : Nat) (m' : Str → Option Value), s₂ = { s with heap := h, toks := tk } ∧ Fr h₀ L h m' ∧ (∀ z, m' z = if z = x1 then some (.int a ta) else if z = x2 then some (.int b tb) else m₀ z) ∧ News h₀ L h news ∧ P a b ∧ μ a b < k
def W2E (h₀ : Heap) (L : Addr) (news : List (Addr × Obj)) (s : Shared) (x1 x2 : Str) (m₀ : Str → Option Value) (P : Int → Int → Prop) (f : Flow) (s₂ : Shared) : Prop :=
  f = .next ∧ ∃ (a b : Int) (ta tb : Tok) (h : Heap) (tk : Nat) (m' : Str → Option Value), s₂ = { s with heap := h, toks := tk } ∧ Fr h₀ L h m' ∧ (∀ z, m' z = if z = x1 then some (.int a ta) else if z = x2 then some (.int b tb) else m₀ z) ∧ News h₀ L h news ∧ P a b
theorem map2 {x1 x2 : Str} {m₀ m' : Str → Option Value} {a b : Int} {ta tb : Tok} (e1 : m' x1 = some (.int a ta)) (e2 : m' x2 = some (.int b tb)) (eo : ∀ z, z ≠ x1 → z ≠ x2 → m' z = m₀ z) : ∀ z, m' z = if z = x1 then some (.int a ta) else if z = x2 then some (.int b tb) else m₀ z := fun z => by
  by_cases h1 : z = x1
  · subst h1; rw [if_pos rfl]; exact e1
  · rw [if_neg h1]
    by_cases h2 : z = x2
    · subst h2; rw [if_pos rfl]; exact e2
    · rw [if_neg h2]; exact eo z h1 h2
theorem W2.intro {s : Shared} {x1 x2 : Str} {m₀ m' : Str → Option Value} {P : Int → Int → Prop} {μ : Int → Int → Nat} {k : Nat} {a b : Int} {ta tb : Tok} {h : Heap} {tk : Nat} (F : Fr h₀ L h m') (N : News h₀ L h news) (e1 : m' x1 = some (.int a ta)) (e2 : m' x2 = some (.int b tb)) (eo : ∀ z, z ≠ x1 → z ≠ x2 → m' z = m₀ z)
    (hp : P a b ∧ μ a b < k) : W2 h₀ L news s x1 x2 m₀ P μ k .next { s with heap := h, toks := tk } := ⟨rfl, a, b, ta, tb, h, tk, m', rfl, F, map2 e1 e2 eo, N, hp.1, hp.2⟩
theorem W2E.intro {s : Shared} {x1 x2 : Str} {m₀ m' : Str → Option Value} {P : Int → Int → Prop} {a b : Int} {ta tb : Tok} {h : Heap} {tk : Nat} (F : Fr h₀ L h m') (N : News h₀ L h news) (e1 : m' x1 = some (.int a ta)) (e2 : m' x2 = some (.int b tb)) (eo : ∀ z, z ≠ x1 → z ≠ x2 → m' z = m₀ z)
    (hp : P a b) : W2E h₀ L news s x1 x2 m₀ P .next { s with heap := h, toks := tk } := ⟨rfl, a, b, ta, tb, h, tk, m', rfl, F, map2 e1 e2 eo, N, hp⟩
theorem while2 {test : Expr} {body : List Stmt} {pos : Pos} {m₀ : Str → Option Value} (x1 x2 : Str) (P : Int → Int → Prop) (μ : Int → Int → Nat) {a₀ b₀ : Int} {t1 t2 : Tok} (F : Fr h₀ L s.heap m₀) (N : News h₀ L s.heap news) (e1 : m₀ x1 = some (.int a₀ t1)) (e2 : m₀ x2 = some (.int b₀ t2)) (hp : P a₀ b₀)
    (turn : ∀ (a b : Int) (ta tb : Tok) (h : Heap) (tk : Nat), P a b → Fr h₀ L h (fun z => if z = x1 then some (.int a ta) else if z = x2 then some (.int b tb) else m₀ z) → News h₀ L h news →
      wpAny (model prog w) A (isTrue test env (eval test env)) (fun c s₂ => if c = true then wpAny (model prog w) A (execs body env) (W2 h₀ L news s x1 x2 m₀ P μ (μ a b)) E s₂ else Q .next s₂) E { s with heap := h, toks := tk })
    (hE : PassesOwn (model prog w) A env E := by passes_own) :
    wpAny (model prog w) A (exec (.While test body [] pos) env) Q E s := by
  refine While_inv2 (fun n m nx => nx = news ∧ ∃ (a b : Int) (ta tb : Tok), (∀ z, m z = if z = x1 then some (.int a ta) else if z = x2 then some (.int b tb) else m₀ z) ∧ P a b ∧ μ a b = n) (n₀ := μ a₀ b₀) F N ⟨rfl, a₀, b₀, t1, t2, fun z => by by_cases h1 : z = x1 <;> by_cases h2 : z = x2 <;> simp_all, hp, rfl⟩ ?_ hE
  rintro n m₁ nx h tk F₁ N₁ ⟨rfl, a, b, ta, tb, em, hp', rfl⟩
  have e1 : m₁ = fun z => if z = x1 then some (.int a ta) else if z = x2 then some (.int b tb) else m₀ z := funext em
  subst e1
  refine wpAny_mono (turn a b ta tb h tk hp' F₁ N₁) (fun c s₂ q => ?_) fun _ _ x => x
  cases c with
  | false => simpa using q
  | true =>
    simp only [if_true] at q ⊢
    refine wpAny_mono q (fun f s₃ r => ?_) fun _ _ x => x
    obtain ⟨rfl, a', b', ta', tb', h', tk', m', rfl, F', e', N', hp'', hm⟩ := r
    exact ⟨h', tk', m', nx, μ a' b', rfl, F', N', hm, rfl, a', b', ta', tb', e', hp'', rfl⟩
theorem while2x {test : Expr} {body : List Stmt} {pos : Pos} {m₀ : Str → Option Value} (x1 x2 : Str) (P P' : Int → Int → Prop) (μ : Int → Int → Nat) {a₀ b₀ : Int} {t1 t2 : Tok} (F : Fr h₀ L s.heap m₀) (N : News h₀ L s.heap news) (e1 : m₀ x1 = some (.int a₀ t1)) (e2 : m₀ x2 = some (.int b₀ t2)) (hp : P a₀ b₀)
    (turn : ∀ (a b : Int) (ta tb : Tok) (h : Heap) (tk : Nat), P a b → Fr h₀ L h (fun z => if z = x1 then some (.int a ta) else if z = x2 then some (.int b tb) else m₀ z) → News h₀ L h news →
      wpAny (model prog w) A (isTrue test env (eval test env)) (fun c s₂ => if c = true then wpAny (model prog w) A (execs body env) (W2 h₀ L news s x1 x2 m₀ P μ (μ a b)) E s₂ else W2E h₀ L news s x1 x2 m₀ P' .next s₂) E { s with heap := h, toks := tk })
    (done : ∀ (a b : Int) (ta tb : Tok) (h : Heap) (tk : Nat), P' a b → Fr h₀ L h (fun z => if z = x1 then some (.int a ta) else if z = x2 then some (.int b tb) else m₀ z) → News h₀ L h news → Q .next { s with heap := h, toks := tk })
    (hE : PassesOwn (model prog w) A env E := by passes_own) :
    wpAny (model prog w) A (exec (.While test body [] pos) env) Q E s := by
  refine wpAny_mono (while2 (Q := W2E h₀ L news s x1 x2 m₀ P') x1 x2 P μ F N e1 e2 hp turn hE) (fun f s₂ q => ?_) fun _ _ e => e
  obtain ⟨rfl, a, b, ta, tb, h, tk, m', rfl, F', e, N', hp'⟩ := q
  have : m' = fun z => if z = x1 then some (.int a ta) else if z = x2 then some (.int b tb) else m₀ z := funext e
  subst this
  exact done a b ta tb h tk hp' F' N'
end
def lens (b : Bool) : List Int := [31, if b then 29 else 28, 31, 30, 31, 30, 31, 31, 30, 31, 30, 31]
theorem ny100 {k g : Int} (hg : g = 0 ∨ g = 100 ∨ g = 200) : gday (400 * k + (g + 100)) 1 1 = gday (400 * k + g) 1 1 + (if g = 0 then 36525 else 36524) := by
  rw [gday_first, gday_first]; unfold yday
  rcases hg with rfl | rfl | rfl <;> simp <;> omega
theorem wide_per (k g : Int) : wideI (400 * k + g) = wideI g := by
  have h1 := wideI_spec (400 * k + g)
  have h2 := wideI_spec g
  rcases h1 with ⟨a1, _, a2⟩ | ⟨a1, _, a2⟩ <;> rcases h2 with ⟨b1, _, b2⟩ | ⟨b1, _, b2⟩ <;> omega
theorem ny4 {k g : Int} (hg : g % 4 = 0) : gday (400 * k + (g + 4)) 1 1 = gday (400 * k + g) 1 1 + (if wide g = true then 1461 else 1460) := by
  have e : (if wide g = true then (1461 : Int) else 1460) = 1460 + wideI g := by unfold wideI; split <;> rfl
  rw [e, ← wide_per k g, gday_first, gday_first]
  generalize hy : 400 * k + g = Y
  have hm : Y % 4 = 0 := by omega
  have a1 := yday_succ Y
  have a2 := yday_succ (Y + 1)
  have a3 := yday_succ (Y + 1 + 1)
  have a4 := yday_succ (Y + 1 + 1 + 1)
  have b1 := wideI_spec (Y + 1)
  have b2 := wideI_spec (Y + 1 + 1)
  have b3 := wideI_spec (Y + 1 + 1 + 1)
  rw [show 400 * k + (g + 4) = Y + 1 + 1 + 1 + 1 by omega]
  omega
theorem ny1 (k g : Int) : gday (400 * k + (g + 1)) 1 1 = gday (400 * k + g) 1 1 + (if wide g = true then 366 else 365) := by
  have e : (if wide g = true then (366 : Int) else 365) = 365 + wideI g := by unfold wideI; split <;> rfl
  rw [e, ← wide_per k g, gday_first, gday_first, show 400 * k + (g + 1) = 400 * k + g + 1 by omega, yday_succ]
  omega
theorem ny_w1 {k r i j : Int} (h1 : i = gday (400 * (5 + k) + j) 1 1) (h2 : 0 ≤ j) (h4 : j % 100 = 0) (hc : j + 100 ≤ r) (hz : j = 0) : (i + 36525 = gday (400 * (5 + k) + (j + 100)) 1 1 ∧ 0 ≤ j + 100 ∧ j + 100 ≤ r ∧ (j + 100) % 100 = 0) ∧ (400 - (j + 100)).toNat < (400 - j).toNat := by
  rw [ny100 (by omega), if_pos hz, ← h1]; omega
theorem ny_w2 {k r i j : Int} (h1 : i = gday (400 * (5 + k) + j) 1 1) (h2 : 0 ≤ j) (h4 : j % 100 = 0) (hr : r < 400) (hc : j + 100 ≤ r) (hz : j ≠ 0) : (i + 36524 = gday (400 * (5 + k) + (j + 100)) 1 1 ∧ 0 ≤ j + 100 ∧ j + 100 ≤ r ∧ (j + 100) % 100 = 0) ∧ (400 - (j + 100)).toNat < (400 - j).toNat := by
  rw [ny100 (by omega), if_neg hz, ← h1]; omega
theorem ny_w3 {k r i j : Int} (h1 : i = gday (400 * (5 + k) + j) 1 1) (h2 : 0 ≤ j) (h4 : j % 4 = 0) (hr : r < 400) (hc : j + 4 ≤ r) (hz : wide j = true) : (i + 1461 = gday (400 * (5 + k) + (j + 4)) 1 1 ∧ 0 ≤ j + 4 ∧ j + 4 ≤ r ∧ (j + 4) % 4 = 0) ∧ (400 - (j + 4)).toNat < (400 - j).toNat := by
  rw [ny4 h4, if_pos hz, ← h1]; omega
theorem ny_w4 {k r i j : Int} (h1 : i = gday (400 * (5 + k) + j) 1 1) (h2 : 0 ≤ j) (h4 : j % 4 = 0) (hr : r < 400) (hc : j + 4 ≤ r) (hz : wide j = false) : (i + 1460 = gday (400 * (5 + k) + (j + 4)) 1 1 ∧ 0 ≤ j + 4 ∧ j + 4 ≤ r ∧ (j + 4) % 4 = 0) ∧ (400 - (j + 4)).toNat < (400 - j).toNat := by
  rw [ny4 h4, if_neg (by rw [hz]; decide), ← h1]; omega
theorem ny_w5 {k r i j : Int} (h1 : i = gday (400 * (5 + k) + j) 1 1) (h2 : 0 ≤ j) (hr : r < 400) (hc : j < r) (hz : wide j = true) : (i + 366 = gday (400 * (5 + k) + (j + 1)) 1 1 ∧ 0 ≤ j + 1 ∧ j + 1 ≤ r) ∧ (400 - (j + 1)).toNat < (400 - j).toNat := by
  rw [ny1, if_pos hz, ← h1]; omega
theorem ny_w6 {k r i j : Int} (h1 : i = gday (400 * (5 + k) + j) 1 1) (h2 : 0 ≤ j) (hr : r < 400) (hc : j < r) (hz : wide j = false) : (i + 365 = gday (400 * (5 + k) + (j + 1)) 1 1 ∧ 0 ≤ j + 1 ∧ j + 1 ≤ r) ∧ (400 - (j + 1)).toNat < (400 - j).toNat := by
  rw [ny1, if_neg (by rw [hz]; decide), ← h1]; omega
theorem news_drop1 {h₀ h : Heap} {L : Addr} {x : Addr × Obj} {news : List (Addr × Obj)} (N : News h₀ L h (x :: news)) : News h₀ L h ([] ++ news) := fun p hp => N _ (.tail _ hp)
theorem fm (y n : Int) (h : 0 < n) : y.fmod n = y % n := Int.fmod_eq_emod_of_nonneg _ (by omega)
theorem oy0 (k : Int) : 2451558 + 1461 * k = jfirst (4 * (500 + k) + ((0 : Nat) : Int)) := by unfold jfirst; omega
theorem oy_split (y : Int) : ∃ k r : Int, ((y - 2000).fdiv 4 = k ∧ (y - 2000).fmod 4 = r) ∧ 0 ≤ r ∧ r < 4 ∧ y = 4 * (500 + k) + r := by
  refine ⟨_, _, ⟨rfl, rfl⟩, ?_⟩
  rw [fm _ _ (by decide), Int.fdiv_eq_ediv_of_nonneg _ (by decide)]
  omega
theorem ny_split (y : Int) : ∃ k r : Int, ((y - 2000).fdiv 400 = k ∧ (y - 2000).fmod 400 = r) ∧ 0 ≤ r ∧ r < 400 ∧ y = 400 * (5 + k) + r := by
  refine ⟨_, _, ⟨rfl, rfl⟩, ?_⟩
  rw [fm _ _ (by decide), Int.fdiv_eq_ediv_of_nonneg _ (by decide)]
  omega
theorem ny0 (k : Int) : 2451545 + 146097 * k = gday (400 * (5 + k) + 0) 1 1 := by rw [gday_first]; unfold yday; omega
def sideOf (i j : Int) : Int := if i = j then 0 else if i < j then 1 else -1
def partOf (i j k : Int) : Int := if i < j then -1 else if i < k then 0 else 1
theorem lw1 {y : Int} (h : y.fmod 400 = 0) : true = wide y := by
  rw [fm _ _ (by decide)] at h
  exact ((wide_iff y).mpr (by omega)).symm
theorem lw2 {y : Int} (h : y.fmod 400 ≠ 0) (h2 : y.fmod 4 = 0) : (y.fmod 100 != 0) = wide y := by
  have hw := wide_iff y
  rw [fm _ _ (by decide)] at h h2 ⊢
  cases hb : wide y with
  | true => rw [hb] at hw; have := hw.mp rfl; simp; omega
  | false =>
    rw [hb] at hw
    have : ¬ (y % 4 = 0 ∧ (y % 100 ≠ 0 ∨ y % 400 = 0)) := fun q => by have := hw.mpr q; cases this
    simp; omega
theorem lw3 {y : Int} (h : y.fmod 400 ≠ 0) (h2 : y.fmod 4 ≠ 0) : (y.fmod 4 == 0) = wide y := by
  have hw := wide_iff y
  rw [fm _ _ (by decide)] at h h2 ⊢
  cases hb : wide y with
  | true => rw [hb] at hw; have := hw.mp rfl; omega
  | false => simp; omega
section
variable {prog : Program} {w : World} {p : Program} {loose : List Str} {mean : ExcName → Option Value} {mg mb : Str → Option Value}
set_option maxHeartbeats 8000000 in
theorem law_jd_calls (n : Int) (t : Tok) (hn1 : -500000000 ≤ n) (hn2 : n ≤ 500000000) : Calls prog w p loose mean mg mb 1 645 [.int n t] (fun v tl => (∃ x t, v = .float x t ∧ J x n) ∧ tl = []) (fun _ => False) := by
  unfold Calls; intro dp un gd cn cs a ccd cl outer A₀ base h₀ L fm news s Q E hB hF hK hN hT hk hd hu hret hexc
  refine wpAny_call ?_
  k_dflt (refine' code_def (binds := [(PySem.Str.ofString "number", .int n t)]) ?k1 ?k2 ?k3 ?k4 ?k5 ?kA ?kF ?kK ?k6 ?k7 ?k8 ?k9 ?kB ?_ ?c2 ?c3 ?c4 ?c5; (case kA => exact rfl); (case kF => exact rfl); (case kK => exact hk); (case k1 => exact hB); (case k2 => exact hF); (case k3 => exact hK); (case k4 => exact hN); (case k5 => exact hT); (case k6 => k_is); (case k7 => k_is); (case k8 => ktr_room); (case k9 => exact BindsTo.of_eq rfl); (case c5 => decide); (case kB => exact locs rfl); (case c2 => exact rfl); (case c3 => exact rfl); (case c4 => exact rfl); k_whole)
  intro g₁ L₁ h₁ FG F₁ N₁ B₁ X₁ T₁
  clear hB hF hN hT
  (try dsimp only)
  dsimp only [List.reverse, List.reverseAux] at F₁
  (try k_fold)
  k_steps
  all_goals (refine hret _ [] _ _ ⟨⟨_, _, rfl, ?_⟩, rfl⟩ (fun _ _ _ h => nomatch h) (by k_asm) (by k_asm))
  all_goals exact J.of (Dv.half (by with_reducible assumption)) (by omega)
set_option maxHeartbeats 8000000 in
theorem law_wide_calls (y : Int) (t : Tok) : Calls prog w p loose mean mg mb 1 659 [.int y t] (fun v tl => v = .bool (wide y) ∧ tl = []) (fun _ => False) := by
  unfold Calls; intro dp un gd cn cs a ccd cl outer A₀ base h₀ L fm news s Q E hB hF hK hN hT hk hd hu hret hexc
  refine wpAny_call ?_
  k_dflt (refine' code_def (binds := [(PySem.Str.ofString "year", .int y t)]) ?k1 ?k2 ?k3 ?k4 ?k5 ?kA ?kF ?kK ?k6 ?k7 ?k8 ?k9 ?kB ?_ ?c2 ?c3 ?c4 ?c5; (case kA => exact rfl); (case kF => exact rfl); (case kK => exact hk); (case k1 => exact hB); (case k2 => exact hF); (case k3 => exact hK); (case k4 => exact hN); (case k5 => exact hT); (case k6 => k_is); (case k7 => k_is); (case k8 => ktr_room); (case k9 => exact BindsTo.of_eq rfl); (case c5 => decide); (case kB => exact locs rfl); (case c2 => exact rfl); (case c3 => exact rfl); (case c4 => exact rfl); k_whole)
  intro g₁ L₁ h₁ FG F₁ N₁ B₁ X₁ T₁
  clear hB hF hN hT
  (try dsimp only)
  dsimp only [List.reverse, List.reverseAux] at F₁
  (try k_fold)
  k_steps
  all_goals (refine hret _ [] _ _ ⟨congrArg Value.bool ?_, rfl⟩ (fun _ _ _ h => nomatch h) (by k_asm) (by k_asm))
  all_goals first | with_reducible exact lw1 (by with_reducible assumption) | with_reducible exact lw2 (by with_reducible assumption) (by with_reducible assumption) | with_reducible exact lw3 (by with_reducible assumption) (by with_reducible assumption)
set_option maxHeartbeats 8000000 in
theorem law_side_calls (i j : Int) (t t1 : Tok) : Calls prog w p loose mean mg mb 1 715 [.int i t, .int j t1] (fun v tl => (∃ t, v = .int (sideOf i j) t) ∧ tl = []) (fun _ => False) := by
  unfold Calls; intro dp un gd cn cs a ccd cl outer A₀ base h₀ L fm news s Q E hB hF hK hN hT hk hd hu hret hexc
  refine wpAny_call ?_
  k_dflt (refine' code_def (binds := [(PySem.Str.ofString "here", .int i t), (PySem.Str.ofString "there", .int j t1)]) ?k1 ?k2 ?k3 ?k4 ?k5 ?kA ?kF ?kK ?k6 ?k7 ?k8 ?k9 ?kB ?_ ?c2 ?c3 ?c4 ?c5; (case kA => exact rfl); (case kF => exact rfl); (case kK => exact hk); (case k1 => exact hB); (case k2 => exact hF); (case k3 => exact hK); (case k4 => exact hN); (case k5 => exact hT); (case k6 => k_is); (case k7 => k_is); (case k8 => ktr_room); (case k9 => exact BindsTo.of_eq rfl); (case c5 => decide); (case kB => exact locs rfl); (case c2 => exact rfl); (case c3 => exact rfl); (case c4 => exact rfl); k_whole)
  intro g₁ L₁ h₁ FG F₁ N₁ B₁ X₁ T₁
  clear hB hF hN hT
  (try dsimp only)
  dsimp only [List.reverse, List.reverseAux] at F₁
  (try k_fold)
  k_steps
  all_goals (refine hret _ [] _ _ ⟨⟨_, congrArg (fun z => Value.int z _) ?_⟩, rfl⟩ (fun _ _ _ h => nomatch h) (by k_asm) (by k_asm))
  all_goals (clear hret hexc; unfold sideOf; (repeat' split) <;> omega)
set_option maxHeartbeats 8000000 in
theorem law_part_calls (i j k : Int) (t t1 t2 : Tok) : Calls prog w p loose mean mg mb 1 722 [.int i t, .int j t1, .int k t2] (fun v tl => (∃ t, v = .int (partOf i j k) t) ∧ tl = []) (fun _ => False) := by
  unfold Calls; intro dp un gd cn cs a ccd cl outer A₀ base h₀ L fm news s Q E hB hF hK hN hT hk hd hu hret hexc
  refine wpAny_call ?_
  k_dflt (refine' code_def (binds := [(PySem.Str.ofString "number", .int i t), (PySem.Str.ofString "first", .int j t1), (PySem.Str.ofString "behind", .int k t2)]) ?k1 ?k2 ?k3 ?k4 ?k5 ?kA ?kF ?kK ?k6 ?k7 ?k8 ?k9 ?kB ?_ ?c2 ?c3 ?c4 ?c5; (case kA => exact rfl); (case kF => exact rfl); (case kK => exact hk); (case k1 => exact hB); (case k2 => exact hF); (case k3 => exact hK); (case k4 => exact hN); (case k5 => exact hT); (case k6 => k_is); (case k7 => k_is); (case k8 => ktr_room); (case k9 => exact BindsTo.of_eq rfl); (case c5 => decide); (case kB => exact locs rfl); (case c2 => exact rfl); (case c3 => exact rfl); (case c4 => exact rfl); k_whole)
  intro g₁ L₁ h₁ FG F₁ N₁ B₁ X₁ T₁
  clear hB hF hN hT
  (try dsimp only)
  dsimp only [List.reverse, List.reverseAux] at F₁
  (try k_fold)
  k_steps
  all_goals (refine hret _ [] _ _ ⟨⟨_, congrArg (fun z => Value.int z _) ?_⟩, rfl⟩ (fun _ _ _ h => nomatch h) (by k_asm) (by k_asm))
  all_goals (clear hret hexc; unfold partOf; (repeat' split) <;> omega)
set_option maxHeartbeats 8000000 in
theorem law_lengths_calls (b : Bool) : Calls prog w p loose mean mg mb 1 666 [.bool b] (fun v tl => ∃ a vs c, IntsAre vs (lens b) ∧ v = .ref a ∧ tl = [(a, listOf vs.toArray c)]) (fun _ => False) := by
  unfold Calls; intro dp un gd cn cs a ccd cl outer A₀ base h₀ L fm news s Q E hB hF hK hN hT hk hd hu hret hexc
  refine wpAny_call ?_
  k_dflt (refine' code_def (binds := [(PySem.Str.ofString "wide", .bool b)]) ?k1 ?k2 ?k3 ?k4 ?k5 ?kA ?kF ?kK ?k6 ?k7 ?k8 ?k9 ?kB ?_ ?c2 ?c3 ?c4 ?c5; (case kA => exact rfl); (case kF => exact rfl); (case kK => exact hk); (case k1 => exact hB); (case k2 => exact hF); (case k3 => exact hK); (case k4 => exact hN); (case k5 => exact hT); (case k6 => k_is); (case k7 => k_is); (case k8 => ktr_room); (case k9 => exact BindsTo.of_eq rfl); (case c5 => decide); (case kB => exact locs rfl); (case c2 => exact rfl); (case c3 => exact rfl); (case c4 => exact rfl); k_whole)
  intro g₁ L₁ h₁ FG F₁ N₁ B₁ X₁ T₁
  clear hB hF hN hT
  (try dsimp only)
  dsimp only [List.reverse, List.reverseAux] at F₁
  (try k_fold)
  k_steps
  all_goals (refine hret _ [_] _ _ ⟨_, _, _, ?_, rfl, rfl⟩ (fresh_of (by walk_at "M fresh")) (by k_asm) (by k_asm))
  all_goals (unfold lens; subst b; (repeat' constructor))
local macro_rules | `(tactic| walk_at "call ref") => `(tactic| (k_here; (with_reducible show wpAny _ _ (call (Value.ref 659) _) _ _ _); (with_reducible refine' calls_use (law_wide_calls _ _) ?kA ?k1 ?k2 ?k3 ?k4 ?k5 ?kK ?kd ?ku ?_ ?kx); k_dflt ((case kA => exact rfl); (case k1 => k_asm); (case k2 => k_asm); (case k3 => k_asm); (case k4 => k_asm); (case k5 => k_asm); (case kK => first | exact rfl | assumption); (case kd => walk_at "M room"); (case ku => walk_at "M room"); (case kx => intro _ _ _ _ _ hX; exact hX.elim)); intro v' tl' h' tk' hR' l' F' N'; obtain ⟨e1, e2⟩ := hR'; subst e1; subst e2; (try dsimp only [List.nil_append] at N' ⊢); (try k_sweep)))
set_option maxHeartbeats 8000000 in
theorem law_new_year_calls (y : Int) (t : Tok) (hy1 : -600000 ≤ y) (hy2 : y ≤ 600000) : Calls prog w p loose mean mg mb 2 673 [.int y t] (fun v tl => (∃ t, v = .int (gday y 1 1) t) ∧ tl = []) (fun _ => False) := by
  unfold Calls; intro dp un gd cn cs a ccd cl outer A₀ base h₀ L fm news s Q E hB hF hK hN hT hk hd hu hret hexc
  refine wpAny_call ?_
  k_dflt (refine' code_def (binds := [(PySem.Str.ofString "year", .int y t)]) ?k1 ?k2 ?k3 ?k4 ?k5 ?kA ?kF ?kK ?k6 ?k7 ?k8 ?k9 ?kB ?_ ?c2 ?c3 ?c4 ?c5; (case kA => exact rfl); (case kF => exact rfl); (case kK => exact hk); (case k1 => exact hB); (case k2 => exact hF); (case k3 => exact hK); (case k4 => exact hN); (case k5 => exact hT); (case k6 => k_is); (case k7 => k_is); (case k8 => ktr_room); (case k9 => exact BindsTo.of_eq rfl); (case c5 => decide); (case kB => exact locs rfl); (case c2 => exact rfl); (case c3 => exact rfl); (case c4 => exact rfl); k_whole)
  intro g₁ L₁ h₁ FG F₁ N₁ B₁ X₁ T₁
  clear hB hF hN hT
  (try dsimp only)
  dsimp only [List.reverse, List.reverseAux] at F₁
  (try k_fold)
  obtain ⟨k, r, hk, hr1, hr2, hy3⟩ := ny_split y
  repeat ((fail_if_success (with_reducible show wpAny _ _ (exec (Stmt.While _ _ _ _) _) _ _ _)); walk_at "M step")
  rw [hk.1, hk.2] at *
  refine while2x (PySem.Str.ofString "number") (PySem.Str.ofString "gone") (fun a b => a = gday (400 * (5 + k) + b) 1 1 ∧ 0 ≤ b ∧ b ≤ r ∧ b % 100 = 0) (fun a b => a = gday (400 * (5 + k) + b) 1 1 ∧ 0 ≤ b ∧ b ≤ r ∧ b % 4 = 0) (fun _ b => (400 - b).toNat) (by assumption) (by assumption) rfl rfl ⟨ny0 k, by omega, by omega, by omega⟩ ?_ ?_
  · intro i j ti tj h₂ tk₂ hP F₂ N₂
    obtain ⟨hP1, hP2, hP3, hP4⟩ := hP
    k_steps
    all_goals first
      | (refine W2.intro (by assumption) (by assumption) rfl rfl (fun z h1 h2 => by simp only [if_neg h1, if_neg h2]) ?_; first | with_reducible exact ny_w1 hP1 hP2 hP4 (by with_reducible assumption) (by with_reducible assumption) | with_reducible exact ny_w2 hP1 hP2 hP4 hr2 (by with_reducible assumption) (by with_reducible assumption))
      | (refine W2E.intro (by assumption) (by assumption) rfl rfl (fun z h1 h2 => by simp only [if_neg h1, if_neg h2]) ⟨hP1, hP2, hP3, by omega⟩)
  intro i₁ j₁ ti₁ tj₁ h₂ tk₂ hP F₂ N₂
  obtain ⟨hP1, hP2, hP3, hP4⟩ := hP
  (try dsimp only)
  repeat ((fail_if_success (with_reducible show wpAny _ _ (exec (Stmt.While _ _ _ _) _) _ _ _)); walk_at "M step")
  refine while2x (PySem.Str.ofString "number") (PySem.Str.ofString "gone") (fun a b => a = gday (400 * (5 + k) + b) 1 1 ∧ 0 ≤ b ∧ b ≤ r ∧ b % 4 = 0) (fun a b => a = gday (400 * (5 + k) + b) 1 1 ∧ 0 ≤ b ∧ b ≤ r) (fun _ b => (400 - b).toNat) (by assumption) (by assumption) rfl rfl ⟨hP1, hP2, hP3, hP4⟩ ?_ ?_
  · intro i j ti tj h₂ tk₂ hP F₂ N₂
    obtain ⟨hP1, hP2, hP3, hP4⟩ := hP
    k_steps
    all_goals first
      | (refine W2.intro (by assumption) (by assumption) rfl rfl (fun z h1 h2 => by simp only [if_neg h1, if_neg h2]) ?_; first | with_reducible exact ny_w3 hP1 hP2 hP4 hr2 (by with_reducible assumption) (by with_reducible assumption) | with_reducible exact ny_w4 hP1 hP2 hP4 hr2 (by with_reducible assumption) (by with_reducible assumption))
      | (refine W2E.intro (by assumption) (by assumption) rfl rfl (fun z h1 h2 => by simp only [if_neg h1, if_neg h2]) ⟨hP1, hP2, hP3⟩)
  clear F₂ N₂ hP1 hP2 hP3 hP4
  intro i₂ j₂ ti₂ tj₂ h₃ tk₃ hP F₃ N₃
  obtain ⟨hP1, hP2, hP3⟩ := hP
  (try dsimp only)
  repeat ((fail_if_success (with_reducible show wpAny _ _ (exec (Stmt.While _ _ _ _) _) _ _ _)); walk_at "M step")
  refine while2x (PySem.Str.ofString "number") (PySem.Str.ofString "gone") (fun a b => a = gday (400 * (5 + k) + b) 1 1 ∧ 0 ≤ b ∧ b ≤ r) (fun a b => a = gday (400 * (5 + k) + b) 1 1 ∧ b = r) (fun _ b => (400 - b).toNat) (by assumption) (by assumption) rfl rfl ⟨hP1, hP2, hP3⟩ ?_ ?_
  · intro i j ti tj h₂ tk₂ hP F₂ N₂
    obtain ⟨hP1, hP2, hP3⟩ := hP
    k_steps
    all_goals first
      | (refine W2.intro (by assumption) (by assumption) rfl rfl (fun z h1 h2 => by simp only [if_neg h1, if_neg h2]) ?_; first | with_reducible exact ny_w5 hP1 hP2 hr2 (by with_reducible assumption) (by with_reducible assumption) | with_reducible exact ny_w6 hP1 hP2 hr2 (by with_reducible assumption) (by with_reducible assumption))
      | (refine W2E.intro (by assumption) (by assumption) rfl rfl (fun z h1 h2 => by simp only [if_neg h1, if_neg h2]) ⟨hP1, by omega⟩)
  clear F₃ N₃ hP1 hP2 hP3
  intro i₃ j₃ ti₃ tj₃ h₄ tk₄ hP F₄ N₄
  obtain ⟨hP1, hP2⟩ := hP
  (try dsimp only)
  k_steps
  all_goals (refine hret _ [] _ _ ⟨⟨_, congrArg (fun z => Value.int z _) (by rw [hP1, hP2, hy3])⟩, rfl⟩ (fun _ _ _ h => nomatch h) (by k_asm) (news_drop1 (by k_asm)))
set_option maxHeartbeats 8000000 in
theorem law_old_new_year_calls (y : Int) (t : Tok) (hy1 : -600000 ≤ y) (hy2 : y ≤ 600000) : Calls prog w p loose mean mg mb 2 680 [.int y t] (fun v tl => (∃ t, v = .int (jfirst y) t) ∧ tl = []) (fun _ => False) := by
  unfold Calls; intro dp un gd cn cs a ccd cl outer A₀ base h₀ L fm news s Q E hB hF hK hN hT hk hd hu hret hexc
  refine wpAny_call ?_
  k_dflt (refine' code_def (binds := [(PySem.Str.ofString "year", .int y t)]) ?k1 ?k2 ?k3 ?k4 ?k5 ?kA ?kF ?kK ?k6 ?k7 ?k8 ?k9 ?kB ?_ ?c2 ?c3 ?c4 ?c5; (case kA => exact rfl); (case kF => exact rfl); (case kK => exact hk); (case k1 => exact hB); (case k2 => exact hF); (case k3 => exact hK); (case k4 => exact hN); (case k5 => exact hT); (case k6 => k_is); (case k7 => k_is); (case k8 => ktr_room); (case k9 => exact BindsTo.of_eq rfl); (case c5 => decide); (case kB => exact locs rfl); (case c2 => exact rfl); (case c3 => exact rfl); (case c4 => exact rfl); k_whole)
  intro g₁ L₁ h₁ FG F₁ N₁ B₁ X₁ T₁
  clear hB hF hN hT
  (try dsimp only)
  dsimp only [List.reverse, List.reverseAux] at F₁
  (try k_fold)
  obtain ⟨k, r, hk, hr1, hr2, hy3⟩ := oy_split y
  repeat ((fail_if_success (with_reducible show wpAny _ _ (exec (Stmt.For _ _ _ _ _) _) _ _ _)); walk_at "M step")
  rw [hk.1, hk.2] at *
  clear hk
  have hrs : Builtin.Range.small 0 r 1 = true ∧ Builtin.Range.rangeSize 0 r 1 = (r.toNat : Int) := by
    have hr : r = 0 ∨ r = 1 ∨ r = 2 ∨ r = 3 := by omega
    rcases hr with rfl | rfl | rfl | rfl <;> decide
  repeat ((fail_if_success (with_reducible show wpAny _ _ (pyIter (Value.ref _)) _ _ _)); walk_at "M step")
  refine iter_range1 (PySem.Str.ofString "number") (fun i a => a = jfirst (4 * (500 + k) + i)) (by assumption) hrs.1 hrs.2 (by assumption) (by assumption) rfl (by decide) rfl (oy0 k) ?_ ?_
  · intro i ti a ta h₂ tk₂ own hi hP hoff F₂ N₂
    k_steps
    all_goals (refine R1.intro (by assumption) (by assumption) rfl (fun z h1 h2 => by simp only [if_neg h1, if_neg h2]) ?_)
    all_goals (clear hret hexc; rw [hP]; unfold jfirst; omega)
  · intro u a ta h₂ tk₂ hP F₂ N₂
    (try dsimp only)
    k_steps
    all_goals (refine hret _ [] _ _ ⟨⟨_, congrArg (fun z => Value.int z _) (by rw [hP]; congr 1; omega)⟩, rfl⟩ (fun _ _ _ h => nomatch h) (by k_asm) (by walk_at "M news"))
end

end
section
theorem off_C8 : True := by
  w_top off
  trivial
end
section
def DayAt (a : Addr) : Prop := a ∈ [364, 367, 370, 373, 376, 379, 382]
section
variable {prog : Program} {w : World} {A : Around} {E : Value → Shared → Prop} {s : Shared}
theorem days_item {value slice : Expr} {K : Frag} {h₀ : Heap} {L : Addr} {m : Str → Option Value} {n : Nat} {dd : Option Addr} {sl : Array (Option Value)} {k : Int} {u : Tok} {Q : Value → Shared → Prop} (F : Fr h₀ L s.heap m) (X : K.In h₀)
    (hl : K.lookup 383 = some ⟨.type "tuple", dd, .seq [.ref 364, .ref 367, .ref 370, .ref 373, .ref 376, .ref 379, .ref 382].toArray n, sl⟩) (h1 : 0 ≤ k) (h2 : k < 7) (h : ∀ a, DayAt a → Q (.ref a) s)
    (hs : subscripted slice false (.ref 383) (.int k u) = operate [.ref 383, .int k u] (getItem (.ref 383) (.int k u)) := by with_unfolding_all rfl) (hg : ∀ r, letTemporaryGo value (.ref 383) r = pure () := by intro _; with_unfolding_all rfl) :
    wpAny (model prog w) A (subscriptTail value slice (.ref 383) (.int k u)) Q E s := by
  have ht := tupK (X.keeps F.keep) hl
  have : k = 0 ∨ k = 1 ∨ k = 2 ∨ k = 3 ∨ k = 4 ∨ k = 5 ∨ k = 6 := by omega
  rcases this with rfl | rfl | rfl | rfl | rfl | rfl | rfl <;> exact item_tuple ht (by decide) (by decide) rfl rfl (h _ (by unfold DayAt; decide)) hs hg
end
section
variable {prog : Program} {w : World} {p : Program} {loose : List Str} {mean : ExcName → Option Value} {mg mb : Str → Option Value}
local macro_rules | `(tactic| walk_at "call type:datetime.date") => `(tactic| (k_here; (with_reducible refine' dt_K ?kF ?kN ?kh ?q1 ?q2 ?q3 ?q4 ?q5 ?q6 ?_ ?_); k_dflt ((case kF => k_asm); (case kN => k_asm); (case kh => exact rfl); (case q1 => walk_at "M om"); (case q2 => walk_at "M om"); (case q3 => walk_at "M om"); (case q4 => walk_at "M om"); (case q5 => walk_at "M om"); (case q6 => walk_at "M om")); (first | (intro hok d' h' tk' u1' u2' u3' F' N' l'; (try k_sweep)) | (intro hbad h' tk' e' hx'))))
local macro_rules | `(tactic| walk_at "getMethod ref") => `(tactic| (k_here; (with_reducible show wpAny _ _ (getMethod (Value.ref _) (Str.ofString "weekday") _) _ _ _); (with_reducible refine' dt_get ?kN ?km dt_slot_wd dt_type_wd ?kc ?kd ?_); k_dflt ((case kN => k_asm); (case km => news_mem); (case kc => exact rfl); (case kd => exact rfl))))
local macro_rules | `(tactic| walk_at "getMethod ref") => `(tactic| (k_here; (with_reducible show wpAny _ _ (getMethod (Value.ref _) (Str.ofString "isocalendar") _) _ _ _); (with_reducible refine' dt_get ?kN ?km dt_slot_ic dt_type_ic ?kc ?kd ?_); k_dflt ((case kN => k_asm); (case km => news_mem); (case kc => exact rfl); (case kd => exact rfl))))
local macro_rules | `(tactic| walk_at "call builtin:datetime.date.weekday") => `(tactic| (k_here; (with_reducible refine' wd_K ?kN ?km ?_); k_dflt ((case kN => k_asm); (case km => news_mem)); intro k' t' tk' b1' b2'))
local macro_rules | `(tactic| walk_at "call builtin:datetime.date.isocalendar") => `(tactic| (k_here; (with_reducible refine' ic_K ?kF ?kN ?km ?_); k_dflt ((case kF => k_asm); (case kN => k_asm); (case km => news_mem)); intro d' h' tk' o' F' N' l'; (try k_sweep)))
local macro_rules | `(tactic| walk_at "call type:datetime.date") => `(tactic| (k_here; (with_reducible refine' dt_KG ?kF ?kN ?kh ?q1 ?q2 ?q3 ?q4 ?_); k_dflt ((case kF => k_asm); (case kN => k_asm); (case kh => exact rfl); (case q1 => walk_at "M om"); (case q2 => walk_at "M om"); (case q3 => walk_at "M om"); (case q4 => walk_at "M om")); (intro d' h' tk' u1' u2' u3' F' N' l'; (try k_sweep))))
local macro_rules | `(tactic| walk_at "subscriptTail") => `(tactic| (k_here; (with_reducible refine' days_item ?F ?X ?l ?i ?i2 ?_); k_dflt ((case F => k_asm); (case X => k_asm); (case l => k_is); (case i => walk_at "M om"); (case i2 => walk_at "M om")); intro a' ha'))
set_option maxHeartbeats 8000000 in
theorem weekday_calls (y m : Int) (t t1 t2 : Tok) (hy1 : -1000000 ≤ y) (hy2 : y ≤ 1000000) (hm1 : 1 ≤ m) (hm2 : m ≤ 12) : Calls prog w p loose mean mg mb 1 398 [.int y t, .int m t1, .int 1 t2] (fun v tl => (∃ a, v = .ref a ∧ DayAt a) ∧ tl = []) (fun _ => False) := by
  unfold Calls; intro dp un gd cn cs a ccd cl outer A₀ base h₀ L fm news s Q E hB hF hK hN hT hk hd hu hret hexc
  refine wpAny_call ?_
  k_dflt (refine' code_def (binds := [(PySem.Str.ofString "year", .int y t), (PySem.Str.ofString "month", .int m t1), (PySem.Str.ofString "day", .int 1 t2)]) ?k1 ?k2 ?k3 ?k4 ?k5 ?kA ?kF ?kK ?k6 ?k7 ?k8 ?k9 ?kB ?_ ?c2 ?c3 ?c4 ?c5; (case kA => exact rfl); (case kF => exact rfl); (case kK => exact hk); (case k1 => exact hB); (case k2 => exact hF); (case k3 => exact hK); (case k4 => exact hN); (case k5 => exact hT); (case k6 => k_is); (case k7 => k_is); (case k8 => ktr_room); (case k9 => exact BindsTo.of_eq rfl); (case c5 => decide); (case kB => exact locs rfl); (case c2 => exact rfl); (case c3 => exact rfl); (case c4 => exact rfl); k_whole)
  intro g₁ L₁ h₁ FG F₁ N₁ B₁ X₁ T₁
  clear hB hF hN hT
  (try dsimp only)
  dsimp only [List.reverse, List.reverseAux] at F₁
  (try k_fold)
  have hf1 : 0 ≤ y.fmod 400 := by rw [Mine.fm _ _ (by decide)]; omega
  have hf2 : y.fmod 400 < 400 := by rw [Mine.fm _ _ (by decide)]; omega
  k_steps
  all_goals (refine hret _ [] _ _ ⟨⟨_, rfl, ?_⟩, rfl⟩ (fun _ _ _ h => nomatch h) (by k_asm) (by walk_at "M news"))
  all_goals assumption
theorem ns_some_of {K : Frag} {h : Heap} {N : Addr} {mg : Str → Option Value} {n : Str} {v : Value} (X : K.In h) (G : h.Ns N mg) (e : nsIn K N n = some (some v)) : mg n = some v := by
  obtain ⟨o, es, ep, ho, hd, _, hf⟩ := G
  unfold nsIn at e
  split at e
  · rename_i c d es' n' sl q
    have := X _ _ q
    rw [ho] at this
    cases this
    cases hd
    split at e
    · rename_i en he
      cases e
      rw [← hf]
      unfold nsFind findBy
      rw [← Array.find?_toList, he]
      rfl
    · split at e <;> cases e
  · cases e
theorem nsOk_of {K : Frag} {N : Addr} {c : Value} {d : Option Addr} {es : Array DictEntry} {n : Nat} {sl : Array (Option Value)} (hl : K.lookup N = some ⟨c, d, .dict es n, sl⟩)
    (hk : (es.toList.all fun e => match e.key with | .str _ _ => true | _ => false) = true) : nsOkIn K N = true := by
  unfold nsOkIn; rw [hl]; dsimp only; rw [← Array.all_toList]; exact hk
theorem fr_keeping {g h h' : Heap} {L x : Addr} {m : Str → Option Value} (F : Fr g L h m) (hx : x ≠ L) (hg : g.get? x = none) (hk : ∀ b o, b ≠ x → h.get? b = some o → h'.get? b = some o) : Fr g L h' m := by
  obtain ⟨⟨o, a1, a2, hL, a3⟩, k, ab⟩ := F
  exact ⟨⟨o, a1, a2, hk _ _ hx.symm hL, a3⟩, fun b o e => hk _ _ (fun z => by rw [z, hg] at e; cases e) (k b o e), ab⟩
set_option maxHeartbeats 8000000 in
theorem ime_new (m : Int) (t : Tok) {dp un : Nat} {gd : Option (List Code)} {cn : Str} {cs : Scope} {a : Addr} {ccd : Value} {cl : List (Str × Addr)} {outer : List Env} {A A₀ : Around} {base h₀ : Heap} {L : Addr} {fm : Str → Option Value} {news : List (Addr × Obj)} {s : Shared} {Q E : Value → Shared → Prop}
    (hA : A = ktrTop dp un gd cn cs L a ccd cl outer) (hB : Below A₀ base outer h₀) (hF : Fr h₀ L s.heap fm) (hK : (hd.heap_39 w.params).In h₀) (hN : News h₀ L s.heap news) (hT : Top p loose mean mg mb h₀) (hk : cs.kind = .function)
    (hd : dp + 2 < recursionLimit) (hu : un + 16 < cLine)
    (hQ : ∀ x ob tp h' tk', ob.cls = .ref 95 → ob.data = .fields #[tp, .none, .none, .none, .bool false, .none] → (∀ q ∈ news, q.1 < x) → Fr h₀ L h' fm → News h₀ L h' ((x, ob) :: news) → Q (.ref x) { s with heap := h', toks := tk' }) :
    wpAny (model prog w) A (call (.ref 95) [.int m t]) Q E s := by
  subst hA
  obtain ⟨hp, gs, dr, tk, os⟩ := s
  have XK := hK.keeps hF.keep
  have hlt : ∀ q ∈ news, q.1 < hp.objs.size + 1 := fun q hq => Nat.lt_succ_of_lt (Heap.lt_size (hN q hq).1)
  have hi : nsIn (Mine.hd.heap_39 w.params) 94 "__init__" = some (some (.ref 85)) := by k_is
  have hsa : nsIn (Mine.hd.heap_39 w.params) 94 "__setattr__" = some none := by k_is
  have hmo : nsIn (Mine.hd.heap_39 w.params) 94 "month" = some none := by k_is
  have ok94 : nsOkIn (Mine.hd.heap_39 w.params) 94 = true := by
    refine' nsOk_of ?k1 ?k2
    case k1 => k_is
    case k2 => rfl
  have NS : hp.Ns 94 (hp.nsMap 94) := .of_isNs (isNs_of_in XK ok94)
  obtain ⟨o85, h85, hc85⟩ : ∃ o, (Mine.hd.heap_39 w.params).lookup 85 = some o ∧ o.cls = .type "function" := by
    refine ⟨_, by k_is, ?_⟩
    rfl
  refine' ox_call (bm := imeTail) PySem.F.excBase_ValueError ?q1 ?q2 ?q3 (XK _ _ ?k95) NS (ns_some_of XK NS hi) (XK _ _ h85) hc85 ?_
  case k95 => k_is
  case q1 => decide +kernel
  case q2 => decide +kernel
  case q3 => decide +kernel
  intro tp
  have hU : (ktrTop dp un gd cn cs L a ccd cl outer).under (.builtin "type.__call__" ⟨[.ref 95, .int m t], []⟩) = ktrTop (dp + 1) (un + 1) gd cn cs L a ccd cl outer := by first | rfl | (cases gd <;> rfl)
  rw [hU]
  have F2 := (hF.push { cls := .type "tuple", data := .seq [Value.int m t].toArray }).push { cls := .ref 95, data := .fields #[.ref tp, .none, .none, .none, .bool false, .none] }
  have N2 := (hN.pushKeep { cls := .type "tuple", data := .seq [Value.int m t].toArray }).push (hF.push _) { cls := .ref 95, data := .fields #[.ref tp, .none, .none, .none, .bool false, .none] }
  rw [Heap.size_push] at N2
  refine wpAny_call ?_
  k_dflt (refine' code_def (A := ktrTop (dp + 1) (un + 1) gd cn cs L a ccd cl outer) (binds := [(PySem.Str.ofString "self", .ref (hp.objs.size + 1)), (PySem.Str.ofString "month", .int m t)]) hB F2 hK N2 hT ?kA ?kF ?kK ?k6 ?k7 ?k8 ?k9 ?kB ?_ ?c2 ?c3 ?c4 ?c5; (case kA => exact rfl); (case kF => exact rfl); (case kK => exact hk); (case k6 => k_is); (case k7 => k_is); (case k8 => ktr_room); (case k9 => exact BindsTo.of_eq rfl); (case c5 => decide); (case kB => exact locs rfl); (case c2 => exact rfl); (case c3 => exact rfl); (case c4 => exact rfl); k_whole)
  intro g₁ L₁ h₁ FG F₁ N₁ B₁ X₁ T₁
  (try dsimp only)
  dsimp only [List.reverse, List.reverseAux] at F₁
  (try k_fold)
  k_steps
  have XK1 := X₁.keeps (Fr.keep (by assumption))
  have NS1 := Heap.Ns.of_isNs (isNs_of_in XK1 ok94)
  refine' oy_setAttr (XK1 _ _ ?k95) NS1 (ns_none_of XK1 NS1 hsa) (ns_none_of XK1 NS1 hmo) (N₁ _ (.head _)).1 rfl rfl ?kc ?_
  case k95 => k_is
  case kc => intro c h; cases h
  intro h3 tk3 dx hx3 hk3
  have hx0 := (N₁ _ (.head _)).2
  dsimp only at hx3 hk3 hx0
  rename Fr g₁ L₁ h₁ _ => F1
  have F3 := fr_keeping F1 hx0.1 hx0.2 hk3
  clear F1
  have N3 : News g₁ L₁ h3 ((hp.objs.size + 1, { cls := .ref 95, dict := some dx, data := .fields #[.ref tp, .none, .none, .none, .bool false, .none] }) :: news) := fun q hq => by
    rcases List.mem_cons.mp hq with rfl | hq'
    · exact ⟨hx3, hx0.1, hx0.2⟩
    · have h1 := N₁ q (.tail _ hq')
      have h2 := Heap.lt_size (hN q hq').1
      dsimp only at h2
      exact ⟨hk3 _ _ (fun z => Nat.not_lt.mpr (Nat.le_succ _) (by rw [z] at h2; exact h2)) h1.1, h1.2⟩
  clear N₁ hk3 hx3
  k_steps
  all_goals exact hQ _ { cls := .ref 95, dict := some dx, data := .fields #[.ref tp, .none, .none, .none, .bool false, .none] } (.ref tp) _ _ rfl rfl hlt (by k_asm) (by k_asm)
theorem Raise_ime {A : Around} {E : Value → Shared → Prop} {s : Shared} {env : Env} {e : Expr} {pos : Pos} {Q : Flow → Shared → Prop} (hh : A.handled = none)
    (h : wpAny (model prog w) A (eval e env) (fun v s₁ => ∃ a ob tp, v = .ref a ∧ (Mine.hd.heap_39 w.params).In s₁.heap ∧ s₁.heap.get? a = some ob ∧ ob.cls = .ref 95 ∧ ob.data = .fields #[tp, .none, .none, .none, .bool false, .none] ∧ E (.ref a) s₁) E s) :
    wpAny (model prog w) A (exec (.Raise (some e) none pos) env) Q E s := by
  refine' Raise_own (C := 95) (bm := imeTail) ?kb hh (wpAny_mono h ?kc fun _ _ x => x)
  case kb => decide +kernel
  case kc =>
    rintro v s₁ ⟨a, ob, tp, e1, X, e2, e3, e4, e5⟩
    refine' ⟨a, ob, tp, e1, X _ _ ?k95, e2, e3, e4, e5⟩
    case k95 => k_is
local macro_rules | `(tactic| walk_at "call ref") => `(tactic| (k_here; (with_reducible refine' ime_new _ _ ?kA ?k1 ?k2 ?k3 ?k4 ?k5 ?kK ?kd ?ku ?_); k_dflt ((case kA => exact rfl); (case k1 => k_asm); (case k2 => k_asm); (case k3 => k_asm); (case k4 => k_asm); (case k5 => k_asm); (case kK => first | exact rfl | assumption); (case kd => walk_at "M room"); (case ku => walk_at "M room")); intro x' ob' tp' h' tk' hc' hd' l' F' N'; (try dsimp only)))
local macro_rules | `(tactic| walk_at "leaving ref") => `(tactic| (k_here; (refine' leave_fresh ?k1 ?k2 ?k3 ?k4 ?k5 ?k6 ?_; (case k2 => k_asm); (case k1 => k_asm); (case k3 => k_asm); (case k4 => assumption); (case k5 => assumption); (case k6 => with_reducible assumption); k_whole; intro h' R' U'; (try dsimp only at R' U' ⊢))))
section
local macro_rules | `(tactic| walk_at "exec Raise some none") => `(tactic| (k_here; refine Raise_ime rfl ?_))
set_option maxHeartbeats 8000000 in
theorem validate_month_calls (m : Int) (t : Tok) : Calls prog w p loose mean mg mb 3 405 [.int m t] (fun v tl => (1 ≤ m ∧ m ≤ 12) ∧ v = .none ∧ tl = []) (fun c => ¬ (1 ≤ m ∧ m ≤ 12) ∧ c = .ref 95) := by
  unfold Calls; intro dp un gd cn cs a ccd cl outer A₀ base h₀ L fm news s Q E hB hF hK hN hT hk hd hu hret hexc
  refine wpAny_call ?_
  k_dflt (refine' code_def (binds := [(PySem.Str.ofString "month", .int m t)]) ?k1 ?k2 ?k3 ?k4 ?k5 ?kA ?kF ?kK ?k6 ?k7 ?k8 ?k9 ?kB ?_ ?c2 ?c3 ?c4 ?c5; (case kA => exact rfl); (case kF => exact rfl); (case kK => exact hk); (case k1 => exact hB); (case k2 => exact hF); (case k3 => exact hK); (case k4 => exact hN); (case k5 => exact hT); (case k6 => k_is); (case k7 => k_is); (case k8 => ktr_room); (case k9 => exact BindsTo.of_eq rfl); (case c5 => decide); (case kB => exact locs rfl); (case c2 => exact rfl); (case c3 => exact rfl); (case c4 => exact rfl); k_whole)
  intro g₁ L₁ h₁ FG F₁ N₁ B₁ X₁ T₁
  clear hB hF hN hT
  (try dsimp only)
  dsimp only [List.reverse, List.reverseAux] at F₁
  (try k_fold)
  k_steps
  all_goals first
    | exact News.get (by k_asm) (.head _)
    | skip
  all_goals first
    | (refine hret _ [] _ _ ⟨⟨by omega, by omega⟩, rfl, rfl⟩ (fun _ _ _ h => nomatch h) (by k_asm) (by k_asm))
    | (refine hexc _ _ _ _ _ ⟨by omega, rfl⟩ (by assumption) (by walk_at "M rs") (by assumption))
    | skip
end
end

end
section
theorem off_C9 : True := by
  w_top off
  trivial
end
section
/-- the length of month m in a year that is not a leap year -/
def mdayOf (m : Int) : Int := if m = 2 then 28 else if m = 4 ∨ m = 6 ∨ m = 9 ∨ m = 11 then 30 else 31
theorem mdays_item {prog : Program} {w : World} {A : Around} {E : Value → Shared → Prop} {s : Shared} {value slice : Expr} {K : Frag} {h₀ : Heap} {L : Addr} {mp : Str → Option Value} {n : Nat} {dd : Option Addr} {sl : Array (Option Value)} {m : Int} {u t0 t1 t2 t3 t4 t5 t6 t7 t8 t9 ta tb tc : Tok} {Q : Value → Shared → Prop} (F : Fr h₀ L s.heap mp) (X : K.In h₀)
    (hl : K.lookup 384 = some ⟨.type "list", dd, .seq [.int 0 t0, .int 31 t1, .int 28 t2, .int 31 t3, .int 30 t4, .int 31 t5, .int 30 t6, .int 31 t7, .int 31 t8, .int 30 t9, .int 31 ta, .int 30 tb, .int 31 tc].toArray n, sl⟩) (h1 : 1 ≤ m) (h2 : m ≤ 12) (h : ∀ r t, r = mdayOf m → Q (.int r t) s)
    (hs : subscripted slice false (.ref 384) (.int m u) = operate [.ref 384, .int m u] (getItem (.ref 384) (.int m u)) := by with_unfolding_all rfl) :
    wpAny (model prog w) A (subscriptTail value slice (.ref 384) (.int m u)) Q E s := by
  have : m = 1 ∨ m = 2 ∨ m = 3 ∨ m = 4 ∨ m = 5 ∨ m = 6 ∨ m = 7 ∨ m = 8 ∨ m = 9 ∨ m = 10 ∨ m = 11 ∨ m = 12 := by omega
  rcases this with rfl | rfl | rfl | rfl | rfl | rfl | rfl | rfl | rfl | rfl | rfl | rfl <;> exact topList_K F X hl (by decide) (by decide) rfl (h _ _ (by decide)) hs
section
variable {prog : Program} {w : World} {A : Around} {E : Value → Shared → Prop} {s : Shared} {h₀ : Heap} {L : Addr} {mp : Str → Option Value}
theorem feb_eq {m : Int} {tm : Tok} {Q : Value → Shared → Prop} (F : Fr h₀ L s.heap mp) (X : (Mine.hd.heap_39 w.params).In h₀) (hu : A.units < cLine) (hq : Q (.bool (2 == m)) s) :
    wpAny (model prog w) A (compareOp .Eq (.int m tm) (.ref 331)) Q E s := by
  obtain ⟨hp, gs, dr, tk, os⟩ := s
  have XK := X.keeps F.keep
  have hno : nsIn (Mine.hd.heap_39 w.params) 201 "__eq__" = some none := by k_is
  have ok : nsOkIn (Mine.hd.heap_39 w.params) 201 = true := by
    refine' nsOk_of ?k1 ?k2
    case k1 => k_is
    case k2 => rfl
  have NS : hp.Ns 201 (hp.nsMap 201) := .of_isNs (isNs_of_in XK ok)
  obtain ⟨o, ho, hc, tv, hd⟩ : ∃ o, (Mine.hd.heap_39 w.params).lookup 331 = some o ∧ o.cls = .ref 202 ∧ ∃ tv, o.data = .prim (.int 2 tv) := by
    refine ⟨_, by k_is, ?_⟩
    exact ⟨rfl, _, rfl⟩
  obtain ⟨oc, hoc, cd, dd, sl, rfl⟩ : ∃ o, (Mine.hd.heap_39 w.params).lookup 202 = some o ∧ ∃ cd dd sl, o = mcObj 202 201 cd dd sl := by
    refine ⟨_, by k_is, ?_⟩
    exact ⟨{ name := PySem.Str.ofString "Month", bases := [.type "int"], mro := [], ns := 0, qualname := PySem.Str.ofString "Month" }, none, _, rfl⟩
  exact en_eq (XK _ _ ho) hc hd (XK _ _ hoc) NS (ns_none_of XK NS hno) hu hq
theorem day_sub {m : Int} {tm : Tok} {a : Addr} {Q : Value → Shared → Prop} (F : Fr h₀ L s.heap mp) (X : (Mine.hd.heap_39 w.params).In h₀) (ha : DayAt a) (hq : ∀ k : Int, 0 ≤ k → k ≤ 6 → Q (.int (m - k) s.toks) { s with toks := s.toks + 1 }) :
    wpAny (model prog w) A (binaryOp .Sub (.int m tm) (.ref a)) Q E s := by
  obtain ⟨hp, gs, dr, tk, os⟩ := s
  have XK := X.keeps F.keep
  have h1 : nsIn (Mine.hd.heap_39 w.params) 311 (dunder "sub") = some none := by k_is
  have h2 : nsIn (Mine.hd.heap_39 w.params) 311 (dunderR "sub") = some none := by k_is
  have ok : nsOkIn (Mine.hd.heap_39 w.params) 311 = true := by
    refine' nsOk_of ?k1 ?k2
    case k1 => k_is
    case k2 => rfl
  have NS : hp.Ns 311 (hp.nsMap 311) := .of_isNs (isNs_of_in XK ok)
  have key : ∃ o k tv, hp.get? a = some o ∧ o.cls = .ref 312 ∧ o.data = .prim (.int k tv) ∧ 0 ≤ k ∧ k ≤ 6 := by
    unfold DayAt at ha
    simp only [List.mem_cons, List.not_mem_nil, or_false] at ha
    rcases ha with rfl | rfl | rfl | rfl | rfl | rfl | rfl
    · obtain ⟨o, ho, h⟩ : ∃ o, (Mine.hd.heap_39 w.params).lookup 364 = some o ∧ o.cls = .ref 312 ∧ ∃ (k : Int) (tv : Tok), o.data = .prim (.int k tv) ∧ 0 ≤ k ∧ k ≤ 6 := by
        refine ⟨_, by k_is, ?_⟩
        exact ⟨rfl, _, _, rfl, by decide, by decide⟩
      obtain ⟨e1, k, tv, e2, e3, e4⟩ := h
      exact ⟨o, k, tv, XK _ _ ho, e1, e2, e3, e4⟩
    · obtain ⟨o, ho, h⟩ : ∃ o, (Mine.hd.heap_39 w.params).lookup 367 = some o ∧ o.cls = .ref 312 ∧ ∃ (k : Int) (tv : Tok), o.data = .prim (.int k tv) ∧ 0 ≤ k ∧ k ≤ 6 := by
        refine ⟨_, by k_is, ?_⟩
        exact ⟨rfl, _, _, rfl, by decide, by decide⟩
      obtain ⟨e1, k, tv, e2, e3, e4⟩ := h
      exact ⟨o, k, tv, XK _ _ ho, e1, e2, e3, e4⟩
    · obtain ⟨o, ho, h⟩ : ∃ o, (Mine.hd.heap_39 w.params).lookup 370 = some o ∧ o.cls = .ref 312 ∧ ∃ (k : Int) (tv : Tok), o.data = .prim (.int k tv) ∧ 0 ≤ k ∧ k ≤ 6 := by
        refine ⟨_, by k_is, ?_⟩
        exact ⟨rfl, _, _, rfl, by decide, by decide⟩
      obtain ⟨e1, k, tv, e2, e3, e4⟩ := h
      exact ⟨o, k, tv, XK _ _ ho, e1, e2, e3, e4⟩
    · obtain ⟨o, ho, h⟩ : ∃ o, (Mine.hd.heap_39 w.params).lookup 373 = some o ∧ o.cls = .ref 312 ∧ ∃ (k : Int) (tv : Tok), o.data = .prim (.int k tv) ∧ 0 ≤ k ∧ k ≤ 6 := by
        refine ⟨_, by k_is, ?_⟩
        exact ⟨rfl, _, _, rfl, by decide, by decide⟩
      obtain ⟨e1, k, tv, e2, e3, e4⟩ := h
      exact ⟨o, k, tv, XK _ _ ho, e1, e2, e3, e4⟩
    · obtain ⟨o, ho, h⟩ : ∃ o, (Mine.hd.heap_39 w.params).lookup 376 = some o ∧ o.cls = .ref 312 ∧ ∃ (k : Int) (tv : Tok), o.data = .prim (.int k tv) ∧ 0 ≤ k ∧ k ≤ 6 := by
        refine ⟨_, by k_is, ?_⟩
        exact ⟨rfl, _, _, rfl, by decide, by decide⟩
      obtain ⟨e1, k, tv, e2, e3, e4⟩ := h
      exact ⟨o, k, tv, XK _ _ ho, e1, e2, e3, e4⟩
    · obtain ⟨o, ho, h⟩ : ∃ o, (Mine.hd.heap_39 w.params).lookup 379 = some o ∧ o.cls = .ref 312 ∧ ∃ (k : Int) (tv : Tok), o.data = .prim (.int k tv) ∧ 0 ≤ k ∧ k ≤ 6 := by
        refine ⟨_, by k_is, ?_⟩
        exact ⟨rfl, _, _, rfl, by decide, by decide⟩
      obtain ⟨e1, k, tv, e2, e3, e4⟩ := h
      exact ⟨o, k, tv, XK _ _ ho, e1, e2, e3, e4⟩
    · obtain ⟨o, ho, h⟩ : ∃ o, (Mine.hd.heap_39 w.params).lookup 382 = some o ∧ o.cls = .ref 312 ∧ ∃ (k : Int) (tv : Tok), o.data = .prim (.int k tv) ∧ 0 ≤ k ∧ k ≤ 6 := by
        refine ⟨_, by k_is, ?_⟩
        exact ⟨rfl, _, _, rfl, by decide, by decide⟩
      obtain ⟨e1, k, tv, e2, e3, e4⟩ := h
      exact ⟨o, k, tv, XK _ _ ho, e1, e2, e3, e4⟩
  obtain ⟨o, k, tv, e1, e2, e3, e4, e5⟩ := key
  obtain ⟨oc, hoc, cd, dd, sl, rfl⟩ : ∃ o, (Mine.hd.heap_39 w.params).lookup 312 = some o ∧ ∃ cd dd sl, o = mcObj 312 311 cd dd sl := by
    refine ⟨_, by k_is, ?_⟩
    exact ⟨{ name := PySem.Str.ofString "Day", bases := [.type "int"], mro := [], ns := 0, qualname := PySem.Str.ofString "Day" }, none, _, rfl⟩
  exact en_sub e1 e2 e3 (XK _ _ hoc) NS (ns_none_of XK NS h1) (ns_none_of XK NS h2) (hq k e4 e5)
end
theorem mrA {r y m : Int} (h : 2 = m) (e : r = mdayOf m) : r + (if wide y = true then 1 else 0) = glen y m := by
  subst h e
  unfold mdayOf glen
  simp
  split <;> omega
theorem mrB {r y m : Int} (h : 2 ≠ m) (e : r = mdayOf m) : r + (if (2 == m) = true then 1 else 0) = glen y m := by
  subst e
  have h1 : ¬ m = 2 := fun z => h z.symm
  have h2 : (2 == m) = false := by simp [h]
  unfold mdayOf glen
  rw [h2, if_neg h1, if_neg h1]
  simp
section
variable {prog : Program} {w : World} {p : Program} {loose : List Str} {mean : ExcName → Option Value} {mg mb : Str → Option Value}
local macro_rules | `(tactic| walk_at "call ref") => `(tactic| (k_here; (with_reducible show wpAny _ _ (call (Value.ref 398) _) _ _ _); (with_reducible refine' calls_use (weekday_calls _ _ _ _ _ (by walk_at "M om") (by walk_at "M om") (by walk_at "M om") (by walk_at "M om")) ?kA ?k1 ?k2 ?k3 ?k4 ?k5 ?kK ?kd ?ku ?_ ?kx); k_dflt ((case kA => exact rfl); (case k1 => k_asm); (case k2 => k_asm); (case k3 => k_asm); (case k4 => k_asm); (case k5 => k_asm); (case kK => first | exact rfl | assumption); (case kd => walk_at "M room"); (case ku => walk_at "M room"); (case kx => intro _ _ _ _ _ hX; exact hX.elim)); intro v' tl' h' tk' hR' l' F' N'; obtain ⟨⟨a', e1, da'⟩, e2⟩ := hR'; subst e1; subst e2; (try dsimp only [List.nil_append] at N' ⊢); (try k_sweep)))
local macro_rules | `(tactic| walk_at "call ref") => `(tactic| (k_here; (with_reducible show wpAny _ _ (call (Value.ref 405) _) _ _ _); (with_reducible refine' calls_use (validate_month_calls _ _) ?kA ?k1 ?k2 ?k3 ?k4 ?k5 ?kK ?kd ?ku ?_ ?_); k_dflt ((case kA => exact rfl); (case k1 => k_asm); (case k2 => k_asm); (case k3 => k_asm); (case k4 => k_asm); (case k5 => k_asm); (case kK => first | exact rfl | assumption); (case kd => walk_at "M room"); (case ku => walk_at "M room"); skip); ((intro v' tl' h' tk' hR' l' F' N'; obtain ⟨hp, e1, e2⟩ := hR'; subst e1; subst e2; (try dsimp only [List.nil_append] at N' ⊢); (try k_sweep))); rotate_left; ((intro e' cls' g' h' tk' hX' F' R' U'; obtain ⟨hp, e1⟩ := hX'; subst e1; (try dsimp only))); rotate_right))
local macro_rules | `(tactic| walk_at "call ref") => `(tactic| (k_here; (with_reducible show wpAny _ _ (call (Value.ref 391) _) _ _ _); (with_reducible refine' calls_use (isleap_calls _ _) ?kA ?k1 ?k2 ?k3 ?k4 ?k5 ?kK ?kd ?ku ?_ ?kx); k_dflt ((case kA => exact rfl); (case k1 => k_asm); (case k2 => k_asm); (case k3 => k_asm); (case k4 => k_asm); (case k5 => k_asm); (case kK => first | exact rfl | assumption); (case kd => walk_at "M room"); (case ku => walk_at "M room"); (case kx => intro _ _ _ _ _ hX; exact hX.elim)); intro v' tl' h' tk' hR' l' F' N'; obtain ⟨e1, e2⟩ := hR'; subst e1; subst e2; (try dsimp only [List.nil_append] at N' ⊢); (try k_sweep)))
local macro_rules | `(tactic| walk_at "subscriptTail") => `(tactic| (k_here; (with_reducible refine' mdays_item ?F ?X ?l ?i ?i2 ?_); k_dflt ((case F => k_asm); (case X => k_asm); (case l => k_is); (case i => walk_at "M om"); (case i2 => walk_at "M om")); intro r' t' er'))
local macro_rules | `(tactic| walk_at "compareOp Eq int ref") => `(tactic| (k_here; (with_reducible refine' feb_eq ?F ?X ?hu ?_); k_dflt ((case F => k_asm); (case X => k_asm); (case hu => walk_at "M room"))))
set_option maxHeartbeats 8000000 in
theorem monthrange_calls (y m : Int) (t t1 : Tok) (hy1 : -1000000 ≤ y) (hy2 : y ≤ 1000000) : Calls prog w p loose mean mg mb 4 412 [.int y t, .int m t1] (fun v tl => ∃ a r t, DayAt r ∧ (1 ≤ m ∧ m ≤ 12) ∧ v = .ref a ∧ tl = [(a, tupleOf [.ref r, .int (glen y m) t])]) (fun c => ¬ (1 ≤ m ∧ m ≤ 12) ∧ c = .ref 95) := by
  unfold Calls; intro dp un gd cn cs a ccd cl outer A₀ base h₀ L fm news s Q E hB hF hK hN hT hk hd hu hret hexc
  refine wpAny_call ?_
  k_dflt (refine' code_def (binds := [(PySem.Str.ofString "year", .int y t), (PySem.Str.ofString "month", .int m t1)]) ?k1 ?k2 ?k3 ?k4 ?k5 ?kA ?kF ?kK ?k6 ?k7 ?k8 ?k9 ?kB ?_ ?c2 ?c3 ?c4 ?c5; (case kA => exact rfl); (case kF => exact rfl); (case kK => exact hk); (case k1 => exact hB); (case k2 => exact hF); (case k3 => exact hK); (case k4 => exact hN); (case k5 => exact hT); (case k6 => k_is); (case k7 => k_is); (case k8 => ktr_room); (case k9 => exact BindsTo.of_eq rfl); (case c5 => decide); (case kB => exact locs rfl); (case c2 => exact rfl); (case c3 => exact rfl); (case c4 => exact rfl); k_whole)
  intro g₁ L₁ h₁ FG F₁ N₁ B₁ X₁ T₁
  clear hB hF hN hT
  (try dsimp only)
  dsimp only [List.reverse, List.reverseAux] at F₁
  (try k_fold)
  k_steps
  all_goals first
    | (refine hexc _ _ _ _ _ ⟨by assumption, rfl⟩ (by assumption) (by walk_at "M rs") (by assumption))
    | (refine hret _ [_] _ _ ⟨_, _, _, by assumption, by assumption, rfl, congrArg (fun z => [((_ : Addr), tupleOf [Value.ref _, Value.int z _])]) ?_⟩ (fresh_of (by walk_at "M fresh")) (by k_asm) (by walk_at "M news"))
  all_goals first
    | with_reducible exact mrA (by with_reducible assumption) (by with_reducible assumption)
    | with_reducible exact mrB (by with_reducible assumption) (by with_reducible assumption)
    | skip
end

end
section
theorem off_C10 : True := by
  w_top off
  trivial
end
section
theorem nth_no {y m k : Int} (h1 : 0 ≤ k) (h2 : k ≤ 6) (h : glen y m < 1 + (0 - k).fmod 7 + (1 - 1) * 7) : False := by
  have hg : 28 ≤ glen y m := by unfold glen; repeat' split; all_goals omega
  rw [Mine.fm _ _ (by decide)] at h
  omega
section
variable {prog : Program} {w : World} {p : Program} {loose : List Str} {mean : ExcName → Option Value} {mg mb : Str → Option Value}
local macro_rules | `(tactic| walk_at "call ref") => `(tactic| (k_here; (with_reducible show wpAny _ _ (call (Value.ref 412) _) _ _ _); (with_reducible refine' calls_use (monthrange_calls _ _ _ _ (by walk_at "M om") (by walk_at "M om")) ?kA ?k1 ?k2 ?k3 ?k4 ?k5 ?kK ?kd ?ku ?_ ?_); k_dflt ((case kA => exact rfl); (case k1 => k_asm); (case k2 => k_asm); (case k3 => k_asm); (case k4 => k_asm); (case k5 => k_asm); (case kK => first | exact rfl | assumption); (case kd => walk_at "M room"); (case ku => walk_at "M room"); skip); ((intro v' tl' h' tk' hR' l' F' N'; obtain ⟨a', r', t', dr', hp', e1, e2⟩ := hR'; subst e1; subst e2; (try dsimp only [List.nil_append, List.cons_append] at N' ⊢); (try k_sweep))); rotate_left; ((intro e' cls' g' h' tk' hX' F' R' U'; obtain ⟨hp, e1⟩ := hX'; subst e1; (try dsimp only))); rotate_right))
local macro_rules | `(tactic| walk_at "binaryOp Sub int ref") => `(tactic| (k_here; (with_reducible refine' day_sub ?F ?X ?hu ?_); k_dflt ((case F => k_asm); (case X => k_asm); (case hu => with_reducible assumption)); intro k' b1' b2'; (try dsimp only)))
set_option maxHeartbeats 8000000 in
theorem month_length_calls (y m : Int) (t t1 : Tok) (hy1 : -1000000 ≤ y) (hy2 : y ≤ 1000000) : Calls prog w p loose mean mg mb 5 455 [.int y t, .int m t1] (fun v tl => (1 ≤ m ∧ m ≤ 12) ∧ (∃ t, v = .int (glen y m) t) ∧ tl = []) (fun c => ¬ (1 ≤ m ∧ m ≤ 12) ∧ c = .ref 95) := by
  unfold Calls; intro dp un gd cn cs a ccd cl outer A₀ base h₀ L fm news s Q E hB hF hK hN hT hk hd hu hret hexc
  refine wpAny_call ?_
  k_dflt (refine' code_def (binds := [(PySem.Str.ofString "year", .int y t), (PySem.Str.ofString "month", .int m t1)]) ?k1 ?k2 ?k3 ?k4 ?k5 ?kA ?kF ?kK ?k6 ?k7 ?k8 ?k9 ?kB ?_ ?c2 ?c3 ?c4 ?c5; (case kA => exact rfl); (case kF => exact rfl); (case kK => exact hk); (case k1 => exact hB); (case k2 => exact hF); (case k3 => exact hK); (case k4 => exact hN); (case k5 => exact hT); (case k6 => k_is); (case k7 => k_is); (case k8 => ktr_room); (case k9 => exact BindsTo.of_eq rfl); (case c5 => decide); (case kB => exact locs rfl); (case c2 => exact rfl); (case c3 => exact rfl); (case c4 => exact rfl); k_whole)
  intro g₁ L₁ h₁ FG F₁ N₁ B₁ X₁ T₁
  clear hB hF hN hT
  (try dsimp only)
  dsimp only [List.reverse, List.reverseAux] at F₁
  (try k_fold)
  k_steps
  all_goals first
    | (refine hexc _ _ _ _ _ ⟨by assumption, rfl⟩ (by assumption) (by walk_at "M rs") (by assumption))
    | (refine hret _ [] _ _ ⟨by assumption, ⟨_, rfl⟩, rfl⟩ (fun _ _ _ h => nomatch h) (by k_asm) (by walk_at "M news"))
    | skip
set_option maxHeartbeats 8000000 in
theorem nth_day_calls (y m : Int) (t1 t2 t3 t4 : Tok) (hy1 : -1000000 ≤ y) (hy2 : y ≤ 1000000) : Calls prog w p loose mean mg mb 5 419 [.int 1 t1, .int 0 t2, .int m t3, .int y t4] (fun v tl => ∃ a o, (1 ≤ m ∧ m ≤ 12) ∧ v = .ref a ∧ tl = [(a, o)]) (fun c => ¬ (1 ≤ m ∧ m ≤ 12) ∧ c = .ref 95) := by
  unfold Calls; intro dp un gd cn cs a ccd cl outer A₀ base h₀ L fm news s Q E hB hF hK hN hT hk hd hu hret hexc
  refine wpAny_call ?_
  k_dflt (refine' code_def (binds := [(PySem.Str.ofString "n", .int 1 t1), (PySem.Str.ofString "weekday", .int 0 t2), (PySem.Str.ofString "month", .int m t3), (PySem.Str.ofString "year", .int y t4)]) ?k1 ?k2 ?k3 ?k4 ?k5 ?kA ?kF ?kK ?k6 ?k7 ?k8 ?k9 ?kB ?_ ?c2 ?c3 ?c4 ?c5; (case kA => exact rfl); (case kF => exact rfl); (case kK => exact hk); (case k1 => exact hB); (case k2 => exact hF); (case k3 => exact hK); (case k4 => exact hN); (case k5 => exact hT); (case k6 => k_is); (case k7 => k_is); (case k8 => ktr_room); (case k9 => exact BindsTo.of_eq rfl); (case c5 => decide); (case kB => exact locs rfl); (case c2 => exact rfl); (case c3 => exact rfl); (case c4 => exact rfl); k_whole)
  intro g₁ L₁ h₁ FG F₁ N₁ B₁ X₁ T₁
  clear hB hF hN hT
  (try dsimp only)
  dsimp only [List.reverse, List.reverseAux] at F₁
  (try k_fold)
  k_steps
  all_goals first
    | (refine hexc _ _ _ _ _ ⟨by assumption, rfl⟩ (by assumption) (by walk_at "M rs") (by assumption))
    | (refine hret _ [_] _ _ ⟨_, _, by assumption, rfl, rfl⟩ (fresh_of (by walk_at "M fresh")) (by k_asm) (by walk_at "M news"))
    | exact (nth_no (by with_reducible assumption) (by with_reducible assumption) (by with_reducible assumption)).elim
    | skip
end

end
section
theorem off_C11 : True := by
  w_top off
  trivial
end
section
theorem jday_bound5 {y m d : Int} (hy1 : -500100 ≤ y) (hy2 : y ≤ 500100) (h1 : 1 ≤ m) (h2 : m ≤ 12) (hd1 : -1000 ≤ d) (hd2 : d ≤ 1000) : -200000000 ≤ jday y m d ∧ jday y m d ≤ 200000000 := by
  unfold jday
  constructor <;> (repeat' split) <;> omega
theorem gday_bound5 {y m d : Int} (hy1 : -500100 ≤ y) (hy2 : y ≤ 500100) (h1 : 1 ≤ m) (h2 : m ≤ 12) (hd1 : -1000 ≤ d) (hd2 : d ≤ 1000) : -200000000 ≤ gday y m d ∧ gday y m d ≤ 200000000 := by
  unfold gday
  constructor <;> (repeat' split) <;> omega
/-- a call of f with vs from the law's own frame comes back with a value of R: whatever is raised below is caught below -/
def CallsT (prog : Program) (w : World) (p : Program) (loose : List Str) (mean : ExcName → Option Value) (mg mb : Str → Option Value) (D : Nat) (f : Addr) (vs : List Value) (R : Value → List (Addr × Obj) → Prop) : Prop :=
  ∀ (dp un : Nat) (gd : Option (List Code)) (cn : Str) (cs : Scope) (a : Addr) (ccd : Value) (A₀ : Around) (base h₀ : Heap) (L : Addr) (m : Str → Option Value) (news : List (Addr × Obj)) (s : Shared) (Q E : Value → Shared → Prop),
    Below A₀ base [] h₀ → Fr h₀ L s.heap m → (hd.heap_39 w.params).In h₀ → News h₀ L s.heap news → Top p loose mean mg mb h₀ → (hd.heap_39 w.params).In base → Top p loose mean mg mb base → cs.kind = .function →
    dp + D < recursionLimit → un + 8 * D < cLine →
    (∀ (v : Value) (tl : List (Addr × Obj)) (h' : Heap) (tk' : Nat), R v tl → Fr h₀ L h' m → News h₀ L h' (tl ++ news) → Q v { s with heap := h', toks := tk' }) →
      wpAny (model prog w) (ktrTop dp un gd cn cs L a ccd [] []) (call (.ref f) vs) Q E s
section
variable {prog : Program} {w : World} {p : Program} {loose : List Str} {mean : ExcName → Option Value} {mg mb : Str → Option Value} {D : Nat} {f : Addr} {vs : List Value} {R : Value → List (Addr × Obj) → Prop}
theorem callsT_use {A : Around} {dp un : Nat} {gd : Option (List Code)} {cn : Str} {cs : Scope} {a : Addr} {ccd : Value} {A₀ : Around} {base h₀ : Heap} {L : Addr} {m : Str → Option Value} {news : List (Addr × Obj)} {s : Shared} {Q E : Value → Shared → Prop}
    (C : CallsT prog w p loose mean mg mb D f vs R) (hA : A = ktrTop dp un gd cn cs L a ccd [] []) (B : Below A₀ base [] h₀) (F : Fr h₀ L s.heap m) (K : (hd.heap_39 w.params).In h₀) (N : News h₀ L s.heap news) (T : Top p loose mean mg mb h₀) (KB : (hd.heap_39 w.params).In base) (TB : Top p loose mean mg mb base) (hk : cs.kind = .function)
    (hd : dp + D < recursionLimit) (hu : un + 8 * D < cLine)
    (ret : ∀ (v : Value) (tl : List (Addr × Obj)) (h' : Heap) (tk' : Nat), R v tl → Fr h₀ L h' m → News h₀ L h' (tl ++ news) → Q v { s with heap := h', toks := tk' }) :
      wpAny (model prog w) A (call (.ref f) vs) Q E s := by
  subst hA
  exact C _ _ _ _ _ _ _ _ _ _ _ _ _ _ _ _ B F K N T KB TB hk hd hu ret
end
section
variable {prog : Program} {w : World} {A₀ : Around} {E : Value → Shared → Prop} {s' : Shared} {base g g₀ G : Heap} {outer : List Env} {L a e C : Addr} {m : Str → Option Value} {name : Str} {scope : Scope} {cd : Value}
  {b₀ : Stmt} {suite : List Stmt} {pos np : Pos} {rest : List ExceptHandler} {Q : Flow → Shared → Prop} {news : List (Addr × Obj)} {KF : Frag}
  {p : Program} {loose : List Str} {mean : ExcName → Option Value} {mg mb : Str → Option Value} {x : Str} {T' : String}
/-- an exception of a class of the program's own is caught by the built-in class above it, in whatever way it was made -/
theorem caught_own (R : RaisedSN base G (envOf name scope L a cd :: outer) e (.ref C) news s'.heap) (F : Fr g L G m) (K : Below A₀ base outer g) (hsm : G.UpToSlots s'.heap) (XB : KF.In base) (TB : Top p loose mean mg mb base)
    (D : KtsDicts (outer.filterMap (·.frame)) g) (T0 : KtsTurn (outer.filterMap (·.frame)) g₀ g) (q : ktsIn KF C T' = true)
    (ex : nsIn KF mainGlobals x = some none) (hv : bootBuiltins x = some (.type T')) (hn' : x ≠ "__name__")
    (hexc : isSubtype (.type T') (.type "BaseException") = pure true) (hnt : isSubtype (.type ((Manifest.find? T').elim "type" fun y => y.metatype)) (.type "tuple") = pure false)
    (k : ∀ h' g', KtsTurn (outer.filterMap (·.frame)) g₀ g' → Fr g' L h' m → News g' L h' news → Below A₀ base outer g' → KF.In g' → Top p loose mean mg mb g' → KtsDicts (outer.filterMap (·.frame)) g' →
      wpAny (model prog w) ((A₀.deeper (envOf name scope L a cd)).mark (some (.ref e))) (execs (b₀ :: suite) (envOf name scope L a cd)) Q E { s' with heap := h' })
    (hk : scope.kind = .function := by rfl) (hx : (envOf name scope L a cd).kindOf x = some .globalImplicit := by rfl) (hd : (x == ("__debug__" : Str)) = false := by decide)
    (hE : PassesOwnAt (model prog w) ((A₀.deeper (envOf name scope L a cd)).mark (some (.ref e))) (A₀.deeper (envOf name scope L a cd)) (envOf name scope L a cd) E := by passes_own) :
    wpAny (model prog w) (A₀.deeper (envOf name scope L a cd)) (noteFrame (.ref e) (envOf name scope L a cd))
      (fun _ s₂ => wpAny (model prog w) (A₀.deeper (envOf name scope L a cd)) (setFlight (.ref e) none) (fun _ s₃ =>
        wpAny (model prog w) (A₀.deeper (envOf name scope L a cd)) (handleBy (.ref e) (envOf name scope L a cd) (.ExceptHandler (some (.Name x np)) none (b₀ :: suite) pos :: rest)) Q E s₃) E s₂) E s' := by
  obtain ⟨B, a0, hB, hBG, hl, hfl⟩ := R
  have hL : B.get? L = none := by
    obtain ⟨_, ⟨L', _, hf, hn'', _⟩, _⟩ := hfl.2.2.1
    cases hf
    exact hn''
  refine wpAny_looks_onW (Around.frames_deeper K.stack) rfl hfl fun h₄ held₄ sm₄ => wpAny_landsW held₄ fun h₅ held₅ sm₅ => ?_
  have sm := hsm.trans (sm₄.trans sm₅)
  obtain ⟨g₅, T₅, F₅, K₅⟩ := kts_ground K F hBG held₅.1 sm
  have X₅ : KF.In g₅ := XB.keeps K₅.stays
  obtain ⟨ob, hob, hobc⟩ := held₅.there
  obtain ⟨_, _, _, _, _, _, _, _, _, _, _, _, _, _, _, _, _, hC, hbase, hbT⟩ := kts_cls X₅ q
  refine wpAny_handleBy_cons (codeAny_handlers_test (name_B F₅ X₅ (topRead_of (TB.keeps K₅.stays)) ex hv hn' ?_ hk hx hd)) (by intro q; cases q)
  refine wpAny_excMatches_sub_type (F₅.keep _ _ hC) hob hobc hexc hnt ?_
  rw [hbT]
  refine codeAny_handlers_suite (lands_againW held₅ fun h₆ fl₆ sm₆ => ?_)
  obtain ⟨g₆, T₆, F₆, K₆⟩ := kts_ground K F hBG fl₆.1 (sm.trans sm₆)
  exact wpAny_passesOwnAt hE (k h₆ g₆ (T0.trans T₆) F₆ (fun q hq => ⟨fl₆.1 _ _ (hl q hq).1, (fun z => by have := (hl q hq).1; rw [z, hL] at this; cases this), T₆.none_ _ (kts_none F.keep (hl q hq).2.1)⟩)
    K₆ (XB.keeps K₆.stays) (TB.keeps K₆.stays) (D.turn T₆))
end
section
variable {prog : Program} {w : World} {p : Program} {loose : List Str} {mean : ExcName → Option Value} {mg mb : Str → Option Value}
local macro_rules | `(tactic| walk_at "noteFrame ref") => `(tactic| (k_here; k_dflt (first
  | (refine' caught_SN0 (T' := "ValueError") ?R ?F ?K ?U ?XB ?TB ?D ?T0 ?ex PyProof.Rows.Boot.«ValueError» ?hn PySem.F.isExc_ValueError PySem.F.notTuple_ValueError ?hs ?_; (case R => assumption); (case F => assumption); (case K => assumption); (case U => assumption); (case XB => assumption); (case TB => assumption); (case D => assumption); (case T0 => first | assumption | exact KtsTurn.refl); (case hs => kts_sub); (case ex => k_is); (case hn => decide); k_whole)
  | (refine' caught_own (C := 95) (T' := "ValueError") ?R ?F ?K ?U ?XB ?TB ?D ?T0 ?q ?ex PyProof.Rows.Boot.«ValueError» ?hn PySem.F.isExc_ValueError PySem.F.notTuple_ValueError ?_; (case R => assumption); (case F => assumption); (case K => assumption); (case U => assumption); (case XB => assumption); (case TB => assumption); (case D => assumption); (case T0 => first | assumption | exact KtsTurn.refl); (case q => kts_isx); (case ex => k_is); (case hn => decide); k_whole)); intro h' g' T' F' N' K' X' P' D'; (try k_sweep)))
local macro_rules | `(tactic| walk_at "call ref") => `(tactic| (k_here; (with_reducible show wpAny _ _ (call (Value.ref 441) _) _ _ _); (with_reducible refine' calls_use (to_jd_calls _ _ _ _ _ _ (by walk_at "M om") (by walk_at "M om") (by walk_at "M om") (by walk_at "M om") (by walk_at "M om") (by walk_at "M om")) ?kA ?k1 ?k2 ?k3 ?k4 ?k5 ?kK ?kd ?ku ?_ ?_); k_dflt ((case kA => exact rfl); (case k1 => k_asm); (case k2 => k_asm); (case k3 => k_asm); (case k4 => k_asm); (case k5 => k_asm); (case kK => first | exact rfl | assumption); (case kd => walk_at "M room"); (case ku => walk_at "M room"); skip); ((intro v' tl' h' tk' hR' l' F' N'; obtain ⟨hp, ⟨x', t', e1, gx'⟩, e2⟩ := hR'; subst e1; subst e2; (try dsimp only [List.nil_append] at N' ⊢); (try k_sweep))); rotate_left; ((intro e' cls' g' h' tk' hX' F' R' U'; obtain ⟨hp, e1⟩ := hX'; subst e1; (try dsimp only))); rotate_right))
local macro_rules | `(tactic| walk_at "call ref") => `(tactic| (k_here; (with_reducible show wpAny _ _ (call (Value.ref 498) _) _ _ _); (with_reducible refine' calls_use (jto_jd_calls _ _ _ _ _ _ (by walk_at "M om") (by walk_at "M om") (by walk_at "M om") (by walk_at "M om") (by walk_at "M om") (by walk_at "M om")) ?kA ?k1 ?k2 ?k3 ?k4 ?k5 ?kK ?kd ?ku ?_ ?_); k_dflt ((case kA => exact rfl); (case k1 => k_asm); (case k2 => k_asm); (case k3 => k_asm); (case k4 => k_asm); (case k5 => k_asm); (case kK => first | exact rfl | assumption); (case kd => walk_at "M room"); (case ku => walk_at "M room"); skip); ((intro v' tl' h' tk' hR' l' F' N'; obtain ⟨hp, ⟨x', t', e1, gx'⟩, e2⟩ := hR'; subst e1; subst e2; (try dsimp only [List.nil_append] at N' ⊢); (try k_sweep))); rotate_left; ((intro e' cls' g' h' tk' hX' F' R' U'; obtain ⟨hp, e1⟩ := hX'; subst e1; (try dsimp only))); rotate_right))
set_option maxHeartbeats 8000000 in
theorem law_number_calls (y m d : Int) (t t1 t2 : Tok) (hy1 : -600000 ≤ y) (hy2 : y ≤ 600000) (hm1 : -1000 ≤ m) (hm2 : m ≤ 1000) (hd1 : -1000 ≤ d) (hd2 : d ≤ 1000) :
    CallsT prog w p loose mean mg mb 4 687 [.int y t, .int m t1, .int d t2] (fun v tl => ((1 ≤ d ∧ d ≤ glen y m) ∧ (∃ x t, v = .float x t ∧ J x (gday y m d)) ∨ ¬ (1 ≤ d ∧ d ≤ glen y m) ∧ ∃ t, v = .str (PySem.Str.ofString "refused") t) ∧ tl = []) := by
  unfold CallsT; intro dp un gd cn cs a ccd A₀ base h₀ L fm news s Q E hB hF hK hN hT hXB hTB hk hd hu hret
  refine wpAny_call ?_
  k_dflt (refine' code_defS0 (binds := [(PySem.Str.ofString "year", .int y t), (PySem.Str.ofString "month", .int m t1), (PySem.Str.ofString "day", .int d t2)]) ?k1 ?k2 ?k3 ?k4 ?k5 ?kA ?k6 ?k7 ?k8 ?k9 ?kB ?_ ?cK ?c2 ?c3 ?c4 ?c5; (case kA => exact rfl); (case k1 => exact hB); (case k2 => exact hF); (case k3 => exact hK); (case k4 => exact hN); (case k5 => exact hT); (case k6 => k_is); (case k7 => k_is); (case k8 => ktr_room); (case k9 => exact BindsTo.of_eq rfl); (case c5 => decide); (case kB => exact locs rfl); (case cK => exact hk); (case c2 => exact rfl); (case c3 => exact rfl); (case c4 => exact rfl); k_whole)
  intro g₁ L₁ h₁ FG F₁ N₁ B₁ X₁ T₁ D₁
  clear hB hF hN hT
  (try dsimp only)
  dsimp only [List.reverse, List.reverseAux] at F₁
  (try k_fold)
  k_steps
  all_goals first
    | (refine hret _ [] _ _ ⟨.inl ⟨by assumption, _, _, rfl, by assumption⟩, rfl⟩ (by k_asm) (by walk_at "M news"))
    | (refine hret _ [] _ _ ⟨.inr ⟨by assumption, _, rfl⟩, rfl⟩ (by k_asm) (by walk_at "M news"))
    | skip
set_option maxHeartbeats 8000000 in
theorem law_old_number_calls (y m d : Int) (t t1 t2 : Tok) (hy1 : -600000 ≤ y) (hy2 : y ≤ 600000) (hm1 : 1 ≤ m) (hm2 : m ≤ 12) (hd1 : -1000 ≤ d) (hd2 : d ≤ 1000) :
    CallsT prog w p loose mean mg mb 5 694 [.int y t, .int m t1, .int d t2] (fun v tl => ((1 ≤ d ∧ d ≤ jlen y m) ∧ (∃ x t, v = .float x t ∧ J x (jday y m d)) ∨ ¬ (1 ≤ d ∧ d ≤ jlen y m) ∧ ∃ t, v = .str (PySem.Str.ofString "refused") t) ∧ tl = []) := by
  unfold CallsT; intro dp un gd cn cs a ccd A₀ base h₀ L fm news s Q E hB hF hK hN hT hXB hTB hk hd hu hret
  refine wpAny_call ?_
  k_dflt (refine' code_defS0 (binds := [(PySem.Str.ofString "year", .int y t), (PySem.Str.ofString "month", .int m t1), (PySem.Str.ofString "day", .int d t2)]) ?k1 ?k2 ?k3 ?k4 ?k5 ?kA ?k6 ?k7 ?k8 ?k9 ?kB ?_ ?cK ?c2 ?c3 ?c4 ?c5; (case kA => exact rfl); (case k1 => exact hB); (case k2 => exact hF); (case k3 => exact hK); (case k4 => exact hN); (case k5 => exact hT); (case k6 => k_is); (case k7 => k_is); (case k8 => ktr_room); (case k9 => exact BindsTo.of_eq rfl); (case c5 => decide); (case kB => exact locs rfl); (case cK => exact hk); (case c2 => exact rfl); (case c3 => exact rfl); (case c4 => exact rfl); k_whole)
  intro g₁ L₁ h₁ FG F₁ N₁ B₁ X₁ T₁ D₁
  clear hB hF hN hT
  (try dsimp only)
  dsimp only [List.reverse, List.reverseAux] at F₁
  (try k_fold)
  k_steps
  all_goals first
    | (refine hret _ [] _ _ ⟨.inl ⟨by assumption, _, _, rfl, by assumption⟩, rfl⟩ (by k_asm) (by walk_at "M news"))
    | (refine hret _ [] _ _ ⟨.inr ⟨by assumption, _, rfl⟩, rfl⟩ (by k_asm) (by walk_at "M news"))
    | skip
set_option maxHeartbeats 8000000 in
theorem jd_gregorian_calls (y m d : Int) (t t1 t2 : Tok) (hy1 : -600000 ≤ y) (hy2 : y ≤ 600000) (hm1 : -1000 ≤ m) (hm2 : m ≤ 1000) (hd1 : -1000 ≤ d) (hd2 : d ≤ 1000) : Calls prog w p loose mean mg mb 4 589 [.int y t, .int m t1, .int d t2] (fun v tl => (1 ≤ d ∧ d ≤ glen y m) ∧ (∃ x t, v = .float x t ∧ J x (gday y m d)) ∧ tl = []) (fun c => ¬ (1 ≤ d ∧ d ≤ glen y m) ∧ c = .type "ValueError") := by
  unfold Calls; intro dp un gd cn cs a ccd cl outer A₀ base h₀ L fm news s Q E hB hF hK hN hT hk hd hu hret hexc
  refine wpAny_call ?_
  k_dflt (refine' code_def (binds := [(PySem.Str.ofString "year", .int y t), (PySem.Str.ofString "month", .int m t1), (PySem.Str.ofString "day", .int d t2)]) ?k1 ?k2 ?k3 ?k4 ?k5 ?kA ?kF ?kK ?k6 ?k7 ?k8 ?k9 ?kB ?_ ?c2 ?c3 ?c4 ?c5; (case kA => exact rfl); (case kF => exact rfl); (case kK => exact hk); (case k1 => exact hB); (case k2 => exact hF); (case k3 => exact hK); (case k4 => exact hN); (case k5 => exact hT); (case k6 => k_is); (case k7 => k_is); (case k8 => ktr_room); (case k9 => exact BindsTo.of_eq rfl); (case c5 => decide); (case kB => exact locs rfl); (case c2 => exact rfl); (case c3 => exact rfl); (case c4 => exact rfl); k_whole)
  intro g₁ L₁ h₁ FG F₁ N₁ B₁ X₁ T₁
  clear hB hF hN hT
  (try dsimp only)
  dsimp only [List.reverse, List.reverseAux] at F₁
  (try k_fold)
  k_steps
  all_goals first
    | (refine hexc _ _ _ _ _ ⟨by assumption, rfl⟩ (by assumption) (by walk_at "M rs") (by assumption))
    | (refine hret _ [] _ _ ⟨by assumption, ⟨_, _, rfl, by assumption⟩, rfl⟩ (fun _ _ _ h => nomatch h) (by k_asm) (by walk_at "M news"))
    | skip
set_option maxHeartbeats 8000000 in
theorem jd_julian_calls (y m d : Int) (t t1 t2 : Tok) (hy1 : -600000 ≤ y) (hy2 : y ≤ 600000) (hm1 : 1 ≤ m) (hm2 : m ≤ 12) (hd1 : -1000 ≤ d) (hd2 : d ≤ 1000) : Calls prog w p loose mean mg mb 5 596 [.int y t, .int m t1, .int d t2] (fun v tl => (1 ≤ d ∧ d ≤ jlen y m) ∧ (∃ x t, v = .float x t ∧ J x (jday y m d)) ∧ tl = []) (fun c => ¬ (1 ≤ d ∧ d ≤ jlen y m) ∧ c = .type "ValueError") := by
  unfold Calls; intro dp un gd cn cs a ccd cl outer A₀ base h₀ L fm news s Q E hB hF hK hN hT hk hd hu hret hexc
  refine wpAny_call ?_
  k_dflt (refine' code_def (binds := [(PySem.Str.ofString "year", .int y t), (PySem.Str.ofString "month", .int m t1), (PySem.Str.ofString "day", .int d t2)]) ?k1 ?k2 ?k3 ?k4 ?k5 ?kA ?kF ?kK ?k6 ?k7 ?k8 ?k9 ?kB ?_ ?c2 ?c3 ?c4 ?c5; (case kA => exact rfl); (case kF => exact rfl); (case kK => exact hk); (case k1 => exact hB); (case k2 => exact hF); (case k3 => exact hK); (case k4 => exact hN); (case k5 => exact hT); (case k6 => k_is); (case k7 => k_is); (case k8 => ktr_room); (case k9 => exact BindsTo.of_eq rfl); (case c5 => decide); (case kB => exact locs rfl); (case c2 => exact rfl); (case c3 => exact rfl); (case c4 => exact rfl); k_whole)
  intro g₁ L₁ h₁ FG F₁ N₁ B₁ X₁ T₁
  clear hB hF hN hT
  (try dsimp only)
  dsimp only [List.reverse, List.reverseAux] at F₁
  (try k_fold)
  k_steps
  all_goals first
    | (refine hexc _ _ _ _ _ ⟨by assumption, rfl⟩ (by assumption) (by walk_at "M rs") (by assumption))
    | (refine hret _ [] _ _ ⟨by assumption, ⟨_, _, rfl, by assumption⟩, rfl⟩ (fun _ _ _ h => nomatch h) (by k_asm) (by walk_at "M news"))
    | skip
theorem from_jd_calls2 (n : Int) (x : UInt64) (t : Tok) (hx : J x n) (hn : -200000000 ≤ n ∧ n ≤ 200000000) : Calls prog w p loose mean mg mb 4 448 [.float x t] (fun v tl => ∃ a Y M D ta tb tc, FJ n Y M D ∧ v = .ref a ∧ tl = [(a, tupleOf [.int Y ta, .int M tb, .int D tc])]) (fun _ => False) := from_jd_calls n x t hn.1 hn.2 hx
theorem jfrom_jd_calls2 (n : Int) (x : UInt64) (t : Tok) (hx : J x n) (hn : -200000000 ≤ n ∧ n ≤ 200000000) : Calls prog w p loose mean mg mb 1 491 [.float x t] (fun v tl => ∃ a Y M D ta tb tc, InYearJ n Y ∧ v = .ref a ∧ tl = [(a, tupleOf [.int Y ta, .int M tb, .int D tc])]) (fun _ => False) := jfrom_jd_calls n x t hn.1 hn.2 hx
local macro_rules | `(tactic| walk_at "call ref") => `(tactic| (k_here; (with_reducible show wpAny _ _ (call (Value.ref 448) _) _ _ _); (with_reducible refine' calls_use (from_jd_calls2 _ _ _ (by with_reducible assumption) (by with_reducible assumption)) ?kA ?k1 ?k2 ?k3 ?k4 ?k5 ?kK ?kd ?ku ?_ ?kx); k_dflt ((case kA => exact rfl); (case k1 => k_asm); (case k2 => k_asm); (case k3 => k_asm); (case k4 => k_asm); (case k5 => k_asm); (case kK => first | exact rfl | assumption); (case kd => walk_at "M room"); (case ku => walk_at "M room"); (case kx => intro _ _ _ _ _ hX; exact hX.elim)); intro v' tl' h' tk' hR' l' F' N'; obtain ⟨a', Y', M', D', ta', tb', tc', fj', e1, e2⟩ := hR'; subst e1; subst e2; (try dsimp only [List.nil_append, List.cons_append] at N' ⊢); (try k_sweep)))
local macro_rules | `(tactic| walk_at "call ref") => `(tactic| (k_here; (with_reducible show wpAny _ _ (call (Value.ref 491) _) _ _ _); (with_reducible refine' calls_use (jfrom_jd_calls2 _ _ _ (by with_reducible assumption) (by with_reducible assumption)) ?kA ?k1 ?k2 ?k3 ?k4 ?k5 ?kK ?kd ?ku ?_ ?kx); k_dflt ((case kA => exact rfl); (case k1 => k_asm); (case k2 => k_asm); (case k3 => k_asm); (case k4 => k_asm); (case k5 => k_asm); (case kK => first | exact rfl | assumption); (case kd => walk_at "M room"); (case ku => walk_at "M room"); (case kx => intro _ _ _ _ _ hX; exact hX.elim)); intro v' tl' h' tk' hR' l' F' N'; obtain ⟨a', Y', M', D', ta', tb', tc', iy', e1, e2⟩ := hR'; subst e1; subst e2; (try dsimp only [List.nil_append, List.cons_append] at N' ⊢); (try k_sweep)))
set_option maxHeartbeats 8000000 in
theorem from_greg_julian_calls (y m d : Int) (t t1 t2 : Tok) (hy1 : -500100 ≤ y) (hy2 : y ≤ 500100) (hm1 : 1 ≤ m) (hm2 : m ≤ 12) (hd1 : -1000 ≤ d) (hd2 : d ≤ 1000) : Calls prog w p loose mean mg mb 4 505 [.int y t, .int m t1, .int d t2] (fun v tl => ∃ a o, (1 ≤ d ∧ d ≤ glen y m) ∧ v = .ref a ∧ tl = [(a, o)]) (fun c => ¬ (1 ≤ d ∧ d ≤ glen y m) ∧ c = .type "ValueError") := by
  have hb := gday_bound5 (m := m) (d := d) hy1 hy2 hm1 hm2 hd1 hd2
  unfold Calls; intro dp un gd cn cs a ccd cl outer A₀ base h₀ L fm news s Q E hB hF hK hN hT hk hd hu hret hexc
  refine wpAny_call ?_
  k_dflt (refine' code_def (binds := [(PySem.Str.ofString "year", .int y t), (PySem.Str.ofString "month", .int m t1), (PySem.Str.ofString "day", .int d t2)]) ?k1 ?k2 ?k3 ?k4 ?k5 ?kA ?kF ?kK ?k6 ?k7 ?k8 ?k9 ?kB ?_ ?c2 ?c3 ?c4 ?c5; (case kA => exact rfl); (case kF => exact rfl); (case kK => exact hk); (case k1 => exact hB); (case k2 => exact hF); (case k3 => exact hK); (case k4 => exact hN); (case k5 => exact hT); (case k6 => k_is); (case k7 => k_is); (case k8 => ktr_room); (case k9 => exact BindsTo.of_eq rfl); (case c5 => decide); (case kB => exact locs rfl); (case c2 => exact rfl); (case c3 => exact rfl); (case c4 => exact rfl); k_whole)
  intro g₁ L₁ h₁ FG F₁ N₁ B₁ X₁ T₁
  clear hB hF hN hT
  (try dsimp only)
  dsimp only [List.reverse, List.reverseAux] at F₁
  (try k_fold)
  k_steps
  all_goals first
    | (refine hexc _ _ _ _ _ ⟨by assumption, rfl⟩ (by assumption) (by walk_at "M rs") (by assumption))
    | (refine hret _ [_] _ _ ⟨_, _, by assumption, rfl, rfl⟩ (by with_reducible assumption) (by k_asm) (by walk_at "M news"))
    | skip
set_option maxHeartbeats 8000000 in
theorem to_greg_julian_calls (y m d : Int) (t t1 t2 : Tok) (hy1 : -500100 ≤ y) (hy2 : y ≤ 500100) (hm1 : 1 ≤ m) (hm2 : m ≤ 12) (hd1 : -1000 ≤ d) (hd2 : d ≤ 1000) : Calls prog w p loose mean mg mb 5 512 [.int y t, .int m t1, .int d t2] (fun v tl => ∃ a o, (1 ≤ d ∧ d ≤ jlen y m) ∧ v = .ref a ∧ tl = [(a, o)]) (fun c => ¬ (1 ≤ d ∧ d ≤ jlen y m) ∧ c = .type "ValueError") := by
  have hb := jday_bound5 (m := m) (d := d) hy1 hy2 hm1 hm2 hd1 hd2
  unfold Calls; intro dp un gd cn cs a ccd cl outer A₀ base h₀ L fm news s Q E hB hF hK hN hT hk hd hu hret hexc
  refine wpAny_call ?_
  k_dflt (refine' code_def (binds := [(PySem.Str.ofString "year", .int y t), (PySem.Str.ofString "month", .int m t1), (PySem.Str.ofString "day", .int d t2)]) ?k1 ?k2 ?k3 ?k4 ?k5 ?kA ?kF ?kK ?k6 ?k7 ?k8 ?k9 ?kB ?_ ?c2 ?c3 ?c4 ?c5; (case kA => exact rfl); (case kF => exact rfl); (case kK => exact hk); (case k1 => exact hB); (case k2 => exact hF); (case k3 => exact hK); (case k4 => exact hN); (case k5 => exact hT); (case k6 => k_is); (case k7 => k_is); (case k8 => ktr_room); (case k9 => exact BindsTo.of_eq rfl); (case c5 => decide); (case kB => exact locs rfl); (case c2 => exact rfl); (case c3 => exact rfl); (case c4 => exact rfl); k_whole)
  intro g₁ L₁ h₁ FG F₁ N₁ B₁ X₁ T₁
  clear hB hF hN hT
  (try dsimp only)
  dsimp only [List.reverse, List.reverseAux] at F₁
  (try k_fold)
  k_steps
  all_goals first
    | (refine hexc _ _ _ _ _ ⟨by assumption, rfl⟩ (by assumption) (by walk_at "M rs") (by assumption))
    | (refine hret _ [_] _ _ ⟨_, _, by assumption, rfl, rfl⟩ (by with_reducible assumption) (by k_asm) (by walk_at "M news"))
    | skip
end

end
section
theorem off_C12 : True := by
  w_top off
  trivial
end
section
/-- Calls with a word on the ledger of the call -/
def CallsQ (prog : Program) (w : World) (p : Program) (loose : List Str) (mean : ExcName → Option Value) (mg mb : Str → Option Value) (D : Nat) (f : Addr) (vs : List Value) (Pre : List (Addr × Obj) → Prop) (R : Value → List (Addr × Obj) → Prop) (X : Value → Prop) : Prop :=
  ∀ (dp un : Nat) (gd : Option (List Code)) (cn : Str) (cs : Scope) (a : Addr) (ccd : Value) (cl : List (Str × Addr)) (outer : List Env) (A₀ : Around) (base h₀ : Heap) (L : Addr) (m : Str → Option Value) (news : List (Addr × Obj)) (s : Shared) (Q E : Value → Shared → Prop),
    Below A₀ base outer h₀ → Fr h₀ L s.heap m → (hd.heap_39 w.params).In h₀ → News h₀ L s.heap news → Top p loose mean mg mb h₀ → cs.kind = .function →
    dp + D < recursionLimit → un + 8 * D < cLine → Pre news →
    (∀ (v : Value) (tl : List (Addr × Obj)) (h' : Heap) (tk' : Nat), R v tl → (∀ q ∈ news, ∀ p ∈ tl, q.1 < p.1) → Fr h₀ L h' m → News h₀ L h' (tl ++ news) → Q v { s with heap := h', toks := tk' }) →
    (∀ (e : Addr) (cls : Value) (g h' : Heap) (tk' : Nat), X cls → Fr h₀ L g m → RaisedSN base g (envX cn cs L a ccd cl :: outer) e cls news h' → g.UpToSlots h' → E (.ref e) { s with heap := h', toks := tk' }) →
      wpAny (model prog w) (ktrTop dp un gd cn cs L a ccd cl outer) (call (.ref f) vs) Q E s
section
variable {prog : Program} {w : World} {p : Program} {loose : List Str} {mean : ExcName → Option Value} {mg mb : Str → Option Value} {D : Nat} {f : Addr} {vs : List Value} {Pre : List (Addr × Obj) → Prop} {R : Value → List (Addr × Obj) → Prop} {X : Value → Prop}
theorem callsQ_use {A : Around} {dp un : Nat} {gd : Option (List Code)} {cn : Str} {cs : Scope} {a : Addr} {ccd : Value} {cl : List (Str × Addr)} {outer : List Env} {A₀ : Around} {base h₀ : Heap} {L : Addr} {m : Str → Option Value} {news : List (Addr × Obj)} {s : Shared} {Q E : Value → Shared → Prop}
    (C : CallsQ prog w p loose mean mg mb D f vs Pre R X) (hA : A = ktrTop dp un gd cn cs L a ccd cl outer) (B : Below A₀ base outer h₀) (F : Fr h₀ L s.heap m) (K : (hd.heap_39 w.params).In h₀) (N : News h₀ L s.heap news) (T : Top p loose mean mg mb h₀) (hk : cs.kind = .function)
    (hd : dp + D < recursionLimit) (hu : un + 8 * D < cLine) (hP : Pre news)
    (ret : ∀ (v : Value) (tl : List (Addr × Obj)) (h' : Heap) (tk' : Nat), R v tl → (∀ q ∈ news, ∀ p ∈ tl, q.1 < p.1) → Fr h₀ L h' m → News h₀ L h' (tl ++ news) → Q v { s with heap := h', toks := tk' })
    (exc : ∀ (e : Addr) (cls : Value) (g h' : Heap) (tk' : Nat), X cls → Fr h₀ L g m → RaisedSN base g (envX cn cs L a ccd cl :: outer) e cls news h' → g.UpToSlots h' → E (.ref e) { s with heap := h', toks := tk' }) :
      wpAny (model prog w) A (call (.ref f) vs) Q E s := by
  subst hA
  exact C _ _ _ _ _ _ _ _ _ _ _ _ _ _ _ _ _ _ B F K N T hk hd hu hP ret exc
end
theorem ne_all {d : Addr} {r : List (Addr × Obj)} (h : ∀ p ∈ r, p.1 < d) : ∀ p ∈ r, p.1 ≠ d := fun p hp => Nat.ne_of_lt (h p hp)
section
variable {prog : Program} {w : World} {p : Program} {loose : List Str} {mean : ExcName → Option Value} {mg mb : Str → Option Value}
local macro_rules | `(tactic| k_units) => `(tactic| walk_at "M room")
local macro_rules | `(tactic| k_all) => `(tactic| exact ne_all (by with_reducible assumption))
local macro_rules | `(tactic| walk_at "setAttr ref") => `(tactic| (k_here; k_dflt (refine' set_dict ?k1 ?k2 ?k3 ?k4 ?k5 ?k6 ?k7 ?k8 ?k9 ?k10 ?k11 ?k12 ?k13 ?_; (case k1 => k_asm); (case k2 => k_asm); (case k3 => k_asm); (case k4 => k_inst); (case k5 => exact rfl); (case k6 => k_is); (case k7 => k_is); (case k8 => k_is); (case k9 => k_is); (case k10 => k_get); (case k11 => k_put); (case k12 => k_upd); (case k13 => walk_at "M room"); k_whole; intro h' F' N'; (try k_sweep))))
set_option maxHeartbeats 8000000 in
theorem dc_new (x : UInt64) (t : Tok) {dp un : Nat} {gd : Option (List Code)} {cn : Str} {cs : Scope} {a : Addr} {ccd : Value} {cl : List (Str × Addr)} {outer : List Env} {A₀ : Around} {base h₀ : Heap} {L : Addr} {fm : Str → Option Value} {news : List (Addr × Obj)} {s : Shared} {Q E : Value → Shared → Prop}
    (hB : Below A₀ base outer h₀) (hF : Fr h₀ L s.heap fm) (hK : (hd.heap_39 w.params).In h₀) (hN : News h₀ L s.heap news) (hT : Top p loose mean mg mb h₀) (hk : cs.kind = .function)
    {A : Around} (hA : A = ktrTop dp un gd cn cs L a ccd cl outer) (hd : dp + 2 < recursionLimit) (hu : un + 16 < cLine)
    (hQ : ∀ x' dx' tk₀ h' tk', (∀ p ∈ news, p.1 < dx') → dx' < x' → Fr h₀ L h' fm → News h₀ L h' ((x', instObj 571 dx') :: (dx', dictOf [{ hash := PyData.keyHash w.params (PySem.Str.ofString "epoch"), key := Value.str (PySem.Str.ofString "epoch") tk₀, val := Value.float x t }] 1) :: news) → Q (.ref x') { s with heap := h', toks := tk' }) :
    wpAny (model prog w) A (call (.ref 571) [.float x t]) Q E s := by
  subst hA
  k_dflt (refine' call_cls (C := 571) hF hK hN ?k4 ?k5 ?k6 ?_; (case k4 => k_is); (case k5 => k_is); (case k6 => k_is))
  intro x' dx' h' F' N' l1 l2
  k_lt2 l2
  have hU : (ktrTop dp un gd cn cs L a ccd cl outer).under (.builtin "type.__call__" ⟨[.ref 571, .float x t], []⟩) = ktrTop (dp + 1) (un + 1) gd cn cs L a ccd cl outer := by first | rfl | (cases gd <;> rfl)
  rw [hU]
  k_dflt (refine' code_def (A := ktrTop (dp + 1) (un + 1) gd cn cs L a ccd cl outer) (binds := [(PySem.Str.ofString "self", .ref x'), (PySem.Str.ofString "epoch", .float x t)]) hB F' hK N' hT ?kA ?kF ?kK ?k6 ?k7 ?k8 ?k9 ?kB ?_ ?c2 ?c3 ?c4 ?c5; (case kA => exact rfl); (case kF => exact rfl); (case kK => exact hk); (case k6 => k_is); (case k7 => k_is); (case k8 => ktr_room); (case k9 => exact BindsTo.of_eq rfl); (case c5 => decide); (case kB => exact locs rfl); (case c2 => exact rfl); (case c3 => exact rfl); (case c4 => exact rfl); k_whole)
  intro g₁ L₁ h₁ FG F₁ N₁ B₁ X₁ T₁
  (try dsimp only)
  dsimp only [List.reverse, List.reverseAux] at F₁
  (try k_fold)
  k_steps
  all_goals exact hQ _ _ _ _ _ l1 l2 (by k_asm) (by k_asm)
local macro_rules | `(tactic| walk_at "call ref") => `(tactic| (k_here; (with_reducible show wpAny _ _ (call (Value.ref 441) _) _ _ _); (with_reducible refine' calls_use (to_jd_calls _ _ _ _ _ _ (by walk_at "M om") (by walk_at "M om") (by walk_at "M om") (by walk_at "M om") (by walk_at "M om") (by walk_at "M om")) ?kA ?k1 ?k2 ?k3 ?k4 ?k5 ?kK ?kd ?ku ?_ ?_); k_dflt ((case kA => exact rfl); (case k1 => k_asm); (case k2 => k_asm); (case k3 => k_asm); (case k4 => k_asm); (case k5 => k_asm); (case kK => first | exact rfl | assumption); (case kd => walk_at "M room"); (case ku => walk_at "M room"); skip); ((intro v' tl' h' tk' hR' l' F' N'; obtain ⟨hp, ⟨x', t', e1, gx'⟩, e2⟩ := hR'; subst e1; subst e2; (try dsimp only [List.nil_append] at N' ⊢); (try k_sweep))); rotate_left; ((intro e' cls' g' h' tk' hX' F' R' U'; obtain ⟨hp, e1⟩ := hX'; subst e1; (try dsimp only))); rotate_right))
local macro_rules | `(tactic| walk_at "call ref") => `(tactic| (k_here; (with_reducible show wpAny _ _ (call (Value.ref 498) _) _ _ _); (with_reducible refine' calls_use (jto_jd_calls _ _ _ _ _ _ (by walk_at "M om") (by walk_at "M om") (by walk_at "M om") (by walk_at "M om") (by walk_at "M om") (by walk_at "M om")) ?kA ?k1 ?k2 ?k3 ?k4 ?k5 ?kK ?kd ?ku ?_ ?_); k_dflt ((case kA => exact rfl); (case k1 => k_asm); (case k2 => k_asm); (case k3 => k_asm); (case k4 => k_asm); (case k5 => k_asm); (case kK => first | exact rfl | assumption); (case kd => walk_at "M room"); (case ku => walk_at "M room"); skip); ((intro v' tl' h' tk' hR' l' F' N'; obtain ⟨hp, ⟨x', t', e1, gx'⟩, e2⟩ := hR'; subst e1; subst e2; (try dsimp only [List.nil_append] at N' ⊢); (try k_sweep))); rotate_left; ((intro e' cls' g' h' tk' hX' F' R' U'; obtain ⟨hp, e1⟩ := hX'; subst e1; (try dsimp only))); rotate_right))
local macro_rules | `(tactic| k_mem) => `(tactic| with_reducible assumption)
set_option maxHeartbeats 8000000 in
theorem dc_fj_calls {x' dx' : Addr} {x : UInt64} {t₀ tk₀ : Tok} {lo hi : Int} (hg : G x lo hi) (hlo : -6291456000000 ≤ lo) (hhi : hi ≤ 6291456000000) (n : Int) (z : UInt64) (t : Tok) (hz : J z n) (hn : -200000000 ≤ n ∧ n ≤ 200000000) :
    CallsQ prog w p loose mean mg mb 2 554 [.ref x', .float z t] (fun news => (x', instObj 571 dx') ∈ news ∧ (dx', dictOf [{ hash := PyData.keyHash w.params (PySem.Str.ofString "epoch"), key := Value.str (PySem.Str.ofString "epoch") tk₀, val := Value.float x t₀ }] 1) ∈ news) (fun v tl => (∃ x t, v = .float x t) ∧ tl = []) (fun _ => False) := by
  unfold CallsQ; intro dp un gd cn cs a ccd cl outer A₀ base h₀ L fm news s Q E hB hF hK hN hT hk hd hu hP hret hexc
  refine wpAny_call ?_
  k_dflt (refine' code_def (binds := [(PySem.Str.ofString "self", .ref x'), (PySem.Str.ofString "jdc", .float z t)]) ?k1 ?k2 ?k3 ?k4 ?k5 ?kA ?kF ?kK ?k6 ?k7 ?k8 ?k9 ?kB ?_ ?c2 ?c3 ?c4 ?c5; (case kA => exact rfl); (case kF => exact rfl); (case kK => exact hk); (case k1 => exact hB); (case k2 => exact hF); (case k3 => exact hK); (case k4 => exact hN); (case k5 => exact hT); (case k6 => k_is); (case k7 => k_is); (case k8 => ktr_room); (case k9 => exact BindsTo.of_eq rfl); (case c5 => decide); (case kB => exact locs rfl); (case c2 => exact rfl); (case c3 => exact rfl); (case c4 => exact rfl); k_whole)
  intro g₁ L₁ h₁ FG F₁ N₁ B₁ X₁ T₁
  clear hB hF hN hT
  (try dsimp only)
  dsimp only [List.reverse, List.reverseAux] at F₁
  (try k_fold)
  obtain ⟨hp1, hp2⟩ := hP
  k_steps
  all_goals (refine hret _ [] _ _ ⟨⟨_, _, rfl⟩, rfl⟩ (fun _ _ _ h => nomatch h) (by k_asm) (by walk_at "M news"))
local macro_rules | `(tactic| walk_at "call ref") => `(tactic| (k_here; (with_reducible show wpAny _ _ (call (Value.ref 554) _) _ _ _); (with_reducible refine' callsQ_use (dc_fj_calls (by with_reducible assumption) (by with_reducible assumption) (by with_reducible assumption) _ _ _ (by with_reducible assumption) (by with_reducible assumption)) ?kA ?k1 ?k2 ?k3 ?k4 ?k5 ?kK ?kd ?ku ?hP ?_ ?kx); k_dflt ((case kA => exact rfl); (case k1 => k_asm); (case k2 => k_asm); (case k3 => k_asm); (case k4 => k_asm); (case k5 => k_asm); (case kK => first | exact rfl | assumption); (case kd => walk_at "M room"); (case ku => walk_at "M room"); (case hP => exact ⟨by k_mem, by k_mem⟩); (case kx => intro _ _ _ _ _ hX; exact hX.elim)); intro v' tl' h' tk' hR' l' F' N'; obtain ⟨⟨x', t', e1⟩, e2⟩ := hR'; subst e1; subst e2; (try dsimp only [List.nil_append] at N' ⊢); (try k_sweep)))
set_option maxHeartbeats 8000000 in
theorem dc_fg_calls {x' dx' : Addr} {x : UInt64} {t₀ tk₀ : Tok} {lo hi : Int} (hg : G x lo hi) (hlo : -6291456000000 ≤ lo) (hhi : hi ≤ 6291456000000) (y m d : Int) (t t1 t2 : Tok) (hy1 : -500100 ≤ y) (hy2 : y ≤ 500100) (hm1 : 1 ≤ m) (hm2 : m ≤ 12) (hd1 : -1000 ≤ d) (hd2 : d ≤ 1000) :
    CallsQ prog w p loose mean mg mb 5 540 [.ref x', .int y t, .int m t1, .int d t2] (fun news => (x', instObj 571 dx') ∈ news ∧ (dx', dictOf [{ hash := PyData.keyHash w.params (PySem.Str.ofString "epoch"), key := Value.str (PySem.Str.ofString "epoch") tk₀, val := Value.float x t₀ }] 1) ∈ news)
      (fun v tl => (1 ≤ d ∧ d ≤ glen y m) ∧ (∃ x t, v = .float x t) ∧ tl = []) (fun c => ¬ (1 ≤ d ∧ d ≤ glen y m) ∧ c = .type "ValueError") := by
  have hb := gday_bound5 (m := m) (d := d) hy1 hy2 hm1 hm2 hd1 hd2
  unfold CallsQ; intro dp un gd cn cs a ccd cl outer A₀ base h₀ L fm news s Q E hB hF hK hN hT hk hd hu hP hret hexc
  refine wpAny_call ?_
  k_dflt (refine' code_def (binds := [(PySem.Str.ofString "self", .ref x'), (PySem.Str.ofString "year", .int y t), (PySem.Str.ofString "month", .int m t1), (PySem.Str.ofString "day", .int d t2)]) ?k1 ?k2 ?k3 ?k4 ?k5 ?kA ?kF ?kK ?k6 ?k7 ?k8 ?k9 ?kB ?_ ?c2 ?c3 ?c4 ?c5; (case kA => exact rfl); (case kF => exact rfl); (case kK => exact hk); (case k1 => exact hB); (case k2 => exact hF); (case k3 => exact hK); (case k4 => exact hN); (case k5 => exact hT); (case k6 => k_is); (case k7 => k_is); (case k8 => ktr_room); (case k9 => exact BindsTo.of_eq rfl); (case c5 => decide); (case kB => exact locs rfl); (case c2 => exact rfl); (case c3 => exact rfl); (case c4 => exact rfl); k_whole)
  intro g₁ L₁ h₁ FG F₁ N₁ B₁ X₁ T₁
  clear hB hF hN hT
  (try dsimp only)
  dsimp only [List.reverse, List.reverseAux] at F₁
  (try k_fold)
  obtain ⟨hp1, hp2⟩ := hP
  k_steps
  all_goals first
    | (refine hexc _ _ _ _ _ ⟨by assumption, rfl⟩ (by assumption) (by walk_at "M rs") (by assumption))
    | (refine hret _ [] _ _ ⟨by assumption, ⟨_, _, rfl⟩, rfl⟩ (fun _ _ _ h => nomatch h) (by k_asm) (by walk_at "M news"))
    | skip
set_option maxHeartbeats 8000000 in
theorem dc_fu_calls {x' dx' : Addr} {x : UInt64} {t₀ tk₀ : Tok} {lo hi : Int} (hg : G x lo hi) (hlo : -6291456000000 ≤ lo) (hhi : hi ≤ 6291456000000) (y m d : Int) (t t1 t2 : Tok) (hy1 : -500100 ≤ y) (hy2 : y ≤ 500100) (hm1 : 1 ≤ m) (hm2 : m ≤ 12) (hd1 : -1000 ≤ d) (hd2 : d ≤ 1000) :
    CallsQ prog w p loose mean mg mb 5 561 [.ref x', .int y t, .int m t1, .int d t2] (fun news => (x', instObj 571 dx') ∈ news ∧ (dx', dictOf [{ hash := PyData.keyHash w.params (PySem.Str.ofString "epoch"), key := Value.str (PySem.Str.ofString "epoch") tk₀, val := Value.float x t₀ }] 1) ∈ news)
      (fun v tl => (1 ≤ d ∧ d ≤ jlen y m) ∧ (∃ x t, v = .float x t) ∧ tl = []) (fun c => ¬ (1 ≤ d ∧ d ≤ jlen y m) ∧ c = .type "ValueError") := by
  have hb := jday_bound5 (m := m) (d := d) hy1 hy2 hm1 hm2 hd1 hd2
  unfold CallsQ; intro dp un gd cn cs a ccd cl outer A₀ base h₀ L fm news s Q E hB hF hK hN hT hk hd hu hP hret hexc
  refine wpAny_call ?_
  k_dflt (refine' code_def (binds := [(PySem.Str.ofString "self", .ref x'), (PySem.Str.ofString "year", .int y t), (PySem.Str.ofString "month", .int m t1), (PySem.Str.ofString "day", .int d t2)]) ?k1 ?k2 ?k3 ?k4 ?k5 ?kA ?kF ?kK ?k6 ?k7 ?k8 ?k9 ?kB ?_ ?c2 ?c3 ?c4 ?c5; (case kA => exact rfl); (case kF => exact rfl); (case kK => exact hk); (case k1 => exact hB); (case k2 => exact hF); (case k3 => exact hK); (case k4 => exact hN); (case k5 => exact hT); (case k6 => k_is); (case k7 => k_is); (case k8 => ktr_room); (case k9 => exact BindsTo.of_eq rfl); (case c5 => decide); (case kB => exact locs rfl); (case c2 => exact rfl); (case c3 => exact rfl); (case c4 => exact rfl); k_whole)
  intro g₁ L₁ h₁ FG F₁ N₁ B₁ X₁ T₁
  clear hB hF hN hT
  (try dsimp only)
  dsimp only [List.reverse, List.reverseAux] at F₁
  (try k_fold)
  obtain ⟨hp1, hp2⟩ := hP
  k_steps
  all_goals first
    | (refine hexc _ _ _ _ _ ⟨by assumption, rfl⟩ (by assumption) (by walk_at "M rs") (by assumption))
    | (refine hret _ [] _ _ ⟨by assumption, ⟨_, _, rfl⟩, rfl⟩ (fun _ _ _ h => nomatch h) (by k_asm) (by walk_at "M news"))
    | skip
end

end
section
theorem off_C13 : True := by
  w_top off
  trivial
end
section
open PySem.Builtin._datetime in
theorem dim_glen {y m : Int} (h1 : 1 ≤ m) (h2 : m ≤ 12) : daysInMonth y m = glen y m := by
  have hl : PySem.Builtin.Time.timeIsLeap y = wide y := by
    unfold PySem.Builtin.Time.timeIsLeap wide
    rw [Mine.fm _ _ (by decide), Mine.fm _ _ (by decide), Mine.fm _ _ (by decide)]
  unfold daysInMonth glen
  rw [hl]
  have : m = 1 ∨ m = 2 ∨ m = 3 ∨ m = 4 ∨ m = 5 ∨ m = 6 ∨ m = 7 ∨ m = 8 ∨ m = 9 ∨ m = 10 ∨ m = 11 ∨ m = 12 := by omega
  rcases this with rfl | rfl | rfl | rfl | rfl | rfl | rfl | rfl | rfl | rfl | rfl | rfl <;> simp
open PySem.Builtin._datetime in
theorem dateOk_iff {y m d : Int} : dateOk y m d = true ↔ (1 ≤ y ∧ y ≤ 9999) ∧ (1 ≤ m ∧ m ≤ 12) ∧ 1 ≤ d ∧ d ≤ glen y m := by
  unfold dateOk
  by_cases h : 1 ≤ m ∧ m ≤ 12
  · rw [dim_glen h.1 h.2]
    simp only [Bool.and_eq_true, decide_eq_true_eq]
    omega
  · simp only [Bool.and_eq_true, decide_eq_true_eq]
    omega
section
variable {prog : Program} {w : World} {p : Program} {loose : List Str} {mean : ExcName → Option Value} {mg mb : Str → Option Value}
local macro_rules | `(tactic| walk_at "call type:datetime.date") => `(tactic| (k_here; (with_reducible refine' dt_K ?kF ?kN ?kh ?q1 ?q2 ?q3 ?q4 ?q5 ?q6 ?_ ?_); k_dflt ((case kF => k_asm); (case kN => k_asm); (case kh => exact rfl); (case q1 => walk_at "M om"); (case q2 => walk_at "M om"); (case q3 => walk_at "M om"); (case q4 => walk_at "M om"); (case q5 => walk_at "M om"); (case q6 => walk_at "M om")); ((intro hok d' h' tk' u1' u2' u3' F' N' l'; (try k_sweep))); rotate_left; ((intro hbad h' tk' e' hx'; (try dsimp only))); rotate_right))
local macro_rules | `(tactic| walk_at "getMethod ref") => `(tactic| (k_here; (with_reducible show wpAny _ _ (getMethod (Value.ref _) (Str.ofString "isocalendar") _) _ _ _); (with_reducible refine' dt_get ?kN ?km dt_slot_ic dt_type_ic ?kc ?kd ?_); k_dflt ((case kN => k_asm); (case km => news_mem); (case kc => exact rfl); (case kd => exact rfl))))
local macro_rules | `(tactic| walk_at "call builtin:datetime.date.isocalendar") => `(tactic| (k_here; (with_reducible refine' ic_K ?kF ?kN ?km ?_); k_dflt ((case kF => k_asm); (case kN => k_asm); (case km => news_mem)); intro d' h' tk' o' F' N' l'; (try k_sweep)))
set_option maxHeartbeats 8000000 in
theorem iso_calls (y m d : Int) (t t1 t2 : Tok) (hy1 : -1000000 ≤ y) (hy2 : y ≤ 1000000) (hm1 : -1000 ≤ m) (hm2 : m ≤ 1000) (hd1 : -1000 ≤ d) (hd2 : d ≤ 1000) : Calls prog w p loose mean mg mb 1 582 [.int y t, .int m t1, .int d t2] (fun v tl => ((1 ≤ y ∧ y ≤ 9999) ∧ (1 ≤ m ∧ m ≤ 12) ∧ 1 ≤ d ∧ d ≤ glen y m) ∧ (∃ a, v = .ref a) ∧ tl = []) (fun c => ¬ ((1 ≤ y ∧ y ≤ 9999) ∧ (1 ≤ m ∧ m ≤ 12) ∧ 1 ≤ d ∧ d ≤ glen y m) ∧ c = .type "ValueError") := by
  unfold Calls; intro dp un gd cn cs a ccd cl outer A₀ base h₀ L fm news s Q E hB hF hK hN hT hk hd hu hret hexc
  refine wpAny_call ?_
  k_dflt (refine' code_def (binds := [(PySem.Str.ofString "year", .int y t), (PySem.Str.ofString "month", .int m t1), (PySem.Str.ofString "day", .int d t2)]) ?k1 ?k2 ?k3 ?k4 ?k5 ?kA ?kF ?kK ?k6 ?k7 ?k8 ?k9 ?kB ?_ ?c2 ?c3 ?c4 ?c5; (case kA => exact rfl); (case kF => exact rfl); (case kK => exact hk); (case k1 => exact hB); (case k2 => exact hF); (case k3 => exact hK); (case k4 => exact hN); (case k5 => exact hT); (case k6 => k_is); (case k7 => k_is); (case k8 => ktr_room); (case k9 => exact BindsTo.of_eq rfl); (case c5 => decide); (case kB => exact locs rfl); (case c2 => exact rfl); (case c3 => exact rfl); (case c4 => exact rfl); k_whole)
  intro g₁ L₁ h₁ FG F₁ N₁ B₁ X₁ T₁
  clear hB hF hN hT
  (try dsimp only)
  dsimp only [List.reverse, List.reverseAux] at F₁
  (try k_fold)
  k_steps
  all_goals first
    | (refine hexc _ _ _ _ _ ⟨fun z => ?_, rfl⟩ (by assumption) (by walk_at "M rs") (by assumption))
    | (refine hret _ [] _ _ ⟨?_, ⟨_, rfl⟩, rfl⟩ (fun _ _ _ h => nomatch h) (by k_asm) (by walk_at "M news"))
    | skip
  all_goals first
    | exact dateOk_iff.mp (by with_reducible assumption)
    | (rw [← dateOk_iff] at z; simp_all)
    | skip
end

end
section
theorem off_C14 : True := by
  w_top off
  trivial
end
section
def tolds (rf : Nat → Bool) : Nat → List Value
  | 0 => []
  | i + 1 => tolds rf i ++ [.bool (rf i)]
/-- CallsT with a word on the ledger of the call -/
def CallsP (prog : Program) (w : World) (p : Program) (loose : List Str) (mean : ExcName → Option Value) (mg mb : Str → Option Value) (D : Nat) (f : Addr) (vs : List Value) (Pre : List (Addr × Obj) → Prop) (R : Value → List (Addr × Obj) → Prop) : Prop :=
  ∀ (dp un : Nat) (gd : Option (List Code)) (cn : Str) (cs : Scope) (a : Addr) (ccd : Value) (A₀ : Around) (base h₀ : Heap) (L : Addr) (m : Str → Option Value) (news : List (Addr × Obj)) (s : Shared) (Q E : Value → Shared → Prop),
    Below A₀ base [] h₀ → Fr h₀ L s.heap m → (hd.heap_39 w.params).In h₀ → News h₀ L s.heap news → Top p loose mean mg mb h₀ → (hd.heap_39 w.params).In base → Top p loose mean mg mb base → cs.kind = .function →
    dp + D < recursionLimit → un + 8 * D < cLine → Pre news →
    (∀ (v : Value) (tl : List (Addr × Obj)) (h' : Heap) (tk' : Nat), R v tl → Fr h₀ L h' m → News h₀ L h' (tl ++ news) → Q v { s with heap := h', toks := tk' }) →
      wpAny (model prog w) (ktrTop dp un gd cn cs L a ccd [] []) (call (.ref f) vs) Q E s
theorem callsP_use {prog : Program} {w : World} {p : Program} {loose : List Str} {mean : ExcName → Option Value} {mg mb : Str → Option Value} {D : Nat} {f : Addr} {vs : List Value} {Pre : List (Addr × Obj) → Prop} {R : Value → List (Addr × Obj) → Prop}
    {A : Around} {dp un : Nat} {gd : Option (List Code)} {cn : Str} {cs : Scope} {a : Addr} {ccd : Value} {A₀ : Around} {base h₀ : Heap} {L : Addr} {m : Str → Option Value} {news : List (Addr × Obj)} {s : Shared} {Q E : Value → Shared → Prop}
    (C : CallsP prog w p loose mean mg mb D f vs Pre R) (hA : A = ktrTop dp un gd cn cs L a ccd [] []) (B : Below A₀ base [] h₀) (F : Fr h₀ L s.heap m) (K : (hd.heap_39 w.params).In h₀) (N : News h₀ L s.heap news) (T : Top p loose mean mg mb h₀) (KB : (hd.heap_39 w.params).In base) (TB : Top p loose mean mg mb base) (hk : cs.kind = .function)
    (hd : dp + D < recursionLimit) (hu : un + 8 * D < cLine) (hP : Pre news)
    (ret : ∀ (v : Value) (tl : List (Addr × Obj)) (h' : Heap) (tk' : Nat), R v tl → Fr h₀ L h' m → News h₀ L h' (tl ++ news) → Q v { s with heap := h', toks := tk' }) :
      wpAny (model prog w) A (call (.ref f) vs) Q E s := by
  subst hA
  exact C _ _ _ _ _ _ _ _ _ _ _ _ _ _ _ _ B F K N T KB TB hk hd hu hP ret
/-- what the twelve roads tell -/
def roadF (y m d : Int) (i : Nat) : Bool :=
  if i < 6 then !decide (1 ≤ d ∧ d ≤ glen y m) else if i = 6 then !decide ((1 ≤ y ∧ y ≤ 9999) ∧ (1 ≤ m ∧ m ≤ 12) ∧ 1 ≤ d ∧ d ≤ glen y m) else !decide (1 ≤ d ∧ d ≤ jlen y m)
theorem frame_road {m₀ m₁ : Str → Option Value} {x : Str} {v : Option Value} (h : ∀ z, z ≠ x → m₁ z = m₀ z) : (fun y => if y = x then v else m₁ y) = fun y => if y = x then v else m₀ y := by
  funext z
  by_cases hz : z = x
  · simp [hz]
  · simp [hz, h z hz]
theorem frame_road2 {m₀ m₁ : Str → Option Value} {x : Str} (h : ∀ z, z ≠ x → m₁ z = m₀ z) : m₁ = fun y => if y = x then m₁ y else m₀ y := by
  funext z
  by_cases hz : z = x
  · simp [hz]
  · simp [hz, h z hz]
theorem tolds_len {rf : Nat → Bool} : ∀ i, (tolds rf i).length = i
  | 0 => rfl
  | i + 1 => by unfold tolds; rw [List.length_append, tolds_len i]; rfl
theorem told_fits {rf : Nat → Bool} {i : Nat} (h : i < 12) : (tolds rf i).toArray.size ≤ sizeLine := by
  rw [sizeLine_eq]
  simp only [List.size_toArray, tolds_len]
  omega
section
variable {prog : Program} {w : World} {A : Around} {E : Value → Shared → Prop} {s : Shared} {h₀ : Heap} {L D : Addr} {m : Str → Option Value} {news R : List (Addr × Obj)}
theorem append_D {its : Array Value} {n : Nat} {x : Value} {Q : Value → Shared → Prop} (F : Fr h₀ L s.heap m) (N : News h₀ L s.heap news) (hne : ∀ p ∈ R, p.1 ≠ D) (hs : ∀ p ∈ (D, listOf its n) :: R, p ∈ news) (hsz : its.size ≤ sizeLine)
    (h : ∀ h', Fr h₀ L h' m → News h₀ L h' ((D, listOf (its.push x) (n + 1)) :: R) → Q .none { s with heap := h' }) : wpAny (model prog w) A (call (.builtin "list.append") [.ref D, x]) Q E s :=
  append_K F (fun p hp => N p (hs p hp)) (.head hne) h hsz
theorem told_end {Gd : Heap → Prop} {own : List (Addr × Obj)} {rf : Nat → Bool} {i c : Nat} {b : Bool} {g' h' : Heap} {tk' : Nat} {m₀ : Str → Option Value} {x : Str} (G : Gd g') (F : Fr g' L h' m) (N : News g' L h' ((D, listOf ((tolds rf i).toArray.push (.bool b)) (c + 1)) :: (R ++ own))) (hm : ∀ z, z ≠ x → m z = m₀ z) (hb : rf i = b) :
    TurnT Gd L own ((fun i m₁ nx => (∀ z, z ≠ x → m₁ z = m₀ z) ∧ ∃ c, nx = (D, listOf (tolds rf i).toArray c) :: R) (i + 1)) s .next { s with heap := h', toks := tk' } := by
  refine TurnT.intro (news' := (D, listOf (tolds rf (i + 1)).toArray (c + 1)) :: R) G F ?_ ⟨hm, _, rfl⟩
  have e : (tolds rf (i + 1)).toArray = (tolds rf i).toArray.push (.bool b) := by
    rw [← hb]; simp [tolds]
  rw [e]; exact N
end
theorem rd1 {y m d : Int} {i : Nat} (h : i < 6) (hp : 1 ≤ d ∧ d ≤ glen y m) : roadF y m d i = false := by unfold roadF; rw [if_pos h, decide_eq_true hp]; rfl
theorem rd2 {y m d : Int} {i : Nat} (h : i < 6) (hp : ¬ (1 ≤ d ∧ d ≤ glen y m)) : roadF y m d i = true := by unfold roadF; rw [if_pos h, decide_eq_false hp]; rfl
theorem rd3 {y m d : Int} {i : Nat} (h : i = 6) (hp : (1 ≤ y ∧ y ≤ 9999) ∧ (1 ≤ m ∧ m ≤ 12) ∧ 1 ≤ d ∧ d ≤ glen y m) : roadF y m d i = false := by unfold roadF; rw [if_neg (by omega), if_pos h, decide_eq_true hp]; rfl
theorem rd4 {y m d : Int} {i : Nat} (h : i = 6) (hp : ¬ ((1 ≤ y ∧ y ≤ 9999) ∧ (1 ≤ m ∧ m ≤ 12) ∧ 1 ≤ d ∧ d ≤ glen y m)) : roadF y m d i = true := by unfold roadF; rw [if_neg (by omega), if_pos h, decide_eq_false hp]; rfl
theorem rd5 {y m d : Int} {i : Nat} (h : 6 < i) (hp : 1 ≤ d ∧ d ≤ jlen y m) : roadF y m d i = false := by unfold roadF; rw [if_neg (by omega), if_neg (by omega), decide_eq_true hp]; rfl
theorem rd6 {y m d : Int} {i : Nat} (h : 6 < i) (hp : ¬ (1 ≤ d ∧ d ≤ jlen y m)) : roadF y m d i = true := by unfold roadF; rw [if_neg (by omega), if_neg (by omega), decide_eq_false hp]; rfl
section
variable {prog : Program} {w : World} {p : Program} {loose : List Str} {mean : ExcName → Option Value} {mg mb : Str → Option Value}
local macro_rules | `(tactic| walk_at "exec If") => `(tactic| refine wpAny_If ?_)
local macro_rules | `(tactic| walk_at "call builtin:list.append") => `(tactic| (k_here; (with_reducible refine' append_D ?F ?N ?ne ?hs ?z ?_); k_dflt ((case ne => with_reducible assumption); (case F => k_asm); (case N => k_asm); (case hs => first | exact fun _ h => h | exact fun _ h => .tail _ h | exact fun _ h => .tail _ (.tail _ h)); (case z => exact told_fits (by with_reducible assumption))); intro h' F' N'; (try dsimp only)))
local macro_rules | `(tactic| walk_at "noteFrame ref") => `(tactic| (k_here; k_dflt (first
  | (refine' caught_SN0 (T' := "ValueError") ?R ?F ?K ?U ?XB ?TB ?D ?T0 ?ex PyProof.Rows.Boot.«ValueError» ?hn PySem.F.isExc_ValueError PySem.F.notTuple_ValueError ?hs ?_; (case R => assumption); (case F => assumption); (case K => assumption); (case U => assumption); (case XB => assumption); (case TB => assumption); (case D => assumption); (case T0 => first | assumption | exact KtsTurn.refl); (case hs => kts_sub); (case ex => k_is); (case hn => decide); k_whole)
  | (refine' caught_own (C := 95) (T' := "ValueError") ?R ?F ?K ?U ?XB ?TB ?D ?T0 ?q ?ex PyProof.Rows.Boot.«ValueError» ?hn PySem.F.isExc_ValueError PySem.F.notTuple_ValueError ?_; (case R => assumption); (case F => assumption); (case K => assumption); (case U => assumption); (case XB => assumption); (case TB => assumption); (case D => assumption); (case T0 => first | assumption | exact KtsTurn.refl); (case q => kts_isx); (case ex => k_is); (case hn => decide); k_whole)); intro h' g' T' F' N' K' X' P' D'; (try k_sweep)))

local macro_rules | `(tactic| k_all) => `(tactic| exact ne_all (by with_reducible assumption))
local macro_rules | `(tactic| walk_at "call ref") => `(tactic| (k_here; (with_reducible show wpAny _ _ (call (Value.ref 427) _) _ _ _); (with_reducible refine' calls_use (legal_calls _ _ _ _ _ _ (by walk_at "M om") (by walk_at "M om") (by walk_at "M om") (by walk_at "M om")) ?kA ?k1 ?k2 ?k3 ?k4 ?k5 ?kK ?kd ?ku ?_ ?_); k_dflt ((case kA => exact rfl); (case k1 => k_asm); (case k2 => k_asm); (case k3 => k_asm); (case k4 => k_asm); (case k5 => k_asm); (case kK => first | exact rfl | assumption); (case kd => walk_at "M room"); (case ku => walk_at "M room"); skip); ((intro v' tl' h' tk' hR' l' F' N'; obtain ⟨hp, e1, e2⟩ := hR'; subst e1; subst e2; (try dsimp only [List.nil_append] at N' ⊢); (try k_sweep))); rotate_left; ((intro e' cls' g' h' tk' hX' F' R' U'; obtain ⟨hp, e1⟩ := hX'; subst e1; (try dsimp only))); rotate_right))
local macro_rules | `(tactic| walk_at "call ref") => `(tactic| (k_here; (with_reducible show wpAny _ _ (call (Value.ref 441) _) _ _ _); (with_reducible refine' calls_use (to_jd_calls _ _ _ _ _ _ (by walk_at "M om") (by walk_at "M om") (by walk_at "M om") (by walk_at "M om") (by walk_at "M om") (by walk_at "M om")) ?kA ?k1 ?k2 ?k3 ?k4 ?k5 ?kK ?kd ?ku ?_ ?_); k_dflt ((case kA => exact rfl); (case k1 => k_asm); (case k2 => k_asm); (case k3 => k_asm); (case k4 => k_asm); (case k5 => k_asm); (case kK => first | exact rfl | assumption); (case kd => walk_at "M room"); (case ku => walk_at "M room"); skip); ((intro v' tl' h' tk' hR' l' F' N'; obtain ⟨hp, ⟨x', t', e1, gx'⟩, e2⟩ := hR'; subst e1; subst e2; (try dsimp only [List.nil_append] at N' ⊢); (try k_sweep))); rotate_left; ((intro e' cls' g' h' tk' hX' F' R' U'; obtain ⟨hp, e1⟩ := hX'; subst e1; (try dsimp only))); rotate_right))
local macro_rules | `(tactic| walk_at "call ref") => `(tactic| (k_here; (with_reducible show wpAny _ _ (call (Value.ref 589) _) _ _ _); (with_reducible refine' calls_use (jd_gregorian_calls _ _ _ _ _ _ (by walk_at "M om") (by walk_at "M om") (by walk_at "M om") (by walk_at "M om") (by walk_at "M om") (by walk_at "M om")) ?kA ?k1 ?k2 ?k3 ?k4 ?k5 ?kK ?kd ?ku ?_ ?_); k_dflt ((case kA => exact rfl); (case k1 => k_asm); (case k2 => k_asm); (case k3 => k_asm); (case k4 => k_asm); (case k5 => k_asm); (case kK => first | exact rfl | assumption); (case kd => walk_at "M room"); (case ku => walk_at "M room"); skip); ((intro v' tl' h' tk' hR' l' F' N'; obtain ⟨hp, ⟨x', t', e1, gx'⟩, e2⟩ := hR'; subst e1; subst e2; (try dsimp only [List.nil_append] at N' ⊢); (try k_sweep))); rotate_left; ((intro e' cls' g' h' tk' hX' F' R' U'; obtain ⟨hp, e1⟩ := hX'; subst e1; (try dsimp only))); rotate_right))
local macro_rules | `(tactic| walk_at "call ref") => `(tactic| (k_here; (with_reducible show wpAny _ _ (call (Value.ref 540) _) _ _ _); (with_reducible refine' callsQ_use (dc_fg_calls (by with_reducible assumption) (by with_reducible assumption) (by with_reducible assumption) _ _ _ _ _ _ (by walk_at "M om") (by walk_at "M om") (by walk_at "M om") (by walk_at "M om") (by walk_at "M om") (by walk_at "M om")) ?kA ?k1 ?k2 ?k3 ?k4 ?k5 ?kK ?kd ?ku ?hP ?_ ?_); k_dflt ((case kA => exact rfl); (case k1 => k_asm); (case k2 => k_asm); (case k3 => k_asm); (case k4 => k_asm); (case k5 => k_asm); (case kK => first | exact rfl | assumption); (case kd => walk_at "M room"); (case ku => walk_at "M room"); (case hP => exact ⟨by k_mem, by k_mem⟩); skip); ((intro v' tl' h' tk' hR' l' F' N'; obtain ⟨hp, ⟨x', t', e1⟩, e2⟩ := hR'; subst e1; subst e2; (try dsimp only [List.nil_append] at N' ⊢); (try k_sweep))); rotate_left; ((intro e' cls' g' h' tk' hX' F' R' U'; obtain ⟨hp, e1⟩ := hX'; subst e1; (try dsimp only))); rotate_right))
local macro_rules | `(tactic| walk_at "call ref") => `(tactic| (k_here; (with_reducible show wpAny _ _ (call (Value.ref 505) _) _ _ _); (with_reducible refine' calls_use (from_greg_julian_calls _ _ _ _ _ _ (by walk_at "M om") (by walk_at "M om") (by walk_at "M om") (by walk_at "M om") (by walk_at "M om") (by walk_at "M om")) ?kA ?k1 ?k2 ?k3 ?k4 ?k5 ?kK ?kd ?ku ?_ ?_); k_dflt ((case kA => exact rfl); (case k1 => k_asm); (case k2 => k_asm); (case k3 => k_asm); (case k4 => k_asm); (case k5 => k_asm); (case kK => first | exact rfl | assumption); (case kd => walk_at "M room"); (case ku => walk_at "M room"); skip); ((intro v' tl' h' tk' hR' l' F' N'; obtain ⟨a', o', hp, e1, e2⟩ := hR'; subst e1; subst e2; (try dsimp only [List.nil_append, List.cons_append] at N' ⊢); (try k_sweep))); rotate_left; ((intro e' cls' g' h' tk' hX' F' R' U'; obtain ⟨hp, e1⟩ := hX'; subst e1; (try dsimp only))); rotate_right))
local macro_rules | `(tactic| walk_at "call ref") => `(tactic| (k_here; (with_reducible show wpAny _ _ (call (Value.ref 434) _) _ _ _); (with_reducible refine' calls_use (to_jd2_calls _ _ _ _ _ _ (by walk_at "M om") (by walk_at "M om") (by walk_at "M om") (by walk_at "M om") (by walk_at "M om") (by walk_at "M om")) ?kA ?k1 ?k2 ?k3 ?k4 ?k5 ?kK ?kd ?ku ?_ ?_); k_dflt ((case kA => exact rfl); (case k1 => k_asm); (case k2 => k_asm); (case k3 => k_asm); (case k4 => k_asm); (case k5 => k_asm); (case kK => first | exact rfl | assumption); (case kd => walk_at "M room"); (case ku => walk_at "M room"); skip); ((intro v' tl' h' tk' hR' l' F' N'; obtain ⟨hp, ⟨x', t', e1, gx'⟩, e2⟩ := hR'; subst e1; subst e2; (try dsimp only [List.nil_append] at N' ⊢); (try k_sweep))); rotate_left; ((intro e' cls' g' h' tk' hX' F' R' U'; obtain ⟨hp, e1⟩ := hX'; subst e1; (try dsimp only))); rotate_right))
local macro_rules | `(tactic| walk_at "call ref") => `(tactic| (k_here; (with_reducible show wpAny _ _ (call (Value.ref 582) _) _ _ _); (with_reducible refine' calls_use (iso_calls _ _ _ _ _ _ (by walk_at "M om") (by walk_at "M om") (by walk_at "M om") (by walk_at "M om") (by walk_at "M om") (by walk_at "M om")) ?kA ?k1 ?k2 ?k3 ?k4 ?k5 ?kK ?kd ?ku ?_ ?_); k_dflt ((case kA => exact rfl); (case k1 => k_asm); (case k2 => k_asm); (case k3 => k_asm); (case k4 => k_asm); (case k5 => k_asm); (case kK => first | exact rfl | assumption); (case kd => walk_at "M room"); (case ku => walk_at "M room"); skip); ((intro v' tl' h' tk' hR' l' F' N'; obtain ⟨hp, ⟨a', e1⟩, e2⟩ := hR'; subst e1; subst e2; (try dsimp only [List.nil_append] at N' ⊢); (try k_sweep))); rotate_left; ((intro e' cls' g' h' tk' hX' F' R' U'; obtain ⟨hp, e1⟩ := hX'; subst e1; (try dsimp only))); rotate_right))
local macro_rules | `(tactic| walk_at "call ref") => `(tactic| (k_here; (with_reducible show wpAny _ _ (call (Value.ref 484) _) _ _ _); (with_reducible refine' calls_use (jlegal_calls _ _ _ _ _ _ (by walk_at "M om") (by walk_at "M om") (by walk_at "M om") (by walk_at "M om")) ?kA ?k1 ?k2 ?k3 ?k4 ?k5 ?kK ?kd ?ku ?_ ?_); k_dflt ((case kA => exact rfl); (case k1 => k_asm); (case k2 => k_asm); (case k3 => k_asm); (case k4 => k_asm); (case k5 => k_asm); (case kK => first | exact rfl | assumption); (case kd => walk_at "M room"); (case ku => walk_at "M room"); skip); ((intro v' tl' h' tk' hR' l' F' N'; obtain ⟨hp, e1, e2⟩ := hR'; subst e1; subst e2; (try dsimp only [List.nil_append] at N' ⊢); (try k_sweep))); rotate_left; ((intro e' cls' g' h' tk' hX' F' R' U'; obtain ⟨hp, e1⟩ := hX'; subst e1; (try dsimp only))); rotate_right))
local macro_rules | `(tactic| walk_at "call ref") => `(tactic| (k_here; (with_reducible show wpAny _ _ (call (Value.ref 498) _) _ _ _); (with_reducible refine' calls_use (jto_jd_calls _ _ _ _ _ _ (by walk_at "M om") (by walk_at "M om") (by walk_at "M om") (by walk_at "M om") (by walk_at "M om") (by walk_at "M om")) ?kA ?k1 ?k2 ?k3 ?k4 ?k5 ?kK ?kd ?ku ?_ ?_); k_dflt ((case kA => exact rfl); (case k1 => k_asm); (case k2 => k_asm); (case k3 => k_asm); (case k4 => k_asm); (case k5 => k_asm); (case kK => first | exact rfl | assumption); (case kd => walk_at "M room"); (case ku => walk_at "M room"); skip); ((intro v' tl' h' tk' hR' l' F' N'; obtain ⟨hp, ⟨x', t', e1, gx'⟩, e2⟩ := hR'; subst e1; subst e2; (try dsimp only [List.nil_append] at N' ⊢); (try k_sweep))); rotate_left; ((intro e' cls' g' h' tk' hX' F' R' U'; obtain ⟨hp, e1⟩ := hX'; subst e1; (try dsimp only))); rotate_right))
local macro_rules | `(tactic| walk_at "call ref") => `(tactic| (k_here; (with_reducible show wpAny _ _ (call (Value.ref 596) _) _ _ _); (with_reducible refine' calls_use (jd_julian_calls _ _ _ _ _ _ (by walk_at "M om") (by walk_at "M om") (by walk_at "M om") (by walk_at "M om") (by walk_at "M om") (by walk_at "M om")) ?kA ?k1 ?k2 ?k3 ?k4 ?k5 ?kK ?kd ?ku ?_ ?_); k_dflt ((case kA => exact rfl); (case k1 => k_asm); (case k2 => k_asm); (case k3 => k_asm); (case k4 => k_asm); (case k5 => k_asm); (case kK => first | exact rfl | assumption); (case kd => walk_at "M room"); (case ku => walk_at "M room"); skip); ((intro v' tl' h' tk' hR' l' F' N'; obtain ⟨hp, ⟨x', t', e1, gx'⟩, e2⟩ := hR'; subst e1; subst e2; (try dsimp only [List.nil_append] at N' ⊢); (try k_sweep))); rotate_left; ((intro e' cls' g' h' tk' hX' F' R' U'; obtain ⟨hp, e1⟩ := hX'; subst e1; (try dsimp only))); rotate_right))
local macro_rules | `(tactic| walk_at "call ref") => `(tactic| (k_here; (with_reducible show wpAny _ _ (call (Value.ref 561) _) _ _ _); (with_reducible refine' callsQ_use (dc_fu_calls (by with_reducible assumption) (by with_reducible assumption) (by with_reducible assumption) _ _ _ _ _ _ (by walk_at "M om") (by walk_at "M om") (by walk_at "M om") (by walk_at "M om") (by walk_at "M om") (by walk_at "M om")) ?kA ?k1 ?k2 ?k3 ?k4 ?k5 ?kK ?kd ?ku ?hP ?_ ?_); k_dflt ((case kA => exact rfl); (case k1 => k_asm); (case k2 => k_asm); (case k3 => k_asm); (case k4 => k_asm); (case k5 => k_asm); (case kK => first | exact rfl | assumption); (case kd => walk_at "M room"); (case ku => walk_at "M room"); (case hP => exact ⟨by k_mem, by k_mem⟩); skip); ((intro v' tl' h' tk' hR' l' F' N'; obtain ⟨hp, ⟨x', t', e1⟩, e2⟩ := hR'; subst e1; subst e2; (try dsimp only [List.nil_append] at N' ⊢); (try k_sweep))); rotate_left; ((intro e' cls' g' h' tk' hX' F' R' U'; obtain ⟨hp, e1⟩ := hX'; subst e1; (try dsimp only))); rotate_right))
local macro_rules | `(tactic| walk_at "call ref") => `(tactic| (k_here; (with_reducible show wpAny _ _ (call (Value.ref 512) _) _ _ _); (with_reducible refine' calls_use (to_greg_julian_calls _ _ _ _ _ _ (by walk_at "M om") (by walk_at "M om") (by walk_at "M om") (by walk_at "M om") (by walk_at "M om") (by walk_at "M om")) ?kA ?k1 ?k2 ?k3 ?k4 ?k5 ?kK ?kd ?ku ?_ ?_); k_dflt ((case kA => exact rfl); (case k1 => k_asm); (case k2 => k_asm); (case k3 => k_asm); (case k4 => k_asm); (case k5 => k_asm); (case kK => first | exact rfl | assumption); (case kd => walk_at "M room"); (case ku => walk_at "M room"); skip); ((intro v' tl' h' tk' hR' l' F' N'; obtain ⟨a', o', hp, e1, e2⟩ := hR'; subst e1; subst e2; (try dsimp only [List.nil_append, List.cons_append] at N' ⊢); (try k_sweep))); rotate_left; ((intro e' cls' g' h' tk' hX' F' R' U'; obtain ⟨hp, e1⟩ := hX'; subst e1; (try dsimp only))); rotate_right))
set_option maxHeartbeats 8000000 in
theorem law_refusals_calls {x' dx' : Addr} {x : UInt64} {t₀ tk₀ : Tok} {lo hi : Int} (hg : G x lo hi) (hlo : -6291456000000 ≤ lo) (hhi : hi ≤ 6291456000000) (y m d : Int) (t t1 t2 : Tok) (hy1 : -500100 ≤ y) (hy2 : y ≤ 500100) (hm1 : 1 ≤ m) (hm2 : m ≤ 12) (hd1 : -1000 ≤ d) (hd2 : d ≤ 1000) :
    CallsP prog w p loose mean mg mb 8 701 [.ref x', .int y t, .int m t1, .int d t2]
      (fun news => ∃ rest, news = (x', instObj 571 dx') :: (dx', dictOf [{ hash := PyData.keyHash w.params (PySem.Str.ofString "epoch"), key := Value.str (PySem.Str.ofString "epoch") tk₀, val := Value.float x t₀ }] 1) :: rest ∧ (∀ p ∈ rest, p.1 < dx') ∧ dx' < x')
      (fun v tl => ∃ a c, v = .ref a ∧ tl = [(a, listOf (tolds (roadF y m d) 12).toArray c)]) := by
  unfold CallsP; intro dp un gd cn cs a ccd A₀ base h₀ L fm news s Q E hB hF hK hN hT hXB hTB hk hd hu hP hret
  refine wpAny_call ?_
  k_dflt (refine' code_defS0 (binds := [(PySem.Str.ofString "counter", .ref x'), (PySem.Str.ofString "year", .int y t), (PySem.Str.ofString "month", .int m t1), (PySem.Str.ofString "day", .int d t2)]) ?k1 ?k2 ?k3 ?k4 ?k5 ?kA ?k6 ?k7 ?k8 ?k9 ?kB ?_ ?cK ?c2 ?c3 ?c4 ?c5; (case kA => exact rfl); (case k1 => exact hB); (case k2 => exact hF); (case k3 => exact hK); (case k4 => exact hN); (case k5 => exact hT); (case k6 => k_is); (case k7 => k_is); (case k8 => ktr_room); (case k9 => exact BindsTo.of_eq rfl); (case c5 => decide); (case kB => exact locs rfl); (case cK => exact hk); (case c2 => exact rfl); (case c3 => exact rfl); (case c4 => exact rfl); k_whole)
  intro g₁ L₁ h₁ FG F₁ N₁ B₁ X₁ T₁ D₁
  clear hB hF hN hT
  (try dsimp only)
  dsimp only [List.reverse, List.reverseAux] at F₁
  (try k_fold)
  obtain ⟨rest, rfl, hr1, hr2⟩ := hP
  k_lt2 hr2
  repeat ((fail_if_success (with_reducible show wpAny _ _ (exec (Stmt.For _ _ _ _ _) _) _ _ _)); walk_at "M step")
  refine For_T ?_
  repeat ((fail_if_success (with_reducible show wpAny _ _ (pyIter (Value.ref _)) _ _ _)); walk_at "M step")
  first
    | (rename_i l0 _ l1 _ _ _ _ _ _ _ _ hR F2 N2 _; have hchk : x' < l0 ∧ dx' < l0 ∧ AllLt l0 rest := l1; have hchk2 := (hR : IsRange _ _ _ _ _ _ _ _))
    | (rename_i l0 _ l1 _ _ _ _ _ _ _ hR F2 N2 _; have hchk : x' < l0 ∧ dx' < l0 ∧ AllLt l0 rest := l1; have hchk2 := (hR : IsRange _ _ _ _ _ _ _ _))
    | (rename_i l0 _ l1 _ _ _ _ _ _ hR F2 N2 _; have hchk : x' < l0 ∧ dx' < l0 ∧ AllLt l0 rest := l1; have hchk2 := (hR : IsRange _ _ _ _ _ _ _ _))
    | (rename_i l0 _ l1 _ _ _ _ _ _ _ _ _ hR F2 N2 _; have hchk : x' < l0 ∧ dx' < l0 ∧ AllLt l0 rest := l1; have hchk2 := (hR : IsRange _ _ _ _ _ _ _ _))
    | (rename_i l0 _ l1 _ _ _ _ _ _ _ _ _ _ hR F2 N2 _; have hchk : x' < l0 ∧ dx' < l0 ∧ AllLt l0 rest := l1; have hchk2 := (hR : IsRange _ _ _ _ _ _ _ _))
    | (rename_i l0 _ l1 _ _ _ _ _ hR F2 N2 _; have hchk : x' < l0 ∧ dx' < l0 ∧ AllLt l0 rest := l1; have hchk2 := (hR : IsRange _ _ _ _ _ _ _ _))
    | (rename_i l0 _ l1 _ _ _ _ _ _ _ _ _ _ _ hR F2 N2 _; have hchk : x' < l0 ∧ dx' < l0 ∧ AllLt l0 rest := l1; have hchk2 := (hR : IsRange _ _ _ _ _ _ _ _))
    | (rename_i l0 _ l1 _ _ _ _ hR F2 N2 _; have hchk : x' < l0 ∧ dx' < l0 ∧ AllLt l0 rest := l1; have hchk2 := (hR : IsRange _ _ _ _ _ _ _ _))
    | (rename_i l0 _ l1 _ _ _ hR F2 N2 _; have hchk : x' < l0 ∧ dx' < l0 ∧ AllLt l0 rest := l1; have hchk2 := (hR : IsRange _ _ _ _ _ _ _ _))
    | (rename_i l0 _ l1 _ _ _ _ _ _ _ _ _ _ _ _ hR F2 N2 _; have hchk : x' < l0 ∧ dx' < l0 ∧ AllLt l0 rest := l1; have hchk2 := (hR : IsRange _ _ _ _ _ _ _ _))
    | (rename_i l0 _ l1 _ _ _ _ _ _ _ _ _ _ _ _ _ hR F2 N2 _; have hchk : x' < l0 ∧ dx' < l0 ∧ AllLt l0 rest := l1; have hchk2 := (hR : IsRange _ _ _ _ _ _ _ _))
    | (rename_i l0 _ l1 _ _ _ _ _ _ _ _ _ _ _ _ _ _ hR F2 N2 _; have hchk : x' < l0 ∧ dx' < l0 ∧ AllLt l0 rest := l1; have hchk2 := (hR : IsRange _ _ _ _ _ _ _ _))
    | (rename_i l0 l1 _ _ _ _ _ _ _ _ hR F2 N2 _; have hchk : x' < l0 ∧ dx' < l0 ∧ AllLt l0 rest := l1; have hchk2 := (hR : IsRange _ _ _ _ _ _ _ _))
    | (rename_i l0 l1 _ _ _ _ _ _ _ hR F2 N2 _; have hchk : x' < l0 ∧ dx' < l0 ∧ AllLt l0 rest := l1; have hchk2 := (hR : IsRange _ _ _ _ _ _ _ _))
    | (rename_i l0 l1 _ _ _ _ _ _ hR F2 N2 _; have hchk : x' < l0 ∧ dx' < l0 ∧ AllLt l0 rest := l1; have hchk2 := (hR : IsRange _ _ _ _ _ _ _ _))
    | (rename_i l0 l1 _ _ _ _ _ _ _ _ _ hR F2 N2 _; have hchk : x' < l0 ∧ dx' < l0 ∧ AllLt l0 rest := l1; have hchk2 := (hR : IsRange _ _ _ _ _ _ _ _))
    | (rename_i l0 l1 _ _ _ _ _ _ _ _ _ _ hR F2 N2 _; have hchk : x' < l0 ∧ dx' < l0 ∧ AllLt l0 rest := l1; have hchk2 := (hR : IsRange _ _ _ _ _ _ _ _))
    | (rename_i l0 l1 _ _ _ _ _ hR F2 N2 _; have hchk : x' < l0 ∧ dx' < l0 ∧ AllLt l0 rest := l1; have hchk2 := (hR : IsRange _ _ _ _ _ _ _ _))
    | (rename_i l0 l1 _ _ _ _ _ _ _ _ _ _ _ hR F2 N2 _; have hchk : x' < l0 ∧ dx' < l0 ∧ AllLt l0 rest := l1; have hchk2 := (hR : IsRange _ _ _ _ _ _ _ _))
    | (rename_i l0 l1 _ _ _ _ hR F2 N2 _; have hchk : x' < l0 ∧ dx' < l0 ∧ AllLt l0 rest := l1; have hchk2 := (hR : IsRange _ _ _ _ _ _ _ _))
    | (rename_i l0 l1 _ _ _ hR F2 N2 _; have hchk : x' < l0 ∧ dx' < l0 ∧ AllLt l0 rest := l1; have hchk2 := (hR : IsRange _ _ _ _ _ _ _ _))
    | (rename_i l0 l1 _ _ _ _ _ _ _ _ _ _ _ _ hR F2 N2 _; have hchk : x' < l0 ∧ dx' < l0 ∧ AllLt l0 rest := l1; have hchk2 := (hR : IsRange _ _ _ _ _ _ _ _))
    | (rename_i l0 l1 _ _ _ _ _ _ _ _ _ _ _ _ _ hR F2 N2 _; have hchk : x' < l0 ∧ dx' < l0 ∧ AllLt l0 rest := l1; have hchk2 := (hR : IsRange _ _ _ _ _ _ _ _))
    | (rename_i l0 l1 _ _ _ _ _ _ _ _ _ _ _ _ _ _ hR F2 N2 _; have hchk : x' < l0 ∧ dx' < l0 ∧ AllLt l0 rest := l1; have hchk2 := (hR : IsRange _ _ _ _ _ _ _ _))
    | (rename_i l0 _ _ l1 _ _ _ _ _ _ _ _ hR F2 N2 _; have hchk : x' < l0 ∧ dx' < l0 ∧ AllLt l0 rest := l1; have hchk2 := (hR : IsRange _ _ _ _ _ _ _ _))
    | (rename_i l0 _ _ l1 _ _ _ _ _ _ _ hR F2 N2 _; have hchk : x' < l0 ∧ dx' < l0 ∧ AllLt l0 rest := l1; have hchk2 := (hR : IsRange _ _ _ _ _ _ _ _))
    | (rename_i l0 _ _ l1 _ _ _ _ _ _ hR F2 N2 _; have hchk : x' < l0 ∧ dx' < l0 ∧ AllLt l0 rest := l1; have hchk2 := (hR : IsRange _ _ _ _ _ _ _ _))
    | (rename_i l0 _ _ l1 _ _ _ _ _ _ _ _ _ hR F2 N2 _; have hchk : x' < l0 ∧ dx' < l0 ∧ AllLt l0 rest := l1; have hchk2 := (hR : IsRange _ _ _ _ _ _ _ _))
    | (rename_i l0 _ _ l1 _ _ _ _ _ _ _ _ _ _ hR F2 N2 _; have hchk : x' < l0 ∧ dx' < l0 ∧ AllLt l0 rest := l1; have hchk2 := (hR : IsRange _ _ _ _ _ _ _ _))
    | (rename_i l0 _ _ l1 _ _ _ _ _ hR F2 N2 _; have hchk : x' < l0 ∧ dx' < l0 ∧ AllLt l0 rest := l1; have hchk2 := (hR : IsRange _ _ _ _ _ _ _ _))
    | (rename_i l0 _ _ l1 _ _ _ _ _ _ _ _ _ _ _ hR F2 N2 _; have hchk : x' < l0 ∧ dx' < l0 ∧ AllLt l0 rest := l1; have hchk2 := (hR : IsRange _ _ _ _ _ _ _ _))
    | (rename_i l0 _ _ l1 _ _ _ _ hR F2 N2 _; have hchk : x' < l0 ∧ dx' < l0 ∧ AllLt l0 rest := l1; have hchk2 := (hR : IsRange _ _ _ _ _ _ _ _))
    | (rename_i l0 _ _ l1 _ _ _ hR F2 N2 _; have hchk : x' < l0 ∧ dx' < l0 ∧ AllLt l0 rest := l1; have hchk2 := (hR : IsRange _ _ _ _ _ _ _ _))
    | (rename_i l0 _ _ l1 _ _ _ _ _ _ _ _ _ _ _ _ hR F2 N2 _; have hchk : x' < l0 ∧ dx' < l0 ∧ AllLt l0 rest := l1; have hchk2 := (hR : IsRange _ _ _ _ _ _ _ _))
    | (rename_i l0 _ _ l1 _ _ _ _ _ _ _ _ _ _ _ _ _ hR F2 N2 _; have hchk : x' < l0 ∧ dx' < l0 ∧ AllLt l0 rest := l1; have hchk2 := (hR : IsRange _ _ _ _ _ _ _ _))
    | (rename_i l0 _ _ l1 _ _ _ _ _ _ _ _ _ _ _ _ _ _ hR F2 N2 _; have hchk : x' < l0 ∧ dx' < l0 ∧ AllLt l0 rest := l1; have hchk2 := (hR : IsRange _ _ _ _ _ _ _ _))
  clear hchk hchk2
  obtain ⟨l1a, l1b, l1c⟩ := l1
  have l1d : ∀ p ∈ rest, p.1 < l0 := allLt_mem l1c
  refine iter_T (fun g => KtsTurn ([envOf cn cs L a ccd].filterMap (·.frame)) g₁ g ∧ Below (ktrTop dp un gd cn cs L a ccd [] []) base [envOf cn cs L a ccd] g ∧ KtsDicts ([envOf cn cs L a ccd].filterMap (·.frame)) g)
    (fun i m₁ nx => (∀ z, z ≠ PySem.Str.ofString "road" → m₁ z = (fun y_1 => if y_1 = PySem.Str.ofString "told" then some (Value.ref l0) else List.lookup y_1 [(PySem.Str.ofString "day", Value.int d t2), (PySem.Str.ofString "month", Value.int m t1), (PySem.Str.ofString "year", Value.int y t), (PySem.Str.ofString "counter", Value.ref x')]) z) ∧
      ∃ c, nx = (l0, listOf (tolds (roadF y m d) i).toArray c) :: (x', instObj 571 dx') :: (dx', dictOf [{ hash := PyData.keyHash w.params (PySem.Str.ofString "epoch"), key := Value.str (PySem.Str.ofString "epoch") tk₀, val := Value.float x t₀ }] 1) :: rest)
    (n := 12) rfl hR (by decide) (by decide) ⟨.refl, B₁, D₁⟩ F2 N2 ⟨fun _ _ => rfl, _, rfl⟩ (fun i m nx j => by obtain ⟨_, c, rfl⟩ := j; rfl) rfl (by rfl) ?_ ?_
  · intro i ti g m₁ news₁ h tk' own hi hoff G j F N
    obtain ⟨T3, B3, D3⟩ := G
    obtain ⟨hm₁, c, rfl⟩ := j
    rw [frame_road hm₁] at F
    have X3 : (Mine.hd.heap_39 w.params).In g := hXB.keeps B3.stays
    have T4 : Top p loose mean mg mb g := hTB.keeps B3.stays
    have hne : ∀ p ∈ (x', instObj 571 dx') :: (dx', dictOf [{ hash := PyData.keyHash w.params (PySem.Str.ofString "epoch"), key := Value.str (PySem.Str.ofString "epoch") tk₀, val := Value.float x t₀ }] 1) :: (rest ++ own), p.1 ≠ l0 := by
      intro p hp
      rcases List.mem_cons.mp hp with rfl | hp
      · exact Nat.ne_of_lt l1a
      rcases List.mem_cons.mp hp with rfl | hp
      · exact Nat.ne_of_lt l1b
      rcases List.mem_append.mp hp with hp | hp
      · exact Nat.ne_of_lt (l1d p hp)
      · exact hoff p hp l0 (.head _)
    dsimp only [List.cons_append] at N
    clear B₁ X₁ T₁ D₁ F2 N2 hR
    k_steps
    all_goals first
      | (refine told_end ⟨by assumption, by assumption, by assumption⟩ (by k_asm) (by k_asm) (fun z hz => if_neg hz) ?_)
      | skip
    all_goals first
      | with_reducible exact rd1 (by omega) (by with_reducible assumption)
      | with_reducible exact rd2 (by omega) (by with_reducible assumption)
      | with_reducible exact rd3 (by omega) (by with_reducible assumption)
      | with_reducible exact rd4 (by omega) (by with_reducible assumption)
      | with_reducible exact rd5 (by omega) (by with_reducible assumption)
      | with_reducible exact rd6 (by omega) (by with_reducible assumption)
      | skip
  · intro g m₁ news₁ h tk' G j F N
    obtain ⟨T3, B3, D3⟩ := G
    obtain ⟨hm₁, c, rfl⟩ := j
    rw [frame_road2 hm₁] at F
    have X3 : (Mine.hd.heap_39 w.params).In g := hXB.keeps B3.stays
    have T4 : Top p loose mean mg mb g := hTB.keeps B3.stays
    clear B₁ X₁ T₁ D₁ F2 N2 hR
    k_steps
    all_goals exact hret _ [_] _ _ ⟨_, _, rfl, rfl⟩ (by k_asm) (by k_asm)
end

end
section
theorem off_C15 : True := by
  w_top off
  trivial
end
section
/-- Calls without a word on the order of what is left behind -/
def CallsW (prog : Program) (w : World) (p : Program) (loose : List Str) (mean : ExcName → Option Value) (mg mb : Str → Option Value) (D : Nat) (f : Addr) (vs : List Value) (R : Value → List (Addr × Obj) → Prop) (X : Value → Prop) : Prop :=
  ∀ (dp un : Nat) (gd : Option (List Code)) (cn : Str) (cs : Scope) (a : Addr) (ccd : Value) (cl : List (Str × Addr)) (outer : List Env) (A₀ : Around) (base h₀ : Heap) (L : Addr) (m : Str → Option Value) (news : List (Addr × Obj)) (s : Shared) (Q E : Value → Shared → Prop),
    Below A₀ base outer h₀ → Fr h₀ L s.heap m → (hd.heap_39 w.params).In h₀ → News h₀ L s.heap news → Top p loose mean mg mb h₀ → cs.kind = .function →
    dp + D < recursionLimit → un + 8 * D < cLine →
    (∀ (v : Value) (tl : List (Addr × Obj)) (h' : Heap) (tk' : Nat), R v tl → Fr h₀ L h' m → News h₀ L h' (tl ++ news) → Q v { s with heap := h', toks := tk' }) →
    (∀ (e : Addr) (cls : Value) (g h' : Heap) (tk' : Nat), X cls → Fr h₀ L g m → RaisedSN base g (envX cn cs L a ccd cl :: outer) e cls news h' → g.UpToSlots h' → E (.ref e) { s with heap := h', toks := tk' }) →
      wpAny (model prog w) (ktrTop dp un gd cn cs L a ccd cl outer) (call (.ref f) vs) Q E s
section
variable {prog : Program} {w : World} {p : Program} {loose : List Str} {mean : ExcName → Option Value} {mg mb : Str → Option Value} {D : Nat} {f : Addr} {vs : List Value} {R : Value → List (Addr × Obj) → Prop} {X : Value → Prop}
theorem callsW_use {A : Around} {dp un : Nat} {gd : Option (List Code)} {cn : Str} {cs : Scope} {a : Addr} {ccd : Value} {cl : List (Str × Addr)} {outer : List Env} {A₀ : Around} {base h₀ : Heap} {L : Addr} {m : Str → Option Value} {news : List (Addr × Obj)} {s : Shared} {Q E : Value → Shared → Prop}
    (C : CallsW prog w p loose mean mg mb D f vs R X) (hA : A = ktrTop dp un gd cn cs L a ccd cl outer) (B : Below A₀ base outer h₀) (F : Fr h₀ L s.heap m) (K : (hd.heap_39 w.params).In h₀) (N : News h₀ L s.heap news) (T : Top p loose mean mg mb h₀) (hk : cs.kind = .function)
    (hd : dp + D < recursionLimit) (hu : un + 8 * D < cLine)
    (ret : ∀ (v : Value) (tl : List (Addr × Obj)) (h' : Heap) (tk' : Nat), R v tl → Fr h₀ L h' m → News h₀ L h' (tl ++ news) → Q v { s with heap := h', toks := tk' })
    (exc : ∀ (e : Addr) (cls : Value) (g h' : Heap) (tk' : Nat), X cls → Fr h₀ L g m → RaisedSN base g (envX cn cs L a ccd cl :: outer) e cls news h' → g.UpToSlots h' → E (.ref e) { s with heap := h', toks := tk' }) :
      wpAny (model prog w) A (call (.ref f) vs) Q E s := by
  subst hA
  exact C _ _ _ _ _ _ _ _ _ _ _ _ _ _ _ _ _ _ B F K N T hk hd hu ret exc
end
theorem cell_at {h h' : Heap} {o : Obj} {v : Option Value} {c : Addr} (e : h.get? c = some o) (d : o.data = .cell v) (k : ∀ b o, h.get? b = some o → h'.get? b = some o) : h'.IsCell c v := ⟨_, k _ _ e, d⟩
theorem rows_bound {k : Int} {q n : Nat} (h : k ∈ rangeInts 0 7 ((q + n + 6) / 7)) : 0 ≤ k ∧ k + 7 ≤ ((q + n + 7 : Nat) : Int) := by
  unfold rangeInts at h
  obtain ⟨i, hi, rfl⟩ := List.mem_map.mp h
  have := List.mem_range.mp hi
  omega
section
variable {prog : Program} {w : World} {p : Program} {loose : List Str} {mean : ExcName → Option Value} {mg mb : Str → Option Value}
set_option maxHeartbeats 8000000 in
theorem jwday_calls (n : Int) (x : UInt64) (t : Tok) (hx : J x n) (hn : -200000000 ≤ n ∧ n ≤ 200000000) : Calls prog w p loose mean mg mb 1 66 [.float x t] (fun v tl => (∃ t, v = .int (n % 7) t) ∧ tl = []) (fun _ => False) := by
  unfold Calls; intro dp un gd cn cs a ccd cl outer A₀ base h₀ L fm news s Q E hB hF hK hN hT hk hd hu hret hexc
  refine wpAny_call ?_
  k_dflt (refine' code_def (binds := [(PySem.Str.ofString "j", .float x t)]) ?k1 ?k2 ?k3 ?k4 ?k5 ?kA ?kF ?kK ?k6 ?k7 ?k8 ?k9 ?kB ?_ ?c2 ?c3 ?c4 ?c5; (case kA => exact rfl); (case kF => exact rfl); (case kK => exact hk); (case k1 => exact hB); (case k2 => exact hF); (case k3 => exact hK); (case k4 => exact hN); (case k5 => exact hT); (case k6 => k_is); (case k7 => k_is); (case k8 => ktr_room); (case k9 => exact BindsTo.of_eq rfl); (case c5 => decide); (case kB => exact locs rfl); (case c2 => exact rfl); (case c3 => exact rfl); (case c4 => exact rfl); k_whole)
  intro g₁ L₁ h₁ FG F₁ N₁ B₁ X₁ T₁
  clear hB hF hN hT
  (try dsimp only)
  dsimp only [List.reverse, List.reverseAux] at F₁
  (try k_fold)
  k_steps
  all_goals (refine hret _ [] _ _ ⟨⟨_, congrArg (fun z => Value.int z _) ?_⟩, rfl⟩ (fun _ _ _ h => nomatch h) (by k_asm) (by walk_at "M news"))
  all_goals (rw [Mine.fm _ _ (by decide)]; omega)
theorem rng1 {n : Int} (h : 28 ≤ n ∧ n ≤ 31) : Builtin.Range.small 1 (1 + n) 1 = true ∧ Builtin.Range.rangeSize 1 (1 + n) 1 = ((n.toNat : Nat) : Int) := by
  have : n = 28 ∨ n = 29 ∨ n = 30 ∨ n = 31 := by omega
  rcases this with rfl | rfl | rfl | rfl <;> decide
section
variable {A : Around} {E : Value → Shared → Prop} {s : Shared} {h₀ : Heap} {L : Addr} {m : Str → Option Value} {news : List (Addr × Obj)}
theorem add_D {u v : Addr} {xs ys : List Value} {c1 c2 : Nat} {Q : Value → Shared → Prop} (F : Fr h₀ L s.heap m) (N : News h₀ L s.heap news) (hu : (u, listOf xs.toArray c1) ∈ news) (hv : (v, listOf ys.toArray c2) ∈ news) (hx : xs.length ≤ 1000) (hy : ys.length ≤ 1000)
    (h : ∀ D h', Fr h₀ L h' m → News h₀ L h' ((D, listOf (xs ++ ys).toArray 0) :: news) → (∀ p ∈ news, p.1 < D) → Q (.ref D) { s with heap := h' }) : wpAny (model prog w) A (binaryOp .Add (.ref u) (.ref v)) Q E s := by
  refine kmk_add_lit F N ⟨_, (N _ hu).1, rfl, _, rfl⟩ ⟨_, (N _ hv).1, rfl, _, rfl⟩ rfl (fun D h' F' N' l' => ?_) ?_
  · exact h D h' F' (by simpa using N') l'
  · rw [sizeLine_eq]; simp only [List.toList_toArray]; omega
theorem mul_right {l : Addr} {vs : List Value} {c : Nat} {x : Int} {u : Tok} {Q : Value → Shared → Prop} (F : Fr h₀ L s.heap m) (N : News h₀ L s.heap news) (hm : (l, listOf vs.toArray c) ∈ news) (hlo : 0 ≤ x) (hhi : x < 1000) (hsz : vs.length * x.toNat ≤ 1000)
    (h : ∀ D h', Fr h₀ L h' m → News h₀ L h' ((D, listOf (List.replicate x.toNat vs).flatten.toArray 0) :: news) → (∀ p ∈ news, p.1 < D) → Q (.ref D) { s with heap := h' }) : wpAny (model prog w) A (binaryOp .Mult (.int x u) (.ref l)) Q E s := by
  have ho := (N _ hm).1
  have hz : vs.toArray.size * x.toNat ≤ 1000 := by simpa using hsz
  have e1 : ¬(!Builtin.List.listFitsIndex x) = true := by simp [Builtin.List.listFitsIndex]; omega
  have e2 : ¬vs.toArray.size * x.toNat > (2 ^ 63 - 1) / 8 := by omega
  have e3 : ¬Builtin.List.listTooLong (vs.toArray.size * x.toNat) = true := by simp [Builtin.List.listTooLong, sizeLine]; omega
  have nw := News.push F N { cls := Value.type "list", data := Data.seq (List.foldl (fun x1 x2 => x1 ++ x2) #[] (List.replicate (if vs.toArray.isEmpty = true then 0 else x.toNat) vs.toArray)) }
  have fin := h _ _ (F.push { cls := Value.type "list", data := Data.seq (List.foldl (fun x1 x2 => x1 ++ x2) #[] (List.replicate (if vs.toArray.isEmpty = true then 0 else x.toNat) vs.toArray)) }) (by rw [listMul_foldl_if] at nw ⊢; exact nw) (fun p hp => Heap.lt_size (N p hp).1)
  exact lm_binaryOp_repeat_right (T := "list") (U := "int") (by decide) (fun s' => typeIs_int s' x u) ⟨_, ho, rfl⟩ PySem.F.fills_int_mul noFill_list_mul PySem.F.slot_int_mul lm_noRepeat_int repeat_list PySem.F.slot_int_index.lookup
    (call_meets PySem.F.slot_int_mul (typeIs_int s x u) PySem.F.entry_int_mul (PySem.F.args_int_mul_2 _ _) (lm_int_mul_list_any x u l vs.toArray c _ _)
      ⟨ho, rfl, ⟨_, ho, rfl⟩, call_meets PySem.F.slot_list_mul ⟨_, ho, rfl⟩ PySem.F.entry_list_mul (PySem.F.args_list_mul_2 _ _) (lm_list_mul_any l vs.toArray c _ _ x u e1 e2 e3) ⟨ho, fin⟩⟩)
theorem none_len (k : Nat) : (List.replicate k [Value.none]).flatten.length = k := by simp
end
theorem rngR {q n : Int} (hq : 0 ≤ q ∧ q < 7) (h : 28 ≤ n ∧ n ≤ 31) : Builtin.Range.rangeSize 0 (q + n) 7 = (((q.toNat + n.toNat + 6) / 7 : Nat) : Int) := by
  have h1 : q = 0 ∨ q = 1 ∨ q = 2 ∨ q = 3 ∨ q = 4 ∨ q = 5 ∨ q = 6 := by omega
  have h2 : n = 28 ∨ n = 29 ∨ n = 30 ∨ n = 31 := by omega
  rcases h1 with rfl | rfl | rfl | rfl | rfl | rfl | rfl <;> rcases h2 with rfl | rfl | rfl | rfl <;> decide
local macro_rules | `(tactic| k_all) => `(tactic| exact ne_all (by with_reducible assumption))
local macro_rules | `(tactic| walk_at "M len") => `(tactic| ((try simp only [List.length_append, none_len, List.length_cons, List.length_nil]); omega))
local macro_rules | `(tactic| walk_at "binaryOp Add ref ref") => `(tactic| (k_here; k_dflt (refine' add_D ?F ?N ?l1 ?l2 ?z1 ?z2 ?_; (case F => k_asm); (case N => k_asm); (case l1 => k_mem); (case l2 => k_mem); (case z1 => walk_at "M len"); (case z2 => walk_at "M len")); intro D' h' F' N' l1; (try k_lt l1)))
local macro_rules | `(tactic| walk_at "binaryOp Mult int ref") => `(tactic| (k_here; k_dflt (refine' mul_right (vs := [Value.none]) ?F ?N ?l ?lo ?hi ?z ?_; (case F => k_asm); (case N => k_asm); (case l => k_mem); (case lo => walk_at "M om"); (case hi => walk_at "M om"); (case z => decide)); intro D' h' F' N' l1; (try k_lt l1)))
local macro_rules | `(tactic| walk_at "binaryOp Mult ref int") => `(tactic| (k_here; k_dflt (refine' KMa.mul (vs := [Value.none]) ?F ?N ?l ?lo ?hi ?z rfl ?_; (case F => k_asm); (case N => k_asm); (case l => is_list); (case lo => walk_at "M om"); (case hi => walk_at "M om"); (case z => (simp only [List.length_cons, List.length_nil]; omega))); intro D' h' F' N' l1; (try k_lt l1)))
local macro_rules | `(tactic| walk_at "call type:list") => `(tactic| (k_here; (rename IsRange _ _ _ _ _ _ _ _ => rgX); k_dflt (refine' kll_range ?k0 ?k1 ?k2 ?k3 ?k4 ?k5 ?k6 ?_; (case k0 => rfl); (case k1 => k_asm); (case k2 => k_asm); (case k3 => exact rgX); (case k4 => exact (rng1 (by assumption)).1); (case k5 => exact (rng1 (by assumption)).2); (case k6 => omega)); intro D' us' c' h' tk' F' N' l1 hI'; (try k_lt l1); (have hl' := hI'.length); rw [rangeKs_length] at hl'))
set_option maxHeartbeats 8000000 in
theorem helper_calls (k n : Int) (t t1 : Tok) (ha : 0 ≤ k ∧ k ≤ 6) (hb : 28 ≤ n ∧ n ≤ 31) : CallsW prog w p loose mean mg mb 1 71 [.int k t, .int n t1] (fun v tl => ∃ x, v = .ref x ∧ LeafIs tl v ((calD ((k + 1).fmod 7).toNat n.toNat).map .list)) (fun _ => False) := by
  unfold CallsW; intro dp un gd cn cs a ccd cl outer A₀ base h₀ L fm news s Q E hB hF hK hN hT hk hd hu hret hexc
  refine wpAny_call ?_
  k_dflt (refine' code_defC (binds := [(PySem.Str.ofString "start_weekday", .int k t), (PySem.Str.ofString "month_length", .int n t1)]) ?k1 ?k2 ?k3 ?k4 ?k5 ?kA ?kF ?kK ?k6 ?k7 ?k8 ?k9 ?kB ?kD ?_ ?c2 ?c3 ?c4; (case kA => exact rfl); (case kF => exact rfl); (case kK => exact hk); (case k1 => exact hB); (case k2 => exact hF); (case k3 => exact hK); (case k4 => exact hN); (case k5 => exact hT); (case k6 => k_is); (case k7 => k_is); (case k8 => ktr_room); (case k9 => exact BindsTo.of_eq rfl); (case kB => exact rfl); (case kD => decide +kernel); (case c2 => exact rfl); (case c3 => exact rfl); (case c4 => exact rfl); k_whole)
  intro g₁ L₁ h₁ tk₁ cells₁ FG F₁ N₁ Y₁ B₁ X₁ T₁ l₁
  clear hB hF hN hT
  k_cells Y₁
  (try simp only [List.cons_append, List.nil_append] at N₁)
  (try dsimp only)
  (try k_fold)
  have l₂ : ∀ p ∈ news, p.1 < L₁ + 1 := fun p hp => Nat.lt_succ_of_lt (l₁ p hp)
  have hf1 : 0 ≤ (k + 1).fmod 7 := by rw [Mine.fm _ _ (by decide)]; omega
  have hf2 : (k + 1).fmod 7 < 7 := by rw [Mine.fm _ _ (by decide)]; omega
  repeat ((fail_if_success (with_reducible show wpAny _ _ (binaryOp Operator.Mult _ _) _ _ _)); walk_at "M step")
  generalize (k + 1).fmod 7 = q at *
  repeat ((fail_if_success (with_reducible show wpAny _ _ (eval (Expr.ListComp _ _ _ _) _) _ _ _)); walk_at "M step")
  rename Fr g₁ L₁ _ _ => Fz
  k_dflt (refine' comp_rows Fz (rowD q.toNat n.toNat) ?hd ?hh ?hclos ?hcell ?hkind ?hnames ?hx ?_ ?hs)
  case hd => exact fun k e he => daysD_plain e (List.mem_of_mem_drop (List.mem_of_mem_take he))
  case hh => exact rfl
  case hclos => exact rfl
  case hcell => decide
  case hkind => exact rfl
  case hnames => decide
  case hx => exact rfl
  case hs => intro _; rfl
  k_steps
  refine ⟨_, _, _, _, _, _, (q.toNat + n.toNat + 6) / 7, rfl, by assumption, rngR ⟨hf1, hf2⟩ hb, ?_, by assumption, by assumption, ?_, ?_⟩
  · rw [sizeLine_eq]; omega
  · intro C j tj s₂ m₂ E' hj hn hm hkeep
    have hjb := rows_bound hj
    rename News g₁ L₁ _ _ => Nz
    rename _ = Data.cell _ => dz
    rename IntsAre _ _ => hIz
    have hlz := hIz.length
    rw [rangeKs_length] at hlz
    have dz' := cell_at (c := L₁ + 1) (News.get Nz (by k_mem)) dz hkeep
    k_dflt (refine' wpAny_mono (row_elt hn hm ?k1 ?k2 ?k3 ?k4 dz' ⟨_, hkeep _ _ (Nz _ (.head _)).1, rfl, _, rfl⟩ hjb.1 ?k6 ?k7) (fun y s₃ hy => ?_) fun _ _ e => e)
    case k1 => exact rfl
    case k2 => exact rfl
    case k3 => exact rfl
    case k4 => exact rfl
    case k6 => simp only [List.length_append, none_len, hlz]; omega
    case k7 => simp only [List.length_append, none_len, hlz]; omega
    obtain ⟨⟨T, its, e1, e2, e3, e4⟩, hk⟩ := hy
    exact ⟨⟨T, its, e1, e2, e3, by rw [e4, rowD, kqdPs_take, kqdPs_drop]; exact carried_take 7 (carried_drop _ (carried_days hIz))⟩, hk⟩
  · intro D own h' tk' F' N' hL
    k_steps
    rename News h₀ L _ _ => kN
    exact hret _ own _ _ ⟨_, rfl, hL⟩ (by k_asm) (fun p hp => by
      rcases List.mem_append.mp hp with h | h
      · exact kN p (List.mem_append_left _ h)
      · exact kN p (List.mem_append_right _ (by repeat (first | exact h | apply List.Mem.tail))))
end

end
section
theorem off_C16 : True := by
  w_top off
  trivial
end
section
theorem gday_bound6 {y m : Int} (hy1 : -500100 ≤ y) (hy2 : y ≤ 500100) (h1 : -100 ≤ m) (h2 : m ≤ 100) : -200000000 ≤ gday y m 1 ∧ gday y m 1 ≤ 200000000 := by
  unfold gday
  constructor <;> (repeat' split) <;> omega
theorem glen_two (y m : Int) : 28 ≤ glen y m ∧ glen y m ≤ 31 := by unfold glen; repeat' split; all_goals omega
theorem pad_eq (n : Int) : (n % 7 + 1).fmod 7 = (n + 1) % 7 := by rw [Mine.fm _ _ (by decide)]; omega
section
variable {prog : Program} {w : World} {p : Program} {loose : List Str} {mean : ExcName → Option Value} {mg mb : Str → Option Value}
local macro_rules | `(tactic| walk_at "call ref") => `(tactic| (k_here; (with_reducible show wpAny _ _ (call (Value.ref 441) _) _ _ _); (with_reducible refine' calls_use (to_jd1_calls _ _ _ _ _ (by walk_at "M om") (by walk_at "M om") (by walk_at "M om") (by walk_at "M om")) ?kA ?k1 ?k2 ?k3 ?k4 ?k5 ?kK ?kd ?ku ?_ ?kx); k_dflt ((case kA => exact rfl); (case k1 => k_asm); (case k2 => k_asm); (case k3 => k_asm); (case k4 => k_asm); (case k5 => k_asm); (case kK => first | exact rfl | assumption); (case kd => walk_at "M room"); (case ku => walk_at "M room"); (case kx => intro _ _ _ _ _ hX; exact hX.elim)); intro v' tl' h' tk' hR' l' F' N'; obtain ⟨⟨x', t', e1, gx'⟩, e2⟩ := hR'; subst e1; subst e2; (try dsimp only [List.nil_append] at N' ⊢); (try k_sweep)))
local macro_rules | `(tactic| walk_at "call ref") => `(tactic| (k_here; (with_reducible show wpAny _ _ (call (Value.ref 66) _) _ _ _); (with_reducible refine' calls_use (jwday_calls _ _ _ (by with_reducible assumption) (by with_reducible assumption)) ?kA ?k1 ?k2 ?k3 ?k4 ?k5 ?kK ?kd ?ku ?_ ?kx); k_dflt ((case kA => exact rfl); (case k1 => k_asm); (case k2 => k_asm); (case k3 => k_asm); (case k4 => k_asm); (case k5 => k_asm); (case kK => first | exact rfl | assumption); (case kd => walk_at "M room"); (case ku => walk_at "M room"); (case kx => intro _ _ _ _ _ hX; exact hX.elim)); intro v' tl' h' tk' hR' l' F' N'; obtain ⟨⟨t', e1⟩, e2⟩ := hR'; subst e1; subst e2; (try dsimp only [List.nil_append] at N' ⊢); (try k_sweep)))
local macro_rules | `(tactic| walk_at "call ref") => `(tactic| (k_here; (with_reducible show wpAny _ _ (call (Value.ref 455) _) _ _ _); (with_reducible refine' calls_use (month_length_calls _ _ _ _ (by walk_at "M om") (by walk_at "M om")) ?kA ?k1 ?k2 ?k3 ?k4 ?k5 ?kK ?kd ?ku ?_ ?_); k_dflt ((case kA => exact rfl); (case k1 => k_asm); (case k2 => k_asm); (case k3 => k_asm); (case k4 => k_asm); (case k5 => k_asm); (case kK => first | exact rfl | assumption); (case kd => walk_at "M room"); (case ku => walk_at "M room"); skip); ((intro v' tl' h' tk' hR' l' F' N'; obtain ⟨hp, ⟨t', e1⟩, e2⟩ := hR'; subst e1; subst e2; (try dsimp only [List.nil_append] at N' ⊢); (try k_sweep))); rotate_left; ((intro e' cls' g' h' tk' hX' F' R' U'; obtain ⟨hp, e1⟩ := hX'; subst e1; (try dsimp only))); rotate_right))
local macro_rules | `(tactic| walk_at "call ref") => `(tactic| (k_here; (with_reducible show wpAny _ _ (call (Value.ref 71) _) _ _ _); (with_reducible refine' callsW_use (helper_calls _ _ _ _ (by walk_at "M om") (by with_reducible assumption)) ?kA ?k1 ?k2 ?k3 ?k4 ?k5 ?kK ?kd ?ku ?_ ?kx); k_dflt ((case kA => exact rfl); (case k1 => k_asm); (case k2 => k_asm); (case k3 => k_asm); (case k4 => k_asm); (case k5 => k_asm); (case kK => first | exact rfl | assumption); (case kd => walk_at "M room"); (case ku => walk_at "M room"); (case kx => intro _ _ _ _ _ hX; exact hX.elim)); intro v' tl' h' tk' hR' F' N'; obtain ⟨x', e1, hL'⟩ := hR'; subst e1; (try k_sweep)))
set_option maxHeartbeats 8000000 in
theorem monthcalendar_calls (y m : Int) (t t1 : Tok) (hy1 : -500100 ≤ y) (hy2 : y ≤ 500100) (hm1 : -100 ≤ m) (hm2 : m ≤ 100) : CallsW prog w p loose mean mg mb 6 462 [.int y t, .int m t1]
    (fun v tl => (1 ≤ m ∧ m ≤ 12) ∧ ∃ x, v = .ref x ∧ LeafIs tl v ((calD ((gday y m 1 + 1) % 7).toNat (glen y m).toNat).map .list)) (fun c => ¬ (1 ≤ m ∧ m ≤ 12) ∧ c = .ref 95) := by
  have hb := gday_bound6 hy1 hy2 hm1 hm2
  have hg := glen_two y m
  unfold CallsW; intro dp un gd cn cs a ccd cl outer A₀ base h₀ L fm news s Q E hB hF hK hN hT hk hd hu hret hexc
  refine wpAny_call ?_
  k_dflt (refine' code_def (binds := [(PySem.Str.ofString "year", .int y t), (PySem.Str.ofString "month", .int m t1)]) ?k1 ?k2 ?k3 ?k4 ?k5 ?kA ?kF ?kK ?k6 ?k7 ?k8 ?k9 ?kB ?_ ?c2 ?c3 ?c4 ?c5; (case kA => exact rfl); (case kF => exact rfl); (case kK => exact hk); (case k1 => exact hB); (case k2 => exact hF); (case k3 => exact hK); (case k4 => exact hN); (case k5 => exact hT); (case k6 => k_is); (case k7 => k_is); (case k8 => ktr_room); (case k9 => exact BindsTo.of_eq rfl); (case c5 => decide); (case kB => exact locs rfl); (case c2 => exact rfl); (case c3 => exact rfl); (case c4 => exact rfl); k_whole)
  intro g₁ L₁ h₁ FG F₁ N₁ B₁ X₁ T₁
  clear hB hF hN hT
  (try dsimp only)
  dsimp only [List.reverse, List.reverseAux] at F₁
  (try k_fold)
  k_steps
  all_goals first
    | (refine hexc _ _ _ _ _ ⟨by assumption, rfl⟩ (by assumption) (by walk_at "M rs") (by assumption))
    | (refine hret _ _ _ _ ⟨by assumption, _, rfl, by rw [← pad_eq]; assumption⟩ (by k_asm) (by k_asm))
end

end
section
theorem off_C17 : True := by
  w_top off
  trivial
end
section
/-- the row under way and the rows done, behind i days -/
def leafSt (q : Nat) : Nat → List Dat × List (List Dat)
  | 0 => (List.replicate q .none, [])
  | i + 1 => if ((leafSt q i).1 ++ [Dat.int (1 + (i : Int))]).length = 7 then ([], (leafSt q i).2 ++ [(leafSt q i).1 ++ [Dat.int (1 + (i : Int))]]) else ((leafSt q i).1 ++ [Dat.int (1 + (i : Int))], (leafSt q i).2)
def leafFin (q n : Nat) : List (List Dat) := if (leafSt q n).1 = [] then (leafSt q n).2 else (leafSt q n).2 ++ [(leafSt q n).1 ++ List.replicate (7 - (leafSt q n).1.length) .none]
theorem leafSt_full {q i : Nat} (h : ((leafSt q i).1 ++ [Dat.int (1 + (i : Int))]).length = 7) : leafSt q (i + 1) = ([], (leafSt q i).2 ++ [(leafSt q i).1 ++ [Dat.int (1 + (i : Int))]]) := by rw [leafSt, if_pos h]
theorem leafSt_part {q i : Nat} (h : ((leafSt q i).1 ++ [Dat.int (1 + (i : Int))]).length ≠ 7) : leafSt q (i + 1) = ((leafSt q i).1 ++ [Dat.int (1 + (i : Int))], (leafSt q i).2) := by rw [leafSt, if_neg h]
theorem leafSt_len {q : Nat} (hq : q < 7) : ∀ i, (leafSt q i).1.length ≤ 6 ∧ (leafSt q i).2.length ≤ i
  | 0 => by simp [leafSt]; omega
  | i + 1 => by
    have h := leafSt_len hq i
    by_cases c : ((leafSt q i).1 ++ [Dat.int (1 + (i : Int))]).length = 7
    · rw [leafSt_full c]; simp; omega
    · rw [leafSt_part c]
      have := List.length_append (as := (leafSt q i).1) (bs := [Dat.int (1 + (i : Int))])
      simp at c this ⊢
      omega
theorem leaf_cal {q n : Nat} (hq : q < 7) (hn : 28 ≤ n ∧ n ≤ 31) : leafFin q n = calD q n := by
  have h1 : q = 0 ∨ q = 1 ∨ q = 2 ∨ q = 3 ∨ q = 4 ∨ q = 5 ∨ q = 6 := by omega
  have h2 : n = 28 ∨ n = 29 ∨ n = 30 ∨ n = 31 := by omega
  rcases h1 with rfl | rfl | rfl | rfl | rfl | rfl | rfl <;> rcases h2 with rfl | rfl | rfl | rfl <;> rfl
theorem frame_leaf {m₀ m₁ : Str → Option Value} {v u r : Option Value} (h1 : m₁ (PySem.Str.ofString "row") = u) (h2 : m₁ (PySem.Str.ofString "leaf") = r) (h : ∀ z, z ≠ PySem.Str.ofString "day" → z ≠ PySem.Str.ofString "row" → z ≠ PySem.Str.ofString "leaf" → m₁ z = m₀ z) :
    (fun y => if y = PySem.Str.ofString "day" then v else m₁ y) = fun y => if y = PySem.Str.ofString "day" then v else if y = PySem.Str.ofString "row" then u else if y = PySem.Str.ofString "leaf" then r else m₀ y := by
  funext z
  by_cases a1 : z = PySem.Str.ofString "day"
  · simp [a1]
  by_cases a2 : z = PySem.Str.ofString "row"
  · subst a2; simp [a1, h1]
  by_cases a3 : z = PySem.Str.ofString "leaf"
  · subst a3; simp [a1, a2, h2]
  simp only [if_neg a1, if_neg a2, if_neg a3]; exact h z a1 a2 a3
theorem frame_leaf2 {m₀ m₁ : Str → Option Value} {u r : Option Value} (h1 : m₁ (PySem.Str.ofString "row") = u) (h2 : m₁ (PySem.Str.ofString "leaf") = r) (h : ∀ z, z ≠ PySem.Str.ofString "day" → z ≠ PySem.Str.ofString "row" → z ≠ PySem.Str.ofString "leaf" → m₁ z = m₀ z) :
    m₁ = fun y => if y = PySem.Str.ofString "day" then m₁ y else if y = PySem.Str.ofString "row" then u else if y = PySem.Str.ofString "leaf" then r else m₀ y := by
  have := frame_leaf (v := m₁ (PySem.Str.ofString "day")) h1 h2 h
  funext z
  by_cases a1 : z = PySem.Str.ofString "day"
  · simp [a1]
  have e := congrFun this z
  simp only [if_neg a1] at e ⊢
  exact e
section
variable {prog : Program} {w : World} {A : Around} {E : Value → Shared → Prop} {s : Shared} {h₀ : Heap} {L D : Addr} {news : List (Addr × Obj)} {zs : List Value} {c : Nat}
theorem len_D {Q : Value → Shared → Prop} (N : News h₀ L s.heap news) (hm : (D, W.listOf zs.toArray c) ∈ news) (hz : zs.length ≤ 1000) (h : Q (.int (zs.length : Int) (s.toks + 1)) { s with toks := s.toks + 1 + 1 }) :
    wpAny (model prog w) A (call (.builtin "len") [.ref D]) Q E s := KM.len_K N hm (by simp) (by omega) h
end
theorem mem_of {x : Addr × Obj} {l : List (Addr × Obj)} (h : x ∈ l) : List.Mem x l := h
theorem truthy_D {prog : Program} {w : World} {A : Around} {E : Value → Shared → Prop} {s : Shared} {h₀ : Heap} {L D : Addr} {news : List (Addr × Obj)} {zs : List Value} {c : Nat} {Q : Bool → Shared → Prop} (N : News h₀ L s.heap news) (hm : (D, W.listOf zs.toArray c) ∈ news) (hz : zs.length ≤ 1000) (h : Q (decide (0 < zs.length)) { s with toks := s.toks + 1 + 1 }) :
    wpAny (model prog w) A (truthy (.ref D)) Q E s := by
  refine wpAny_truthy_list (News.isList N hm) (by simp; omega) ?_
  have e : (!zs.toArray.isEmpty) = decide (0 < zs.length) := by cases zs <;> simp
  rw [e]; exact h
theorem leaf_of_dat {own : List (Addr × Obj)} {x : Addr} {vs : List Value} {c : Nat} {ds : List Dat} (hm : (x, W.listOf vs.toArray c) ∈ own) (D : DatAll own vs ds) (hk : ∀ d ∈ ds, kqdOk 8 d = true) : LeafIs own (.ref x) ds := fun h₀ h L N => by
  obtain ⟨as, ra⟩ := kqd_all N 8 D hk
  exact ⟨_, reads_list_at (N.get hm) rfl rfl (by simpa [W.listOf] using ra)⟩
theorem news_dup {h₀ h : Heap} {L : Addr} {l news : List (Addr × Obj)} (N : News h₀ L h l) (hs : ∀ p ∈ news, p ∈ l) : News h₀ L h (l ++ news) := fun p hp => (List.mem_append.mp hp).elim (N p) fun h => N p (hs p h)
/-- what the loop of the leaf keeps -/
def LeafInv (q : Nat) (m₀ : Str → Option Value) (news : List (Addr × Obj)) (i : Nat) (m₁ : Str → Option Value) (nx : List (Addr × Obj)) : Prop :=
  (∀ z, z ≠ PySem.Str.ofString "day" → z ≠ PySem.Str.ofString "row" → z ≠ PySem.Str.ofString "leaf" → m₁ z = m₀ z) ∧ ∃ ra la rvs lvs c1 c2 ox, m₁ (PySem.Str.ofString "row") = some (.ref ra) ∧ m₁ (PySem.Str.ofString "leaf") = some (.ref la) ∧ nx = ox ++ news ∧ (∀ p ∈ ox, p.2.cls = .type "list") ∧
    (ra, W.listOf rvs.toArray c1) ∈ ox ∧ (la, W.listOf lvs.toArray c2) ∈ ox ∧ DatAll ox rvs (leafSt q i).1 ∧ DatAll ox lvs ((leafSt q i).2.map .list)
theorem datNone {ox : List (Addr × Obj)} : ∀ k : Nat, DatAll ox (List.replicate k [Value.none]).flatten (List.replicate k .none)
  | 0 => .nil
  | k + 1 => by
    rw [List.replicate_succ, List.replicate_succ, List.flatten_cons]
    exact .cons .none (datNone k)
theorem leaf_end1 {q i : Nat} {m₀ m' : Str → Option Value} {news own ox : List (Addr × Obj)} {g h : Heap} {L : Addr} {s : Shared} {tk : Nat} {l3 D2 l2 D1 l1 : Addr} {o2 o1 : List Value} {rvs lvs : List Value} {ti : Tok} {c3 c2 k1 k2 k3 : Nat} (F : Fr g L h m')
    (N : News g L h ((l3, W.listOf ([] : List Value).toArray c3) :: (D2, W.listOf (lvs ++ [Value.ref D1]).toArray c2) :: (l2, W.listOf o2.toArray k1) :: (D1, W.listOf (rvs ++ [Value.int (1 + (i : Int)) ti]).toArray k2) :: (l1, W.listOf o1.toArray k3) :: (ox ++ news ++ own)))
    (h7 : ((rvs ++ [Value.int (1 + (i : Int)) ti]).length : Int) = 7) (hdr : DatAll ox rvs (leafSt q i).1) (hdl : DatAll ox lvs ((leafSt q i).2.map .list)) (hcls : ∀ p ∈ ox, p.2.cls = .type "list")
    (e1 : m' (PySem.Str.ofString "row") = some (.ref l3)) (e2 : m' (PySem.Str.ofString "leaf") = some (.ref D2)) (eo : ∀ z, z ≠ PySem.Str.ofString "day" → z ≠ PySem.Str.ofString "row" → z ≠ PySem.Str.ofString "leaf" → m' z = m₀ z) :
    TurnT (fun g_1 => g_1 = g) L own (LeafInv q m₀ news (i + 1)) s .next { s with heap := h, toks := tk } := by
  have hlen := hdr.length
  have hf : ((leafSt q i).1 ++ [Dat.int (1 + (i : Int))]).length = 7 := by simp at h7 ⊢; omega
  let ox' := (l3, W.listOf ([] : List Value).toArray c3) :: (D2, W.listOf (lvs ++ [Value.ref D1]).toArray c2) :: (l2, W.listOf o2.toArray k1) :: (D1, W.listOf (rvs ++ [Value.int (1 + (i : Int)) ti]).toArray k2) :: (l1, W.listOf o1.toArray k3) :: ox
  have hsub : ∀ p ∈ ox, p ∈ ox' := fun p hp => .tail _ (.tail _ (.tail _ (.tail _ (.tail _ hp))))
  refine TurnT.intro (news' := ox' ++ news) rfl F N ⟨eo, l3, D2, [], lvs ++ [Value.ref D1], c3, c2, ox', e1, e2, rfl, ?_, .head _, .tail _ (.head _), ?_, ?_⟩
  · intro p hp
    simp only [ox', List.mem_cons] at hp
    rcases hp with rfl | rfl | rfl | rfl | rfl | hp
    · rfl
    · rfl
    · rfl
    · rfl
    · rfl
    · exact hcls p hp
  · rw [leafSt_full hf]; exact .nil
  · rw [leafSt_full hf, List.map_append]
    exact (hdl.mono hsub).append (.one (.list (.tail _ (.tail _ (.tail _ (.head _)))) ((hdr.mono hsub).append (.one (.int _ _)))))
theorem leaf_end2 {q i : Nat} {m₀ m' : Str → Option Value} {news own ox : List (Addr × Obj)} {g h : Heap} {L la : Addr} {s : Shared} {tk : Nat} {D1 l1 : Addr} {o1 : List Value} {rvs lvs : List Value} {ti : Tok} {c2 k2 k3 : Nat} (F : Fr g L h m')
    (N : News g L h ((D1, W.listOf (rvs ++ [Value.int (1 + (i : Int)) ti]).toArray k2) :: (l1, W.listOf o1.toArray k3) :: (ox ++ news ++ own)))
    (h7 : ((rvs ++ [Value.int (1 + (i : Int)) ti]).length : Int) ≠ 7) (hdr : DatAll ox rvs (leafSt q i).1) (hdl : DatAll ox lvs ((leafSt q i).2.map .list)) (hcls : ∀ p ∈ ox, p.2.cls = .type "list") (hla : (la, W.listOf lvs.toArray c2) ∈ ox)
    (e1 : m' (PySem.Str.ofString "row") = some (.ref D1)) (e2 : m' (PySem.Str.ofString "leaf") = some (.ref la)) (eo : ∀ z, z ≠ PySem.Str.ofString "day" → z ≠ PySem.Str.ofString "row" → z ≠ PySem.Str.ofString "leaf" → m' z = m₀ z) :
    TurnT (fun g_1 => g_1 = g) L own (LeafInv q m₀ news (i + 1)) s .next { s with heap := h, toks := tk } := by
  have hlen := hdr.length
  have hf : ((leafSt q i).1 ++ [Dat.int (1 + (i : Int))]).length ≠ 7 := by simp at h7 ⊢; omega
  let ox' := (D1, W.listOf (rvs ++ [Value.int (1 + (i : Int)) ti]).toArray k2) :: (l1, W.listOf o1.toArray k3) :: ox
  have hsub : ∀ p ∈ ox, p ∈ ox' := fun p hp => .tail _ (.tail _ hp)
  refine TurnT.intro (news' := ox' ++ news) rfl F N ⟨eo, D1, la, rvs ++ [Value.int (1 + (i : Int)) ti], lvs, k2, c2, ox', e1, e2, rfl, ?_, .head _, hsub _ hla, ?_, ?_⟩
  · intro p hp
    simp only [ox', List.mem_cons] at hp
    rcases hp with rfl | rfl | hp
    · rfl
    · rfl
    · exact hcls p hp
  · rw [leafSt_part hf]; exact (hdr.mono hsub).append (.one (.int _ _))
  · rw [leafSt_part hf]; exact hdl.mono hsub
theorem leaf_fin1 {q n : Nat} {rvs lvs : List Value} {ox l9 : List (Addr × Obj)} {D9 Dr : Addr} {c c' k : Nat} (hq : q < 7) (hn : 28 ≤ n ∧ n ≤ 31) (hr : 0 < rvs.length) (hdr : DatAll ox rvs (leafSt q n).1) (hdl : DatAll ox lvs ((leafSt q n).2.map .list)) (hs : ∀ p ∈ ox, p ∈ l9)
    (hm : (D9, W.listOf (lvs ++ [Value.ref Dr]).toArray c) ∈ l9) (hm' : (Dr, W.listOf (rvs ++ (List.replicate k [Value.none]).flatten).toArray c') ∈ l9) (hk : k = 7 - rvs.length) : LeafIs l9 (.ref D9) ((calD q n).map .list) := by
  refine leaf_of_dat hm ?_ calD_ok
  have hlen := hdr.length
  rw [← leaf_cal hq hn, leafFin, if_neg (fun z => by rw [z] at hlen; simp at hlen; subst hlen; exact absurd hr (by decide)), List.map_append]
  refine (hdl.mono hs).append (.one (.list hm' ((hdr.mono hs).append ?_)))
  rw [hk, hlen]; exact datNone _
theorem leaf_fin2 {q n : Nat} {rvs lvs : List Value} {ox l9 : List (Addr × Obj)} {la : Addr} {c : Nat} (hq : q < 7) (hn : 28 ≤ n ∧ n ≤ 31) (hr : ¬ 0 < rvs.length) (hdr : DatAll ox rvs (leafSt q n).1) (hdl : DatAll ox lvs ((leafSt q n).2.map .list)) (hs : ∀ p ∈ ox, p ∈ l9)
    (hm : (la, W.listOf lvs.toArray c) ∈ ox) : LeafIs l9 (.ref la) ((calD q n).map .list) := by
  refine leaf_of_dat (hs _ hm) ?_ calD_ok
  have hlen := hdr.length
  rw [← leaf_cal hq hn, leafFin, if_pos (List.eq_nil_of_length_eq_zero (by omega))]
  exact hdl.mono hs
section
variable {prog : Program} {w : World} {p : Program} {loose : List Str} {mean : ExcName → Option Value} {mg mb : Str → Option Value}
local macro_rules | `(tactic| walk_at "M len") => `(tactic| ((try simp only [List.length_append, none_len, List.length_cons, List.length_nil]); omega))
local macro_rules | `(tactic| k_all) => `(tactic| exact ne_all (by with_reducible assumption))
local macro_rules | `(tactic| walk_at "binaryOp Mult ref int") => `(tactic| (k_here; k_dflt (refine' KMa.mul (vs := [Value.none]) ?F ?N ?l ?lo ?hi ?z rfl ?_; (case F => k_asm); (case N => k_asm); (case l => is_list); (case lo => walk_at "M om"); (case hi => walk_at "M om"); (case z => (simp only [List.length_cons, List.length_nil]; omega))); intro D' h' F' N' l1; (try k_lt l1)))
local macro_rules | `(tactic| walk_at "binaryOp Add ref ref") => `(tactic| (k_here; k_dflt (refine' add_D ?F ?N ?l1 ?l2 ?z1 ?z2 ?_; (case F => k_asm); (case N => k_asm); (case l1 => k_mem); (case l2 => k_mem); (case z1 => walk_at "M len"); (case z2 => walk_at "M len")); intro D' h' F' N' l1; (try k_lt l1)))
local macro_rules | `(tactic| k_mem) => `(tactic| first | with_reducible assumption | exact mem_of (by with_reducible assumption))
local macro_rules | `(tactic| walk_at "call builtin:len") => `(tactic| (k_here; k_dflt (refine' len_D ?N ?l ?z ?_; (case N => k_asm); (case l => k_mem); (case z => walk_at "M len"))))
local macro_rules | `(tactic| walk_at "exec If") => `(tactic| refine wpAny_If ?_)
local macro_rules | `(tactic| walk_at "truthy ref") => `(tactic| (k_here; k_dflt (refine' truthy_D ?N ?l ?z ?_; (case N => k_asm); (case l => k_mem); (case z => walk_at "M len"))))
theorem rng2 {n : Int} (h : 28 ≤ n ∧ n ≤ 31) : Builtin.Range.small 1 (n + 1) 1 = true ∧ Builtin.Range.rangeSize 1 (n + 1) 1 = ((n.toNat : Nat) : Int) := by
  have : n = 28 ∨ n = 29 ∨ n = 30 ∨ n = 31 := by omega
  rcases this with rfl | rfl | rfl | rfl <;> decide
set_option maxHeartbeats 8000000 in
theorem law_leaf_calls (n k : Int) (t t1 : Tok) (hn : -500000000 ≤ n ∧ n ≤ 500000000) (hk1 : 28 ≤ k ∧ k ≤ 31) : CallsW prog w p loose mean mg mb 1 652 [.int n t, .int k t1]
    (fun v tl => ∃ x, v = .ref x ∧ LeafIs tl v ((calD ((n + 1) % 7).toNat k.toNat).map .list)) (fun _ => False) := by
  unfold CallsW; intro dp un gd cn cs a ccd cl outer A₀ base h₀ L fm news s Q E hB hF hK hN hT hk hd hu hret hexc
  refine wpAny_call ?_
  k_dflt (refine' code_def (binds := [(PySem.Str.ofString "first", .int n t), (PySem.Str.ofString "size", .int k t1)]) ?k1 ?k2 ?k3 ?k4 ?k5 ?kA ?kF ?kK ?k6 ?k7 ?k8 ?k9 ?kB ?_ ?c2 ?c3 ?c4 ?c5; (case kA => exact rfl); (case kF => exact rfl); (case kK => exact hk); (case k1 => exact hB); (case k2 => exact hF); (case k3 => exact hK); (case k4 => exact hN); (case k5 => exact hT); (case k6 => k_is); (case k7 => k_is); (case k8 => ktr_room); (case k9 => exact BindsTo.of_eq rfl); (case c5 => decide); (case kB => exact locs rfl); (case c2 => exact rfl); (case c3 => exact rfl); (case c4 => exact rfl); k_whole)
  intro g₁ L₁ h₁ FG F₁ N₁ B₁ X₁ T₁
  clear hB hF hN hT
  (try dsimp only)
  dsimp only [List.reverse, List.reverseAux] at F₁
  (try k_fold)
  have hf1 : 0 ≤ (n - 2451546).fmod 7 := by rw [Mine.fm _ _ (by decide)]; omega
  have hf2 : (n - 2451546).fmod 7 < 7 := by rw [Mine.fm _ _ (by decide)]; omega
  have hf3 : ((n + 1) % 7) = (n - 2451546).fmod 7 := by rw [Mine.fm _ _ (by decide)]; omega
  rw [hf3] at hret
  repeat ((fail_if_success (with_reducible show wpAny _ _ (binaryOp Operator.Mult _ _) _ _ _)); walk_at "M step")
  generalize (n - 2451546).fmod 7 = q at *
  repeat ((fail_if_success (with_reducible show wpAny _ _ (exec (Stmt.For _ _ _ _ _) _) _ _ _)); walk_at "M step")
  refine For_T ?_
  repeat ((fail_if_success (with_reducible show wpAny _ _ (pyIter (Value.ref _)) _ _ _)); walk_at "M step")
  k_dflt (refine' iter_L (fun g => g = g₁) (LeafInv q.toNat (fun y => List.lookup y [(PySem.Str.ofString "size", Value.int k t1), (PySem.Str.ofString "first", Value.int n t)]) news) (n := k.toNat) rfl ?hR (rng2 hk1).1 (rng2 hk1).2 rfl ?hF ?hN ?hj ?hJ rfl (by rfl) ?_ ?_)
  case hR => assumption
  case hF => assumption
  case hN => assumption
  case hj =>
    refine ⟨fun z h1 h2 h3 => ?_, _, _, _, _, _, _, [_, _, _], rfl, rfl, rfl, ?_, .tail _ (.head _), .head _, datNone _, .nil⟩
    · simp only [if_neg h3, if_neg h2]
    · intro p hp
      simp only [List.mem_cons, List.not_mem_nil, or_false] at hp
      rcases hp with rfl | rfl | rfl <;> rfl
  case hJ =>
    rintro i m nx ⟨_, ra, la, rvs, lvs, c1, c2, ox, _, _, rfl, hcls, _⟩ p hp
    rcases List.mem_append.mp hp with hp | hp
    · exact .inr (hcls p hp)
    · exact .inl (.tail _ (.tail _ (.tail _ hp)))
  · intro i ti g m₁ news₁ h tk' own hi hoff hgd j F N
    subst hgd
    obtain ⟨hm₁, ra, la, rvs, lvs, c1, c2, ox, er, el, rfl, hcls, hra, hla, hdr, hdl⟩ := j
    rw [frame_leaf er el hm₁] at F
    have hl := leafSt_len (q := q.toNat) (by omega) i
    have hrl : rvs.length ≤ 6 := by rw [hdr.length]; exact hl.1
    have hll : lvs.length ≤ 31 := by have h := hdl.length; rw [List.length_map] at h; omega
    have hra' : (ra, W.listOf rvs.toArray c1) ∈ ox ++ news ++ own := List.mem_append_left _ (List.mem_append_left _ hra)
    have hla' : (la, W.listOf lvs.toArray c2) ∈ ox ++ news ++ own := List.mem_append_left _ (List.mem_append_left _ hla)
    k_steps
    all_goals first
      | exact leaf_end1 (L := L₁) (by with_reducible assumption) (by with_reducible assumption) (by with_reducible assumption) hdr hdl hcls rfl rfl (fun z h1 h2 h3 => by simp only [if_neg h1, if_neg h2, if_neg h3])
      | exact leaf_end2 (L := L₁) (by with_reducible assumption) (by with_reducible assumption) (by with_reducible assumption) hdr hdl hcls hla rfl rfl (fun z h1 h2 h3 => by simp only [if_neg h1, if_neg h2, if_neg h3])
  · intro g m₁ news₁ h tk' hgd j F N
    subst hgd
    obtain ⟨hm₁, ra, la, rvs, lvs, c1, c2, ox, er, el, rfl, hcls, hra, hla, hdr, hdl⟩ := j
    rw [frame_leaf2 er el hm₁] at F
    have hl := leafSt_len (q := q.toNat) (by omega) k.toNat
    have hrl : rvs.length ≤ 6 := by rw [hdr.length]; exact hl.1
    have hll : lvs.length ≤ 31 := by have h := hdl.length; rw [List.length_map] at h; omega
    have hra' : (ra, W.listOf rvs.toArray c1) ∈ ox ++ news := List.mem_append_left _ hra
    have hla' : (la, W.listOf lvs.toArray c2) ∈ ox ++ news := List.mem_append_left _ hla
    k_steps
    all_goals rename News h₀ L _ _ => kN
    all_goals refine hret _ _ _ _ ⟨_, rfl, ?_⟩ ?_ (news_dup kN ?_)
    all_goals first
      | k_asm
      | exact fun p hp => List.mem_append_right _ hp
      | exact fun p hp => .tail _ (.tail _ (.tail _ (.tail _ (.tail _ (List.mem_append_right _ hp)))))
      | exact leaf_fin1 (by omega) (by omega) (by with_reducible assumption) hdr hdl (fun p hp => .tail _ (.tail _ (.tail _ (.tail _ (.tail _ (List.mem_append_left _ hp)))))) (.head _) (.tail _ (.tail _ (.head _))) (by omega)
      | exact leaf_fin2 (by omega) (by omega) (by with_reducible assumption) hdr hdl (fun p hp => List.mem_append_left _ hp) hla
      | skip
end

end
section
theorem off_C18 : True := by
  w_top off
  trivial
end
section
/-- what the four roads tell of a month -/
def monthF (y m : Int) (i : Nat) : Bool :=
  if i < 3 then !decide (1 ≤ m ∧ m ≤ 12) else !decide ((1 ≤ y ∧ y ≤ 9999) ∧ (1 ≤ m ∧ m ≤ 12) ∧ 1 ≤ (1 : Int) ∧ 1 ≤ glen y m)
theorem md1 {y m : Int} {i : Nat} (h : i < 3) (hp : 1 ≤ m ∧ m ≤ 12) : monthF y m i = false := by unfold monthF; rw [if_pos h, decide_eq_true hp]; rfl
theorem md2 {y m : Int} {i : Nat} (h : i < 3) (hp : ¬ (1 ≤ m ∧ m ≤ 12)) : monthF y m i = true := by unfold monthF; rw [if_pos h, decide_eq_false hp]; rfl
theorem md3 {y m : Int} {i : Nat} (h : 2 < i) (hp : (1 ≤ y ∧ y ≤ 9999) ∧ (1 ≤ m ∧ m ≤ 12) ∧ 1 ≤ (1 : Int) ∧ 1 ≤ glen y m) : monthF y m i = false := by unfold monthF; rw [if_neg (by omega), decide_eq_true hp]; rfl
theorem md4 {y m : Int} {i : Nat} (h : 2 < i) (hp : ¬ ((1 ≤ y ∧ y ≤ 9999) ∧ (1 ≤ m ∧ m ≤ 12) ∧ 1 ≤ (1 : Int) ∧ 1 ≤ glen y m)) : monthF y m i = true := by unfold monthF; rw [if_neg (by omega), decide_eq_false hp]; rfl
section
variable {prog : Program} {w : World} {p : Program} {loose : List Str} {mean : ExcName → Option Value} {mg mb : Str → Option Value}
local macro_rules | `(tactic| walk_at "exec If") => `(tactic| refine wpAny_If ?_)
local macro_rules | `(tactic| walk_at "call builtin:list.append") => `(tactic| (k_here; (with_reducible refine' append_D ?F ?N ?ne ?hs ?z ?_); k_dflt ((case ne => with_reducible assumption); (case F => k_asm); (case N => k_asm); (case hs => first | exact fun _ h => h | exact fun _ h => .tail _ h | exact fun _ h => .tail _ (.tail _ h) | exact fun _ h => List.mem_append_right _ h); (case z => exact told_fits (by omega))); intro h' F' N'; (try dsimp only)))
local macro_rules | `(tactic| walk_at "noteFrame ref") => `(tactic| (k_here; k_dflt (first
  | (refine' caught_SN0 (T' := "ValueError") ?R ?F ?K ?U ?XB ?TB ?D ?T0 ?ex PyProof.Rows.Boot.«ValueError» ?hn PySem.F.isExc_ValueError PySem.F.notTuple_ValueError ?hs ?_; (case R => assumption); (case F => assumption); (case K => assumption); (case U => assumption); (case XB => assumption); (case TB => assumption); (case D => assumption); (case T0 => first | assumption | exact KtsTurn.refl); (case hs => kts_sub); (case ex => k_is); (case hn => decide); k_whole)
  | (refine' caught_own (C := 95) (T' := "ValueError") ?R ?F ?K ?U ?XB ?TB ?D ?T0 ?q ?ex PyProof.Rows.Boot.«ValueError» ?hn PySem.F.isExc_ValueError PySem.F.notTuple_ValueError ?_; (case R => assumption); (case F => assumption); (case K => assumption); (case U => assumption); (case XB => assumption); (case TB => assumption); (case D => assumption); (case T0 => first | assumption | exact KtsTurn.refl); (case q => kts_isx); (case ex => k_is); (case hn => decide); k_whole)); intro h' g' T' F' N' K' X' P' D'; (try k_sweep)))

local macro_rules | `(tactic| k_all) => `(tactic| exact ne_all (by with_reducible assumption))

local macro_rules | `(tactic| walk_at "call ref") => `(tactic| (k_here; (with_reducible show wpAny _ _ (call (Value.ref 455) _) _ _ _); (with_reducible refine' calls_use (month_length_calls _ _ _ _ (by walk_at "M om") (by walk_at "M om")) ?kA ?k1 ?k2 ?k3 ?k4 ?k5 ?kK ?kd ?ku ?_ ?_); k_dflt ((case kA => exact rfl); (case k1 => k_asm); (case k2 => k_asm); (case k3 => k_asm); (case k4 => k_asm); (case k5 => k_asm); (case kK => first | exact rfl | assumption); (case kd => walk_at "M room"); (case ku => walk_at "M room"); skip); ((intro v' tl' h' tk' hR' l' F' N'; obtain ⟨hp, ⟨t', e1⟩, e2⟩ := hR'; subst e1; subst e2; (try dsimp only [List.nil_append] at N' ⊢); (try k_sweep))); rotate_left; ((intro e' cls' g' h' tk' hX' F' R' U'; obtain ⟨hp, e1⟩ := hX'; subst e1; (try dsimp only))); rotate_right))
local macro_rules | `(tactic| walk_at "call ref") => `(tactic| (k_here; (with_reducible show wpAny _ _ (call (Value.ref 462) _) _ _ _); (with_reducible refine' callsW_use (monthcalendar_calls _ _ _ _ (by walk_at "M om") (by walk_at "M om") (by walk_at "M om") (by walk_at "M om")) ?kA ?k1 ?k2 ?k3 ?k4 ?k5 ?kK ?kd ?ku ?_ ?_); k_dflt ((case kA => exact rfl); (case k1 => k_asm); (case k2 => k_asm); (case k3 => k_asm); (case k4 => k_asm); (case k5 => k_asm); (case kK => first | exact rfl | assumption); (case kd => walk_at "M room"); (case ku => walk_at "M room"); skip); ((intro v' tl' h' tk' hR' F' N'; obtain ⟨hp, x', e1, hL'⟩ := hR'; subst e1; (try k_sweep))); rotate_left; ((intro e' cls' g' h' tk' hX' F' R' U'; obtain ⟨hp, e1⟩ := hX'; subst e1; (try dsimp only))); rotate_right))
local macro_rules | `(tactic| walk_at "call ref") => `(tactic| (k_here; (with_reducible show wpAny _ _ (call (Value.ref 419) _) _ _ _); (with_reducible refine' calls_use (nth_day_calls _ _ _ _ _ _ (by walk_at "M om") (by walk_at "M om")) ?kA ?k1 ?k2 ?k3 ?k4 ?k5 ?kK ?kd ?ku ?_ ?_); k_dflt ((case kA => exact rfl); (case k1 => k_asm); (case k2 => k_asm); (case k3 => k_asm); (case k4 => k_asm); (case k5 => k_asm); (case kK => first | exact rfl | assumption); (case kd => walk_at "M room"); (case ku => walk_at "M room"); skip); ((intro v' tl' h' tk' hR' l' F' N'; obtain ⟨a', o', hp, e1, e2⟩ := hR'; subst e1; subst e2; (try dsimp only [List.nil_append, List.cons_append] at N' ⊢); (try k_sweep))); rotate_left; ((intro e' cls' g' h' tk' hX' F' R' U'; obtain ⟨hp, e1⟩ := hX'; subst e1; (try dsimp only))); rotate_right))
local macro_rules | `(tactic| walk_at "call ref") => `(tactic| (k_here; (with_reducible show wpAny _ _ (call (Value.ref 582) _) _ _ _); (with_reducible refine' calls_use (iso_calls _ _ _ _ _ _ (by walk_at "M om") (by walk_at "M om") (by walk_at "M om") (by walk_at "M om") (by walk_at "M om") (by walk_at "M om")) ?kA ?k1 ?k2 ?k3 ?k4 ?k5 ?kK ?kd ?ku ?_ ?_); k_dflt ((case kA => exact rfl); (case k1 => k_asm); (case k2 => k_asm); (case k3 => k_asm); (case k4 => k_asm); (case k5 => k_asm); (case kK => first | exact rfl | assumption); (case kd => walk_at "M room"); (case ku => walk_at "M room"); skip); ((intro v' tl' h' tk' hR' l' F' N'; obtain ⟨hp, ⟨a', e1⟩, e2⟩ := hR'; subst e1; subst e2; (try dsimp only [List.nil_append] at N' ⊢); (try k_sweep))); rotate_left; ((intro e' cls' g' h' tk' hX' F' R' U'; obtain ⟨hp, e1⟩ := hX'; subst e1; (try dsimp only))); rotate_right))
set_option maxHeartbeats 8000000 in
theorem law_month_refusals_calls (y m : Int) (t t1 : Tok) (hy1 : -500100 ≤ y) (hy2 : y ≤ 500100) (hm1 : -100 ≤ m) (hm2 : m ≤ 100) :
    CallsT prog w p loose mean mg mb 8 708 [.int y t, .int m t1] (fun v tl => ∃ a c, v = .ref a ∧ tl = [(a, listOf (tolds (monthF y m) 4).toArray c)]) := by
  unfold CallsT; intro dp un gd cn cs a ccd A₀ base h₀ L fm news s Q E hB hF hK hN hT hXB hTB hk hd hu hret
  refine wpAny_call ?_
  k_dflt (refine' code_defS0 (binds := [(PySem.Str.ofString "year", .int y t), (PySem.Str.ofString "month", .int m t1)]) ?k1 ?k2 ?k3 ?k4 ?k5 ?kA ?k6 ?k7 ?k8 ?k9 ?kB ?_ ?cK ?c2 ?c3 ?c4 ?c5; (case kA => exact rfl); (case k1 => exact hB); (case k2 => exact hF); (case k3 => exact hK); (case k4 => exact hN); (case k5 => exact hT); (case k6 => k_is); (case k7 => k_is); (case k8 => ktr_room); (case k9 => exact BindsTo.of_eq rfl); (case c5 => decide); (case kB => exact locs rfl); (case cK => exact hk); (case c2 => exact rfl); (case c3 => exact rfl); (case c4 => exact rfl); k_whole)
  intro g₁ L₁ h₁ FG F₁ N₁ B₁ X₁ T₁ D₁
  clear hB hF hN hT
  (try dsimp only)
  dsimp only [List.reverse, List.reverseAux] at F₁
  (try k_fold)
  repeat ((fail_if_success (with_reducible show wpAny _ _ (exec (Stmt.For _ _ _ _ _) _) _ _ _)); walk_at "M step")
  refine For_T ?_
  repeat ((fail_if_success (with_reducible show wpAny _ _ (pyIter (Value.ref _)) _ _ _)); walk_at "M step")
  first
    | (rename_i l0 _ l1 _ _ _ _ _ _ _ _ hR F2 N2 _; have hchk : ∀ p ∈ news, p.1 < l0 := l1; have hchk2 := (hR : IsRange _ _ _ _ _ _ _ _))
    | (rename_i l0 _ l1 _ _ _ _ _ _ _ hR F2 N2 _; have hchk : ∀ p ∈ news, p.1 < l0 := l1; have hchk2 := (hR : IsRange _ _ _ _ _ _ _ _))
    | (rename_i l0 _ l1 _ _ _ _ _ _ hR F2 N2 _; have hchk : ∀ p ∈ news, p.1 < l0 := l1; have hchk2 := (hR : IsRange _ _ _ _ _ _ _ _))
    | (rename_i l0 _ l1 _ _ _ _ _ _ _ _ _ hR F2 N2 _; have hchk : ∀ p ∈ news, p.1 < l0 := l1; have hchk2 := (hR : IsRange _ _ _ _ _ _ _ _))
    | (rename_i l0 _ l1 _ _ _ _ _ _ _ _ _ _ hR F2 N2 _; have hchk : ∀ p ∈ news, p.1 < l0 := l1; have hchk2 := (hR : IsRange _ _ _ _ _ _ _ _))
    | (rename_i l0 _ l1 _ _ _ _ _ hR F2 N2 _; have hchk : ∀ p ∈ news, p.1 < l0 := l1; have hchk2 := (hR : IsRange _ _ _ _ _ _ _ _))
    | (rename_i l0 _ l1 _ _ _ _ _ _ _ _ _ _ _ hR F2 N2 _; have hchk : ∀ p ∈ news, p.1 < l0 := l1; have hchk2 := (hR : IsRange _ _ _ _ _ _ _ _))
    | (rename_i l0 _ l1 _ _ _ _ hR F2 N2 _; have hchk : ∀ p ∈ news, p.1 < l0 := l1; have hchk2 := (hR : IsRange _ _ _ _ _ _ _ _))
    | (rename_i l0 _ l1 _ _ _ hR F2 N2 _; have hchk : ∀ p ∈ news, p.1 < l0 := l1; have hchk2 := (hR : IsRange _ _ _ _ _ _ _ _))
    | (rename_i l0 _ l1 _ _ _ _ _ _ _ _ _ _ _ _ hR F2 N2 _; have hchk : ∀ p ∈ news, p.1 < l0 := l1; have hchk2 := (hR : IsRange _ _ _ _ _ _ _ _))
    | (rename_i l0 _ l1 _ _ _ _ _ _ _ _ _ _ _ _ _ hR F2 N2 _; have hchk : ∀ p ∈ news, p.1 < l0 := l1; have hchk2 := (hR : IsRange _ _ _ _ _ _ _ _))
    | (rename_i l0 _ l1 _ _ _ _ _ _ _ _ _ _ _ _ _ _ hR F2 N2 _; have hchk : ∀ p ∈ news, p.1 < l0 := l1; have hchk2 := (hR : IsRange _ _ _ _ _ _ _ _))
    | (rename_i l0 l1 _ _ _ _ _ _ _ _ hR F2 N2 _; have hchk : ∀ p ∈ news, p.1 < l0 := l1; have hchk2 := (hR : IsRange _ _ _ _ _ _ _ _))
    | (rename_i l0 l1 _ _ _ _ _ _ _ hR F2 N2 _; have hchk : ∀ p ∈ news, p.1 < l0 := l1; have hchk2 := (hR : IsRange _ _ _ _ _ _ _ _))
    | (rename_i l0 l1 _ _ _ _ _ _ hR F2 N2 _; have hchk : ∀ p ∈ news, p.1 < l0 := l1; have hchk2 := (hR : IsRange _ _ _ _ _ _ _ _))
    | (rename_i l0 l1 _ _ _ _ _ _ _ _ _ hR F2 N2 _; have hchk : ∀ p ∈ news, p.1 < l0 := l1; have hchk2 := (hR : IsRange _ _ _ _ _ _ _ _))
    | (rename_i l0 l1 _ _ _ _ _ _ _ _ _ _ hR F2 N2 _; have hchk : ∀ p ∈ news, p.1 < l0 := l1; have hchk2 := (hR : IsRange _ _ _ _ _ _ _ _))
    | (rename_i l0 l1 _ _ _ _ _ hR F2 N2 _; have hchk : ∀ p ∈ news, p.1 < l0 := l1; have hchk2 := (hR : IsRange _ _ _ _ _ _ _ _))
    | (rename_i l0 l1 _ _ _ _ _ _ _ _ _ _ _ hR F2 N2 _; have hchk : ∀ p ∈ news, p.1 < l0 := l1; have hchk2 := (hR : IsRange _ _ _ _ _ _ _ _))
    | (rename_i l0 l1 _ _ _ _ hR F2 N2 _; have hchk : ∀ p ∈ news, p.1 < l0 := l1; have hchk2 := (hR : IsRange _ _ _ _ _ _ _ _))
    | (rename_i l0 l1 _ _ _ hR F2 N2 _; have hchk : ∀ p ∈ news, p.1 < l0 := l1; have hchk2 := (hR : IsRange _ _ _ _ _ _ _ _))
    | (rename_i l0 l1 _ _ _ _ _ _ _ _ _ _ _ _ hR F2 N2 _; have hchk : ∀ p ∈ news, p.1 < l0 := l1; have hchk2 := (hR : IsRange _ _ _ _ _ _ _ _))
    | (rename_i l0 l1 _ _ _ _ _ _ _ _ _ _ _ _ _ hR F2 N2 _; have hchk : ∀ p ∈ news, p.1 < l0 := l1; have hchk2 := (hR : IsRange _ _ _ _ _ _ _ _))
    | (rename_i l0 l1 _ _ _ _ _ _ _ _ _ _ _ _ _ _ hR F2 N2 _; have hchk : ∀ p ∈ news, p.1 < l0 := l1; have hchk2 := (hR : IsRange _ _ _ _ _ _ _ _))
    | (rename_i l0 _ _ l1 _ _ _ _ _ _ _ _ hR F2 N2 _; have hchk : ∀ p ∈ news, p.1 < l0 := l1; have hchk2 := (hR : IsRange _ _ _ _ _ _ _ _))
    | (rename_i l0 _ _ l1 _ _ _ _ _ _ _ hR F2 N2 _; have hchk : ∀ p ∈ news, p.1 < l0 := l1; have hchk2 := (hR : IsRange _ _ _ _ _ _ _ _))
    | (rename_i l0 _ _ l1 _ _ _ _ _ _ hR F2 N2 _; have hchk : ∀ p ∈ news, p.1 < l0 := l1; have hchk2 := (hR : IsRange _ _ _ _ _ _ _ _))
    | (rename_i l0 _ _ l1 _ _ _ _ _ _ _ _ _ hR F2 N2 _; have hchk : ∀ p ∈ news, p.1 < l0 := l1; have hchk2 := (hR : IsRange _ _ _ _ _ _ _ _))
    | (rename_i l0 _ _ l1 _ _ _ _ _ _ _ _ _ _ hR F2 N2 _; have hchk : ∀ p ∈ news, p.1 < l0 := l1; have hchk2 := (hR : IsRange _ _ _ _ _ _ _ _))
    | (rename_i l0 _ _ l1 _ _ _ _ _ hR F2 N2 _; have hchk : ∀ p ∈ news, p.1 < l0 := l1; have hchk2 := (hR : IsRange _ _ _ _ _ _ _ _))
    | (rename_i l0 _ _ l1 _ _ _ _ _ _ _ _ _ _ _ hR F2 N2 _; have hchk : ∀ p ∈ news, p.1 < l0 := l1; have hchk2 := (hR : IsRange _ _ _ _ _ _ _ _))
    | (rename_i l0 _ _ l1 _ _ _ _ hR F2 N2 _; have hchk : ∀ p ∈ news, p.1 < l0 := l1; have hchk2 := (hR : IsRange _ _ _ _ _ _ _ _))
    | (rename_i l0 _ _ l1 _ _ _ hR F2 N2 _; have hchk : ∀ p ∈ news, p.1 < l0 := l1; have hchk2 := (hR : IsRange _ _ _ _ _ _ _ _))
    | (rename_i l0 _ _ l1 _ _ _ _ _ _ _ _ _ _ _ _ hR F2 N2 _; have hchk : ∀ p ∈ news, p.1 < l0 := l1; have hchk2 := (hR : IsRange _ _ _ _ _ _ _ _))
    | (rename_i l0 _ _ l1 _ _ _ _ _ _ _ _ _ _ _ _ _ hR F2 N2 _; have hchk : ∀ p ∈ news, p.1 < l0 := l1; have hchk2 := (hR : IsRange _ _ _ _ _ _ _ _))
    | (rename_i l0 _ _ l1 _ _ _ _ _ _ _ _ _ _ _ _ _ _ hR F2 N2 _; have hchk : ∀ p ∈ news, p.1 < l0 := l1; have hchk2 := (hR : IsRange _ _ _ _ _ _ _ _))
  clear hchk hchk2
  have l1d : ∀ p ∈ news, p.1 < l0 := l1
  refine iter_T (fun g => KtsTurn ([envOf cn cs L a ccd].filterMap (·.frame)) g₁ g ∧ Below (ktrTop dp un gd cn cs L a ccd [] []) base [envOf cn cs L a ccd] g ∧ KtsDicts ([envOf cn cs L a ccd].filterMap (·.frame)) g)
    (fun i m₁ nx => (∀ z, z ≠ PySem.Str.ofString "road" → m₁ z = (fun y_1 => if y_1 = PySem.Str.ofString "told" then some (Value.ref l0) else List.lookup y_1 [(PySem.Str.ofString "month", Value.int m t1), (PySem.Str.ofString "year", Value.int y t)]) z) ∧
      ∃ c, nx = (l0, listOf (tolds (monthF y m) i).toArray c) :: news)
    (n := 4) rfl hR (by decide) (by decide) ⟨.refl, B₁, D₁⟩ F2 N2 ⟨fun _ _ => rfl, _, rfl⟩ (fun i m nx j => by obtain ⟨_, c, rfl⟩ := j; rfl) rfl (by rfl) ?_ ?_
  · intro i ti g m₁ news₁ h tk' own hi hoff G j F N
    obtain ⟨T3, B3, D3⟩ := G
    obtain ⟨hm₁, c, rfl⟩ := j
    rw [frame_road hm₁] at F
    have X3 : (Mine.hd.heap_39 w.params).In g := hXB.keeps B3.stays
    have T4 : Top p loose mean mg mb g := hTB.keeps B3.stays
    have hne : ∀ p ∈ news ++ own, p.1 ≠ l0 := by
      intro p hp
      rcases List.mem_append.mp hp with hp | hp
      · exact Nat.ne_of_lt (l1d p hp)
      · exact hoff p hp l0 (.head _)
    dsimp only [List.cons_append] at N
    clear B₁ X₁ T₁ D₁ F2 N2 hR
    k_steps
    all_goals first
      | (refine told_end ⟨by assumption, by assumption, by assumption⟩ (by k_asm) (by k_asm) (fun z hz => if_neg hz) ?_)
      | skip
    all_goals first
      | with_reducible exact md1 (by omega) (by with_reducible assumption)
      | with_reducible exact md2 (by omega) (by with_reducible assumption)
      | with_reducible exact md3 (by omega) (by with_reducible assumption)
      | with_reducible exact md4 (by omega) (by with_reducible assumption)
      | skip
  · intro g m₁ news₁ h tk' G j F N
    obtain ⟨T3, B3, D3⟩ := G
    obtain ⟨hm₁, c, rfl⟩ := j
    rw [frame_road2 hm₁] at F
    have X3 : (Mine.hd.heap_39 w.params).In g := hXB.keeps B3.stays
    have T4 : Top p loose mean mg mb g := hTB.keeps B3.stays
    clear B₁ X₁ T₁ D₁ F2 N2 hR
    k_steps
    all_goals exact hret _ [_] _ _ ⟨_, _, rfl, rfl⟩ (by k_asm) (by k_asm)
end

end
section
theorem off_C19 : True := by
  w_top off
  trivial
end
section
/-- Calls with a word on the ground of the call -/
def CallsG (prog : Program) (w : World) (p : Program) (loose : List Str) (mean : ExcName → Option Value) (mg mb : Str → Option Value) (D : Nat) (f : Addr) (vs : List Value) (Pre : Heap → Prop) (R : Value → List (Addr × Obj) → Prop) : Prop :=
  ∀ (dp un : Nat) (gd : Option (List Code)) (cn : Str) (cs : Scope) (a : Addr) (ccd : Value) (cl : List (Str × Addr)) (outer : List Env) (A₀ : Around) (base h₀ : Heap) (L : Addr) (m : Str → Option Value) (news : List (Addr × Obj)) (s : Shared) (Q E : Value → Shared → Prop),
    Below A₀ base outer h₀ → Fr h₀ L s.heap m → (hd.heap_39 w.params).In h₀ → News h₀ L s.heap news → Top p loose mean mg mb h₀ → cs.kind = .function →
    dp + D < recursionLimit → un + 8 * D < cLine → Pre h₀ →
    (∀ (v : Value) (tl : List (Addr × Obj)) (h' : Heap) (tk' : Nat), R v tl → Fr h₀ L h' m → News h₀ L h' (tl ++ news) → Q v { s with heap := h', toks := tk' }) →
      wpAny (model prog w) (ktrTop dp un gd cn cs L a ccd cl outer) (call (.ref f) vs) Q E s
section
variable {prog : Program} {w : World} {p : Program} {loose : List Str} {mean : ExcName → Option Value} {mg mb : Str → Option Value} {D : Nat} {f : Addr} {vs : List Value} {Pre : Heap → Prop} {R : Value → List (Addr × Obj) → Prop}
theorem callsG_use {A : Around} {dp un : Nat} {gd : Option (List Code)} {cn : Str} {cs : Scope} {a : Addr} {ccd : Value} {cl : List (Str × Addr)} {outer : List Env} {A₀ : Around} {base h₀ : Heap} {L : Addr} {m : Str → Option Value} {news : List (Addr × Obj)} {s : Shared} {Q E : Value → Shared → Prop}
    (C : CallsG prog w p loose mean mg mb D f vs Pre R) (hA : A = ktrTop dp un gd cn cs L a ccd cl outer) (B : Below A₀ base outer h₀) (F : Fr h₀ L s.heap m) (K : (hd.heap_39 w.params).In h₀) (N : News h₀ L s.heap news) (T : Top p loose mean mg mb h₀) (hk : cs.kind = .function)
    (hd : dp + D < recursionLimit) (hu : un + 8 * D < cLine) (hP : Pre h₀)
    (ret : ∀ (v : Value) (tl : List (Addr × Obj)) (h' : Heap) (tk' : Nat), R v tl → Fr h₀ L h' m → News h₀ L h' (tl ++ news) → Q v { s with heap := h', toks := tk' }) :
      wpAny (model prog w) A (call (.ref f) vs) Q E s := by
  subst hA
  exact C _ _ _ _ _ _ _ _ _ _ _ _ _ _ _ _ _ _ B F K N T hk hd hu hP ret
end
section
variable {prog : Program} {w : World} {p : Program} {loose : List Str} {mean : ExcName → Option Value} {mg mb : Str → Option Value}
set_option maxHeartbeats 8000000 in
theorem law_at_calls {sc : Addr} {xs : List Value} {ns : List Int} (hi : IntsAre xs ns) (hl : ns.length ≤ 63) (k : Int) (t : Tok) (hk0 : 0 ≤ k) :
    CallsG prog w p loose mean mg mb 1 631 [.ref sc, .int k t] (fun g => g.IsList sc xs.toArray) (fun v tl => (∃ z t, v = .int z t) ∧ tl = []) := by
  unfold CallsG; intro dp un gd cn cs a ccd cl outer A₀ base h₀ L fm news s Q E hB hF hK hN hT hk hd hu hP hret
  refine wpAny_call ?_
  k_dflt (refine' code_def (binds := [(PySem.Str.ofString "script", .ref sc), (PySem.Str.ofString "place", .int k t)]) ?k1 ?k2 ?k3 ?k4 ?k5 ?kA ?kF ?kK ?k6 ?k7 ?k8 ?k9 ?kB ?_ ?c2 ?c3 ?c4 ?c5; (case kA => exact rfl); (case kF => exact rfl); (case kK => exact hk); (case k1 => exact hB); (case k2 => exact hF); (case k3 => exact hK); (case k4 => exact hN); (case k5 => exact hT); (case k6 => k_is); (case k7 => k_is); (case k8 => ktr_room); (case k9 => exact BindsTo.of_eq rfl); (case c5 => decide); (case kB => exact locs rfl); (case c2 => exact rfl); (case c3 => exact rfl); (case c4 => exact rfl); k_whole)
  intro g₁ L₁ h₁ FG F₁ N₁ B₁ X₁ T₁
  clear hB hF hN hT
  (try dsimp only)
  dsimp only [List.reverse, List.reverseAux] at F₁
  (try k_fold)
  have hL1 : g₁.IsList sc xs.toArray := by obtain ⟨o, ho, hc, n, hd⟩ := hP; exact ⟨o, FG.keep _ _ ho, hc, n, hd⟩
  have hxl := hi.length
  k_steps
  all_goals (refine hret _ [] _ _ ⟨⟨_, _, rfl⟩, rfl⟩ (by k_asm) (by walk_at "M news"))
local macro_rules | `(tactic| walk_at "call ref") => `(tactic| (k_here; (with_reducible show wpAny _ _ (call (Value.ref 631) _) _ _ _); (with_reducible refine' callsG_use (law_at_calls (by with_reducible assumption) (by with_reducible assumption) _ _ (by walk_at "M om")) ?kA ?k1 ?k2 ?k3 ?k4 ?k5 ?kK ?kd ?ku ?hP ?_); k_dflt ((case kA => exact rfl); (case k1 => k_asm); (case k2 => k_asm); (case k3 => k_asm); (case k4 => k_asm); (case k5 => k_asm); (case kK => first | exact rfl | assumption); (case kd => walk_at "M room"); (case ku => walk_at "M room"); (case hP => with_reducible assumption)); intro v' tl' h' tk' hR' F' N'; obtain ⟨⟨z', t', e1⟩, e2⟩ := hR'; subst e1; subst e2; (try dsimp only [List.nil_append] at N' ⊢); (try k_sweep)))
theorem near_b (x n : Int) (h : 0 < n) : -n ≤ (x + n).fmod (2 * n) - n ∧ (x + n).fmod (2 * n) - n ≤ n := by
  rw [Mine.fm _ _ (by omega)]
  have := Int.emod_nonneg (x + n) (show 2 * n ≠ 0 by omega)
  have := Int.emod_lt_of_pos (x + n) (show 0 < 2 * n by omega)
  omega
set_option maxHeartbeats 8000000 in
theorem law_near_calls {sc : Addr} {xs : List Value} {ns : List Int} (hi : IntsAre xs ns) (hl : ns.length ≤ 63) (k n : Int) (t t1 : Tok) (hk0 : 0 ≤ k) (hn : 0 < n) :
    CallsG prog w p loose mean mg mb 2 638 [.ref sc, .int k t, .int n t1] (fun g => g.IsList sc xs.toArray) (fun v tl => (∃ z t, v = .int z t ∧ -n ≤ z ∧ z ≤ n) ∧ tl = []) := by
  unfold CallsG; intro dp un gd cn cs a ccd cl outer A₀ base h₀ L fm news s Q E hB hF hK hN hT hk hd hu hP hret
  refine wpAny_call ?_
  k_dflt (refine' code_def (binds := [(PySem.Str.ofString "script", .ref sc), (PySem.Str.ofString "place", .int k t), (PySem.Str.ofString "width", .int n t1)]) ?k1 ?k2 ?k3 ?k4 ?k5 ?kA ?kF ?kK ?k6 ?k7 ?k8 ?k9 ?kB ?_ ?c2 ?c3 ?c4 ?c5; (case kA => exact rfl); (case kF => exact rfl); (case kK => exact hk); (case k1 => exact hB); (case k2 => exact hF); (case k3 => exact hK); (case k4 => exact hN); (case k5 => exact hT); (case k6 => k_is); (case k7 => k_is); (case k8 => ktr_room); (case k9 => exact BindsTo.of_eq rfl); (case c5 => decide); (case kB => exact locs rfl); (case c2 => exact rfl); (case c3 => exact rfl); (case c4 => exact rfl); k_whole)
  intro g₁ L₁ h₁ FG F₁ N₁ B₁ X₁ T₁
  clear hB hF hN hT
  (try dsimp only)
  dsimp only [List.reverse, List.reverseAux] at F₁
  (try k_fold)
  have hL1 : g₁.IsList sc xs.toArray := by obtain ⟨o, ho, hc, n, hd⟩ := hP; exact ⟨o, FG.keep _ _ ho, hc, n, hd⟩
  k_steps
  all_goals (refine hret _ [] _ _ ⟨⟨_, _, rfl, near_b _ _ hn⟩, rfl⟩ (by k_asm) (by walk_at "M news"))
end

end
section
theorem off_C21 : True := by
  w_top off
  trivial
end
section
theorem m12 {i : Nat} (h : i < 12) : i = 0 ∨ i = 1 ∨ i = 2 ∨ i = 3 ∨ i = 4 ∨ i = 5 ∨ i = 6 ∨ i = 7 ∨ i = 8 ∨ i = 9 ∨ i = 10 ∨ i = 11 := by omega
/-- the number of the first day of the month behind i months, and behind twelve of the next year's -/
def atG (y : Int) (i : Nat) : Int := if i < 12 then gday y (1 + (i : Int)) 1 else gday (y + 1) 1 1
def atJ (y : Int) (i : Nat) : Int := if i < 12 then jday y (1 + (i : Int)) 1 else jfirst (y + 1)
theorem atG_zero (y : Int) : atG y 0 = gday y 1 1 := by unfold atG; simp
theorem atJ_zero (y : Int) : atJ y 0 = jfirst y := by unfold atJ; simp [jday_first]
theorem atG_at {y : Int} {i : Nat} (h : i < 12) : atG y i = gday y (1 + (i : Int)) 1 := by unfold atG; rw [if_pos h]
theorem atJ_at {y : Int} {i : Nat} (h : i < 12) : atJ y i = jday y (1 + (i : Int)) 1 := by unfold atJ; rw [if_pos h]
theorem gday_step {y m : Int} (h1 : 1 ≤ m) (h2 : m < 12) : gday y m 1 + glen y m = gday y (m + 1) 1 := by
  have hw : 0 ≤ wideI y ∧ wideI y ≤ 1 := by unfold wideI; split <;> omega
  rw [gday_eq, gday_eq, glen_at]
  have a : m = 1 ∨ m = 2 ∨ m = 3 ∨ m = 4 ∨ m = 5 ∨ m = 6 ∨ m = 7 ∨ m = 8 ∨ m = 9 ∨ m = 10 ∨ m = 11 := by omega
  rcases a with rfl | rfl | rfl | rfl | rfl | rfl | rfl | rfl | rfl | rfl | rfl <;> simp <;> omega
theorem gday_last (y : Int) : gday y 12 1 + glen y 12 = gday (y + 1) 1 1 := by
  rw [gday_first, yday_succ, gday_eq, glen_at]; simp; omega
theorem atG_succ {y : Int} {i : Nat} (h : i < 12) : gday y (1 + (i : Int)) 1 + glen y (1 + (i : Int)) = atG y (i + 1) := by
  unfold atG
  by_cases h2 : i + 1 < 12
  · rw [if_pos h2, gday_step (by omega) (by omega), show (1 + ((i + 1 : Nat) : Int)) = 1 + (i : Int) + 1 by omega]
  · rw [if_neg h2, show (1 + (i : Int)) = 12 by omega, gday_last]
theorem jlen_at (y m : Int) : jlen y m = if m = 2 then 28 + jwI y else if m = 4 ∨ m = 6 ∨ m = 9 ∨ m = 11 then 30 else 31 := by
  unfold jlen jwI; split
  · split <;> rfl
  · rfl
theorem q1461 (z : Int) : 1461 * z / 4 = 365 * z + z / 4 := by omega
theorem jday_step {y m : Int} (h1 : 1 ≤ m) (h2 : m < 12) : jday y m 1 + jlen y m = jday y (m + 1) 1 := by
  have hj := jwI_spec y
  rw [jlen_at]
  unfold jday
  rw [q1461, q1461]
  have a : m = 1 ∨ m = 2 ∨ m = 3 ∨ m = 4 ∨ m = 5 ∨ m = 6 ∨ m = 7 ∨ m = 8 ∨ m = 9 ∨ m = 10 ∨ m = 11 := by omega
  rcases a with rfl | rfl | rfl | rfl | rfl | rfl | rfl | rfl | rfl | rfl | rfl <;> simp <;> omega
theorem jday_last (y : Int) : jday y 12 1 + jlen y 12 = jfirst (y + 1) := by
  have hj := jwI_spec y
  rw [jlen_at]
  unfold jday jfirst
  rw [q1461, q1461]
  simp; omega
theorem atJ_succ {y : Int} {i : Nat} (h : i < 12) : jday y (1 + (i : Int)) 1 + jlen y (1 + (i : Int)) = atJ y (i + 1) := by
  unfold atJ
  by_cases h2 : i + 1 < 12
  · rw [if_pos h2, jday_step (by omega) (by omega), show (1 + ((i + 1 : Nat) : Int)) = 1 + (i : Int) + 1 by omega]
  · rw [if_neg h2, show (1 + (i : Int)) = 12 by omega, jday_last]
theorem lens_get (b : Bool) {y k : Int} (hb : b = wide y) (h1 : 1 ≤ k) (h2 : k ≤ 12) : (lens b)[(k - 1).toNat]? = some (glen y k) := by
  subst hb
  have e : k = 1 ∨ k = 2 ∨ k = 3 ∨ k = 4 ∨ k = 5 ∨ k = 6 ∨ k = 7 ∨ k = 8 ∨ k = 9 ∨ k = 10 ∨ k = 11 ∨ k = 12 := by omega
  rcases e with rfl | rfl | rfl | rfl | rfl | rfl | rfl | rfl | rfl | rfl | rfl | rfl <;> simp [lens, glen]
theorem lens_getJ {y k : Int} (h1 : 1 ≤ k) (h2 : k ≤ 12) : (lens (y.fmod 4 == 0))[(k - 1).toNat]? = some (jlen y k) := by
  have e : k = 1 ∨ k = 2 ∨ k = 3 ∨ k = 4 ∨ k = 5 ∨ k = 6 ∨ k = 7 ∨ k = 8 ∨ k = 9 ∨ k = 10 ∨ k = 11 ∨ k = 12 := by omega
  rcases e with rfl | rfl | rfl | rfl | rfl | rfl | rfl | rfl | rfl | rfl | rfl | rfl <;> simp [lens, jlen, jw]
/-- the days of a year: no two months share one -/
theorem gday_uniq {y m d m' : Int} (h1 : 1 ≤ m) (h2 : m ≤ 12) (h3 : 1 ≤ d ∧ d ≤ glen y m) (k1 : 1 ≤ m') (k2 : m' ≤ 12) (e : gday y m d = gday y m' 1) : m = m' ∧ d = 1 := by
  have hw : 0 ≤ wideI y ∧ wideI y ≤ 1 := by unfold wideI; split <;> omega
  rw [glen_at] at h3
  rw [gday_eq, gday_eq] at e
  have a : m = 1 ∨ m = 2 ∨ m = 3 ∨ m = 4 ∨ m = 5 ∨ m = 6 ∨ m = 7 ∨ m = 8 ∨ m = 9 ∨ m = 10 ∨ m = 11 ∨ m = 12 := by omega
  have b : m' = 1 ∨ m' = 2 ∨ m' = 3 ∨ m' = 4 ∨ m' = 5 ∨ m' = 6 ∨ m' = 7 ∨ m' = 8 ∨ m' = 9 ∨ m' = 10 ∨ m' = 11 ∨ m' = 12 := by omega
  rcases a with rfl | rfl | rfl | rfl | rfl | rfl | rfl | rfl | rfl | rfl | rfl | rfl <;> simp at h3 e <;> (rcases b with rfl | rfl | rfl | rfl | rfl | rfl | rfl | rfl | rfl | rfl | rfl | rfl <;> simp at e ⊢ <;> omega)
theorem place_b {y m : Int} (h1 : 1 ≤ m) (h2 : m ≤ 12) : 1 ≤ gday y m 1 - gday y 1 1 + 1 ∧ gday y m 1 - gday y 1 1 + 1 ≤ 365 + wideI y := by
  have hw : 0 ≤ wideI y ∧ wideI y ≤ 1 := by unfold wideI; split <;> omega
  rw [gday_eq, gday_eq]
  have a : m = 1 ∨ m = 2 ∨ m = 3 ∨ m = 4 ∨ m = 5 ∨ m = 6 ∨ m = 7 ∨ m = 8 ∨ m = 9 ∨ m = 10 ∨ m = 11 ∨ m = 12 := by omega
  rcases a with rfl | rfl | rfl | rfl | rfl | rfl | rfl | rfl | rfl | rfl | rfl | rfl <;> simp <;> omega
theorem gday_add (y m d : Int) : gday y m d = gday y m 1 + d - 1 := by unfold gday; omega
theorem jday_add (y m d : Int) : jday y m d = jday y m 1 + d - 1 := by unfold jday; omega
theorem year_len (y : Int) : gday (y + 1) 1 1 - gday y 1 1 = 365 + wideI y := by rw [gday_first, gday_first, yday_succ]; omega
theorem yday_mono {y z : Int} (h : y < z) : yday y + 365 + wideI y ≤ yday z := by
  have hw := wideI_spec y
  unfold yday
  rcases hw with ⟨w1, _, w2⟩ | ⟨w1, _, w2⟩ <;> rw [w1] <;> omega
theorem side_part {y z n : Int} (h : InYear n z) : sideOf y z = partOf n (gday y 1 1) (gday (y + 1) 1 1) := by
  unfold InYear at h
  rw [gday_first, gday_first, yday_succ]
  have hz : 0 ≤ wideI z ∧ wideI z ≤ 1 := by unfold wideI; split <;> omega
  have hy : 0 ≤ wideI y ∧ wideI y ≤ 1 := by unfold wideI; split <;> omega
  unfold sideOf partOf
  by_cases e : y = z
  · subst e; rw [if_pos rfl, if_neg (by omega), if_pos (by omega)]
  rw [if_neg e]
  by_cases l : y < z
  · have := yday_mono l
    rw [if_pos l, if_neg (by omega), if_neg (by omega)]
  · have := yday_mono (show z < y by omega)
    rw [if_neg l, if_pos (by omega)]
theorem side_partJ {y z n : Int} (h : InYearJ n z) : sideOf y z = partOf n (jfirst y) (jfirst (y + 1)) := by
  unfold InYearJ at h
  have hz := jwI_spec z
  have hy := jwI_spec y
  unfold sideOf partOf
  unfold jfirst at *
  by_cases e : y = z
  · subst e; rw [if_pos rfl, if_neg (by omega), if_pos (by omega)]
  rw [if_neg e]
  by_cases l : y < z
  · rw [if_pos l, if_neg (by omega), if_neg (by omega)]
  · rw [if_neg l, if_pos (by omega)]

end
section
theorem off_C22 : True := by
  w_top off
  trivial
end
section
/-- ways that meet again behind t: the value is of P, the frame and the ledger are as before -/
def JoinAt {α : Type} (P : α → Prop) (h₀ : Heap) (L : Addr) (m : Str → Option Value) (news : List (Addr × Obj)) (s : Shared) (v : α) (s₂ : Shared) : Prop := P v ∧ ∃ h tk, s₂ = { s with heap := h, toks := tk } ∧ Fr h₀ L h m ∧ News h₀ L h news
theorem JoinAt.intro {α : Type} {P : α → Prop} {h₀ h : Heap} {L : Addr} {m : Str → Option Value} {news : List (Addr × Obj)} {s : Shared} {v : α} {tk : Nat} (F : Fr h₀ L h m) (N : News h₀ L h news) (hp : P v) : JoinAt P h₀ L m news s v { s with heap := h, toks := tk } := ⟨hp, _, _, rfl, F, N⟩
theorem join_at {α : Type} {M : Model} {A : Around} {E : Value → Shared → Prop} {s : Shared} {t : Sem α} {Q : α → Shared → Prop} {h₀ : Heap} {L : Addr} {m : Str → Option Value} {news : List (Addr × Obj)} (P : α → Prop) (_F : Fr h₀ L s.heap m) (_N : News h₀ L s.heap news)
    (h1 : wpAny M A t (JoinAt P h₀ L m news s) E s) (h2 : ∀ v h tk, P v → Fr h₀ L h m → News h₀ L h news → Q v { s with heap := h, toks := tk }) : wpAny M A t Q E s :=
  wpAny_mono h1 (fun v s₂ q => by obtain ⟨hp, h, tk, rfl, F, N⟩ := q; exact h2 v h tk hp F N) fun _ _ e => e
section
variable {prog : Program} {w : World} {p : Program} {loose : List Str} {mean : ExcName → Option Value} {mg mb : Str → Option Value}
theorem month_lengthL_calls (y m : Int) (t t1 : Tok) (hm : 1 ≤ m ∧ m ≤ 12) (hy1 : -1000000 ≤ y) (hy2 : y ≤ 1000000) : Calls prog w p loose mean mg mb 5 455 [.int y t, .int m t1] (fun v tl => (∃ t, v = .int (glen y m) t) ∧ tl = []) (fun _ => False) :=
  calls_weaken (month_length_calls y m t t1 hy1 hy2) (fun _ _ h => h.2) (fun _ h => h.1 hm)
theorem to_greg_ordinal1_calls (y m : Int) (t t1 : Tok) (hm : 1 ≤ m ∧ m ≤ 12) : Calls prog w p loose mean mg mb 3 624 [.int y t, .int (gday y m 1 - gday y 1 1 + 1) t1] (fun v tl => ∃ a ta tb tc, v = .ref a ∧ tl = [(a, tupleOf [.int y ta, .int m tb, .int 1 tc])]) (fun _ => False) :=
  calls_weaken (to_greg_ordinal_calls y _ t t1 (place_b hm.1 hm.2).1 (place_b hm.1 hm.2).2) (fun v tl h => by
    obtain ⟨x, M, D, ta, tb, tc, ⟨k1, k2, k3, k4⟩, e1, e2⟩ := h
    obtain ⟨rfl, rfl⟩ := gday_uniq k1 k2 k3 hm.1 hm.2 (by rw [k4]; omega)
    exact ⟨x, ta, tb, tc, e1, e2⟩) (fun _ h => h)
theorem monthcalendarL_calls (y m : Int) (t t1 : Tok) (hm : 1 ≤ m ∧ m ≤ 12) (hy1 : -500100 ≤ y) (hy2 : y ≤ 500100) : CallsW prog w p loose mean mg mb 6 462 [.int y t, .int m t1]
    (fun v tl => ∃ x, v = .ref x ∧ LeafIs tl v ((calD ((gday y m 1 + 1) % 7).toNat (glen y m).toNat).map .list)) (fun _ => False) := by
  have C := monthcalendar_calls (prog := prog) (w := w) (p := p) (loose := loose) (mean := mean) (mg := mg) (mb := mb) y m t t1 hy1 hy2 (by omega) (by omega)
  unfold CallsW at C ⊢
  intro dp un gd cn cs a ccd cl outer A₀ base h₀ L fm news s Q E hB hF hK hN hT hk hd hu hret hexc
  exact C dp un gd cn cs a ccd cl outer A₀ base h₀ L fm news s Q E hB hF hK hN hT hk hd hu (fun v tl h' tk' hR => hret v tl h' tk' hR.2) (fun e cls g h' tk' hX => (hX.1 hm).elim)
end
theorem ints_get : ∀ {vs : List Value} {ns : List Int} {i : Nat} {n : Int}, IntsAre vs ns → ns[i]? = some n → ∃ t, vs[i]? = some (.int n t)
  | _, _, _, _, .nil, h => by simp at h
  | _, _, 0, _, .cons k t _, h => by simp at h; subst h; exact ⟨t, rfl⟩
  | _, _, i + 1, _, .cons k t r, h => by
    obtain ⟨t', e⟩ := ints_get (i := i) r (by simpa using h)
    exact ⟨t', by simpa using e⟩
section
variable {prog : Program} {w : World} {A : Around} {E : Value → Shared → Prop} {s : Shared} {value slice : Expr} {h₀ : Heap} {L D : Addr} {news : List (Addr × Obj)} {vs : List Value} {c : Nat} {y k : Int} {u : Tok} {Q : Value → Shared → Prop}
theorem lens_item (N : News h₀ L s.heap news) (hm : (D, listOf vs.toArray c) ∈ news) (hi : IntsAre vs (lens (wide y))) (h1 : 1 ≤ k) (h2 : k ≤ 12) (h : ∀ t, Q (.int (glen y k) t) s)
    (hs : subscripted slice false (.ref D) (.int (k - 1) u) = operate [.ref D, .int (k - 1) u] (getItem (.ref D) (.int (k - 1) u)) := by with_unfolding_all rfl) (ht : ∀ r, letTemporaryGo value (.ref D) r = pure () := by intro _; with_unfolding_all rfl) :
    wpAny (model prog w) A (subscriptTail value slice (.ref D) (.int (k - 1) u)) Q E s := by
  obtain ⟨t, e⟩ := ints_get hi (lens_get (wide y) rfl h1 h2)
  exact item_listL (News.isList N hm) (by omega) (by omega) e (h t) hs ht
theorem lens_itemJ (N : News h₀ L s.heap news) (hm : (D, listOf vs.toArray c) ∈ news) (hi : IntsAre vs (lens (y.fmod 4 == 0))) (h1 : 1 ≤ k) (h2 : k ≤ 12) (h : ∀ t, Q (.int (jlen y k) t) s)
    (hs : subscripted slice false (.ref D) (.int (k - 1) u) = operate [.ref D, .int (k - 1) u] (getItem (.ref D) (.int (k - 1) u)) := by with_unfolding_all rfl) (ht : ∀ r, letTemporaryGo value (.ref D) r = pure () := by intro _; with_unfolding_all rfl) :
    wpAny (model prog w) A (subscriptTail value slice (.ref D) (.int (k - 1) u)) Q E s := by
  obtain ⟨t, e⟩ := ints_get hi (lens_getJ h1 h2)
  exact item_listL (News.isList N hm) (by omega) (by omega) e (h t) hs ht
end
/-- what the loop over the months keeps -/
def LawJ (y : Int) (m₀ : Str → Option Value) (news₀ : List (Addr × Obj)) (i : Nat) (m₁ : Str → Option Value) (nx : List (Addr × Obj)) : Prop :=
  (∀ z, z ≠ PySem.Str.ofString "month" → z ≠ PySem.Str.ofString "at" → z ≠ PySem.Str.ofString "old_at" → z ≠ PySem.Str.ofString "size" → z ≠ PySem.Str.ofString "old_size" → z ≠ PySem.Str.ofString "place" → m₁ z = m₀ z) ∧
    (∃ t, m₁ (PySem.Str.ofString "at") = some (.int (atG y i) t)) ∧ (∃ t, m₁ (PySem.Str.ofString "old_at") = some (.int (atJ y i) t)) ∧ nx = news₀
theorem fr6 {m₀ m₁ : Str → Option Value} {v u r : Option Value} (h1 : m₁ (PySem.Str.ofString "at") = u) (h2 : m₁ (PySem.Str.ofString "old_at") = r) (h : ∀ z, z ≠ PySem.Str.ofString "month" → z ≠ PySem.Str.ofString "at" → z ≠ PySem.Str.ofString "old_at" → z ≠ PySem.Str.ofString "size" → z ≠ PySem.Str.ofString "old_size" → z ≠ PySem.Str.ofString "place" → m₁ z = m₀ z) :
    (fun z => if z = PySem.Str.ofString "month" then v else m₁ z) = fun z => if z = PySem.Str.ofString "month" then v else if z = PySem.Str.ofString "at" then u else if z = PySem.Str.ofString "old_at" then r else if z = PySem.Str.ofString "size" then m₁ z else if z = PySem.Str.ofString "old_size" then m₁ z else if z = PySem.Str.ofString "place" then m₁ z else m₀ z := by
  funext z
  by_cases a1 : z = PySem.Str.ofString "month"
  · simp [a1]
  by_cases a2 : z = PySem.Str.ofString "at"
  · subst a2; simp [a1, h1]
  by_cases a3 : z = PySem.Str.ofString "old_at"
  · subst a3; simp [a1, a2, h2]
  by_cases a4 : z = PySem.Str.ofString "size"
  · subst a4; simp [a1, a2, a3]
  by_cases a5 : z = PySem.Str.ofString "old_size"
  · subst a5; simp [a1, a2, a3, a4]
  by_cases a6 : z = PySem.Str.ofString "place"
  · subst a6; simp [a1, a2, a3, a4, a5]
  simp only [if_neg a1, if_neg a2, if_neg a3, if_neg a4, if_neg a5, if_neg a6]
  exact h z a1 a2 a3 a4 a5 a6
theorem fr6' {m₀ m₁ : Str → Option Value} {u r : Option Value} (h1 : m₁ (PySem.Str.ofString "at") = u) (h2 : m₁ (PySem.Str.ofString "old_at") = r) (h : ∀ z, z ≠ PySem.Str.ofString "month" → z ≠ PySem.Str.ofString "at" → z ≠ PySem.Str.ofString "old_at" → z ≠ PySem.Str.ofString "size" → z ≠ PySem.Str.ofString "old_size" → z ≠ PySem.Str.ofString "place" → m₁ z = m₀ z) :
    m₁ = fun z => if z = PySem.Str.ofString "month" then m₁ z else if z = PySem.Str.ofString "at" then u else if z = PySem.Str.ofString "old_at" then r else if z = PySem.Str.ofString "size" then m₁ z else if z = PySem.Str.ofString "old_size" then m₁ z else if z = PySem.Str.ofString "place" then m₁ z else m₀ z := by
  have e := fr6 (v := m₁ (PySem.Str.ofString "month")) h1 h2 h
  funext z
  by_cases a1 : z = PySem.Str.ofString "month"
  · simp [a1]
  have := congrFun e z
  simp only [if_neg a1] at this ⊢
  exact this
theorem law_turn {y : Int} {i : Nat} {m₀ m' : Str → Option Value} {news own : List (Addr × Obj)} {g h : Heap} {L : Addr} {s : Shared} {tk : Nat} {t1 t2 : Tok} (hi : i < 12) (F : Fr g L h m') (N : News g L h (news ++ own))
    (e1 : m' (PySem.Str.ofString "at") = some (.int (gday y (1 + (i : Int)) 1 + glen y (1 + (i : Int))) t1)) (e2 : m' (PySem.Str.ofString "old_at") = some (.int (jday y (1 + (i : Int)) 1 + jlen y (1 + (i : Int))) t2))
    (eo : ∀ z, z ≠ PySem.Str.ofString "month" → z ≠ PySem.Str.ofString "at" → z ≠ PySem.Str.ofString "old_at" → z ≠ PySem.Str.ofString "size" → z ≠ PySem.Str.ofString "old_size" → z ≠ PySem.Str.ofString "place" → m' z = m₀ z) :
    TurnT (fun g_1 => g_1 = g) L own (LawJ y m₀ news (i + 1)) s .next { s with heap := h, toks := tk } :=
  TurnT.intro rfl F N ⟨eo, ⟨t1, by rw [e1, atG_succ hi]⟩, ⟨t2, by rw [e2, atJ_succ hi]⟩, rfl⟩
theorem len63 {n : Nat} (h : ¬ ((63 : Nat) : Int) < (n : Int)) : n ≤ 63 := by omega
theorem hide_int {M : Model} {A : Around} {E : Value → Shared → Prop} {s : Shared} {env : Env} {x : Str} {e : Int} {t : Tok} {Q : Unit → Shared → Prop} (lo hi : Int) (h : ∀ y, lo ≤ y → y ≤ hi → wpAny M A (storeName env x (.int y t)) Q E s) (hb : lo ≤ e ∧ e ≤ hi) : wpAny M A (storeName env x (.int e t)) Q E s := h e hb.1 hb.2
theorem fmod_b (x n : Int) (h : 0 < n) : 0 ≤ x.fmod n ∧ x.fmod n < n := by
  rw [Mine.fm _ _ h]; exact ⟨Int.emod_nonneg _ (by omega), Int.emod_lt_of_pos _ h⟩
theorem yr_b (x : Int) : -500000 ≤ x.fmod 1000000 - 500000 ∧ x.fmod 1000000 - 500000 ≤ 499999 := by have := fmod_b x 1000000 (by decide); omega
theorem dy_b (x : Int) : -32 ≤ x.fmod 97 - 32 ∧ x.fmod 97 - 32 ≤ 64 := by have := fmod_b x 97 (by decide); omega
theorem pk_b (x : Int) : 1 ≤ x.fmod 12 + 1 ∧ x.fmod 12 + 1 ≤ 12 := by have := fmod_b x 12 (by decide); omega
theorem news_right {h₀ h : Heap} {L : Addr} {tl l : List (Addr × Obj)} (N : News h₀ L h (tl ++ l)) : News h₀ L h l := fun p hp => N p (List.mem_append_right _ hp)
theorem jlen_two (y m : Int) : 28 ≤ jlen y m ∧ jlen y m ≤ 31 := by unfold jlen; repeat' split; all_goals omega
section
variable {prog : Program} {w : World} {p : Program} {loose : List Str} {mean : ExcName → Option Value} {mg mb : Str → Option Value}
theorem law_number1_calls (y m : Int) (t t1 t2 : Tok) (hy1 : -600000 ≤ y) (hy2 : y ≤ 600000) (hm1 : -1000 ≤ m) (hm2 : m ≤ 1000) : CallsT prog w p loose mean mg mb 4 687 [.int y t, .int m t1, .int 1 t2] (fun v tl => (∃ x t, v = .float x t ∧ J x (gday y m 1)) ∧ tl = []) := by
  have C := law_number_calls (prog := prog) (w := w) (p := p) (loose := loose) (mean := mean) (mg := mg) (mb := mb) y m 1 t t1 t2 hy1 hy2 hm1 hm2 (by decide) (by decide)
  have hg := glen_two y m
  unfold CallsT at C ⊢
  intro dp un gd cn cs a ccd A₀ base h₀ L fm news s Q E hB hF hK hN hT hXB hTB hk hd hu hret
  refine C dp un gd cn cs a ccd A₀ base h₀ L fm news s Q E hB hF hK hN hT hXB hTB hk hd hu (fun v tl h' tk' hR => hret v tl h' tk' ⟨?_, hR.2⟩)
  rcases hR.1 with ⟨_, h⟩ | ⟨h, _⟩
  · exact h
  · omega
theorem law_old_number1_calls (y m : Int) (t t1 t2 : Tok) (hy1 : -600000 ≤ y) (hy2 : y ≤ 600000) (hm1 : 1 ≤ m) (hm2 : m ≤ 12) : CallsT prog w p loose mean mg mb 5 694 [.int y t, .int m t1, .int 1 t2] (fun v tl => (∃ x t, v = .float x t ∧ J x (jday y m 1)) ∧ tl = []) := by
  have C := law_old_number_calls (prog := prog) (w := w) (p := p) (loose := loose) (mean := mean) (mg := mg) (mb := mb) y m 1 t t1 t2 hy1 hy2 hm1 hm2 (by decide) (by decide)
  have hg := jlen_two y m
  unfold CallsT at C ⊢
  intro dp un gd cn cs a ccd A₀ base h₀ L fm news s Q E hB hF hK hN hT hXB hTB hk hd hu hret
  refine C dp un gd cn cs a ccd A₀ base h₀ L fm news s Q E hB hF hK hN hT hXB hTB hk hd hu (fun v tl h' tk' hR => hret v tl h' tk' ⟨?_, hR.2⟩)
  rcases hR.1 with ⟨_, h⟩ | ⟨h, _⟩
  · exact h
  · omega
end
theorem chA {i j k : Int} (h : i ≤ j) : Value.bool (!decide (j ≤ k)) = Value.bool (!decide (i ≤ j ∧ j ≤ k)) := by simp [h]
theorem chB {i j k : Int} (h : ¬ i ≤ j) : Value.bool (!decide (i ≤ j)) = Value.bool (!decide (i ≤ j ∧ j ≤ k)) := by simp [h]
theorem rep_len (v : Value) (k : Nat) : (List.replicate k [v]).flatten.length = k := by simp
/-- the same bools in both lists -/
theorem bools_canLay : ∀ bs : List Bool, PyData.canLayAll0 (bs.map .bool) = true ∧ PyData.depthAll (bs.map .bool) = 0
  | [] => ⟨rfl, rfl⟩
  | b :: bs => by
    have h := bools_canLay bs
    simp only [List.map_cons, PyData.canLayAll0, PyData.depthAll, PyData.canLay0, PyData.depth, h.1, h.2]
    simp
theorem bools_eqv : ∀ bs : List Bool, PyData.eqvAll (bs.map .bool) (bs.map .bool) = true
  | [] => rfl
  | b :: bs => by
    simp only [List.map_cons, PyData.eqvAll, PyData.eqv, bools_eqv bs]
    simp
theorem bools_reads {h : Heap} : ∀ bs : List Bool, ∃ as, ReadsAll h (bs.map .bool) (bs.map .bool) as
  | [] => ⟨_, .nil⟩
  | b :: bs => by
    obtain ⟨as, r⟩ := bools_reads (h := h) bs
    exact ⟨_, .cons (.bool b) r⟩
theorem bools_ne {prog : Program} {w : World} {A : Around} {E : Value → Shared → Prop} {s : Shared} {h₀ : Heap} {L u v : Addr} {news : List (Addr × Obj)} {vs ws : List Value} {c c' : Nat} {Q : Value → Shared → Prop} (bs : List Bool) (N : News h₀ L s.heap news) (h1 : (u, W.listOf vs.toArray c) ∈ news) (h2 : (v, W.listOf ws.toArray c') ∈ news) (e1 : vs = bs.map .bool) (e2 : ws = bs.map .bool)
    (hu : A.units + 64 < cLine) (h : Q (.bool false) s) : wpAny (model prog w) A (compareOp .NotEq (.ref u) (.ref v)) Q E s := by
  subst e1 e2
  obtain ⟨as, ra⟩ := bools_reads (h := s.heap) bs
  have l := bools_canLay bs
  have sh : SeqAt.shaped (.list (bs.map .bool)) = true := by
    unfold SeqAt.shaped
    simp only [PyData.canLay0, PyData.depth, l.1, l.2]
    decide
  have e : PyData.eqv (.list (bs.map .bool)) (.list (bs.map .bool)) = true := by simp only [PyData.eqv, bools_eqv]
  exact ne_dataH (reads_list_at (N.get h1) rfl rfl (by simpa [W.listOf] using ra)) (reads_list_at (N.get h2) rfl rfl (by simpa [W.listOf] using ra)) sh sh hu (by rw [e]; exact h)
theorem road_bs {y m d : Int} (hm : 1 ≤ m ∧ m ≤ 12) : tolds (roadF y m d) 12 = (List.replicate 6 (!decide (1 ≤ d ∧ d ≤ glen y m)) ++ [(!decide (1 ≤ d ∧ d ≤ glen y m)) || !decide (1 ≤ y ∧ y ≤ 9999)] ++ List.replicate 5 (!decide (1 ≤ d ∧ d ≤ jlen y m))).map Value.bool := by
  have e6 : roadF y m d 6 = ((!decide (1 ≤ d ∧ d ≤ glen y m)) || !decide (1 ≤ y ∧ y ≤ 9999)) := by
    unfold roadF
    rw [if_neg (by decide), if_pos rfl]
    by_cases a : 1 ≤ d ∧ d ≤ glen y m <;> by_cases b : 1 ≤ y ∧ y ≤ 9999 <;> simp [a, b, hm]
  have lo : ∀ i, i < 6 → roadF y m d i = !decide (1 ≤ d ∧ d ≤ glen y m) := fun i hi => by unfold roadF; rw [if_pos hi]
  have hi : ∀ i, 6 < i → roadF y m d i = !decide (1 ≤ d ∧ d ≤ jlen y m) := fun i hi => by unfold roadF; rw [if_neg (by omega), if_neg (by omega)]
  simp only [tolds, e6, lo 0 (by decide), lo 1 (by decide), lo 2 (by decide), lo 3 (by decide), lo 4 (by decide), lo 5 (by decide), hi 7 (by decide), hi 8 (by decide), hi 9 (by decide), hi 10 (by decide), hi 11 (by decide)]
  rfl
theorem month_bs {y m : Int} : tolds (monthF y m) 4 = (List.replicate 3 (!decide (1 ≤ m ∧ m ≤ 12)) ++ [(!decide (1 ≤ m ∧ m ≤ 12)) || !decide (1 ≤ y ∧ y ≤ 9999)]).map Value.bool := by
  have hg := glen_two y m
  have e3 : monthF y m 3 = ((!decide (1 ≤ m ∧ m ≤ 12)) || !decide (1 ≤ y ∧ y ≤ 9999)) := by
    unfold monthF
    rw [if_neg (by decide)]
    have g1 : 1 ≤ glen y m := by omega
    by_cases a : 1 ≤ m ∧ m ≤ 12 <;> by_cases b : 1 ≤ y ∧ y ≤ 9999 <;> simp [a, b, g1]
  have lo : ∀ i, i < 3 → monthF y m i = !decide (1 ≤ m ∧ m ≤ 12) := fun i hi => by unfold monthF; rw [if_pos hi]
  simp only [tolds, e3, lo 0 (by decide), lo 1 (by decide), lo 2 (by decide)]
  rfl
theorem orA {p q : Bool} (h : p = true) : Value.bool p = Value.bool (p || q) := by rw [h]; rfl
theorem orB {p q : Bool} (h : p = false) : Value.bool q = Value.bool (p || q) := by rw [h]; rfl
theorem e2A {b o c : Bool} (h : b = true) : (List.replicate (Int.toNat 6) [Value.bool b]).flatten ++ [Value.bool b] ++ (List.replicate (Int.toNat 5) [Value.bool c]).flatten = (List.replicate 6 b ++ [b || o] ++ List.replicate 5 c).map Value.bool := by subst h; rfl
theorem e2B {b o c : Bool} (h : b = false) : (List.replicate (Int.toNat 6) [Value.bool b]).flatten ++ [Value.bool o] ++ (List.replicate (Int.toNat 5) [Value.bool c]).flatten = (List.replicate 6 b ++ [b || o] ++ List.replicate 5 c).map Value.bool := by subst h; rfl
theorem e3A {b o : Bool} (h : b = true) : (List.replicate (Int.toNat 3) [Value.bool b]).flatten ++ [Value.bool b] = (List.replicate 3 b ++ [b || o]).map Value.bool := by subst h; rfl
theorem e3B {b o : Bool} (h : b = false) : (List.replicate (Int.toNat 3) [Value.bool b]).flatten ++ [Value.bool o] = (List.replicate 3 b ++ [b || o]).map Value.bool := by subst h; rfl
section
variable {prog : Program} {w : World} {p : Program} {loose : List Str} {mean : ExcName → Option Value} {mg mb : Str → Option Value}
theorem law_near2_calls {sc : Addr} {xs : List Value} {ns : List Int} (h : IntsAre xs ns ∧ ns.length ≤ 63) (k n : Int) (t t1 : Tok) (hk0 : 0 ≤ k) (hn : 0 < n) :
    CallsG prog w p loose mean mg mb 2 638 [.ref sc, .int k t, .int n t1] (fun g => g.IsList sc xs.toArray) (fun v tl => (∃ z t, v = .int z t ∧ -n ≤ z ∧ z ≤ n) ∧ tl = []) := law_near_calls h.1 h.2 k n t t1 hk0 hn
theorem law_at2_calls {sc : Addr} {xs : List Value} {ns : List Int} (h : IntsAre xs ns ∧ ns.length ≤ 63) (k : Int) (t : Tok) (hk0 : 0 ≤ k) :
    CallsG prog w p loose mean mg mb 1 631 [.ref sc, .int k t] (fun g => g.IsList sc xs.toArray) (fun v tl => (∃ z t, v = .int z t) ∧ tl = []) := law_at_calls h.1 h.2 k t hk0
end
theorem e2A2 {P : Prop} [Decidable P] {o c : Bool} (h : ¬ P) : (List.replicate (Int.toNat 6) [Value.bool (!decide P)]).flatten ++ [Value.bool (!decide P)] ++ (List.replicate (Int.toNat 5) [Value.bool c]).flatten = (List.replicate 6 (!decide P) ++ [(!decide P) || o] ++ List.replicate 5 c).map Value.bool := e2A (by rw [decide_eq_false h]; rfl)
theorem e2B2 {P : Prop} [Decidable P] {o c : Bool} (h : P) : (List.replicate (Int.toNat 6) [Value.bool (!decide P)]).flatten ++ [Value.bool o] ++ (List.replicate (Int.toNat 5) [Value.bool c]).flatten = (List.replicate 6 (!decide P) ++ [(!decide P) || o] ++ List.replicate 5 c).map Value.bool := e2B (by rw [decide_eq_true h]; rfl)
theorem e3A2 {P : Prop} [Decidable P] {o : Bool} (h : ¬ P) : (List.replicate (Int.toNat 3) [Value.bool (!decide P)]).flatten ++ [Value.bool (!decide P)] = (List.replicate 3 (!decide P) ++ [(!decide P) || o]).map Value.bool := e3A (by rw [decide_eq_false h]; rfl)
theorem e3B2 {P : Prop} [Decidable P] {o : Bool} (h : P) : (List.replicate (Int.toNat 3) [Value.bool (!decide P)]).flatten ++ [Value.bool o] = (List.replicate 3 (!decide P) ++ [(!decide P) || o]).map Value.bool := e3B (by rw [decide_eq_true h]; rfl)
theorem mo_b (x : Int) : -20 ≤ x.fmod 53 - 20 ∧ x.fmod 53 - 20 ≤ 32 := by rw [Mine.fm _ _ (by decide)]; omega
theorem gday_bound7 {y : Int} (hy1 : -500100 ≤ y) (hy2 : y ≤ 500100) : -190000000 ≤ gday y 1 1 ∧ gday y 1 1 ≤ 190000000 := by
  rw [gday_first]; unfold yday; omega
section
variable {prog : Program} {w : World} {p : Program} {loose : List Str} {mean : ExcName → Option Value} {mg mb : Str → Option Value}
theorem from_jd_ord2_calls (n : Int) (x : UInt64) (t : Tok) (hx : J x n) (hn : -200000000 ≤ n ∧ n ≤ 200000000) : Calls prog w p loose mean mg mb 5 610 [.float x t] (fun v tl => ∃ a Y M ta tb, InYear n Y ∧ v = .ref a ∧ tl = [(a, tupleOf [.int Y ta, .int M tb])]) (fun _ => False) := from_jd_ordinal_calls n x t hn.1 hn.2 hx
theorem from_jd3_calls (n : Int) (x : UInt64) (t : Tok) (hx : J x n) (hn : -200000000 ≤ n ∧ n ≤ 200000000) : Calls prog w p loose mean mg mb 4 448 [.float x t] (fun v tl => ∃ a Y M D ta tb tc, InYear n Y ∧ v = .ref a ∧ tl = [(a, tupleOf [.int Y ta, .int M tb, .int D tc])]) (fun _ => False) :=
  calls_weaken (from_jd_calls n x t hn.1 hn.2 hx) (fun v tl h => by
    obtain ⟨k, Y, M, D, ta, tb, tc, f, e1, e2⟩ := h
    refine ⟨k, Y, M, D, ta, tb, tc, ?_, e1, e2⟩
    obtain ⟨p1, p2, p3, p4, p5, ⟨p6, p7⟩, p8, p9⟩ := f
    assumption) (fun _ h => h)
end
theorem one_line {v : Value} : [v].length ≤ sizeLine := by rw [sizeLine_eq]; show 1 ≤ 16777216; decide

end
section
theorem off_C25 : True := by
  w_top off
  trivial
end
section
section
variable {prog : Program} {w : World} {p : Program} {loose : List Str} {mean : ExcName → Option Value} {mg mb : Str → Option Value}
local macro_rules | `(tactic| walk_at "M room") => `(tactic| exact Nat.le_of_ble_eq_true rfl)
local macro_rules | `(tactic| walk_at "eval Call") => `(tactic| k_dflt (refine Call_ ?_))
local macro_rules | `(tactic| walk_at "exec If") => `(tactic| refine wpAny_If ?_)
local macro_rules | `(tactic| walk_at "call ref") => `(tactic| (k_here; (with_reducible show wpAny _ _ (call (Value.ref 659) _) _ _ _); (with_reducible refine' calls_use (law_wide_calls _ _) ?kA ?k1 ?k2 ?k3 ?k4 ?k5 ?kK ?kd ?ku ?_ ?kx); k_dflt ((case kA => exact rfl); (case k1 => k_asm); (case k2 => k_asm); (case k3 => k_asm); (case k4 => k_asm); (case k5 => k_asm); (case kK => first | exact rfl | assumption); (case kd => walk_at "M room"); (case ku => walk_at "M room"); (case kx => intro _ _ _ _ _ hX; exact hX.elim)); intro v' tl' h' tk' hR' l' F' N'; obtain ⟨e1, e2⟩ := hR'; subst e1; subst e2; (try dsimp only [List.nil_append] at N' ⊢); (try k_sweep)))
local macro_rules | `(tactic| walk_at "call ref") => `(tactic| (k_here; (with_reducible show wpAny _ _ (call (Value.ref 666) _) _ _ _); (with_reducible refine' calls_use (law_lengths_calls _) ?kA ?k1 ?k2 ?k3 ?k4 ?k5 ?kK ?kd ?ku ?_ ?kx); k_dflt ((case kA => exact rfl); (case k1 => k_asm); (case k2 => k_asm); (case k3 => k_asm); (case k4 => k_asm); (case k5 => k_asm); (case kK => first | exact rfl | assumption); (case kd => walk_at "M room"); (case ku => walk_at "M room"); (case kx => intro _ _ _ _ _ hX; exact hX.elim)); intro v' tl' h' tk' hR' l' F' N'; obtain ⟨a', vs', c', iv', e1, e2⟩ := hR'; subst e1; subst e2; (try dsimp only [List.nil_append, List.cons_append] at N' ⊢); (try k_sweep)))
local macro_rules | `(tactic| walk_at "call ref") => `(tactic| (k_here; (with_reducible show wpAny _ _ (call (Value.ref 673) _) _ _ _); (with_reducible refine' calls_use (law_new_year_calls _ _ (by walk_at "M om") (by walk_at "M om")) ?kA ?k1 ?k2 ?k3 ?k4 ?k5 ?kK ?kd ?ku ?_ ?kx); k_dflt ((case kA => exact rfl); (case k1 => k_asm); (case k2 => k_asm); (case k3 => k_asm); (case k4 => k_asm); (case k5 => k_asm); (case kK => first | exact rfl | assumption); (case kd => walk_at "M room"); (case ku => walk_at "M room"); (case kx => intro _ _ _ _ _ hX; exact hX.elim)); intro v' tl' h' tk' hR' l' F' N'; obtain ⟨⟨t', e1⟩, e2⟩ := hR'; subst e1; subst e2; (try dsimp only [List.nil_append] at N' ⊢); (try k_sweep)))
local macro_rules | `(tactic| walk_at "call ref") => `(tactic| (k_here; (with_reducible show wpAny _ _ (call (Value.ref 680) _) _ _ _); (with_reducible refine' calls_use (law_old_new_year_calls _ _ (by walk_at "M om") (by walk_at "M om")) ?kA ?k1 ?k2 ?k3 ?k4 ?k5 ?kK ?kd ?ku ?_ ?kx); k_dflt ((case kA => exact rfl); (case k1 => k_asm); (case k2 => k_asm); (case k3 => k_asm); (case k4 => k_asm); (case k5 => k_asm); (case kK => first | exact rfl | assumption); (case kd => walk_at "M room"); (case ku => walk_at "M room"); (case kx => intro _ _ _ _ _ hX; exact hX.elim)); intro v' tl' h' tk' hR' l' F' N'; obtain ⟨⟨t', e1⟩, e2⟩ := hR'; subst e1; subst e2; (try dsimp only [List.nil_append] at N' ⊢); (try k_sweep)))
local macro_rules | `(tactic| walk_at "call ref") => `(tactic| (k_here; (with_reducible show wpAny _ _ (call (Value.ref 631) _) _ _ _); (with_reducible refine' callsG_use (law_at2_calls (by with_reducible assumption) _ _ (by walk_at "M om")) ?kA ?k1 ?k2 ?k3 ?k4 ?k5 ?kK ?kd ?ku ?hP ?_); k_dflt ((case kA => exact rfl); (case k1 => k_asm); (case k2 => k_asm); (case k3 => k_asm); (case k4 => k_asm); (case k5 => k_asm); (case kK => first | exact rfl | assumption); (case kd => walk_at "M room"); (case ku => walk_at "M room"); (case hP => with_reducible assumption)); intro v' tl' h' tk' hR' F' N'; obtain ⟨⟨z', t', e1⟩, e2⟩ := hR'; subst e1; subst e2; (try dsimp only [List.nil_append] at N' ⊢); (try k_sweep)))
local macro_rules | `(tactic| walk_at "call ref") => `(tactic| (k_here; (with_reducible show wpAny _ _ (call (Value.ref 455) _) _ _ _); (with_reducible refine' calls_use (month_lengthL_calls _ _ _ _ (by walk_at "M om") (by walk_at "M om") (by walk_at "M om")) ?kA ?k1 ?k2 ?k3 ?k4 ?k5 ?kK ?kd ?ku ?_ ?kx); k_dflt ((case kA => exact rfl); (case k1 => k_asm); (case k2 => k_asm); (case k3 => k_asm); (case k4 => k_asm); (case k5 => k_asm); (case kK => first | exact rfl | assumption); (case kd => walk_at "M room"); (case ku => walk_at "M room"); (case kx => intro _ _ _ _ _ hX; exact hX.elim)); intro v' tl' h' tk' hR' l' F' N'; obtain ⟨⟨t', e1⟩, e2⟩ := hR'; subst e1; subst e2; (try dsimp only [List.nil_append] at N' ⊢); (try k_sweep)))
local macro_rules | `(tactic| walk_at "call ref") => `(tactic| (k_here; (with_reducible show wpAny _ _ (call (Value.ref 477) _) _ _ _); (with_reducible refine' calls_use (jlen_calls _ _ _ _) ?kA ?k1 ?k2 ?k3 ?k4 ?k5 ?kK ?kd ?ku ?_ ?kx); k_dflt ((case kA => exact rfl); (case k1 => k_asm); (case k2 => k_asm); (case k3 => k_asm); (case k4 => k_asm); (case k5 => k_asm); (case kK => first | exact rfl | assumption); (case kd => walk_at "M room"); (case ku => walk_at "M room"); (case kx => intro _ _ _ _ _ hX; exact hX.elim)); intro v' tl' h' tk' hR' l' F' N'; obtain ⟨⟨t', e1⟩, e2⟩ := hR'; subst e1; subst e2; (try dsimp only [List.nil_append] at N' ⊢); (try k_sweep)))
local macro_rules | `(tactic| walk_at "call ref") => `(tactic| (k_here; (with_reducible show wpAny _ _ (call (Value.ref 645) _) _ _ _); (with_reducible refine' calls_use (law_jd_calls _ _ (by walk_at "M om") (by walk_at "M om")) ?kA ?k1 ?k2 ?k3 ?k4 ?k5 ?kK ?kd ?ku ?_ ?kx); k_dflt ((case kA => exact rfl); (case k1 => k_asm); (case k2 => k_asm); (case k3 => k_asm); (case k4 => k_asm); (case k5 => k_asm); (case kK => first | exact rfl | assumption); (case kd => walk_at "M room"); (case ku => walk_at "M room"); (case kx => intro _ _ _ _ _ hX; exact hX.elim)); intro v' tl' h' tk' hR' l' F' N'; obtain ⟨⟨x', t', e1, gx'⟩, e2⟩ := hR'; subst e1; subst e2; (try dsimp only [List.nil_append] at N' ⊢); (try k_sweep)))
local macro_rules | `(tactic| walk_at "call ref") => `(tactic| (k_here; (with_reducible show wpAny _ _ (call (Value.ref 624) _) _ _ _); (with_reducible refine' calls_use (to_greg_ordinal1_calls _ _ _ _ (by walk_at "M om")) ?kA ?k1 ?k2 ?k3 ?k4 ?k5 ?kK ?kd ?ku ?_ ?kx); k_dflt ((case kA => exact rfl); (case k1 => k_asm); (case k2 => k_asm); (case k3 => k_asm); (case k4 => k_asm); (case k5 => k_asm); (case kK => first | exact rfl | assumption); (case kd => walk_at "M room"); (case ku => walk_at "M room"); (case kx => intro _ _ _ _ _ hX; exact hX.elim)); intro v' tl' h' tk' hR' l' F' N'; obtain ⟨a', ta', tb', tc', e1, e2⟩ := hR'; subst e1; subst e2; (try dsimp only [List.nil_append, List.cons_append] at N' ⊢); (try k_sweep)))
local macro_rules | `(tactic| walk_at "call ref") => `(tactic| (k_here; (with_reducible show wpAny _ _ (call (Value.ref 617) _) _ _ _); (with_reducible refine' calls_use (from_greg_ordinal_calls _ _ _ _ _ (by walk_at "M om") (by walk_at "M om")) ?kA ?k1 ?k2 ?k3 ?k4 ?k5 ?kK ?kd ?ku ?_ ?kx); k_dflt ((case kA => exact rfl); (case k1 => k_asm); (case k2 => k_asm); (case k3 => k_asm); (case k4 => k_asm); (case k5 => k_asm); (case kK => first | exact rfl | assumption); (case kd => walk_at "M room"); (case ku => walk_at "M room"); (case kx => intro _ _ _ _ _ hX; exact hX.elim)); intro v' tl' h' tk' hR' l' F' N'; obtain ⟨a', ta', tb', e1, e2⟩ := hR'; subst e1; subst e2; (try dsimp only [List.nil_append, List.cons_append] at N' ⊢); (try k_sweep)))
local macro_rules | `(tactic| walk_at "call ref") => `(tactic| (k_here; (with_reducible show wpAny _ _ (call (Value.ref 687) _) _ _ _); (with_reducible refine' callsT_use (law_number_calls _ _ _ _ _ _ (by walk_at "M om") (by walk_at "M om") (by walk_at "M om") (by walk_at "M om") (by walk_at "M om") (by walk_at "M om")) ?kA ?k1 ?k2 ?k3 ?k4 ?k5 ?k6 ?k7 ?kK ?kd ?ku ?_); k_dflt ((case kA => exact rfl); (case k1 => k_asm); (case k2 => k_asm); (case k3 => k_asm); (case k4 => k_asm); (case k5 => k_asm); (case k6 => k_asm); (case k7 => k_asm); (case kK => first | exact rfl | assumption); (case kd => walk_at "M room"); (case ku => walk_at "M room")); intro v' tl' h' tk' hR' F' N'; obtain ⟨hd', e2⟩ := hR'; subst e2; (rcases hd' with ⟨hp', x', t', e1, gx'⟩ | ⟨hp', t', e1⟩) <;> subst e1 <;> (try dsimp only [List.nil_append] at N' ⊢) <;> (try k_sweep)))
local macro_rules | `(tactic| walk_at "call ref") => `(tactic| (k_here; (with_reducible show wpAny _ _ (call (Value.ref 694) _) _ _ _); (with_reducible refine' callsT_use (law_old_number_calls _ _ _ _ _ _ (by walk_at "M om") (by walk_at "M om") (by walk_at "M om") (by walk_at "M om") (by walk_at "M om") (by walk_at "M om")) ?kA ?k1 ?k2 ?k3 ?k4 ?k5 ?k6 ?k7 ?kK ?kd ?ku ?_); k_dflt ((case kA => exact rfl); (case k1 => k_asm); (case k2 => k_asm); (case k3 => k_asm); (case k4 => k_asm); (case k5 => k_asm); (case k6 => k_asm); (case k7 => k_asm); (case kK => first | exact rfl | assumption); (case kd => walk_at "M room"); (case ku => walk_at "M room")); intro v' tl' h' tk' hR' F' N'; obtain ⟨hd', e2⟩ := hR'; subst e2; (rcases hd' with ⟨hp', x', t', e1, gx'⟩ | ⟨hp', t', e1⟩) <;> subst e1 <;> (try dsimp only [List.nil_append] at N' ⊢) <;> (try k_sweep)))
local macro_rules | `(tactic| walk_at "call ref") => `(tactic| (k_here; (with_reducible show wpAny _ _ (call (Value.ref 687) _) _ _ _); (with_reducible refine' callsT_use (law_number1_calls _ _ _ _ _ (by walk_at "M om") (by walk_at "M om") (by walk_at "M om") (by walk_at "M om")) ?kA ?k1 ?k2 ?k3 ?k4 ?k5 ?k6 ?k7 ?kK ?kd ?ku ?_); k_dflt ((case kA => exact rfl); (case k1 => k_asm); (case k2 => k_asm); (case k3 => k_asm); (case k4 => k_asm); (case k5 => k_asm); (case k6 => k_asm); (case k7 => k_asm); (case kK => first | exact rfl | assumption); (case kd => walk_at "M room"); (case ku => walk_at "M room")); intro v' tl' h' tk' hR' F' N'; obtain ⟨⟨x', t', e1, gx'⟩, e2⟩ := hR'; subst e1; subst e2; (try dsimp only [List.nil_append] at N' ⊢); (try k_sweep)))
local macro_rules | `(tactic| walk_at "call ref") => `(tactic| (k_here; (with_reducible show wpAny _ _ (call (Value.ref 694) _) _ _ _); (with_reducible refine' callsT_use (law_old_number1_calls _ _ _ _ _ (by walk_at "M om") (by walk_at "M om") (by walk_at "M om") (by walk_at "M om")) ?kA ?k1 ?k2 ?k3 ?k4 ?k5 ?k6 ?k7 ?kK ?kd ?ku ?_); k_dflt ((case kA => exact rfl); (case k1 => k_asm); (case k2 => k_asm); (case k3 => k_asm); (case k4 => k_asm); (case k5 => k_asm); (case k6 => k_asm); (case k7 => k_asm); (case kK => first | exact rfl | assumption); (case kd => walk_at "M room"); (case ku => walk_at "M room")); intro v' tl' h' tk' hR' F' N'; obtain ⟨⟨x', t', e1, gx'⟩, e2⟩ := hR'; subst e1; subst e2; (try dsimp only [List.nil_append] at N' ⊢); (try k_sweep)))
local macro_rules | `(tactic| walk_at "compareOp NotEq str float") => `(tactic| (exfalso; omega))
local macro_rules | `(tactic| walk_at "compareOp NotEq float str") => `(tactic| (exfalso; omega))
local macro_rules | `(tactic| walk_at "call ref") => `(tactic| (k_here; (with_reducible show wpAny _ _ (call (Value.ref 434) _) _ _ _); (with_reducible refine' calls_use (to_jd2_calls _ _ _ _ _ _ (by walk_at "M om") (by walk_at "M om") (by walk_at "M om") (by walk_at "M om") (by walk_at "M om") (by walk_at "M om")) ?kA ?k1 ?k2 ?k3 ?k4 ?k5 ?kK ?kd ?ku ?_ ?_); k_dflt ((case kA => exact rfl); (case k1 => k_asm); (case k2 => k_asm); (case k3 => k_asm); (case k4 => k_asm); (case k5 => k_asm); (case kK => first | exact rfl | assumption); (case kd => walk_at "M room"); (case ku => walk_at "M room"); skip); ((intro v' tl' h' tk' hR' l' F' N'; obtain ⟨hp, ⟨x', t', e1, gx'⟩, e2⟩ := hR'; subst e1; subst e2; (try dsimp only [List.nil_append] at N' ⊢); (try k_sweep))); rotate_left; ((intro e' cls' g' h' tk' hX' F' R' U'; obtain ⟨hp, e1⟩ := hX'; subst e1; (try dsimp only))); rotate_right))
local macro_rules | `(tactic| walk_at "call ref") => `(tactic| (k_here; (with_reducible show wpAny _ _ (call (Value.ref 462) _) _ _ _); (with_reducible refine' callsW_use (monthcalendarL_calls _ _ _ _ (by walk_at "M om") (by walk_at "M om") (by walk_at "M om")) ?kA ?k1 ?k2 ?k3 ?k4 ?k5 ?kK ?kd ?ku ?_ ?kx); k_dflt ((case kA => exact rfl); (case k1 => k_asm); (case k2 => k_asm); (case k3 => k_asm); (case k4 => k_asm); (case k5 => k_asm); (case kK => first | exact rfl | assumption); (case kd => walk_at "M room"); (case ku => walk_at "M room"); (case kx => intro _ _ _ _ _ hX; exact hX.elim)); intro v' tl' h' tk' hR' F' N'; obtain ⟨x', e1, hL'⟩ := hR'; subst e1; (try k_sweep)))
local macro_rules | `(tactic| walk_at "call ref") => `(tactic| (k_here; (with_reducible show wpAny _ _ (call (Value.ref 652) _) _ _ _); (with_reducible refine' callsW_use (law_leaf_calls _ _ _ _ (by walk_at "M om") (by walk_at "M om")) ?kA ?k1 ?k2 ?k3 ?k4 ?k5 ?kK ?kd ?ku ?_ ?kx); k_dflt ((case kA => exact rfl); (case k1 => k_asm); (case k2 => k_asm); (case k3 => k_asm); (case k4 => k_asm); (case k5 => k_asm); (case kK => first | exact rfl | assumption); (case kd => walk_at "M room"); (case ku => walk_at "M room"); (case kx => intro _ _ _ _ _ hX; exact hX.elim)); intro v' tl' h' tk' hR' F' N'; obtain ⟨x', e1, hL'⟩ := hR'; subst e1; (try k_sweep)))
local macro_rules | `(tactic| walk_at "subscriptTail Name BinOp ref int") => `(tactic| (k_here; (first
  | ((with_reducible refine' lens_item ?N ?m ?i ?a ?b ?_); k_dflt ((case N => k_asm); (case i => with_reducible assumption); (case m => k_mem); (case a => walk_at "M om"); (case b => walk_at "M om")))
  | ((with_reducible refine' lens_itemJ ?N ?m ?i ?a ?b ?_); k_dflt ((case N => k_asm); (case i => with_reducible assumption); (case m => k_mem); (case a => walk_at "M om"); (case b => walk_at "M om")))); intro t'))
local macro_rules | `(tactic| walk_at "call ref") => `(tactic| (k_here; (with_reducible show wpAny _ _ (call (Value.ref 603) _) _ _ _); (with_reducible refine' calls_use (to_jd_ordinal_calls _ _ _ _ (by walk_at "M om") (by walk_at "M om") (by walk_at "M om") (by walk_at "M om")) ?kA ?k1 ?k2 ?k3 ?k4 ?k5 ?kK ?kd ?ku ?_ ?kx); k_dflt ((case kA => exact rfl); (case k1 => k_asm); (case k2 => k_asm); (case k3 => k_asm); (case k4 => k_asm); (case k5 => k_asm); (case kK => first | exact rfl | assumption); (case kd => walk_at "M room"); (case ku => walk_at "M room"); (case kx => intro _ _ _ _ _ hX; exact hX.elim)); intro v' tl' h' tk' hR' l' F' N'; obtain ⟨⟨x', t', e1, gx'⟩, e2⟩ := hR'; subst e1; subst e2; (try dsimp only [List.nil_append] at N' ⊢); (try k_sweep)))
local macro_rules | `(tactic| walk_at "call ref") => `(tactic| (k_here; (with_reducible show wpAny _ _ (call (Value.ref 638) _) _ _ _); (with_reducible refine' callsG_use (law_near2_calls (by with_reducible assumption) _ _ _ _ (by walk_at "M om") (by walk_at "M om")) ?kA ?k1 ?k2 ?k3 ?k4 ?k5 ?kK ?kd ?ku ?hP ?_); k_dflt ((case kA => exact rfl); (case k1 => k_asm); (case k2 => k_asm); (case k3 => k_asm); (case k4 => k_asm); (case k5 => k_asm); (case kK => first | exact rfl | assumption); (case kd => walk_at "M room"); (case ku => walk_at "M room"); (case hP => with_reducible assumption)); intro v' tl' h' tk' hR' F' N'; obtain ⟨⟨z', t', e1, b1', b2'⟩, e2⟩ := hR'; subst e1; subst e2; (try dsimp only [List.nil_append] at N' ⊢); (try k_sweep)))
local macro_rules | `(tactic| k_all) => `(tactic| exact ne_all (by with_reducible assumption))
local macro_rules | `(tactic| walk_at "call ref") => `(tactic| (k_here; (with_reducible show wpAny _ _ (call (Value.ref 571) _) _ _ _); (with_reducible refine' dc_new _ _ ?k1 ?k2 ?k3 ?k4 ?k5 ?kK ?kA ?kd ?ku ?_); k_dflt ((case kA => exact rfl); (case k1 => k_asm); (case k2 => k_asm); (case k3 => k_asm); (case k4 => k_asm); (case k5 => k_asm); (case kK => first | exact rfl | assumption); (case kd => walk_at "M room"); (case ku => walk_at "M room")); intro x' dx' tk₀' h' tk' l1' l2' F' N'; (try k_sweep)))
local macro_rules | `(tactic| walk_at "call ref") => `(tactic| (k_here; (with_reducible show wpAny _ _ (call (Value.ref 701) _) _ _ _); (with_reducible refine' callsP_use (law_refusals_calls (by with_reducible assumption) (by walk_at "M om") (by walk_at "M om") _ _ _ _ _ _ (by walk_at "M om") (by walk_at "M om") (by walk_at "M om") (by walk_at "M om") (by walk_at "M om") (by walk_at "M om")) ?kA ?k1 ?k2 ?k3 ?k4 ?k5 ?k6 ?k7 ?kK ?kd ?ku ?hP ?_); k_dflt ((case kA => exact rfl); (case k1 => k_asm); (case k2 => k_asm); (case k3 => k_asm); (case k4 => k_asm); (case k5 => k_asm); (case k6 => k_asm); (case k7 => k_asm); (case kK => first | exact rfl | assumption); (case kd => walk_at "M room"); (case ku => walk_at "M room"); (case hP => exact ⟨_, rfl, by with_reducible assumption, by with_reducible assumption⟩)); intro v' tl' h' tk' hR' F' N'; obtain ⟨a', c', e1, e2⟩ := hR'; subst e1; subst e2; (try dsimp only [List.nil_append, List.cons_append] at N' ⊢); (try k_sweep)))
local macro_rules | `(tactic| walk_at "M len") => `(tactic| ((try simp only [List.length_append, rep_len, List.length_cons, List.length_nil]); (first | omega | decide)))
local macro_rules | `(tactic| walk_at "binaryOp Add ref ref") => `(tactic| (k_here; k_dflt (refine' add_D ?F ?N ?l1 ?l2 ?z1 ?z2 ?_; (case F => k_asm); (case N => k_asm); (case l1 => k_mem); (case l2 => k_mem); (case z1 => walk_at "M len"); (case z2 => walk_at "M len")); intro D' h' F' N' l1; (try k_lt l1)))
local macro_rules | `(tactic| walk_at "binaryOp Mult ref int") => `(tactic| (k_here; k_dflt (refine' KMa.mul (vs := [_]) ?F ?N ?l ?lo ?hi ?z rfl ?_; (case F => k_asm); (case N => k_asm); (case l => is_list); (case lo => walk_at "M om"); (case hi => walk_at "M om"); (case z => (simp only [List.length_cons, List.length_nil]; first | omega | decide))); intro D' h' F' N' l1; (try k_lt l1)))
local macro_rules | `(tactic| walk_at "compareOp NotEq ref ref") => `(tactic| (k_here; k_dflt (refine' bools_ne _ ?N ?m1 ?m2 ?e1 ?e2 ?hu ?_; (case N => k_asm); (case m1 => k_mem); (case m2 => k_mem); (case hu => exact Nat.le_of_ble_eq_true rfl)); (case e1 => first | with_reducible exact road_bs ⟨by with_reducible assumption, by with_reducible assumption⟩ | with_reducible exact month_bs); (case e2 => first | with_reducible exact e2A2 (by with_reducible assumption) | with_reducible exact e2B2 (by with_reducible assumption) | with_reducible exact e3A2 (by with_reducible assumption) | with_reducible exact e3B2 (by with_reducible assumption))))
local macro_rules | `(tactic| walk_at "call ref") => `(tactic| (k_here; (with_reducible show wpAny _ _ (call (Value.ref 708) _) _ _ _); (with_reducible refine' callsT_use (law_month_refusals_calls _ _ _ _ (by walk_at "M om") (by walk_at "M om") (by walk_at "M om") (by walk_at "M om")) ?kA ?k1 ?k2 ?k3 ?k4 ?k5 ?k6 ?k7 ?kK ?kd ?ku ?_); k_dflt ((case kA => exact rfl); (case k1 => k_asm); (case k2 => k_asm); (case k3 => k_asm); (case k4 => k_asm); (case k5 => k_asm); (case k6 => k_asm); (case k7 => k_asm); (case kK => first | exact rfl | assumption); (case kd => walk_at "M room"); (case ku => walk_at "M room")); intro v' tl' h' tk' hR' F' N'; obtain ⟨a', c', e1, e2⟩ := hR'; subst e1; subst e2; (try dsimp only [List.nil_append, List.cons_append] at N' ⊢); (try k_sweep)))
local macro_rules | `(tactic| walk_at "call ref") => `(tactic| (k_here; (with_reducible show wpAny _ _ (call (Value.ref 722) _) _ _ _); (with_reducible refine' calls_use (law_part_calls _ _ _ _ _ _) ?kA ?k1 ?k2 ?k3 ?k4 ?k5 ?kK ?kd ?ku ?_ ?kx); k_dflt ((case kA => exact rfl); (case k1 => k_asm); (case k2 => k_asm); (case k3 => k_asm); (case k4 => k_asm); (case k5 => k_asm); (case kK => first | exact rfl | assumption); (case kd => walk_at "M room"); (case ku => walk_at "M room"); (case kx => intro _ _ _ _ _ hX; exact hX.elim)); intro v' tl' h' tk' hR' l' F' N'; obtain ⟨⟨t', e1⟩, e2⟩ := hR'; subst e1; subst e2; (try dsimp only [List.nil_append] at N' ⊢); (try k_sweep)))
local macro_rules | `(tactic| walk_at "call ref") => `(tactic| (k_here; (with_reducible show wpAny _ _ (call (Value.ref 715) _) _ _ _); (with_reducible refine' calls_use (law_side_calls _ _ _ _) ?kA ?k1 ?k2 ?k3 ?k4 ?k5 ?kK ?kd ?ku ?_ ?kx); k_dflt ((case kA => exact rfl); (case k1 => k_asm); (case k2 => k_asm); (case k3 => k_asm); (case k4 => k_asm); (case k5 => k_asm); (case kK => first | exact rfl | assumption); (case kd => walk_at "M room"); (case ku => walk_at "M room"); (case kx => intro _ _ _ _ _ hX; exact hX.elim)); intro v' tl' h' tk' hR' l' F' N'; obtain ⟨⟨t', e1⟩, e2⟩ := hR'; subst e1; subst e2; (try dsimp only [List.nil_append] at N' ⊢); (try k_sweep)))
local macro_rules | `(tactic| walk_at "call ref") => `(tactic| (k_here; (with_reducible show wpAny _ _ (call (Value.ref 448) _) _ _ _); (with_reducible refine' calls_use (from_jd3_calls _ _ _ (by with_reducible assumption) (by with_reducible assumption)) ?kA ?k1 ?k2 ?k3 ?k4 ?k5 ?kK ?kd ?ku ?_ ?kx); k_dflt ((case kA => exact rfl); (case k1 => k_asm); (case k2 => k_asm); (case k3 => k_asm); (case k4 => k_asm); (case k5 => k_asm); (case kK => first | exact rfl | assumption); (case kd => walk_at "M room"); (case ku => walk_at "M room"); (case kx => intro _ _ _ _ _ hX; exact hX.elim)); intro v' tl' h' tk' hR' l' F' N'; obtain ⟨a', Y', M', D', ta', tb', tc', iy', e1, e2⟩ := hR'; subst e1; subst e2; (try dsimp only [List.nil_append, List.cons_append] at N' ⊢); (try k_sweep)))
local macro_rules | `(tactic| walk_at "call ref") => `(tactic| (k_here; (with_reducible show wpAny _ _ (call (Value.ref 610) _) _ _ _); (with_reducible refine' calls_use (from_jd_ord2_calls _ _ _ (by with_reducible assumption) (by with_reducible assumption)) ?kA ?k1 ?k2 ?k3 ?k4 ?k5 ?kK ?kd ?ku ?_ ?kx); k_dflt ((case kA => exact rfl); (case k1 => k_asm); (case k2 => k_asm); (case k3 => k_asm); (case k4 => k_asm); (case k5 => k_asm); (case kK => first | exact rfl | assumption); (case kd => walk_at "M room"); (case ku => walk_at "M room"); (case kx => intro _ _ _ _ _ hX; exact hX.elim)); intro v' tl' h' tk' hR' l' F' N'; obtain ⟨a', Y', M', ta', tb', iy', e1, e2⟩ := hR'; subst e1; subst e2; (try dsimp only [List.nil_append, List.cons_append] at N' ⊢); (try k_sweep)))
local macro_rules | `(tactic| walk_at "call ref") => `(tactic| (k_here; (with_reducible show wpAny _ _ (call (Value.ref 491) _) _ _ _); (with_reducible refine' calls_use (jfrom_jd_calls2 _ _ _ (by with_reducible assumption) (by with_reducible assumption)) ?kA ?k1 ?k2 ?k3 ?k4 ?k5 ?kK ?kd ?ku ?_ ?kx); k_dflt ((case kA => exact rfl); (case k1 => k_asm); (case k2 => k_asm); (case k3 => k_asm); (case k4 => k_asm); (case k5 => k_asm); (case kK => first | exact rfl | assumption); (case kd => walk_at "M room"); (case ku => walk_at "M room"); (case kx => intro _ _ _ _ _ hX; exact hX.elim)); intro v' tl' h' tk' hR' l' F' N'; obtain ⟨a', Y', M', D', ta', tb', tc', iy', e1, e2⟩ := hR'; subst e1; subst e2; (try dsimp only [List.nil_append, List.cons_append] at N' ⊢); (try k_sweep)))
local macro_rules | `(tactic| walk_at "newList") => `(tactic| (k_here; (with_reducible refine' newList_K ?k1 ?k2 ?_ one_line); k_dflt ((case k1 => k_asm); (case k2 => k_asm)); intro l' h' F' N' l1; (try k_lt l1)))
local macro_rules | `(tactic| walk_at "M if") => `(tactic| (k_dflt (refine wpAny_If ?_); (with_reducible rename Fr _ _ _ _ => kF); (with_reducible rename News _ _ _ _ => kN); refine join_at (fun c => c = false) kF kN ?_ ?_))
local macro_rules | `(tactic| walk_at "M newsk") => `(tactic| ((with_reducible rename News _ _ _ _ => kN); exact fun p hp => kN p (by repeat (first | exact hp | exact List.mem_append_right _ hp | exact List.mem_append_left _ hp | refine List.Mem.tail _ ?_ | refine List.mem_append_right _ ?_))))
local macro_rules | `(tactic| walk_at "M ifend") => `(tactic| first
  | (refine JoinAt.intro (by k_asm) (by walk_at "M newsk") ?_; (first | rfl | (rw [decide_eq_true (by omega)]; rfl) | (exfalso; omega)))
  | (exfalso; omega))
local macro_rules | `(tactic| walk_at "compareOp NotEq ref ref") => `(tactic| (k_here; k_dflt (refine' leaf_ne ?N1 ?N2 ?h1 ?h2 calD_ok ?hu ?_); (case h1 => with_reducible assumption); (case h2 => with_reducible assumption); (case N1 => walk_at "M newsk"); (case N2 => walk_at "M newsk"); (case hu => exact Nat.le_of_ble_eq_true rfl)))
local macro_rules | `(tactic| walk_at "M asgend") => `(tactic| (refine JoinAt.intro (by k_asm) (by walk_at "M newsk") ?_; (first | with_reducible exact chA (by omega) | with_reducible exact chB (by omega))))
local macro_rules | `(tactic| walk_at "M asggo") => `(tactic| (intro v' h' tk' hv' kF kN; subst hv'; (try dsimp only)))
local macro_rules | `(tactic| walk_at "M ifgo") => `(tactic| (intro c' h' tk' hc' kF kN; subst hc'; (try simp only [Bool.false_eq_true, if_false])))
set_option maxHeartbeats 8000000 in
theorem lawA : PySem.Challenge.rw_ad5031_01.Holds := by
  refine Mine.hd (by
    k_go0
    rename ¬ (_ < _) => hcz
    have hlz := len63 hcz
    rename IntsAre _ _ => hIz
    have hilz := And.intro hIz hlz
    repeat ((fail_if_success (with_reducible show wpAny _ _ (storeName _ _ _) _ _ _)); walk_at "M step")
    refine hide_int (-500000) 499999 ?_ (yr_b _)
    intro y hy1 hy2
    iterate 1 (walk_at "M step")
    repeat ((fail_if_success (with_reducible show wpAny _ _ (storeName _ _ _) _ _ _)); walk_at "M step")
    refine hide_int (-32) 64 ?_ (dy_b _)
    intro d hd1 hd2
    iterate 1 (walk_at "M step")
    repeat ((fail_if_success (with_reducible show wpAny _ _ (storeName _ _ _) _ _ _)); walk_at "M step")
    refine hide_int 1 12 ?_ (pk_b _)
    intro pk hp1 hp2
    iterate 1 (walk_at "M step")
    repeat ((fail_if_success (with_reducible show wpAny _ _ (exec (Stmt.For _ _ _ _ _) _) _ _ _)); walk_at "M step")
    refine For_T ?_
    repeat ((fail_if_success (with_reducible show wpAny _ _ (pyIter (Value.ref _)) _ _ _)); walk_at "M step")
    rename IsRange _ _ _ _ _ _ _ _ => hRz
    rename News _ _ _ _ => hNz
    rename Fr _ _ _ _ => hFz
    refine iter_T (fun g => g = _) (LawJ y _ _) rfl hRz (by decide) (n := 12) (by decide) rfl hFz hNz ⟨fun _ _ _ _ _ _ _ => rfl, ⟨_, by rw [atG_zero]; rfl⟩, ⟨_, by rw [atJ_zero]; rfl⟩, rfl⟩ (fun i m nx j => by obtain ⟨_, _, _, rfl⟩ := j; rfl) rfl (by rfl) ?_ ?_
    · intro i ti g m₁ news₁ h tk' own hi hoff hgd j F N
      subst hgd
      obtain ⟨hm₁, ⟨t1, e1⟩, ⟨t2, e2⟩, rfl⟩ := j
      rw [atG_at hi] at e1
      rw [atJ_at hi] at e2
      rw [fr6 e1 e2 hm₁] at F
      obtain ⟨M, hM⟩ : ∃ M : Int, M = 1 + (i : Int) := ⟨_, rfl⟩
      rw [← hM] at F
      have hM1 : 1 ≤ M := by omega
      have hM2 : M ≤ 12 := by omega
      have hgb := gday_bound5 (y := y) (m := M) (d := 1) (by omega) (by omega) hM1 hM2 (by decide) (by decide)
      have hjb := jday_bound5 (y := y) (m := M) (d := 1) (by omega) (by omega) hM1 hM2 (by decide) (by decide)
      have hgl := glen_two y M
      have hjl := jlen_two y M
      have hga := gday_add y M d
      have hja := jday_add y M d
      clear hRz hNz hFz
      repeat ((fail_if_success (with_reducible show wpAny _ _ (exec (Stmt.If _ _ _ _) _) _ _ _)); walk_at "M step")
      walk_at "M if"
      · k_steps
        all_goals walk_at "M ifend"
      walk_at "M ifgo"
      repeat ((fail_if_success (with_reducible show wpAny _ _ (exec (Stmt.If _ _ _ _) _) _ _ _)); walk_at "M step")
      walk_at "M if"
      · k_steps
        all_goals walk_at "M ifend"
      walk_at "M ifgo"
      repeat ((fail_if_success (with_reducible show wpAny _ _ (exec (Stmt.If _ _ _ _) _) _ _ _)); walk_at "M step")
      walk_at "M if"
      · k_steps
        all_goals walk_at "M ifend"
      walk_at "M ifgo"
      repeat ((fail_if_success (with_reducible show wpAny _ _ (exec (Stmt.If _ _ _ _) _) _ _ _)); walk_at "M step")
      walk_at "M if"
      · k_steps
        all_goals walk_at "M ifend"
      walk_at "M ifgo"
      repeat ((fail_if_success (with_reducible show wpAny _ _ (exec (Stmt.If _ _ _ _) _) _ _ _)); walk_at "M step")
      walk_at "M if"
      · k_steps
        all_goals walk_at "M ifend"
      walk_at "M ifgo"
      repeat ((fail_if_success (with_reducible show wpAny _ _ (exec (Stmt.If _ _ _ _) _) _ _ _)); walk_at "M step")
      walk_at "M if"
      · k_steps
        all_goals walk_at "M ifend"
      walk_at "M ifgo"
      repeat ((fail_if_success (with_reducible show wpAny _ _ (exec (Stmt.If _ _ _ _) _) _ _ _)); walk_at "M step")
      walk_at "M if"
      · k_steps
        all_goals walk_at "M ifend"
      walk_at "M ifgo"
      k_steps
      subst hM
      rename Fr _ _ _ _ => kF
      refine law_turn hi kF ?_ rfl rfl ?_
      · walk_at "M newsk"
      · exact fun z h1 h2 h3 h4 h5 h6 => by simp only [if_neg h1, if_neg h2, if_neg h3, if_neg h4, if_neg h5, if_neg h6]
    · intro g m₁ news₁ h tk' hgd j F N
      subst hgd
      obtain ⟨hm₁, ⟨t1, e1⟩, ⟨t2, e2⟩, rfl⟩ := j
      rw [show atG y 12 = gday (y + 1) 1 1 from rfl] at e1
      rw [show atJ y 12 = jfirst (y + 1) from rfl] at e2
      rw [fr6' e1 e2 hm₁] at F
      clear hRz hNz hFz
      have hj1 := jday_first (y + 1)
      have hyl := year_len y
      have hwi := wideI_le y
      have hgb := gday_bound5 (y := y) (m := 1) (d := 1) (by omega) (by omega) (by decide) (by decide) (by decide) (by decide)
      have hgb2 := gday_bound5 (y := y + 1) (m := 1) (d := 1) (by omega) (by omega) (by decide) (by decide) (by decide) (by decide)
      have hjb2 := jday_bound5 (y := y + 1) (m := 1) (d := 1) (by omega) (by omega) (by decide) (by decide) (by decide) (by decide)
      (try dsimp only)
      repeat ((fail_if_success (with_reducible show wpAny _ _ (exec (Stmt.If _ _ _ _) _) _ _ _)); walk_at "M step")
      walk_at "M if"
      · k_steps
        all_goals walk_at "M ifend"
      walk_at "M ifgo"
      repeat ((fail_if_success (with_reducible show wpAny _ _ (exec (Stmt.If _ _ _ _) _) _ _ _)); walk_at "M step")
      walk_at "M if"
      · k_steps
        all_goals walk_at "M ifend"
      walk_at "M ifgo"
      repeat ((fail_if_success (with_reducible show wpAny _ _ (eval (Expr.UnaryOp _ _ _) _) _ _ _)); walk_at "M step")
      rename Fr _ _ _ _ => kF
      rename News _ _ _ _ => kN
      refine join_at (fun v => v = Value.bool (!decide (1 ≤ d ∧ d ≤ glen y pk))) kF kN ?_ ?_
      · k_steps
        all_goals walk_at "M asgend"
      walk_at "M asggo"
      repeat ((fail_if_success (with_reducible show wpAny _ _ (eval (Expr.UnaryOp _ _ _) _) _ _ _)); walk_at "M step")
      rename Fr _ _ _ _ => kF
      rename News _ _ _ _ => kN
      refine join_at (fun v => v = Value.bool (!decide (1 ≤ d ∧ d ≤ jlen y pk))) kF kN ?_ ?_
      · k_steps
        all_goals walk_at "M asgend"
      walk_at "M asggo"
      repeat ((fail_if_success (with_reducible show wpAny _ _ (eval (Expr.UnaryOp _ _ _) _) _ _ _)); walk_at "M step")
      rename Fr _ _ _ _ => kF
      rename News _ _ _ _ => kN
      refine join_at (fun v => v = Value.bool (!decide (1 ≤ y ∧ y ≤ 9999))) kF kN ?_ ?_
      · k_steps
        all_goals walk_at "M asgend"
      walk_at "M asggo"
      repeat ((fail_if_success (with_reducible show wpAny _ _ (exec (Stmt.If _ _ _ _) _) _ _ _)); walk_at "M step")
      have hgx := Dv.half (by with_reducible assumption)
      walk_at "M if"
      · k_steps
        all_goals walk_at "M ifend"
      walk_at "M ifgo"
      repeat ((fail_if_success (with_reducible show wpAny _ _ (storeName _ _ _) _ _ _)); walk_at "M step")
      refine hide_int (-20) 32 ?_ (mo_b _)
      intro mo hmo1 hmo2
      repeat ((fail_if_success (with_reducible show wpAny _ _ (eval (Expr.UnaryOp _ _ _) _) _ _ _)); walk_at "M step")
      rename Fr _ _ _ _ => kF
      rename News _ _ _ _ => kN
      refine join_at (fun v => v = Value.bool (!decide (1 ≤ mo ∧ mo ≤ 12))) kF kN ?_ ?_
      · k_steps
        all_goals walk_at "M asgend"
      walk_at "M asggo"
      repeat ((fail_if_success (with_reducible show wpAny _ _ (exec (Stmt.If _ _ _ _) _) _ _ _)); walk_at "M step")
      walk_at "M if"
      · k_steps
        all_goals walk_at "M ifend"
      walk_at "M ifgo"
      have hg7 := gday_bound7 (y := y) (by omega) (by omega)
      repeat ((fail_if_success (with_reducible show wpAny _ _ (storeName _ _ _) _ _ _)); walk_at "M step")
      refine hide_int (-190200000) 190200000 ?_ (by omega)
      intro n hn1 hn2
      have hnb : -200000000 ≤ n ∧ n ≤ 200000000 := by omega
      repeat ((fail_if_success (with_reducible show wpAny _ _ (exec (Stmt.If _ _ _ _) _) _ _ _)); walk_at "M step")
      walk_at "M if"
      · k_steps
        all_goals (first | walk_at "M ifend" | exact absurd (side_part (by with_reducible assumption)) (by with_reducible assumption))
      walk_at "M ifgo"
      repeat ((fail_if_success (with_reducible show wpAny _ _ (compareOp _ _ _) _ _ _)); walk_at "M step")
      iterate 1 (walk_at "M step")
      rename InYearJ _ _ => hij
      rw [side_partJ (y := y) hij, beq_self_eq_true]
      k_steps)
end

end
end
end Mine
theorem PySem.Challenge.cw_ad5031_01_holds : PySem.Challenge.rw_ad5031_01.Holds := by
  exact Mine.lawA
